import JvmDerived
import JvmDerived.Pilot.@@N@@Statement
import JvmDerived.Pilot.@@N@@Code
set_option linter.unusedVariables false
set_option linter.unusedSimpArgs false
namespace Jvm.RoadKit
open Sem ClassFile Op Lib Jvm.Stand Jvm.Free Jvm.LawKit
section New
variable {p : Program} {l : Launch} {e : Env} {R : Room} {s : State} {m : MethodId} {args : Array Value} {below : List Frame} {meth : Method} {c : Code} {T : State} {locs : List Loc} {cells slots : Nat}
theorem retI (X : Stand p l e R s m args below meth c T locs cells slots) (hx : p.tables.exec = Jvm.exec) {pc : Nat} {Ls : Array Slot} {z : Int32} {rest : List Value} (hret : meth.sig.returnType = some .int) (hd : decode c.code pc = .ok (.ireturn, 1)) {fs : List Frame}
    (hl : ∀ (f : JFrame) (acts : List Action), f.method = m → f.locked = none → f.entered = [] → (doReturn e (T.setTop f) acts (some (.int z))).1 = T.setFrames fs) : Steps p.tables e below (T.setTop (mkF m pc Ls (.int z :: rest))) (T.setFrames fs) := by
  have hm' : T.vm.method? m = some meth := X.method'
  have hn : narrow .int (.int z) = .int z := rfl
  show Steps p.tables e below (T.setTop { method := m, pc := pc, locals := Ls, stack := _ :: rest, locked := none }) _
  jvm_step X.here [X.here.top, hx, hd, hm', hret, hn]
  first | (intro acts; rw [hl _ acts rfl rfl rfl]) | rw [hl _ _ rfl rfl rfl]
  exact Steps.refl _
end New
end Jvm.RoadKit
namespace Jvm.Pilot.@@N@@
open Jvm Jvm.ClassFile Sem Op Lib Jvm.Free Jvm.Stand Jvm.LawKit Jvm.RoadKit Bundle Jvm.Pilot.@@N@@.Jvm.D
/-! OWN KIT: a walk's goal that can be forked and joined -/
section OwnKit
variable {p : Program} {l : Launch} {e : Env} {R : Room} {s : State} {m : MethodId} {args : Array Value} {below : List Frame} {meth : Method} {c : Code} {T : State} {locs : List Loc} {cells slots : Nat}
/-- from the state st the run comes to its end, having returned v over the heap and the places of which F speaks -/
def own_End (p : Program) (e : Env) (below : List Frame) (s st : State) (F : Option Value → Heap → List Loc → Prop) (k n : Nat) : Prop :=
  ∃ s₂ o, Steps p.tables e below st s₂ ∧ s₂.status = .running ∧ Ended s₂ below o ∧ ∃ v L, o = .returned v ∧ F v s₂.heap L ∧ FrameEnd s o s₂ L k n
theorem own_go {st st' : State} {F : Option Value → Heap → List Loc → Prop} {k n : Nat} (h : ∀ t, Steps p.tables e below st' t → Steps p.tables e below st t) (q : own_End p e below s st' F k n) : own_End p e below s st F k n := by
  obtain ⟨s₂, o, h1, h2⟩ := q
  exact ⟨s₂, o, h _ h1, h2⟩
theorem own_ret (X : Stand p l e R s m args below meth c T locs cells slots) {v : Option Value} {g : JFrame} {F : Option Value → Heap → List Loc → Prop} {k n : Nat} (hv : meth.sig.returnType = none → v = none) (hlocks : meth.locks = false)
    (hst : ∀ fs, (∀ (f : JFrame) (acts : List Action), f.method = m → f.locked = none → f.entered = [] → (doReturn e (T.setTop f) acts v).1 = T.setFrames fs) → Steps p.tables e below (T.setTop g) (T.setFrames fs))
    (hF : F v T.heap locs) (hc : cells ≤ k) (hs : slots ≤ n) : own_End p e below s (T.setTop g) F k n := by
  obtain ⟨fs, hr, hrun, hended, hW, hsame⟩ := X.leave (v := v) hv hlocks
  exact ⟨_, _, hst fs hr, hrun, hended, _, _, rfl, hF, ⟨_, rfl⟩, hW, hsame.mono hc hs⟩
theorem own_retJ (X : Stand p l e R s m args below meth c T locs cells slots) (hx : p.tables.exec = Jvm.exec) {pc : Nat} {Ls : Array Slot} {z : Int64} {rest : List Value} (hret : meth.sig.returnType = some .long) (hd : decode c.code pc = .ok (.lreturn, 1)) {fs : List Frame}
    (hl : ∀ (f : JFrame) (acts : List Action), f.method = m → f.locked = none → f.entered = [] → (doReturn e (T.setTop f) acts (some (.long z))).1 = T.setFrames fs) : Steps p.tables e below (T.setTop (mkF m pc Ls (.long z :: rest))) (T.setFrames fs) := by
  have hm' : T.vm.method? m = some meth := X.method'
  have hn : narrow .long (.long z) = .long z := rfl
  show Steps p.tables e below (T.setTop { method := m, pc := pc, locals := Ls, stack := _ :: rest, locked := none }) _
  jvm_step X.here [X.here.top, hx, hd, hm', hret, hn]
  first | (intro acts; rw [hl _ acts rfl rfl rfl]) | rw [hl _ _ rfl rfl rfl]
  exact Steps.refl _
theorem own_retD (X : Stand p l e R s m args below meth c T locs cells slots) (hx : p.tables.exec = Jvm.exec) {pc : Nat} {Ls : Array Slot} {z : UInt64} {rest : List Value} (hret : meth.sig.returnType = some .double) (hd : decode c.code pc = .ok (.dreturn, 1)) {fs : List Frame}
    (hl : ∀ (f : JFrame) (acts : List Action), f.method = m → f.locked = none → f.entered = [] → (doReturn e (T.setTop f) acts (some (.double z))).1 = T.setFrames fs) : Steps p.tables e below (T.setTop (mkF m pc Ls (.double z :: rest))) (T.setFrames fs) := by
  have hm' : T.vm.method? m = some meth := X.method'
  have hn : narrow .double (.double z) = .double z := rfl
  show Steps p.tables e below (T.setTop { method := m, pc := pc, locals := Ls, stack := _ :: rest, locked := none }) _
  jvm_step X.here [X.here.top, hx, hd, hm', hret, hn]
  first | (intro acts; rw [hl _ acts rfl rfl rfl]) | rw [hl _ _ rfl rfl rfl]
  exact Steps.refl _
theorem own_tlt {x y : Int32} {i j : Int} (hx : x.toInt = i) (hy : y.toInt = j) (h : i < j) : if_icmp.holds .lt x y = true ∧ if_icmp.holds .ge x y = false ∧ if_icmp.holds .gt y x = true ∧ if_icmp.holds .le y x = false :=
  tlt (by rw [Int32.lt_iff_toInt_lt, hx, hy]; exact h)
theorem own_flt {x y : Int32} {i j : Int} (hx : x.toInt = i) (hy : y.toInt = j) (h : ¬ i < j) : if_icmp.holds .lt x y = false ∧ if_icmp.holds .ge x y = true ∧ if_icmp.holds .gt y x = false ∧ if_icmp.holds .le y x = true :=
  flt (by rw [Int32.lt_iff_toInt_lt, hx, hy]; exact h)
theorem own_eq {x y : Int32} {i j : Int} (hx : x.toInt = i) (hy : y.toInt = j) (h : i = j) : if_icmp.holds .eq x y = true ∧ if_icmp.holds .ne x y = false :=
  teq (Int32.toInt_inj.mp (by rw [hx, hy]; exact h))
theorem own_ne {x y : Int32} {i j : Int} (hx : x.toInt = i) (hy : y.toInt = j) (h : ¬ i = j) : if_icmp.holds .eq x y = false ∧ if_icmp.holds .ne x y = true :=
  feq (fun q => h (by rw [← hx, ← hy, q]))
theorem own_Llt {x y : Int64} {i j : Int} (hx : x.toInt = i) (hy : y.toInt = j) (h : i < j) : if_icmp.holds .lt (lcmpW x y) 0 = true ∧ if_icmp.holds .ge (lcmpW x y) 0 = false ∧ if_icmp.holds .gt 0 (lcmpW x y) = true ∧ if_icmp.holds .le 0 (lcmpW x y) = false :=
  tlt ((lw_lt x y).mpr (by rw [Int64.lt_iff_toInt_lt, hx, hy]; exact h))
theorem own_Llf {x y : Int64} {i j : Int} (hx : x.toInt = i) (hy : y.toInt = j) (h : ¬ i < j) : if_icmp.holds .lt (lcmpW x y) 0 = false ∧ if_icmp.holds .ge (lcmpW x y) 0 = true ∧ if_icmp.holds .gt 0 (lcmpW x y) = false ∧ if_icmp.holds .le 0 (lcmpW x y) = true :=
  flt (fun q => h (by have := (lw_lt x y).mp q; rw [Int64.lt_iff_toInt_lt, hx, hy] at this; exact this))
theorem own_Lgt {x y : Int64} {i j : Int} (hy : y.toInt = j) (hx : x.toInt = i) (h : j < i) : if_icmp.holds .lt 0 (lcmpW x y) = true ∧ if_icmp.holds .ge 0 (lcmpW x y) = false ∧ if_icmp.holds .gt (lcmpW x y) 0 = true ∧ if_icmp.holds .le (lcmpW x y) 0 = false :=
  tlt ((lw_gt x y).mpr (by rw [Int64.lt_iff_toInt_lt, hx, hy]; exact h))
theorem own_Lgf {x y : Int64} {i j : Int} (hy : y.toInt = j) (hx : x.toInt = i) (h : ¬ j < i) : if_icmp.holds .lt 0 (lcmpW x y) = false ∧ if_icmp.holds .ge 0 (lcmpW x y) = true ∧ if_icmp.holds .gt (lcmpW x y) 0 = false ∧ if_icmp.holds .le (lcmpW x y) 0 = true :=
  flt (fun q => h (by have := (lw_gt x y).mp q; rw [Int64.lt_iff_toInt_lt, hx, hy] at this; exact this))
theorem own_Let {x y : Int64} {i j : Int} (hx : x.toInt = i) (hy : y.toInt = j) (h : i = j) : if_icmp.holds .eq (lcmpW x y) 0 = true ∧ if_icmp.holds .ne (lcmpW x y) 0 = false :=
  teq ((lw_eq x y).mpr (Int64.toInt_inj.mp (by rw [hx, hy]; exact h)))
theorem own_Lef {x y : Int64} {i j : Int} (hx : x.toInt = i) (hy : y.toInt = j) (h : ¬ i = j) : if_icmp.holds .eq (lcmpW x y) 0 = false ∧ if_icmp.holds .ne (lcmpW x y) 0 = true :=
  feq (fun q => h (by rw [← hx, ← hy, (lw_eq x y).mp q]))
/-- (turned from the worked claim gauge-weight) the model's own selection picks a private method itself -/
theorem own_selP {y : MethodName} {s : State} {args : Array Value} {n : Nat} (hy : y.cls ≠ "java/lang/invoke/MethodHandle" ∧ y.cls ≠ "java/lang/invoke/VarHandle") (hins : (Cond.instantiable y.cls n).before args s = true) (hpriv : (Cond.privateMethod y).before args s = true) (hinst : (Cond.instanceMethod y).before args s = true) :
    (Cond.selects y.cls y y).before args s = true := by
  obtain ⟨c, k, hc, hk, -, hniab, -, -⟩ := Cond.instantiable_spec hins
  have hni : k.isInterface = false := (Bool.or_eq_false_iff.mp hniab).1
  obtain ⟨mk, methM, hnamed, hmethM, -, -⟩ := Cond.instanceMethod_spec hinst
  have hfound : s.methodFound? y.cls y.name y.desc = some mk := State.methodFound?_of_named hnamed hy
  have hcls : mk.cls = c := Option.some.inj ((findClass_of_methodNamed hnamed).symm.trans hc)
  have hsel : selectMethod {} s.vm c mk = .method mk := selectMethod_private hmethM (Cond.privateMethod_at hpriv mk methM hnamed hmethM)
  simp only [Cond.before, Cond.holds, Cond.value, hc, hfound, hnamed, hsel, hcls, hk]
  simp; exact hni
end OwnKit
def own_NS (x : Int) : Prop := (65 ≤ x ∧ x ≤ 90) ∨ x = 95 ∨ (97 ≤ x ∧ x ≤ 122) ∨ (192 ≤ x ∧ x ≤ 214) ∨ (216 ≤ x ∧ x ≤ 246) ∨ (248 ≤ x ∧ x ≤ 767) ∨ (880 ≤ x ∧ x ≤ 893) ∨ (895 ≤ x ∧ x ≤ 8191) ∨ (8204 ≤ x ∧ x ≤ 8205) ∨ (8304 ≤ x ∧ x ≤ 8591) ∨ (11264 ≤ x ∧ x ≤ 12271) ∨ (12289 ≤ x ∧ x ≤ 55295) ∨ (63744 ≤ x ∧ x ≤ 64975) ∨ (65008 ≤ x ∧ x ≤ 65533) ∨ (65536 ≤ x ∧ x ≤ 983039)
def own_Ref (x : Int) : Prop := (65 ≤ x ∧ x ≤ 983039) ∧ ¬ (91 ≤ x ∧ x ≤ 94) ∧ ¬ x = 96 ∧ ¬ (123 ≤ x ∧ x ≤ 191) ∧ ¬ x = 215 ∧ ¬ x = 247 ∧ ¬ (768 ≤ x ∧ x ≤ 879) ∧ ¬ x = 894 ∧ ¬ (8192 ≤ x ∧ x ≤ 8203) ∧ ¬ (8206 ≤ x ∧ x ≤ 8303) ∧ ¬ (8592 ≤ x ∧ x ≤ 11263) ∧ ¬ (12272 ≤ x ∧ x ≤ 12288) ∧ ¬ (55296 ≤ x ∧ x ≤ 63743) ∧ ¬ (64976 ≤ x ∧ x ≤ 65007) ∧ ¬ (65534 ≤ x ∧ x ≤ 65535)
theorem own_agree {a b : Int} {A B : Prop} (h : A ↔ B) (h1 : a = 1 ∧ A ∨ a = 0 ∧ ¬ A) (h2 : b = 1 ∧ B ∨ b = 0 ∧ ¬ B) : a = b := by
  rcases h1 with ⟨h1, q1⟩ | ⟨h1, q1⟩ <;> rcases h2 with ⟨h2, q2⟩ | ⟨h2, q2⟩
  · omega
  · exact absurd (h.mp q1) q2
  · exact absurd (h.mpr q2) q1
  · omega
theorem own_same1 {x : Int} (h : own_NS x) : own_Ref x := by
  rcases h with h | h | h | h | h | h | h | h | h | h | h | h | h | h | h
  · exact And.intro (by omega) (And.intro (by omega) (And.intro (by omega) (And.intro (by omega) (And.intro (by omega) (And.intro (by omega) (And.intro (by omega) (And.intro (by omega) (And.intro (by omega) (And.intro (by omega) (And.intro (by omega) (And.intro (by omega) (And.intro (by omega) (And.intro (by omega) (by omega))))))))))))))
  · exact And.intro (by omega) (And.intro (by omega) (And.intro (by omega) (And.intro (by omega) (And.intro (by omega) (And.intro (by omega) (And.intro (by omega) (And.intro (by omega) (And.intro (by omega) (And.intro (by omega) (And.intro (by omega) (And.intro (by omega) (And.intro (by omega) (And.intro (by omega) (by omega))))))))))))))
  · exact And.intro (by omega) (And.intro (by omega) (And.intro (by omega) (And.intro (by omega) (And.intro (by omega) (And.intro (by omega) (And.intro (by omega) (And.intro (by omega) (And.intro (by omega) (And.intro (by omega) (And.intro (by omega) (And.intro (by omega) (And.intro (by omega) (And.intro (by omega) (by omega))))))))))))))
  · exact And.intro (by omega) (And.intro (by omega) (And.intro (by omega) (And.intro (by omega) (And.intro (by omega) (And.intro (by omega) (And.intro (by omega) (And.intro (by omega) (And.intro (by omega) (And.intro (by omega) (And.intro (by omega) (And.intro (by omega) (And.intro (by omega) (And.intro (by omega) (by omega))))))))))))))
  · exact And.intro (by omega) (And.intro (by omega) (And.intro (by omega) (And.intro (by omega) (And.intro (by omega) (And.intro (by omega) (And.intro (by omega) (And.intro (by omega) (And.intro (by omega) (And.intro (by omega) (And.intro (by omega) (And.intro (by omega) (And.intro (by omega) (And.intro (by omega) (by omega))))))))))))))
  · exact And.intro (by omega) (And.intro (by omega) (And.intro (by omega) (And.intro (by omega) (And.intro (by omega) (And.intro (by omega) (And.intro (by omega) (And.intro (by omega) (And.intro (by omega) (And.intro (by omega) (And.intro (by omega) (And.intro (by omega) (And.intro (by omega) (And.intro (by omega) (by omega))))))))))))))
  · exact And.intro (by omega) (And.intro (by omega) (And.intro (by omega) (And.intro (by omega) (And.intro (by omega) (And.intro (by omega) (And.intro (by omega) (And.intro (by omega) (And.intro (by omega) (And.intro (by omega) (And.intro (by omega) (And.intro (by omega) (And.intro (by omega) (And.intro (by omega) (by omega))))))))))))))
  · exact And.intro (by omega) (And.intro (by omega) (And.intro (by omega) (And.intro (by omega) (And.intro (by omega) (And.intro (by omega) (And.intro (by omega) (And.intro (by omega) (And.intro (by omega) (And.intro (by omega) (And.intro (by omega) (And.intro (by omega) (And.intro (by omega) (And.intro (by omega) (by omega))))))))))))))
  · exact And.intro (by omega) (And.intro (by omega) (And.intro (by omega) (And.intro (by omega) (And.intro (by omega) (And.intro (by omega) (And.intro (by omega) (And.intro (by omega) (And.intro (by omega) (And.intro (by omega) (And.intro (by omega) (And.intro (by omega) (And.intro (by omega) (And.intro (by omega) (by omega))))))))))))))
  · exact And.intro (by omega) (And.intro (by omega) (And.intro (by omega) (And.intro (by omega) (And.intro (by omega) (And.intro (by omega) (And.intro (by omega) (And.intro (by omega) (And.intro (by omega) (And.intro (by omega) (And.intro (by omega) (And.intro (by omega) (And.intro (by omega) (And.intro (by omega) (by omega))))))))))))))
  · exact And.intro (by omega) (And.intro (by omega) (And.intro (by omega) (And.intro (by omega) (And.intro (by omega) (And.intro (by omega) (And.intro (by omega) (And.intro (by omega) (And.intro (by omega) (And.intro (by omega) (And.intro (by omega) (And.intro (by omega) (And.intro (by omega) (And.intro (by omega) (by omega))))))))))))))
  · exact And.intro (by omega) (And.intro (by omega) (And.intro (by omega) (And.intro (by omega) (And.intro (by omega) (And.intro (by omega) (And.intro (by omega) (And.intro (by omega) (And.intro (by omega) (And.intro (by omega) (And.intro (by omega) (And.intro (by omega) (And.intro (by omega) (And.intro (by omega) (by omega))))))))))))))
  · exact And.intro (by omega) (And.intro (by omega) (And.intro (by omega) (And.intro (by omega) (And.intro (by omega) (And.intro (by omega) (And.intro (by omega) (And.intro (by omega) (And.intro (by omega) (And.intro (by omega) (And.intro (by omega) (And.intro (by omega) (And.intro (by omega) (And.intro (by omega) (by omega))))))))))))))
  · exact And.intro (by omega) (And.intro (by omega) (And.intro (by omega) (And.intro (by omega) (And.intro (by omega) (And.intro (by omega) (And.intro (by omega) (And.intro (by omega) (And.intro (by omega) (And.intro (by omega) (And.intro (by omega) (And.intro (by omega) (And.intro (by omega) (And.intro (by omega) (by omega))))))))))))))
  · exact And.intro (by omega) (And.intro (by omega) (And.intro (by omega) (And.intro (by omega) (And.intro (by omega) (And.intro (by omega) (And.intro (by omega) (And.intro (by omega) (And.intro (by omega) (And.intro (by omega) (And.intro (by omega) (And.intro (by omega) (And.intro (by omega) (And.intro (by omega) (by omega))))))))))))))
theorem own_up {x a b : Int} (h : ¬ (a ≤ x ∧ x ≤ b)) (q : a ≤ x) : b + 1 ≤ x := by omega
theorem own_up1 {x a : Int} (h : ¬ x = a) (q : a ≤ x) : a + 1 ≤ x := by omega
theorem own_same2 {x : Int} (h : own_Ref x) : own_NS x := by
  obtain ⟨⟨l0, u0⟩, g0, g1, g2, g3, g4, g5, g6, g7, g8, g9, g10, g11, g12, g13⟩ := h
  by_cases t0 : x ≤ 90
  · exact Or.inl (And.intro l0 t0)
  have l100 : 91 ≤ x := Int.lt_iff_add_one_le.mp (Int.not_le.mp t0)
  have m0 : 95 ≤ x := own_up g0 l100
  by_cases t1 : x ≤ 95
  · exact Or.inr (Or.inl (Int.le_antisymm t1 m0))
  have l101 : 96 ≤ x := Int.lt_iff_add_one_le.mp (Int.not_le.mp t1)
  have m1 : 97 ≤ x := own_up1 g1 l101
  by_cases t2 : x ≤ 122
  · exact Or.inr (Or.inr (Or.inl (And.intro m1 t2)))
  have l102 : 123 ≤ x := Int.lt_iff_add_one_le.mp (Int.not_le.mp t2)
  have m2 : 192 ≤ x := own_up g2 l102
  by_cases t3 : x ≤ 214
  · exact Or.inr (Or.inr (Or.inr (Or.inl (And.intro m2 t3))))
  have l103 : 215 ≤ x := Int.lt_iff_add_one_le.mp (Int.not_le.mp t3)
  have m3 : 216 ≤ x := own_up1 g3 l103
  by_cases t4 : x ≤ 246
  · exact Or.inr (Or.inr (Or.inr (Or.inr (Or.inl (And.intro m3 t4)))))
  have l104 : 247 ≤ x := Int.lt_iff_add_one_le.mp (Int.not_le.mp t4)
  have m4 : 248 ≤ x := own_up1 g4 l104
  by_cases t5 : x ≤ 767
  · exact Or.inr (Or.inr (Or.inr (Or.inr (Or.inr (Or.inl (And.intro m4 t5))))))
  have l105 : 768 ≤ x := Int.lt_iff_add_one_le.mp (Int.not_le.mp t5)
  have m5 : 880 ≤ x := own_up g5 l105
  by_cases t6 : x ≤ 893
  · exact Or.inr (Or.inr (Or.inr (Or.inr (Or.inr (Or.inr (Or.inl (And.intro m5 t6)))))))
  have l106 : 894 ≤ x := Int.lt_iff_add_one_le.mp (Int.not_le.mp t6)
  have m6 : 895 ≤ x := own_up1 g6 l106
  by_cases t7 : x ≤ 8191
  · exact Or.inr (Or.inr (Or.inr (Or.inr (Or.inr (Or.inr (Or.inr (Or.inl (And.intro m6 t7))))))))
  have l107 : 8192 ≤ x := Int.lt_iff_add_one_le.mp (Int.not_le.mp t7)
  have m7 : 8204 ≤ x := own_up g7 l107
  by_cases t8 : x ≤ 8205
  · exact Or.inr (Or.inr (Or.inr (Or.inr (Or.inr (Or.inr (Or.inr (Or.inr (Or.inl (And.intro m7 t8)))))))))
  have l108 : 8206 ≤ x := Int.lt_iff_add_one_le.mp (Int.not_le.mp t8)
  have m8 : 8304 ≤ x := own_up g8 l108
  by_cases t9 : x ≤ 8591
  · exact Or.inr (Or.inr (Or.inr (Or.inr (Or.inr (Or.inr (Or.inr (Or.inr (Or.inr (Or.inl (And.intro m8 t9))))))))))
  have l109 : 8592 ≤ x := Int.lt_iff_add_one_le.mp (Int.not_le.mp t9)
  have m9 : 11264 ≤ x := own_up g9 l109
  by_cases t10 : x ≤ 12271
  · exact Or.inr (Or.inr (Or.inr (Or.inr (Or.inr (Or.inr (Or.inr (Or.inr (Or.inr (Or.inr (Or.inl (And.intro m9 t10)))))))))))
  have l110 : 12272 ≤ x := Int.lt_iff_add_one_le.mp (Int.not_le.mp t10)
  have m10 : 12289 ≤ x := own_up g10 l110
  by_cases t11 : x ≤ 55295
  · exact Or.inr (Or.inr (Or.inr (Or.inr (Or.inr (Or.inr (Or.inr (Or.inr (Or.inr (Or.inr (Or.inr (Or.inl (And.intro m10 t11))))))))))))
  have l111 : 55296 ≤ x := Int.lt_iff_add_one_le.mp (Int.not_le.mp t11)
  have m11 : 63744 ≤ x := own_up g11 l111
  by_cases t12 : x ≤ 64975
  · exact Or.inr (Or.inr (Or.inr (Or.inr (Or.inr (Or.inr (Or.inr (Or.inr (Or.inr (Or.inr (Or.inr (Or.inr (Or.inl (And.intro m11 t12)))))))))))))
  have l112 : 64976 ≤ x := Int.lt_iff_add_one_le.mp (Int.not_le.mp t12)
  have m12 : 65008 ≤ x := own_up g12 l112
  by_cases t13 : x ≤ 65533
  · exact Or.inr (Or.inr (Or.inr (Or.inr (Or.inr (Or.inr (Or.inr (Or.inr (Or.inr (Or.inr (Or.inr (Or.inr (Or.inr (Or.inl (And.intro m12 t13))))))))))))))
  have l113 : 65534 ≤ x := Int.lt_iff_add_one_le.mp (Int.not_le.mp t13)
  have m13 : 65536 ≤ x := own_up g13 l113
  exact Or.inr (Or.inr (Or.inr (Or.inr (Or.inr (Or.inr (Or.inr (Or.inr (Or.inr (Or.inr (Or.inr (Or.inr (Or.inr (Or.inr (And.intro m13 u0))))))))))))))
theorem own_pn0 : plainName "com/example/lehti/lehti/model/XmlNamesIsNameStartPinLaw" = true := by first | (simp [plainName, overriddenIn]; done) | decide +kernel
theorem own_ef3_rm1 (m : MethodId) (p0 : Int32) (p1 : Int32) (p2 : Int32) : entryFrame m #[(.int p0), (.int p1), (.int p2)] 3 = mkF m 0 #[.val (.int p0), .val (.int p1), .val (.int p2)] [] := by first | (simp [entryFrame, mkF, argsToLocals, Value.category]; done) | rfl
def Q_rm1 (Z : State) (p0 : Int32) (p1 : Int32) (p2 : Int32) (lo : Int) (hi : Int) (h0 : Heap) (n0 : Nat) (v : Option Value) (h : Heap) (L : List Loc) : Prop := (∃ z, v = some (.int z) ∧ (z.toInt = 1 ∧ (lo ≤ p0.toInt ∧ p0.toInt ≤ hi) ∨ z.toInt = 0 ∧ ¬ (lo ≤ p0.toInt ∧ p0.toInt ≤ hi))) ∧ Fr n0 L ∧ h = h0
theorem d3_0 : decode method_2_code 0 = .ok (.iload_n 0, 1) := by decide +kernel
theorem d3_1 : decode method_2_code 1 = .ok (.iload_n 1, 1) := by decide +kernel
theorem d3_2 : decode method_2_code 2 = .ok (.if_icmp .lt 12, 3) := by decide +kernel
theorem d3_14 : decode method_2_code 14 = .ok (.iconst 0, 1) := by decide +kernel
theorem d3_15 : decode method_2_code 15 = .ok (.ireturn, 1) := by decide +kernel
theorem d3_5 : decode method_2_code 5 = .ok (.iload_n 0, 1) := by decide +kernel
theorem d3_6 : decode method_2_code 6 = .ok (.iload_n 2, 1) := by decide +kernel
theorem d3_7 : decode method_2_code 7 = .ok (.if_icmp .gt 7, 3) := by decide +kernel
theorem d3_10 : decode method_2_code 10 = .ok (.iconst 1, 1) := by decide +kernel
theorem d3_11 : decode method_2_code 11 = .ok (.goto 4, 3) := by decide +kernel
set_option maxRecDepth 65536 in
set_option maxHeartbeats 40000000 in
theorem rm1 (l : Launch) (Z : State) (a0 : Array Value) (hw : ∀ d ∈ tables_1, d.before a0 Z = true) (ws : List Jvm.Cond) (p0 : Int32) (p1 : Int32) (p2 : Int32) (lo : Int) (hi : Int) (h0 : Heap) (n0 : Nat) (Z0 : n0 ≤ h0.size) (hlo : p1.toInt = lo) (hhi : p2.toInt = hi) :
    MetFree l (⟨"com/example/lehti/lehti/model/XmlNamesIsNameStartPinLaw", "in", "(III)Z"⟩ : MethodName) (head1 (Jvm.Cond.code (⟨"com/example/lehti/lehti/model/XmlNamesIsNameStartPinLaw", "in", "(III)Z"⟩ : MethodName) method_2_code 3 (some .boolean) :: ws) ({ frames := 0, cells := 0, slots := 0, locals := 0 } : Room)) (fun a U => a = #[(.int p0), (.int p1), (.int p2)] ∧ Z.Warmed39 U.vm ∧ U.heap = h0) (fun _ _ _ _ _ => True) (fun _ U o U' => ∃ v L, o = .returned v ∧ Q_rm1 Z p0 p1 p2 lo hi h0 n0 v U'.heap L ∧ FrameEnd U o U' L ({ frames := 0, cells := 0, slots := 0, locals := 0 } : Room).cells ({ frames := 0, cells := 0, slots := 0, locals := 0 } : Room).slots) := by
  refine MetFree.of_bodySF (plainFor_of_name own_pn0) hisR ?_
  intro p e s m args below meth c s₁ Bd hml0 hP hK
  obtain ⟨rfl, hZ, hh⟩ := hP
  have hx := Bd.exec
  have hby := Bd.bytes
  have hml : c.maxLocals = 3 := hml0
  have hown : s.vm.findClass "com/example/lehti/lehti/model/XmlNamesIsNameStartPinLaw" = some m.cls := findClass_of_methodNamed Bd.named
  have hnm := (name_of_methodNamed Bd.named Bd.method).1
  have X0 : Stand p l e ({ frames := 0, cells := 0, slots := 0, locals := 0 } : Room) s m #[(.int p0), (.int p1), (.int p2)] below meth c s₁ [] 0 0 := Stand.of_body Bd
  have e0 : s₁.heap = h0 := by rw [← hh, Bd.state]; rfl
  have N0 := Fr.nil n0
  refine (show own_End p e below s (s₁.setTop (entryFrame m #[(.int p0), (.int p1), (.int p2)] 3)) (Q_rm1 Z p0 p1 p2 lo hi h0 n0) ({ frames := 0, cells := 0, slots := 0, locals := 0 } : Room).cells ({ frames := 0, cells := 0, slots := 0, locals := 0 } : Room).slots from ?_)
  refine own_go (fun t k => castTop (own_ef3_rm1 m p0 p1 p2) k) ?_
  have li0 : (0 : Int32).toInt = 0 := rfl
  have li1 : (1 : Int32).toInt = 1 := rfl
  show own_End p e below s (s₁.setTop (mkF m 0 #[.val (.int p0), .val (.int p1), .val (.int p2)] [])) _ _ _
  refine own_go (fun t k => XS.iloadN X0.here hx rfl (hb hby d3_0) rfl k) ?_
  show own_End p e below s (s₁.setTop (mkF m 1 #[.val (.int p0), .val (.int p1), .val (.int p2)] [(.int p0)])) _ _ _
  refine own_go (fun t k => XS.iloadN X0.here hx rfl (hb hby d3_1) rfl k) ?_
  show own_End p e below s (s₁.setTop (mkF m 2 #[.val (.int p0), .val (.int p1), .val (.int p2)] [(.int p1), (.int p0)])) _ _ _
  by_cases c2_1 : p0.toInt < p1.toInt
  · skip
    refine own_go (fun t k => XS.icmpYes X0.here hx rfl (pc0 := 2) (pc' := 14) rfl (hb hby d3_2) rfl (own_tlt (x := p0) (y := p1) (i := p0.toInt) (j := p1.toInt) rfl rfl c2_1).1 (by decide) (by decide) k) ?_
    show own_End p e below s (s₁.setTop (mkF m 14 #[.val (.int p0), .val (.int p1), .val (.int p2)] [])) _ _ _
    refine own_go (fun t k => XS.iconst X0.here hx rfl (hb hby d3_14) k) ?_
    show own_End p e below s (s₁.setTop (mkF m 15 #[.val (.int p0), .val (.int p1), .val (.int p2)] [(.int (0 : Int32))])) _ _ _
    refine own_ret X0 (v := some (.int (0 : Int32))) (fun h => by rw [Bd.returns] at h; cases h) Bd.notSynchronized (fun fs hr => retN X0 hx (t := .boolean) Bd.returns (by simp) (hb hby d3_15) hr) ?_ (by decide) (by decide)
    · rw [e0]; exact ⟨⟨_, rfl, by omega⟩, N0, rfl⟩
  · skip
    refine own_go (fun t k => XS.icmpNo X0.here hx rfl (hb hby d3_2) rfl (own_flt (x := p0) (y := p1) (i := p0.toInt) (j := p1.toInt) rfl rfl c2_1).1 k) ?_
    show own_End p e below s (s₁.setTop (mkF m 5 #[.val (.int p0), .val (.int p1), .val (.int p2)] [])) _ _ _
    refine own_go (fun t k => XS.iloadN X0.here hx rfl (hb hby d3_5) rfl k) ?_
    show own_End p e below s (s₁.setTop (mkF m 6 #[.val (.int p0), .val (.int p1), .val (.int p2)] [(.int p0)])) _ _ _
    refine own_go (fun t k => XS.iloadN X0.here hx rfl (hb hby d3_6) rfl k) ?_
    show own_End p e below s (s₁.setTop (mkF m 7 #[.val (.int p0), .val (.int p1), .val (.int p2)] [(.int p2), (.int p0)])) _ _ _
    by_cases c7_2 : p2.toInt < p0.toInt
    · skip
      refine own_go (fun t k => XS.icmpYes X0.here hx rfl (pc0 := 7) (pc' := 14) rfl (hb hby d3_7) rfl (own_tlt (x := p2) (y := p0) (i := p2.toInt) (j := p0.toInt) rfl rfl c7_2).2.2.1 (by decide) (by decide) k) ?_
      show own_End p e below s (s₁.setTop (mkF m 14 #[.val (.int p0), .val (.int p1), .val (.int p2)] [])) _ _ _
      refine own_go (fun t k => XS.iconst X0.here hx rfl (hb hby d3_14) k) ?_
      show own_End p e below s (s₁.setTop (mkF m 15 #[.val (.int p0), .val (.int p1), .val (.int p2)] [(.int (0 : Int32))])) _ _ _
      refine own_ret X0 (v := some (.int (0 : Int32))) (fun h => by rw [Bd.returns] at h; cases h) Bd.notSynchronized (fun fs hr => retN X0 hx (t := .boolean) Bd.returns (by simp) (hb hby d3_15) hr) ?_ (by decide) (by decide)
      · rw [e0]; exact ⟨⟨_, rfl, by omega⟩, N0, rfl⟩
    · skip
      refine own_go (fun t k => XS.icmpNo X0.here hx rfl (hb hby d3_7) rfl (own_flt (x := p2) (y := p0) (i := p2.toInt) (j := p0.toInt) rfl rfl c7_2).2.2.1 k) ?_
      show own_End p e below s (s₁.setTop (mkF m 10 #[.val (.int p0), .val (.int p1), .val (.int p2)] [])) _ _ _
      refine own_go (fun t k => XS.iconst X0.here hx rfl (hb hby d3_10) k) ?_
      show own_End p e below s (s₁.setTop (mkF m 11 #[.val (.int p0), .val (.int p1), .val (.int p2)] [(.int (1 : Int32))])) _ _ _
      refine own_go (fun t k => XS.goto X0.here hx rfl (pc0 := 11) (pc' := 15) rfl (hb hby d3_11) (by decide) (by decide) k) ?_
      show own_End p e below s (s₁.setTop (mkF m 15 #[.val (.int p0), .val (.int p1), .val (.int p2)] [(.int (1 : Int32))])) _ _ _
      refine own_ret X0 (v := some (.int (1 : Int32))) (fun h => by rw [Bd.returns] at h; cases h) Bd.notSynchronized (fun fs hr => retN X0 hx (t := .boolean) Bd.returns (by simp) (hb hby d3_15) hr) ?_ (by decide) (by decide)
      · rw [e0]; exact ⟨⟨_, rfl, by omega⟩, N0, rfl⟩
theorem own_pn1 : plainName "com/example/lehti/lehti/model/XmlNames" = true := by first | (simp [plainName, overriddenIn]; done) | decide +kernel
theorem own_ef1_rm2 (m : MethodId) (p0 : Int32) : entryFrame m #[(.int p0)] 1 = mkF m 0 #[.val (.int p0)] [] := by first | (simp [entryFrame, mkF, argsToLocals, Value.category]; done) | rfl
def Q_rm2 (Z : State) (p0 : Int32)  (h0 : Heap) (n0 : Nat) (v : Option Value) (h : Heap) (L : List Loc) : Prop := (∃ z, v = some (.int z) ∧ (z.toInt = 1 ∧ own_NS p0.toInt ∨ z.toInt = 0 ∧ ¬ own_NS p0.toInt)) ∧ Fr n0 L ∧ h = h0
theorem d1_179 : decode prog_142_method_5_code 179 = .ok (.iload_n 0, 1) := by decide +kernel
theorem d1_180 : decode prog_142_method_5_code 180 = .ok (.ldc 48, 2) := by decide +kernel
theorem d1_182 : decode prog_142_method_5_code 182 = .ok (.if_icmp .lt 13, 3) := by decide +kernel
theorem d1_195 : decode prog_142_method_5_code 195 = .ok (.iconst 0, 1) := by decide +kernel
theorem d1_196 : decode prog_142_method_5_code 196 = .ok (.ireturn, 1) := by decide +kernel
theorem d1_185 : decode prog_142_method_5_code 185 = .ok (.iload_n 0, 1) := by decide +kernel
theorem d1_186 : decode prog_142_method_5_code 186 = .ok (.ldc 49, 2) := by decide +kernel
theorem d1_188 : decode prog_142_method_5_code 188 = .ok (.if_icmp .gt 7, 3) := by decide +kernel
theorem d1_191 : decode prog_142_method_5_code 191 = .ok (.iconst 1, 1) := by decide +kernel
theorem d1_192 : decode prog_142_method_5_code 192 = .ok (.goto 4, 3) := by decide +kernel
theorem d1_167 : decode prog_142_method_5_code 167 = .ok (.iload_n 0, 1) := by decide +kernel
theorem d1_168 : decode prog_142_method_5_code 168 = .ok (.ldc 46, 2) := by decide +kernel
theorem d1_170 : decode prog_142_method_5_code 170 = .ok (.if_icmp .lt 9, 3) := by decide +kernel
theorem d1_173 : decode prog_142_method_5_code 173 = .ok (.iload_n 0, 1) := by decide +kernel
theorem d1_174 : decode prog_142_method_5_code 174 = .ok (.ldc 47, 2) := by decide +kernel
theorem d1_176 : decode prog_142_method_5_code 176 = .ok (.if_icmp .le 15, 3) := by decide +kernel
theorem d1_155 : decode prog_142_method_5_code 155 = .ok (.iload_n 0, 1) := by decide +kernel
theorem d1_156 : decode prog_142_method_5_code 156 = .ok (.ldc 44, 2) := by decide +kernel
theorem d1_158 : decode prog_142_method_5_code 158 = .ok (.if_icmp .lt 9, 3) := by decide +kernel
theorem d1_161 : decode prog_142_method_5_code 161 = .ok (.iload_n 0, 1) := by decide +kernel
theorem d1_162 : decode prog_142_method_5_code 162 = .ok (.ldc 45, 2) := by decide +kernel
theorem d1_164 : decode prog_142_method_5_code 164 = .ok (.if_icmp .le 27, 3) := by decide +kernel
theorem d1_142 : decode prog_142_method_5_code 142 = .ok (.iload_n 0, 1) := by decide +kernel
theorem d1_143 : decode prog_142_method_5_code 143 = .ok (.sipush 12289, 3) := by decide +kernel
theorem d1_146 : decode prog_142_method_5_code 146 = .ok (.if_icmp .lt 9, 3) := by decide +kernel
theorem d1_149 : decode prog_142_method_5_code 149 = .ok (.iload_n 0, 1) := by decide +kernel
theorem d1_150 : decode prog_142_method_5_code 150 = .ok (.ldc 43, 2) := by decide +kernel
theorem d1_152 : decode prog_142_method_5_code 152 = .ok (.if_icmp .le 39, 3) := by decide +kernel
theorem d1_128 : decode prog_142_method_5_code 128 = .ok (.iload_n 0, 1) := by decide +kernel
theorem d1_129 : decode prog_142_method_5_code 129 = .ok (.sipush 11264, 3) := by decide +kernel
theorem d1_132 : decode prog_142_method_5_code 132 = .ok (.if_icmp .lt 10, 3) := by decide +kernel
theorem d1_135 : decode prog_142_method_5_code 135 = .ok (.iload_n 0, 1) := by decide +kernel
theorem d1_136 : decode prog_142_method_5_code 136 = .ok (.sipush 12271, 3) := by decide +kernel
theorem d1_139 : decode prog_142_method_5_code 139 = .ok (.if_icmp .le 52, 3) := by decide +kernel
theorem d1_114 : decode prog_142_method_5_code 114 = .ok (.iload_n 0, 1) := by decide +kernel
theorem d1_115 : decode prog_142_method_5_code 115 = .ok (.sipush 8304, 3) := by decide +kernel
theorem d1_118 : decode prog_142_method_5_code 118 = .ok (.if_icmp .lt 10, 3) := by decide +kernel
theorem d1_121 : decode prog_142_method_5_code 121 = .ok (.iload_n 0, 1) := by decide +kernel
theorem d1_122 : decode prog_142_method_5_code 122 = .ok (.sipush 8591, 3) := by decide +kernel
theorem d1_125 : decode prog_142_method_5_code 125 = .ok (.if_icmp .le 66, 3) := by decide +kernel
theorem d1_100 : decode prog_142_method_5_code 100 = .ok (.iload_n 0, 1) := by decide +kernel
theorem d1_101 : decode prog_142_method_5_code 101 = .ok (.sipush 8204, 3) := by decide +kernel
theorem d1_104 : decode prog_142_method_5_code 104 = .ok (.if_icmp .lt 10, 3) := by decide +kernel
theorem d1_107 : decode prog_142_method_5_code 107 = .ok (.iload_n 0, 1) := by decide +kernel
theorem d1_108 : decode prog_142_method_5_code 108 = .ok (.sipush 8205, 3) := by decide +kernel
theorem d1_111 : decode prog_142_method_5_code 111 = .ok (.if_icmp .le 80, 3) := by decide +kernel
theorem d1_86 : decode prog_142_method_5_code 86 = .ok (.iload_n 0, 1) := by decide +kernel
theorem d1_87 : decode prog_142_method_5_code 87 = .ok (.sipush 895, 3) := by decide +kernel
theorem d1_90 : decode prog_142_method_5_code 90 = .ok (.if_icmp .lt 10, 3) := by decide +kernel
theorem d1_93 : decode prog_142_method_5_code 93 = .ok (.iload_n 0, 1) := by decide +kernel
theorem d1_94 : decode prog_142_method_5_code 94 = .ok (.sipush 8191, 3) := by decide +kernel
theorem d1_97 : decode prog_142_method_5_code 97 = .ok (.if_icmp .le 94, 3) := by decide +kernel
theorem d1_72 : decode prog_142_method_5_code 72 = .ok (.iload_n 0, 1) := by decide +kernel
theorem d1_73 : decode prog_142_method_5_code 73 = .ok (.sipush 880, 3) := by decide +kernel
theorem d1_76 : decode prog_142_method_5_code 76 = .ok (.if_icmp .lt 10, 3) := by decide +kernel
theorem d1_79 : decode prog_142_method_5_code 79 = .ok (.iload_n 0, 1) := by decide +kernel
theorem d1_80 : decode prog_142_method_5_code 80 = .ok (.sipush 893, 3) := by decide +kernel
theorem d1_83 : decode prog_142_method_5_code 83 = .ok (.if_icmp .le 108, 3) := by decide +kernel
theorem d1_58 : decode prog_142_method_5_code 58 = .ok (.iload_n 0, 1) := by decide +kernel
theorem d1_59 : decode prog_142_method_5_code 59 = .ok (.sipush 248, 3) := by decide +kernel
theorem d1_62 : decode prog_142_method_5_code 62 = .ok (.if_icmp .lt 10, 3) := by decide +kernel
theorem d1_65 : decode prog_142_method_5_code 65 = .ok (.iload_n 0, 1) := by decide +kernel
theorem d1_66 : decode prog_142_method_5_code 66 = .ok (.sipush 767, 3) := by decide +kernel
theorem d1_69 : decode prog_142_method_5_code 69 = .ok (.if_icmp .le 122, 3) := by decide +kernel
theorem d1_44 : decode prog_142_method_5_code 44 = .ok (.iload_n 0, 1) := by decide +kernel
theorem d1_45 : decode prog_142_method_5_code 45 = .ok (.sipush 216, 3) := by decide +kernel
theorem d1_48 : decode prog_142_method_5_code 48 = .ok (.if_icmp .lt 10, 3) := by decide +kernel
theorem d1_51 : decode prog_142_method_5_code 51 = .ok (.iload_n 0, 1) := by decide +kernel
theorem d1_52 : decode prog_142_method_5_code 52 = .ok (.sipush 246, 3) := by decide +kernel
theorem d1_55 : decode prog_142_method_5_code 55 = .ok (.if_icmp .le 136, 3) := by decide +kernel
theorem d1_30 : decode prog_142_method_5_code 30 = .ok (.iload_n 0, 1) := by decide +kernel
theorem d1_31 : decode prog_142_method_5_code 31 = .ok (.sipush 192, 3) := by decide +kernel
theorem d1_34 : decode prog_142_method_5_code 34 = .ok (.if_icmp .lt 10, 3) := by decide +kernel
theorem d1_37 : decode prog_142_method_5_code 37 = .ok (.iload_n 0, 1) := by decide +kernel
theorem d1_38 : decode prog_142_method_5_code 38 = .ok (.sipush 214, 3) := by decide +kernel
theorem d1_41 : decode prog_142_method_5_code 41 = .ok (.if_icmp .le 150, 3) := by decide +kernel
theorem d1_18 : decode prog_142_method_5_code 18 = .ok (.iload_n 0, 1) := by decide +kernel
theorem d1_19 : decode prog_142_method_5_code 19 = .ok (.bipush 97, 2) := by decide +kernel
theorem d1_21 : decode prog_142_method_5_code 21 = .ok (.if_icmp .lt 9, 3) := by decide +kernel
theorem d1_24 : decode prog_142_method_5_code 24 = .ok (.iload_n 0, 1) := by decide +kernel
theorem d1_25 : decode prog_142_method_5_code 25 = .ok (.bipush 122, 2) := by decide +kernel
theorem d1_27 : decode prog_142_method_5_code 27 = .ok (.if_icmp .le 164, 3) := by decide +kernel
theorem d1_12 : decode prog_142_method_5_code 12 = .ok (.iload_n 0, 1) := by decide +kernel
theorem d1_13 : decode prog_142_method_5_code 13 = .ok (.bipush 95, 2) := by decide +kernel
theorem d1_15 : decode prog_142_method_5_code 15 = .ok (.if_icmp .eq 176, 3) := by decide +kernel
theorem d1_0 : decode prog_142_method_5_code 0 = .ok (.iload_n 0, 1) := by decide +kernel
theorem d1_1 : decode prog_142_method_5_code 1 = .ok (.bipush 65, 2) := by decide +kernel
theorem d1_3 : decode prog_142_method_5_code 3 = .ok (.if_icmp .lt 9, 3) := by decide +kernel
theorem d1_6 : decode prog_142_method_5_code 6 = .ok (.iload_n 0, 1) := by decide +kernel
theorem d1_7 : decode prog_142_method_5_code 7 = .ok (.bipush 90, 2) := by decide +kernel
theorem d1_9 : decode prog_142_method_5_code 9 = .ok (.if_icmp .le 182, 3) := by decide +kernel
set_option maxRecDepth 65536 in
set_option maxHeartbeats 40000000 in
theorem rm2 (l : Launch) (Z : State) (a0 : Array Value) (hw : ∀ d ∈ tables_1, d.before a0 Z = true) (ws : List Jvm.Cond) (p0 : Int32)  (h0 : Heap) (n0 : Nat) (Z0 : n0 ≤ h0.size)  :
    MetFree l (⟨"com/example/lehti/lehti/model/XmlNames", "isNameStart", "(I)Z"⟩ : MethodName) (head1 (Jvm.Cond.code (⟨"com/example/lehti/lehti/model/XmlNames", "isNameStart", "(I)Z"⟩ : MethodName) prog_142_method_5_code 1 (some .boolean) :: ws) ({ frames := 0, cells := 0, slots := 0, locals := 0 } : Room)) (fun a U => a = #[(.int p0)] ∧ Z.Warmed39 U.vm ∧ U.heap = h0) (fun _ _ _ _ _ => True) (fun _ U o U' => ∃ v L, o = .returned v ∧ Q_rm2 Z p0  h0 n0 v U'.heap L ∧ FrameEnd U o U' L ({ frames := 0, cells := 0, slots := 0, locals := 0 } : Room).cells ({ frames := 0, cells := 0, slots := 0, locals := 0 } : Room).slots) := by
  refine MetFree.of_bodySF (plainFor_of_name own_pn1) hisR ?_
  intro p e s m args below meth c s₁ Bd hml0 hP hK
  obtain ⟨rfl, hZ, hh⟩ := hP
  have hx := Bd.exec
  have hby := Bd.bytes
  have hml : c.maxLocals = 1 := hml0
  have hown : s.vm.findClass "com/example/lehti/lehti/model/XmlNames" = some m.cls := findClass_of_methodNamed Bd.named
  have hnm := (name_of_methodNamed Bd.named Bd.method).1
  have X0 : Stand p l e ({ frames := 0, cells := 0, slots := 0, locals := 0 } : Room) s m #[(.int p0)] below meth c s₁ [] 0 0 := Stand.of_body Bd
  have e0 : s₁.heap = h0 := by rw [← hh, Bd.state]; rfl
  have N0 := Fr.nil n0
  refine (show own_End p e below s (s₁.setTop (entryFrame m #[(.int p0)] 1)) (Q_rm2 Z p0  h0 n0) ({ frames := 0, cells := 0, slots := 0, locals := 0 } : Room).cells ({ frames := 0, cells := 0, slots := 0, locals := 0 } : Room).slots from ?_)
  refine own_go (fun t k => castTop (own_ef1_rm2 m p0) k) ?_
  have li0 : (0 : Int32).toInt = 0 := rfl
  have li1 : (1 : Int32).toInt = 1 := rfl
  show own_End p e below s (s₁.setTop (mkF m 0 #[.val (.int p0)] [])) _ _ _
  have J14 : ∀ (ng0 : ¬ (65 ≤ p0.toInt ∧ p0.toInt ≤ 90)) (ng1 : ¬ p0.toInt = 95) (ng2 : ¬ (97 ≤ p0.toInt ∧ p0.toInt ≤ 122)) (ng3 : ¬ (192 ≤ p0.toInt ∧ p0.toInt ≤ 214)) (ng4 : ¬ (216 ≤ p0.toInt ∧ p0.toInt ≤ 246)) (ng5 : ¬ (248 ≤ p0.toInt ∧ p0.toInt ≤ 767)) (ng6 : ¬ (880 ≤ p0.toInt ∧ p0.toInt ≤ 893)) (ng7 : ¬ (895 ≤ p0.toInt ∧ p0.toInt ≤ 8191)) (ng8 : ¬ (8204 ≤ p0.toInt ∧ p0.toInt ≤ 8205)) (ng9 : ¬ (8304 ≤ p0.toInt ∧ p0.toInt ≤ 8591)) (ng10 : ¬ (11264 ≤ p0.toInt ∧ p0.toInt ≤ 12271)) (ng11 : ¬ (12289 ≤ p0.toInt ∧ p0.toInt ≤ 55295)) (ng12 : ¬ (63744 ≤ p0.toInt ∧ p0.toInt ≤ 64975)) (ng13 : ¬ (65008 ≤ p0.toInt ∧ p0.toInt ≤ 65533)), own_End p e below s (s₁.setTop (mkF m 179 #[.val (.int p0)] [])) (Q_rm2 Z p0  h0 n0) ({ frames := 0, cells := 0, slots := 0, locals := 0 } : Room).cells ({ frames := 0, cells := 0, slots := 0, locals := 0 } : Room).slots := by
    intro ng0 ng1 ng2 ng3 ng4 ng5 ng6 ng7 ng8 ng9 ng10 ng11 ng12 ng13
    show own_End p e below s (s₁.setTop (mkF m 179 #[.val (.int p0)] [])) _ _ _
    refine own_go (fun t k => XS.iloadN X0.here hx rfl (hb hby d1_179) rfl k) ?_
    show own_End p e below s (s₁.setTop (mkF m 180 #[.val (.int p0)] [(.int p0)])) _ _ _
    refine own_go (fun t k => X0.ldcInt hx hown (mvT hZ (hw _ (List.mem_of_getElem? (i := 7) rfl))) (g := (mkF m 180 #[.val (.int p0)] [(.int p0)])) rfl (hb hby d1_180) _ k) ?_
    show own_End p e below s (s₁.setTop (mkF m 182 #[.val (.int p0)] [(.int (65536 : Int32)), (.int p0)])) _ _ _
    by_cases c182_1 : p0.toInt < 65536
    · skip
      refine own_go (fun t k => XS.icmpYes X0.here hx rfl (pc0 := 182) (pc' := 195) rfl (hb hby d1_182) rfl (own_tlt (x := p0) (y := (65536 : Int32)) (i := p0.toInt) (j := 65536) rfl rfl c182_1).1 (by decide) (by decide) k) ?_
      show own_End p e below s (s₁.setTop (mkF m 195 #[.val (.int p0)] [])) _ _ _
      refine own_go (fun t k => XS.iconst X0.here hx rfl (hb hby d1_195) k) ?_
      show own_End p e below s (s₁.setTop (mkF m 196 #[.val (.int p0)] [(.int (0 : Int32))])) _ _ _
      refine own_ret X0 (v := some (.int (0 : Int32))) (fun h => by rw [Bd.returns] at h; cases h) Bd.notSynchronized (fun fs hr => retN X0 hx (t := .boolean) Bd.returns (by simp) (hb hby d1_196) hr) ?_ (by decide) (by decide)
      · rw [e0]; exact ⟨⟨_, rfl, Or.inr ⟨rfl, fun hh => by rcases hh with hh | hh | hh | hh | hh | hh | hh | hh | hh | hh | hh | hh | hh | hh | hh <;> first | exact ng0 hh | exact ng1 hh | exact ng2 hh | exact ng3 hh | exact ng4 hh | exact ng5 hh | exact ng6 hh | exact ng7 hh | exact ng8 hh | exact ng9 hh | exact ng10 hh | exact ng11 hh | exact ng12 hh | exact ng13 hh | omega⟩⟩, N0, rfl⟩
    · skip
      refine own_go (fun t k => XS.icmpNo X0.here hx rfl (hb hby d1_182) rfl (own_flt (x := p0) (y := (65536 : Int32)) (i := p0.toInt) (j := 65536) rfl rfl c182_1).1 k) ?_
      show own_End p e below s (s₁.setTop (mkF m 185 #[.val (.int p0)] [])) _ _ _
      refine own_go (fun t k => XS.iloadN X0.here hx rfl (hb hby d1_185) rfl k) ?_
      show own_End p e below s (s₁.setTop (mkF m 186 #[.val (.int p0)] [(.int p0)])) _ _ _
      refine own_go (fun t k => X0.ldcInt hx hown (mvT hZ (hw _ (List.mem_of_getElem? (i := 25) rfl))) (g := (mkF m 186 #[.val (.int p0)] [(.int p0)])) rfl (hb hby d1_186) _ k) ?_
      show own_End p e below s (s₁.setTop (mkF m 188 #[.val (.int p0)] [(.int (983039 : Int32)), (.int p0)])) _ _ _
      by_cases c188_2 : 983039 < p0.toInt
      · skip
        refine own_go (fun t k => XS.icmpYes X0.here hx rfl (pc0 := 188) (pc' := 195) rfl (hb hby d1_188) rfl (own_tlt (x := (983039 : Int32)) (y := p0) (i := 983039) (j := p0.toInt) rfl rfl c188_2).2.2.1 (by decide) (by decide) k) ?_
        show own_End p e below s (s₁.setTop (mkF m 195 #[.val (.int p0)] [])) _ _ _
        refine own_go (fun t k => XS.iconst X0.here hx rfl (hb hby d1_195) k) ?_
        show own_End p e below s (s₁.setTop (mkF m 196 #[.val (.int p0)] [(.int (0 : Int32))])) _ _ _
        refine own_ret X0 (v := some (.int (0 : Int32))) (fun h => by rw [Bd.returns] at h; cases h) Bd.notSynchronized (fun fs hr => retN X0 hx (t := .boolean) Bd.returns (by simp) (hb hby d1_196) hr) ?_ (by decide) (by decide)
        · rw [e0]; exact ⟨⟨_, rfl, Or.inr ⟨rfl, fun hh => by rcases hh with hh | hh | hh | hh | hh | hh | hh | hh | hh | hh | hh | hh | hh | hh | hh <;> first | exact ng0 hh | exact ng1 hh | exact ng2 hh | exact ng3 hh | exact ng4 hh | exact ng5 hh | exact ng6 hh | exact ng7 hh | exact ng8 hh | exact ng9 hh | exact ng10 hh | exact ng11 hh | exact ng12 hh | exact ng13 hh | omega⟩⟩, N0, rfl⟩
      · skip
        refine own_go (fun t k => XS.icmpNo X0.here hx rfl (hb hby d1_188) rfl (own_flt (x := (983039 : Int32)) (y := p0) (i := 983039) (j := p0.toInt) rfl rfl c188_2).2.2.1 k) ?_
        show own_End p e below s (s₁.setTop (mkF m 191 #[.val (.int p0)] [])) _ _ _
        refine own_go (fun t k => XS.iconst X0.here hx rfl (hb hby d1_191) k) ?_
        show own_End p e below s (s₁.setTop (mkF m 192 #[.val (.int p0)] [(.int (1 : Int32))])) _ _ _
        refine own_go (fun t k => XS.goto X0.here hx rfl (pc0 := 192) (pc' := 196) rfl (hb hby d1_192) (by decide) (by decide) k) ?_
        show own_End p e below s (s₁.setTop (mkF m 196 #[.val (.int p0)] [(.int (1 : Int32))])) _ _ _
        refine own_ret X0 (v := some (.int (1 : Int32))) (fun h => by rw [Bd.returns] at h; cases h) Bd.notSynchronized (fun fs hr => retN X0 hx (t := .boolean) Bd.returns (by simp) (hb hby d1_196) hr) ?_ (by decide) (by decide)
        · rw [e0]; exact ⟨⟨_, rfl, Or.inl ⟨rfl, Or.inr (Or.inr (Or.inr (Or.inr (Or.inr (Or.inr (Or.inr (Or.inr (Or.inr (Or.inr (Or.inr (Or.inr (Or.inr (Or.inr (And.intro (by omega) (by omega)))))))))))))))⟩⟩, N0, rfl⟩
  have J13 : ∀ (ng0 : ¬ (65 ≤ p0.toInt ∧ p0.toInt ≤ 90)) (ng1 : ¬ p0.toInt = 95) (ng2 : ¬ (97 ≤ p0.toInt ∧ p0.toInt ≤ 122)) (ng3 : ¬ (192 ≤ p0.toInt ∧ p0.toInt ≤ 214)) (ng4 : ¬ (216 ≤ p0.toInt ∧ p0.toInt ≤ 246)) (ng5 : ¬ (248 ≤ p0.toInt ∧ p0.toInt ≤ 767)) (ng6 : ¬ (880 ≤ p0.toInt ∧ p0.toInt ≤ 893)) (ng7 : ¬ (895 ≤ p0.toInt ∧ p0.toInt ≤ 8191)) (ng8 : ¬ (8204 ≤ p0.toInt ∧ p0.toInt ≤ 8205)) (ng9 : ¬ (8304 ≤ p0.toInt ∧ p0.toInt ≤ 8591)) (ng10 : ¬ (11264 ≤ p0.toInt ∧ p0.toInt ≤ 12271)) (ng11 : ¬ (12289 ≤ p0.toInt ∧ p0.toInt ≤ 55295)) (ng12 : ¬ (63744 ≤ p0.toInt ∧ p0.toInt ≤ 64975)), own_End p e below s (s₁.setTop (mkF m 167 #[.val (.int p0)] [])) (Q_rm2 Z p0  h0 n0) ({ frames := 0, cells := 0, slots := 0, locals := 0 } : Room).cells ({ frames := 0, cells := 0, slots := 0, locals := 0 } : Room).slots := by
    intro ng0 ng1 ng2 ng3 ng4 ng5 ng6 ng7 ng8 ng9 ng10 ng11 ng12
    show own_End p e below s (s₁.setTop (mkF m 167 #[.val (.int p0)] [])) _ _ _
    refine own_go (fun t k => XS.iloadN X0.here hx rfl (hb hby d1_167) rfl k) ?_
    show own_End p e below s (s₁.setTop (mkF m 168 #[.val (.int p0)] [(.int p0)])) _ _ _
    refine own_go (fun t k => X0.ldcInt hx hown (mvT hZ (hw _ (List.mem_of_getElem? (i := 6) rfl))) (g := (mkF m 168 #[.val (.int p0)] [(.int p0)])) rfl (hb hby d1_168) _ k) ?_
    show own_End p e below s (s₁.setTop (mkF m 170 #[.val (.int p0)] [(.int (65008 : Int32)), (.int p0)])) _ _ _
    by_cases c170_3 : p0.toInt < 65008
    · skip
      refine own_go (fun t k => XS.icmpYes X0.here hx rfl (pc0 := 170) (pc' := 179) rfl (hb hby d1_170) rfl (own_tlt (x := p0) (y := (65008 : Int32)) (i := p0.toInt) (j := 65008) rfl rfl c170_3).1 (by decide) (by decide) k) ?_
      show own_End p e below s (s₁.setTop (mkF m 179 #[.val (.int p0)] [])) _ _ _
      exact J14 ng0 ng1 ng2 ng3 ng4 ng5 ng6 ng7 ng8 ng9 ng10 ng11 ng12 (fun hh => by omega)
    · skip
      refine own_go (fun t k => XS.icmpNo X0.here hx rfl (hb hby d1_170) rfl (own_flt (x := p0) (y := (65008 : Int32)) (i := p0.toInt) (j := 65008) rfl rfl c170_3).1 k) ?_
      show own_End p e below s (s₁.setTop (mkF m 173 #[.val (.int p0)] [])) _ _ _
      refine own_go (fun t k => XS.iloadN X0.here hx rfl (hb hby d1_173) rfl k) ?_
      show own_End p e below s (s₁.setTop (mkF m 174 #[.val (.int p0)] [(.int p0)])) _ _ _
      refine own_go (fun t k => X0.ldcInt hx hown (mvT hZ (hw _ (List.mem_of_getElem? (i := 24) rfl))) (g := (mkF m 174 #[.val (.int p0)] [(.int p0)])) rfl (hb hby d1_174) _ k) ?_
      show own_End p e below s (s₁.setTop (mkF m 176 #[.val (.int p0)] [(.int (65533 : Int32)), (.int p0)])) _ _ _
      by_cases c176_4 : 65533 < p0.toInt
      · skip
        refine own_go (fun t k => XS.icmpNo X0.here hx rfl (hb hby d1_176) rfl (own_tlt (x := (65533 : Int32)) (y := p0) (i := 65533) (j := p0.toInt) rfl rfl c176_4).2.2.2 k) ?_
        show own_End p e below s (s₁.setTop (mkF m 179 #[.val (.int p0)] [])) _ _ _
        exact J14 ng0 ng1 ng2 ng3 ng4 ng5 ng6 ng7 ng8 ng9 ng10 ng11 ng12 (fun hh => by omega)
      · skip
        refine own_go (fun t k => XS.icmpYes X0.here hx rfl (pc0 := 176) (pc' := 191) rfl (hb hby d1_176) rfl (own_flt (x := (65533 : Int32)) (y := p0) (i := 65533) (j := p0.toInt) rfl rfl c176_4).2.2.2 (by decide) (by decide) k) ?_
        show own_End p e below s (s₁.setTop (mkF m 191 #[.val (.int p0)] [])) _ _ _
        refine own_go (fun t k => XS.iconst X0.here hx rfl (hb hby d1_191) k) ?_
        show own_End p e below s (s₁.setTop (mkF m 192 #[.val (.int p0)] [(.int (1 : Int32))])) _ _ _
        refine own_go (fun t k => XS.goto X0.here hx rfl (pc0 := 192) (pc' := 196) rfl (hb hby d1_192) (by decide) (by decide) k) ?_
        show own_End p e below s (s₁.setTop (mkF m 196 #[.val (.int p0)] [(.int (1 : Int32))])) _ _ _
        refine own_ret X0 (v := some (.int (1 : Int32))) (fun h => by rw [Bd.returns] at h; cases h) Bd.notSynchronized (fun fs hr => retN X0 hx (t := .boolean) Bd.returns (by simp) (hb hby d1_196) hr) ?_ (by decide) (by decide)
        · rw [e0]; exact ⟨⟨_, rfl, Or.inl ⟨rfl, Or.inr (Or.inr (Or.inr (Or.inr (Or.inr (Or.inr (Or.inr (Or.inr (Or.inr (Or.inr (Or.inr (Or.inr (Or.inr (Or.inl (And.intro (by omega) (by omega)))))))))))))))⟩⟩, N0, rfl⟩
  have J12 : ∀ (ng0 : ¬ (65 ≤ p0.toInt ∧ p0.toInt ≤ 90)) (ng1 : ¬ p0.toInt = 95) (ng2 : ¬ (97 ≤ p0.toInt ∧ p0.toInt ≤ 122)) (ng3 : ¬ (192 ≤ p0.toInt ∧ p0.toInt ≤ 214)) (ng4 : ¬ (216 ≤ p0.toInt ∧ p0.toInt ≤ 246)) (ng5 : ¬ (248 ≤ p0.toInt ∧ p0.toInt ≤ 767)) (ng6 : ¬ (880 ≤ p0.toInt ∧ p0.toInt ≤ 893)) (ng7 : ¬ (895 ≤ p0.toInt ∧ p0.toInt ≤ 8191)) (ng8 : ¬ (8204 ≤ p0.toInt ∧ p0.toInt ≤ 8205)) (ng9 : ¬ (8304 ≤ p0.toInt ∧ p0.toInt ≤ 8591)) (ng10 : ¬ (11264 ≤ p0.toInt ∧ p0.toInt ≤ 12271)) (ng11 : ¬ (12289 ≤ p0.toInt ∧ p0.toInt ≤ 55295)), own_End p e below s (s₁.setTop (mkF m 155 #[.val (.int p0)] [])) (Q_rm2 Z p0  h0 n0) ({ frames := 0, cells := 0, slots := 0, locals := 0 } : Room).cells ({ frames := 0, cells := 0, slots := 0, locals := 0 } : Room).slots := by
    intro ng0 ng1 ng2 ng3 ng4 ng5 ng6 ng7 ng8 ng9 ng10 ng11
    show own_End p e below s (s₁.setTop (mkF m 155 #[.val (.int p0)] [])) _ _ _
    refine own_go (fun t k => XS.iloadN X0.here hx rfl (hb hby d1_155) rfl k) ?_
    show own_End p e below s (s₁.setTop (mkF m 156 #[.val (.int p0)] [(.int p0)])) _ _ _
    refine own_go (fun t k => X0.ldcInt hx hown (mvT hZ (hw _ (List.mem_of_getElem? (i := 5) rfl))) (g := (mkF m 156 #[.val (.int p0)] [(.int p0)])) rfl (hb hby d1_156) _ k) ?_
    show own_End p e below s (s₁.setTop (mkF m 158 #[.val (.int p0)] [(.int (63744 : Int32)), (.int p0)])) _ _ _
    by_cases c158_5 : p0.toInt < 63744
    · skip
      refine own_go (fun t k => XS.icmpYes X0.here hx rfl (pc0 := 158) (pc' := 167) rfl (hb hby d1_158) rfl (own_tlt (x := p0) (y := (63744 : Int32)) (i := p0.toInt) (j := 63744) rfl rfl c158_5).1 (by decide) (by decide) k) ?_
      show own_End p e below s (s₁.setTop (mkF m 167 #[.val (.int p0)] [])) _ _ _
      exact J13 ng0 ng1 ng2 ng3 ng4 ng5 ng6 ng7 ng8 ng9 ng10 ng11 (fun hh => by omega)
    · skip
      refine own_go (fun t k => XS.icmpNo X0.here hx rfl (hb hby d1_158) rfl (own_flt (x := p0) (y := (63744 : Int32)) (i := p0.toInt) (j := 63744) rfl rfl c158_5).1 k) ?_
      show own_End p e below s (s₁.setTop (mkF m 161 #[.val (.int p0)] [])) _ _ _
      refine own_go (fun t k => XS.iloadN X0.here hx rfl (hb hby d1_161) rfl k) ?_
      show own_End p e below s (s₁.setTop (mkF m 162 #[.val (.int p0)] [(.int p0)])) _ _ _
      refine own_go (fun t k => X0.ldcInt hx hown (mvT hZ (hw _ (List.mem_of_getElem? (i := 23) rfl))) (g := (mkF m 162 #[.val (.int p0)] [(.int p0)])) rfl (hb hby d1_162) _ k) ?_
      show own_End p e below s (s₁.setTop (mkF m 164 #[.val (.int p0)] [(.int (64975 : Int32)), (.int p0)])) _ _ _
      by_cases c164_6 : 64975 < p0.toInt
      · skip
        refine own_go (fun t k => XS.icmpNo X0.here hx rfl (hb hby d1_164) rfl (own_tlt (x := (64975 : Int32)) (y := p0) (i := 64975) (j := p0.toInt) rfl rfl c164_6).2.2.2 k) ?_
        show own_End p e below s (s₁.setTop (mkF m 167 #[.val (.int p0)] [])) _ _ _
        exact J13 ng0 ng1 ng2 ng3 ng4 ng5 ng6 ng7 ng8 ng9 ng10 ng11 (fun hh => by omega)
      · skip
        refine own_go (fun t k => XS.icmpYes X0.here hx rfl (pc0 := 164) (pc' := 191) rfl (hb hby d1_164) rfl (own_flt (x := (64975 : Int32)) (y := p0) (i := 64975) (j := p0.toInt) rfl rfl c164_6).2.2.2 (by decide) (by decide) k) ?_
        show own_End p e below s (s₁.setTop (mkF m 191 #[.val (.int p0)] [])) _ _ _
        refine own_go (fun t k => XS.iconst X0.here hx rfl (hb hby d1_191) k) ?_
        show own_End p e below s (s₁.setTop (mkF m 192 #[.val (.int p0)] [(.int (1 : Int32))])) _ _ _
        refine own_go (fun t k => XS.goto X0.here hx rfl (pc0 := 192) (pc' := 196) rfl (hb hby d1_192) (by decide) (by decide) k) ?_
        show own_End p e below s (s₁.setTop (mkF m 196 #[.val (.int p0)] [(.int (1 : Int32))])) _ _ _
        refine own_ret X0 (v := some (.int (1 : Int32))) (fun h => by rw [Bd.returns] at h; cases h) Bd.notSynchronized (fun fs hr => retN X0 hx (t := .boolean) Bd.returns (by simp) (hb hby d1_196) hr) ?_ (by decide) (by decide)
        · rw [e0]; exact ⟨⟨_, rfl, Or.inl ⟨rfl, Or.inr (Or.inr (Or.inr (Or.inr (Or.inr (Or.inr (Or.inr (Or.inr (Or.inr (Or.inr (Or.inr (Or.inr (Or.inl (And.intro (by omega) (by omega))))))))))))))⟩⟩, N0, rfl⟩
  have J11 : ∀ (ng0 : ¬ (65 ≤ p0.toInt ∧ p0.toInt ≤ 90)) (ng1 : ¬ p0.toInt = 95) (ng2 : ¬ (97 ≤ p0.toInt ∧ p0.toInt ≤ 122)) (ng3 : ¬ (192 ≤ p0.toInt ∧ p0.toInt ≤ 214)) (ng4 : ¬ (216 ≤ p0.toInt ∧ p0.toInt ≤ 246)) (ng5 : ¬ (248 ≤ p0.toInt ∧ p0.toInt ≤ 767)) (ng6 : ¬ (880 ≤ p0.toInt ∧ p0.toInt ≤ 893)) (ng7 : ¬ (895 ≤ p0.toInt ∧ p0.toInt ≤ 8191)) (ng8 : ¬ (8204 ≤ p0.toInt ∧ p0.toInt ≤ 8205)) (ng9 : ¬ (8304 ≤ p0.toInt ∧ p0.toInt ≤ 8591)) (ng10 : ¬ (11264 ≤ p0.toInt ∧ p0.toInt ≤ 12271)), own_End p e below s (s₁.setTop (mkF m 142 #[.val (.int p0)] [])) (Q_rm2 Z p0  h0 n0) ({ frames := 0, cells := 0, slots := 0, locals := 0 } : Room).cells ({ frames := 0, cells := 0, slots := 0, locals := 0 } : Room).slots := by
    intro ng0 ng1 ng2 ng3 ng4 ng5 ng6 ng7 ng8 ng9 ng10
    show own_End p e below s (s₁.setTop (mkF m 142 #[.val (.int p0)] [])) _ _ _
    refine own_go (fun t k => XS.iloadN X0.here hx rfl (hb hby d1_142) rfl k) ?_
    show own_End p e below s (s₁.setTop (mkF m 143 #[.val (.int p0)] [(.int p0)])) _ _ _
    refine own_go (fun t k => XS.sipush X0.here hx rfl (hb hby d1_143) k) ?_
    show own_End p e below s (s₁.setTop (mkF m 146 #[.val (.int p0)] [(.int (12289 : Int32)), (.int p0)])) _ _ _
    by_cases c146_7 : p0.toInt < 12289
    · skip
      refine own_go (fun t k => XS.icmpYes X0.here hx rfl (pc0 := 146) (pc' := 155) rfl (hb hby d1_146) rfl (own_tlt (x := p0) (y := (12289 : Int32)) (i := p0.toInt) (j := 12289) rfl rfl c146_7).1 (by decide) (by decide) k) ?_
      show own_End p e below s (s₁.setTop (mkF m 155 #[.val (.int p0)] [])) _ _ _
      exact J12 ng0 ng1 ng2 ng3 ng4 ng5 ng6 ng7 ng8 ng9 ng10 (fun hh => by omega)
    · skip
      refine own_go (fun t k => XS.icmpNo X0.here hx rfl (hb hby d1_146) rfl (own_flt (x := p0) (y := (12289 : Int32)) (i := p0.toInt) (j := 12289) rfl rfl c146_7).1 k) ?_
      show own_End p e below s (s₁.setTop (mkF m 149 #[.val (.int p0)] [])) _ _ _
      refine own_go (fun t k => XS.iloadN X0.here hx rfl (hb hby d1_149) rfl k) ?_
      show own_End p e below s (s₁.setTop (mkF m 150 #[.val (.int p0)] [(.int p0)])) _ _ _
      refine own_go (fun t k => X0.ldcInt hx hown (mvT hZ (hw _ (List.mem_of_getElem? (i := 22) rfl))) (g := (mkF m 150 #[.val (.int p0)] [(.int p0)])) rfl (hb hby d1_150) _ k) ?_
      show own_End p e below s (s₁.setTop (mkF m 152 #[.val (.int p0)] [(.int (55295 : Int32)), (.int p0)])) _ _ _
      by_cases c152_8 : 55295 < p0.toInt
      · skip
        refine own_go (fun t k => XS.icmpNo X0.here hx rfl (hb hby d1_152) rfl (own_tlt (x := (55295 : Int32)) (y := p0) (i := 55295) (j := p0.toInt) rfl rfl c152_8).2.2.2 k) ?_
        show own_End p e below s (s₁.setTop (mkF m 155 #[.val (.int p0)] [])) _ _ _
        exact J12 ng0 ng1 ng2 ng3 ng4 ng5 ng6 ng7 ng8 ng9 ng10 (fun hh => by omega)
      · skip
        refine own_go (fun t k => XS.icmpYes X0.here hx rfl (pc0 := 152) (pc' := 191) rfl (hb hby d1_152) rfl (own_flt (x := (55295 : Int32)) (y := p0) (i := 55295) (j := p0.toInt) rfl rfl c152_8).2.2.2 (by decide) (by decide) k) ?_
        show own_End p e below s (s₁.setTop (mkF m 191 #[.val (.int p0)] [])) _ _ _
        refine own_go (fun t k => XS.iconst X0.here hx rfl (hb hby d1_191) k) ?_
        show own_End p e below s (s₁.setTop (mkF m 192 #[.val (.int p0)] [(.int (1 : Int32))])) _ _ _
        refine own_go (fun t k => XS.goto X0.here hx rfl (pc0 := 192) (pc' := 196) rfl (hb hby d1_192) (by decide) (by decide) k) ?_
        show own_End p e below s (s₁.setTop (mkF m 196 #[.val (.int p0)] [(.int (1 : Int32))])) _ _ _
        refine own_ret X0 (v := some (.int (1 : Int32))) (fun h => by rw [Bd.returns] at h; cases h) Bd.notSynchronized (fun fs hr => retN X0 hx (t := .boolean) Bd.returns (by simp) (hb hby d1_196) hr) ?_ (by decide) (by decide)
        · rw [e0]; exact ⟨⟨_, rfl, Or.inl ⟨rfl, Or.inr (Or.inr (Or.inr (Or.inr (Or.inr (Or.inr (Or.inr (Or.inr (Or.inr (Or.inr (Or.inr (Or.inl (And.intro (by omega) (by omega)))))))))))))⟩⟩, N0, rfl⟩
  have J10 : ∀ (ng0 : ¬ (65 ≤ p0.toInt ∧ p0.toInt ≤ 90)) (ng1 : ¬ p0.toInt = 95) (ng2 : ¬ (97 ≤ p0.toInt ∧ p0.toInt ≤ 122)) (ng3 : ¬ (192 ≤ p0.toInt ∧ p0.toInt ≤ 214)) (ng4 : ¬ (216 ≤ p0.toInt ∧ p0.toInt ≤ 246)) (ng5 : ¬ (248 ≤ p0.toInt ∧ p0.toInt ≤ 767)) (ng6 : ¬ (880 ≤ p0.toInt ∧ p0.toInt ≤ 893)) (ng7 : ¬ (895 ≤ p0.toInt ∧ p0.toInt ≤ 8191)) (ng8 : ¬ (8204 ≤ p0.toInt ∧ p0.toInt ≤ 8205)) (ng9 : ¬ (8304 ≤ p0.toInt ∧ p0.toInt ≤ 8591)), own_End p e below s (s₁.setTop (mkF m 128 #[.val (.int p0)] [])) (Q_rm2 Z p0  h0 n0) ({ frames := 0, cells := 0, slots := 0, locals := 0 } : Room).cells ({ frames := 0, cells := 0, slots := 0, locals := 0 } : Room).slots := by
    intro ng0 ng1 ng2 ng3 ng4 ng5 ng6 ng7 ng8 ng9
    show own_End p e below s (s₁.setTop (mkF m 128 #[.val (.int p0)] [])) _ _ _
    refine own_go (fun t k => XS.iloadN X0.here hx rfl (hb hby d1_128) rfl k) ?_
    show own_End p e below s (s₁.setTop (mkF m 129 #[.val (.int p0)] [(.int p0)])) _ _ _
    refine own_go (fun t k => XS.sipush X0.here hx rfl (hb hby d1_129) k) ?_
    show own_End p e below s (s₁.setTop (mkF m 132 #[.val (.int p0)] [(.int (11264 : Int32)), (.int p0)])) _ _ _
    by_cases c132_9 : p0.toInt < 11264
    · skip
      refine own_go (fun t k => XS.icmpYes X0.here hx rfl (pc0 := 132) (pc' := 142) rfl (hb hby d1_132) rfl (own_tlt (x := p0) (y := (11264 : Int32)) (i := p0.toInt) (j := 11264) rfl rfl c132_9).1 (by decide) (by decide) k) ?_
      show own_End p e below s (s₁.setTop (mkF m 142 #[.val (.int p0)] [])) _ _ _
      exact J11 ng0 ng1 ng2 ng3 ng4 ng5 ng6 ng7 ng8 ng9 (fun hh => by omega)
    · skip
      refine own_go (fun t k => XS.icmpNo X0.here hx rfl (hb hby d1_132) rfl (own_flt (x := p0) (y := (11264 : Int32)) (i := p0.toInt) (j := 11264) rfl rfl c132_9).1 k) ?_
      show own_End p e below s (s₁.setTop (mkF m 135 #[.val (.int p0)] [])) _ _ _
      refine own_go (fun t k => XS.iloadN X0.here hx rfl (hb hby d1_135) rfl k) ?_
      show own_End p e below s (s₁.setTop (mkF m 136 #[.val (.int p0)] [(.int p0)])) _ _ _
      refine own_go (fun t k => XS.sipush X0.here hx rfl (hb hby d1_136) k) ?_
      show own_End p e below s (s₁.setTop (mkF m 139 #[.val (.int p0)] [(.int (12271 : Int32)), (.int p0)])) _ _ _
      by_cases c139_10 : 12271 < p0.toInt
      · skip
        refine own_go (fun t k => XS.icmpNo X0.here hx rfl (hb hby d1_139) rfl (own_tlt (x := (12271 : Int32)) (y := p0) (i := 12271) (j := p0.toInt) rfl rfl c139_10).2.2.2 k) ?_
        show own_End p e below s (s₁.setTop (mkF m 142 #[.val (.int p0)] [])) _ _ _
        exact J11 ng0 ng1 ng2 ng3 ng4 ng5 ng6 ng7 ng8 ng9 (fun hh => by omega)
      · skip
        refine own_go (fun t k => XS.icmpYes X0.here hx rfl (pc0 := 139) (pc' := 191) rfl (hb hby d1_139) rfl (own_flt (x := (12271 : Int32)) (y := p0) (i := 12271) (j := p0.toInt) rfl rfl c139_10).2.2.2 (by decide) (by decide) k) ?_
        show own_End p e below s (s₁.setTop (mkF m 191 #[.val (.int p0)] [])) _ _ _
        refine own_go (fun t k => XS.iconst X0.here hx rfl (hb hby d1_191) k) ?_
        show own_End p e below s (s₁.setTop (mkF m 192 #[.val (.int p0)] [(.int (1 : Int32))])) _ _ _
        refine own_go (fun t k => XS.goto X0.here hx rfl (pc0 := 192) (pc' := 196) rfl (hb hby d1_192) (by decide) (by decide) k) ?_
        show own_End p e below s (s₁.setTop (mkF m 196 #[.val (.int p0)] [(.int (1 : Int32))])) _ _ _
        refine own_ret X0 (v := some (.int (1 : Int32))) (fun h => by rw [Bd.returns] at h; cases h) Bd.notSynchronized (fun fs hr => retN X0 hx (t := .boolean) Bd.returns (by simp) (hb hby d1_196) hr) ?_ (by decide) (by decide)
        · rw [e0]; exact ⟨⟨_, rfl, Or.inl ⟨rfl, Or.inr (Or.inr (Or.inr (Or.inr (Or.inr (Or.inr (Or.inr (Or.inr (Or.inr (Or.inr (Or.inl (And.intro (by omega) (by omega))))))))))))⟩⟩, N0, rfl⟩
  have J9 : ∀ (ng0 : ¬ (65 ≤ p0.toInt ∧ p0.toInt ≤ 90)) (ng1 : ¬ p0.toInt = 95) (ng2 : ¬ (97 ≤ p0.toInt ∧ p0.toInt ≤ 122)) (ng3 : ¬ (192 ≤ p0.toInt ∧ p0.toInt ≤ 214)) (ng4 : ¬ (216 ≤ p0.toInt ∧ p0.toInt ≤ 246)) (ng5 : ¬ (248 ≤ p0.toInt ∧ p0.toInt ≤ 767)) (ng6 : ¬ (880 ≤ p0.toInt ∧ p0.toInt ≤ 893)) (ng7 : ¬ (895 ≤ p0.toInt ∧ p0.toInt ≤ 8191)) (ng8 : ¬ (8204 ≤ p0.toInt ∧ p0.toInt ≤ 8205)), own_End p e below s (s₁.setTop (mkF m 114 #[.val (.int p0)] [])) (Q_rm2 Z p0  h0 n0) ({ frames := 0, cells := 0, slots := 0, locals := 0 } : Room).cells ({ frames := 0, cells := 0, slots := 0, locals := 0 } : Room).slots := by
    intro ng0 ng1 ng2 ng3 ng4 ng5 ng6 ng7 ng8
    show own_End p e below s (s₁.setTop (mkF m 114 #[.val (.int p0)] [])) _ _ _
    refine own_go (fun t k => XS.iloadN X0.here hx rfl (hb hby d1_114) rfl k) ?_
    show own_End p e below s (s₁.setTop (mkF m 115 #[.val (.int p0)] [(.int p0)])) _ _ _
    refine own_go (fun t k => XS.sipush X0.here hx rfl (hb hby d1_115) k) ?_
    show own_End p e below s (s₁.setTop (mkF m 118 #[.val (.int p0)] [(.int (8304 : Int32)), (.int p0)])) _ _ _
    by_cases c118_11 : p0.toInt < 8304
    · skip
      refine own_go (fun t k => XS.icmpYes X0.here hx rfl (pc0 := 118) (pc' := 128) rfl (hb hby d1_118) rfl (own_tlt (x := p0) (y := (8304 : Int32)) (i := p0.toInt) (j := 8304) rfl rfl c118_11).1 (by decide) (by decide) k) ?_
      show own_End p e below s (s₁.setTop (mkF m 128 #[.val (.int p0)] [])) _ _ _
      exact J10 ng0 ng1 ng2 ng3 ng4 ng5 ng6 ng7 ng8 (fun hh => by omega)
    · skip
      refine own_go (fun t k => XS.icmpNo X0.here hx rfl (hb hby d1_118) rfl (own_flt (x := p0) (y := (8304 : Int32)) (i := p0.toInt) (j := 8304) rfl rfl c118_11).1 k) ?_
      show own_End p e below s (s₁.setTop (mkF m 121 #[.val (.int p0)] [])) _ _ _
      refine own_go (fun t k => XS.iloadN X0.here hx rfl (hb hby d1_121) rfl k) ?_
      show own_End p e below s (s₁.setTop (mkF m 122 #[.val (.int p0)] [(.int p0)])) _ _ _
      refine own_go (fun t k => XS.sipush X0.here hx rfl (hb hby d1_122) k) ?_
      show own_End p e below s (s₁.setTop (mkF m 125 #[.val (.int p0)] [(.int (8591 : Int32)), (.int p0)])) _ _ _
      by_cases c125_12 : 8591 < p0.toInt
      · skip
        refine own_go (fun t k => XS.icmpNo X0.here hx rfl (hb hby d1_125) rfl (own_tlt (x := (8591 : Int32)) (y := p0) (i := 8591) (j := p0.toInt) rfl rfl c125_12).2.2.2 k) ?_
        show own_End p e below s (s₁.setTop (mkF m 128 #[.val (.int p0)] [])) _ _ _
        exact J10 ng0 ng1 ng2 ng3 ng4 ng5 ng6 ng7 ng8 (fun hh => by omega)
      · skip
        refine own_go (fun t k => XS.icmpYes X0.here hx rfl (pc0 := 125) (pc' := 191) rfl (hb hby d1_125) rfl (own_flt (x := (8591 : Int32)) (y := p0) (i := 8591) (j := p0.toInt) rfl rfl c125_12).2.2.2 (by decide) (by decide) k) ?_
        show own_End p e below s (s₁.setTop (mkF m 191 #[.val (.int p0)] [])) _ _ _
        refine own_go (fun t k => XS.iconst X0.here hx rfl (hb hby d1_191) k) ?_
        show own_End p e below s (s₁.setTop (mkF m 192 #[.val (.int p0)] [(.int (1 : Int32))])) _ _ _
        refine own_go (fun t k => XS.goto X0.here hx rfl (pc0 := 192) (pc' := 196) rfl (hb hby d1_192) (by decide) (by decide) k) ?_
        show own_End p e below s (s₁.setTop (mkF m 196 #[.val (.int p0)] [(.int (1 : Int32))])) _ _ _
        refine own_ret X0 (v := some (.int (1 : Int32))) (fun h => by rw [Bd.returns] at h; cases h) Bd.notSynchronized (fun fs hr => retN X0 hx (t := .boolean) Bd.returns (by simp) (hb hby d1_196) hr) ?_ (by decide) (by decide)
        · rw [e0]; exact ⟨⟨_, rfl, Or.inl ⟨rfl, Or.inr (Or.inr (Or.inr (Or.inr (Or.inr (Or.inr (Or.inr (Or.inr (Or.inr (Or.inl (And.intro (by omega) (by omega)))))))))))⟩⟩, N0, rfl⟩
  have J8 : ∀ (ng0 : ¬ (65 ≤ p0.toInt ∧ p0.toInt ≤ 90)) (ng1 : ¬ p0.toInt = 95) (ng2 : ¬ (97 ≤ p0.toInt ∧ p0.toInt ≤ 122)) (ng3 : ¬ (192 ≤ p0.toInt ∧ p0.toInt ≤ 214)) (ng4 : ¬ (216 ≤ p0.toInt ∧ p0.toInt ≤ 246)) (ng5 : ¬ (248 ≤ p0.toInt ∧ p0.toInt ≤ 767)) (ng6 : ¬ (880 ≤ p0.toInt ∧ p0.toInt ≤ 893)) (ng7 : ¬ (895 ≤ p0.toInt ∧ p0.toInt ≤ 8191)), own_End p e below s (s₁.setTop (mkF m 100 #[.val (.int p0)] [])) (Q_rm2 Z p0  h0 n0) ({ frames := 0, cells := 0, slots := 0, locals := 0 } : Room).cells ({ frames := 0, cells := 0, slots := 0, locals := 0 } : Room).slots := by
    intro ng0 ng1 ng2 ng3 ng4 ng5 ng6 ng7
    show own_End p e below s (s₁.setTop (mkF m 100 #[.val (.int p0)] [])) _ _ _
    refine own_go (fun t k => XS.iloadN X0.here hx rfl (hb hby d1_100) rfl k) ?_
    show own_End p e below s (s₁.setTop (mkF m 101 #[.val (.int p0)] [(.int p0)])) _ _ _
    refine own_go (fun t k => XS.sipush X0.here hx rfl (hb hby d1_101) k) ?_
    show own_End p e below s (s₁.setTop (mkF m 104 #[.val (.int p0)] [(.int (8204 : Int32)), (.int p0)])) _ _ _
    by_cases c104_13 : p0.toInt < 8204
    · skip
      refine own_go (fun t k => XS.icmpYes X0.here hx rfl (pc0 := 104) (pc' := 114) rfl (hb hby d1_104) rfl (own_tlt (x := p0) (y := (8204 : Int32)) (i := p0.toInt) (j := 8204) rfl rfl c104_13).1 (by decide) (by decide) k) ?_
      show own_End p e below s (s₁.setTop (mkF m 114 #[.val (.int p0)] [])) _ _ _
      exact J9 ng0 ng1 ng2 ng3 ng4 ng5 ng6 ng7 (fun hh => by omega)
    · skip
      refine own_go (fun t k => XS.icmpNo X0.here hx rfl (hb hby d1_104) rfl (own_flt (x := p0) (y := (8204 : Int32)) (i := p0.toInt) (j := 8204) rfl rfl c104_13).1 k) ?_
      show own_End p e below s (s₁.setTop (mkF m 107 #[.val (.int p0)] [])) _ _ _
      refine own_go (fun t k => XS.iloadN X0.here hx rfl (hb hby d1_107) rfl k) ?_
      show own_End p e below s (s₁.setTop (mkF m 108 #[.val (.int p0)] [(.int p0)])) _ _ _
      refine own_go (fun t k => XS.sipush X0.here hx rfl (hb hby d1_108) k) ?_
      show own_End p e below s (s₁.setTop (mkF m 111 #[.val (.int p0)] [(.int (8205 : Int32)), (.int p0)])) _ _ _
      by_cases c111_14 : 8205 < p0.toInt
      · skip
        refine own_go (fun t k => XS.icmpNo X0.here hx rfl (hb hby d1_111) rfl (own_tlt (x := (8205 : Int32)) (y := p0) (i := 8205) (j := p0.toInt) rfl rfl c111_14).2.2.2 k) ?_
        show own_End p e below s (s₁.setTop (mkF m 114 #[.val (.int p0)] [])) _ _ _
        exact J9 ng0 ng1 ng2 ng3 ng4 ng5 ng6 ng7 (fun hh => by omega)
      · skip
        refine own_go (fun t k => XS.icmpYes X0.here hx rfl (pc0 := 111) (pc' := 191) rfl (hb hby d1_111) rfl (own_flt (x := (8205 : Int32)) (y := p0) (i := 8205) (j := p0.toInt) rfl rfl c111_14).2.2.2 (by decide) (by decide) k) ?_
        show own_End p e below s (s₁.setTop (mkF m 191 #[.val (.int p0)] [])) _ _ _
        refine own_go (fun t k => XS.iconst X0.here hx rfl (hb hby d1_191) k) ?_
        show own_End p e below s (s₁.setTop (mkF m 192 #[.val (.int p0)] [(.int (1 : Int32))])) _ _ _
        refine own_go (fun t k => XS.goto X0.here hx rfl (pc0 := 192) (pc' := 196) rfl (hb hby d1_192) (by decide) (by decide) k) ?_
        show own_End p e below s (s₁.setTop (mkF m 196 #[.val (.int p0)] [(.int (1 : Int32))])) _ _ _
        refine own_ret X0 (v := some (.int (1 : Int32))) (fun h => by rw [Bd.returns] at h; cases h) Bd.notSynchronized (fun fs hr => retN X0 hx (t := .boolean) Bd.returns (by simp) (hb hby d1_196) hr) ?_ (by decide) (by decide)
        · rw [e0]; exact ⟨⟨_, rfl, Or.inl ⟨rfl, Or.inr (Or.inr (Or.inr (Or.inr (Or.inr (Or.inr (Or.inr (Or.inr (Or.inl (And.intro (by omega) (by omega))))))))))⟩⟩, N0, rfl⟩
  have J7 : ∀ (ng0 : ¬ (65 ≤ p0.toInt ∧ p0.toInt ≤ 90)) (ng1 : ¬ p0.toInt = 95) (ng2 : ¬ (97 ≤ p0.toInt ∧ p0.toInt ≤ 122)) (ng3 : ¬ (192 ≤ p0.toInt ∧ p0.toInt ≤ 214)) (ng4 : ¬ (216 ≤ p0.toInt ∧ p0.toInt ≤ 246)) (ng5 : ¬ (248 ≤ p0.toInt ∧ p0.toInt ≤ 767)) (ng6 : ¬ (880 ≤ p0.toInt ∧ p0.toInt ≤ 893)), own_End p e below s (s₁.setTop (mkF m 86 #[.val (.int p0)] [])) (Q_rm2 Z p0  h0 n0) ({ frames := 0, cells := 0, slots := 0, locals := 0 } : Room).cells ({ frames := 0, cells := 0, slots := 0, locals := 0 } : Room).slots := by
    intro ng0 ng1 ng2 ng3 ng4 ng5 ng6
    show own_End p e below s (s₁.setTop (mkF m 86 #[.val (.int p0)] [])) _ _ _
    refine own_go (fun t k => XS.iloadN X0.here hx rfl (hb hby d1_86) rfl k) ?_
    show own_End p e below s (s₁.setTop (mkF m 87 #[.val (.int p0)] [(.int p0)])) _ _ _
    refine own_go (fun t k => XS.sipush X0.here hx rfl (hb hby d1_87) k) ?_
    show own_End p e below s (s₁.setTop (mkF m 90 #[.val (.int p0)] [(.int (895 : Int32)), (.int p0)])) _ _ _
    by_cases c90_15 : p0.toInt < 895
    · skip
      refine own_go (fun t k => XS.icmpYes X0.here hx rfl (pc0 := 90) (pc' := 100) rfl (hb hby d1_90) rfl (own_tlt (x := p0) (y := (895 : Int32)) (i := p0.toInt) (j := 895) rfl rfl c90_15).1 (by decide) (by decide) k) ?_
      show own_End p e below s (s₁.setTop (mkF m 100 #[.val (.int p0)] [])) _ _ _
      exact J8 ng0 ng1 ng2 ng3 ng4 ng5 ng6 (fun hh => by omega)
    · skip
      refine own_go (fun t k => XS.icmpNo X0.here hx rfl (hb hby d1_90) rfl (own_flt (x := p0) (y := (895 : Int32)) (i := p0.toInt) (j := 895) rfl rfl c90_15).1 k) ?_
      show own_End p e below s (s₁.setTop (mkF m 93 #[.val (.int p0)] [])) _ _ _
      refine own_go (fun t k => XS.iloadN X0.here hx rfl (hb hby d1_93) rfl k) ?_
      show own_End p e below s (s₁.setTop (mkF m 94 #[.val (.int p0)] [(.int p0)])) _ _ _
      refine own_go (fun t k => XS.sipush X0.here hx rfl (hb hby d1_94) k) ?_
      show own_End p e below s (s₁.setTop (mkF m 97 #[.val (.int p0)] [(.int (8191 : Int32)), (.int p0)])) _ _ _
      by_cases c97_16 : 8191 < p0.toInt
      · skip
        refine own_go (fun t k => XS.icmpNo X0.here hx rfl (hb hby d1_97) rfl (own_tlt (x := (8191 : Int32)) (y := p0) (i := 8191) (j := p0.toInt) rfl rfl c97_16).2.2.2 k) ?_
        show own_End p e below s (s₁.setTop (mkF m 100 #[.val (.int p0)] [])) _ _ _
        exact J8 ng0 ng1 ng2 ng3 ng4 ng5 ng6 (fun hh => by omega)
      · skip
        refine own_go (fun t k => XS.icmpYes X0.here hx rfl (pc0 := 97) (pc' := 191) rfl (hb hby d1_97) rfl (own_flt (x := (8191 : Int32)) (y := p0) (i := 8191) (j := p0.toInt) rfl rfl c97_16).2.2.2 (by decide) (by decide) k) ?_
        show own_End p e below s (s₁.setTop (mkF m 191 #[.val (.int p0)] [])) _ _ _
        refine own_go (fun t k => XS.iconst X0.here hx rfl (hb hby d1_191) k) ?_
        show own_End p e below s (s₁.setTop (mkF m 192 #[.val (.int p0)] [(.int (1 : Int32))])) _ _ _
        refine own_go (fun t k => XS.goto X0.here hx rfl (pc0 := 192) (pc' := 196) rfl (hb hby d1_192) (by decide) (by decide) k) ?_
        show own_End p e below s (s₁.setTop (mkF m 196 #[.val (.int p0)] [(.int (1 : Int32))])) _ _ _
        refine own_ret X0 (v := some (.int (1 : Int32))) (fun h => by rw [Bd.returns] at h; cases h) Bd.notSynchronized (fun fs hr => retN X0 hx (t := .boolean) Bd.returns (by simp) (hb hby d1_196) hr) ?_ (by decide) (by decide)
        · rw [e0]; exact ⟨⟨_, rfl, Or.inl ⟨rfl, Or.inr (Or.inr (Or.inr (Or.inr (Or.inr (Or.inr (Or.inr (Or.inl (And.intro (by omega) (by omega)))))))))⟩⟩, N0, rfl⟩
  have J6 : ∀ (ng0 : ¬ (65 ≤ p0.toInt ∧ p0.toInt ≤ 90)) (ng1 : ¬ p0.toInt = 95) (ng2 : ¬ (97 ≤ p0.toInt ∧ p0.toInt ≤ 122)) (ng3 : ¬ (192 ≤ p0.toInt ∧ p0.toInt ≤ 214)) (ng4 : ¬ (216 ≤ p0.toInt ∧ p0.toInt ≤ 246)) (ng5 : ¬ (248 ≤ p0.toInt ∧ p0.toInt ≤ 767)), own_End p e below s (s₁.setTop (mkF m 72 #[.val (.int p0)] [])) (Q_rm2 Z p0  h0 n0) ({ frames := 0, cells := 0, slots := 0, locals := 0 } : Room).cells ({ frames := 0, cells := 0, slots := 0, locals := 0 } : Room).slots := by
    intro ng0 ng1 ng2 ng3 ng4 ng5
    show own_End p e below s (s₁.setTop (mkF m 72 #[.val (.int p0)] [])) _ _ _
    refine own_go (fun t k => XS.iloadN X0.here hx rfl (hb hby d1_72) rfl k) ?_
    show own_End p e below s (s₁.setTop (mkF m 73 #[.val (.int p0)] [(.int p0)])) _ _ _
    refine own_go (fun t k => XS.sipush X0.here hx rfl (hb hby d1_73) k) ?_
    show own_End p e below s (s₁.setTop (mkF m 76 #[.val (.int p0)] [(.int (880 : Int32)), (.int p0)])) _ _ _
    by_cases c76_17 : p0.toInt < 880
    · skip
      refine own_go (fun t k => XS.icmpYes X0.here hx rfl (pc0 := 76) (pc' := 86) rfl (hb hby d1_76) rfl (own_tlt (x := p0) (y := (880 : Int32)) (i := p0.toInt) (j := 880) rfl rfl c76_17).1 (by decide) (by decide) k) ?_
      show own_End p e below s (s₁.setTop (mkF m 86 #[.val (.int p0)] [])) _ _ _
      exact J7 ng0 ng1 ng2 ng3 ng4 ng5 (fun hh => by omega)
    · skip
      refine own_go (fun t k => XS.icmpNo X0.here hx rfl (hb hby d1_76) rfl (own_flt (x := p0) (y := (880 : Int32)) (i := p0.toInt) (j := 880) rfl rfl c76_17).1 k) ?_
      show own_End p e below s (s₁.setTop (mkF m 79 #[.val (.int p0)] [])) _ _ _
      refine own_go (fun t k => XS.iloadN X0.here hx rfl (hb hby d1_79) rfl k) ?_
      show own_End p e below s (s₁.setTop (mkF m 80 #[.val (.int p0)] [(.int p0)])) _ _ _
      refine own_go (fun t k => XS.sipush X0.here hx rfl (hb hby d1_80) k) ?_
      show own_End p e below s (s₁.setTop (mkF m 83 #[.val (.int p0)] [(.int (893 : Int32)), (.int p0)])) _ _ _
      by_cases c83_18 : 893 < p0.toInt
      · skip
        refine own_go (fun t k => XS.icmpNo X0.here hx rfl (hb hby d1_83) rfl (own_tlt (x := (893 : Int32)) (y := p0) (i := 893) (j := p0.toInt) rfl rfl c83_18).2.2.2 k) ?_
        show own_End p e below s (s₁.setTop (mkF m 86 #[.val (.int p0)] [])) _ _ _
        exact J7 ng0 ng1 ng2 ng3 ng4 ng5 (fun hh => by omega)
      · skip
        refine own_go (fun t k => XS.icmpYes X0.here hx rfl (pc0 := 83) (pc' := 191) rfl (hb hby d1_83) rfl (own_flt (x := (893 : Int32)) (y := p0) (i := 893) (j := p0.toInt) rfl rfl c83_18).2.2.2 (by decide) (by decide) k) ?_
        show own_End p e below s (s₁.setTop (mkF m 191 #[.val (.int p0)] [])) _ _ _
        refine own_go (fun t k => XS.iconst X0.here hx rfl (hb hby d1_191) k) ?_
        show own_End p e below s (s₁.setTop (mkF m 192 #[.val (.int p0)] [(.int (1 : Int32))])) _ _ _
        refine own_go (fun t k => XS.goto X0.here hx rfl (pc0 := 192) (pc' := 196) rfl (hb hby d1_192) (by decide) (by decide) k) ?_
        show own_End p e below s (s₁.setTop (mkF m 196 #[.val (.int p0)] [(.int (1 : Int32))])) _ _ _
        refine own_ret X0 (v := some (.int (1 : Int32))) (fun h => by rw [Bd.returns] at h; cases h) Bd.notSynchronized (fun fs hr => retN X0 hx (t := .boolean) Bd.returns (by simp) (hb hby d1_196) hr) ?_ (by decide) (by decide)
        · rw [e0]; exact ⟨⟨_, rfl, Or.inl ⟨rfl, Or.inr (Or.inr (Or.inr (Or.inr (Or.inr (Or.inr (Or.inl (And.intro (by omega) (by omega))))))))⟩⟩, N0, rfl⟩
  have J5 : ∀ (ng0 : ¬ (65 ≤ p0.toInt ∧ p0.toInt ≤ 90)) (ng1 : ¬ p0.toInt = 95) (ng2 : ¬ (97 ≤ p0.toInt ∧ p0.toInt ≤ 122)) (ng3 : ¬ (192 ≤ p0.toInt ∧ p0.toInt ≤ 214)) (ng4 : ¬ (216 ≤ p0.toInt ∧ p0.toInt ≤ 246)), own_End p e below s (s₁.setTop (mkF m 58 #[.val (.int p0)] [])) (Q_rm2 Z p0  h0 n0) ({ frames := 0, cells := 0, slots := 0, locals := 0 } : Room).cells ({ frames := 0, cells := 0, slots := 0, locals := 0 } : Room).slots := by
    intro ng0 ng1 ng2 ng3 ng4
    show own_End p e below s (s₁.setTop (mkF m 58 #[.val (.int p0)] [])) _ _ _
    refine own_go (fun t k => XS.iloadN X0.here hx rfl (hb hby d1_58) rfl k) ?_
    show own_End p e below s (s₁.setTop (mkF m 59 #[.val (.int p0)] [(.int p0)])) _ _ _
    refine own_go (fun t k => XS.sipush X0.here hx rfl (hb hby d1_59) k) ?_
    show own_End p e below s (s₁.setTop (mkF m 62 #[.val (.int p0)] [(.int (248 : Int32)), (.int p0)])) _ _ _
    by_cases c62_19 : p0.toInt < 248
    · skip
      refine own_go (fun t k => XS.icmpYes X0.here hx rfl (pc0 := 62) (pc' := 72) rfl (hb hby d1_62) rfl (own_tlt (x := p0) (y := (248 : Int32)) (i := p0.toInt) (j := 248) rfl rfl c62_19).1 (by decide) (by decide) k) ?_
      show own_End p e below s (s₁.setTop (mkF m 72 #[.val (.int p0)] [])) _ _ _
      exact J6 ng0 ng1 ng2 ng3 ng4 (fun hh => by omega)
    · skip
      refine own_go (fun t k => XS.icmpNo X0.here hx rfl (hb hby d1_62) rfl (own_flt (x := p0) (y := (248 : Int32)) (i := p0.toInt) (j := 248) rfl rfl c62_19).1 k) ?_
      show own_End p e below s (s₁.setTop (mkF m 65 #[.val (.int p0)] [])) _ _ _
      refine own_go (fun t k => XS.iloadN X0.here hx rfl (hb hby d1_65) rfl k) ?_
      show own_End p e below s (s₁.setTop (mkF m 66 #[.val (.int p0)] [(.int p0)])) _ _ _
      refine own_go (fun t k => XS.sipush X0.here hx rfl (hb hby d1_66) k) ?_
      show own_End p e below s (s₁.setTop (mkF m 69 #[.val (.int p0)] [(.int (767 : Int32)), (.int p0)])) _ _ _
      by_cases c69_20 : 767 < p0.toInt
      · skip
        refine own_go (fun t k => XS.icmpNo X0.here hx rfl (hb hby d1_69) rfl (own_tlt (x := (767 : Int32)) (y := p0) (i := 767) (j := p0.toInt) rfl rfl c69_20).2.2.2 k) ?_
        show own_End p e below s (s₁.setTop (mkF m 72 #[.val (.int p0)] [])) _ _ _
        exact J6 ng0 ng1 ng2 ng3 ng4 (fun hh => by omega)
      · skip
        refine own_go (fun t k => XS.icmpYes X0.here hx rfl (pc0 := 69) (pc' := 191) rfl (hb hby d1_69) rfl (own_flt (x := (767 : Int32)) (y := p0) (i := 767) (j := p0.toInt) rfl rfl c69_20).2.2.2 (by decide) (by decide) k) ?_
        show own_End p e below s (s₁.setTop (mkF m 191 #[.val (.int p0)] [])) _ _ _
        refine own_go (fun t k => XS.iconst X0.here hx rfl (hb hby d1_191) k) ?_
        show own_End p e below s (s₁.setTop (mkF m 192 #[.val (.int p0)] [(.int (1 : Int32))])) _ _ _
        refine own_go (fun t k => XS.goto X0.here hx rfl (pc0 := 192) (pc' := 196) rfl (hb hby d1_192) (by decide) (by decide) k) ?_
        show own_End p e below s (s₁.setTop (mkF m 196 #[.val (.int p0)] [(.int (1 : Int32))])) _ _ _
        refine own_ret X0 (v := some (.int (1 : Int32))) (fun h => by rw [Bd.returns] at h; cases h) Bd.notSynchronized (fun fs hr => retN X0 hx (t := .boolean) Bd.returns (by simp) (hb hby d1_196) hr) ?_ (by decide) (by decide)
        · rw [e0]; exact ⟨⟨_, rfl, Or.inl ⟨rfl, Or.inr (Or.inr (Or.inr (Or.inr (Or.inr (Or.inl (And.intro (by omega) (by omega)))))))⟩⟩, N0, rfl⟩
  have J4 : ∀ (ng0 : ¬ (65 ≤ p0.toInt ∧ p0.toInt ≤ 90)) (ng1 : ¬ p0.toInt = 95) (ng2 : ¬ (97 ≤ p0.toInt ∧ p0.toInt ≤ 122)) (ng3 : ¬ (192 ≤ p0.toInt ∧ p0.toInt ≤ 214)), own_End p e below s (s₁.setTop (mkF m 44 #[.val (.int p0)] [])) (Q_rm2 Z p0  h0 n0) ({ frames := 0, cells := 0, slots := 0, locals := 0 } : Room).cells ({ frames := 0, cells := 0, slots := 0, locals := 0 } : Room).slots := by
    intro ng0 ng1 ng2 ng3
    show own_End p e below s (s₁.setTop (mkF m 44 #[.val (.int p0)] [])) _ _ _
    refine own_go (fun t k => XS.iloadN X0.here hx rfl (hb hby d1_44) rfl k) ?_
    show own_End p e below s (s₁.setTop (mkF m 45 #[.val (.int p0)] [(.int p0)])) _ _ _
    refine own_go (fun t k => XS.sipush X0.here hx rfl (hb hby d1_45) k) ?_
    show own_End p e below s (s₁.setTop (mkF m 48 #[.val (.int p0)] [(.int (216 : Int32)), (.int p0)])) _ _ _
    by_cases c48_21 : p0.toInt < 216
    · skip
      refine own_go (fun t k => XS.icmpYes X0.here hx rfl (pc0 := 48) (pc' := 58) rfl (hb hby d1_48) rfl (own_tlt (x := p0) (y := (216 : Int32)) (i := p0.toInt) (j := 216) rfl rfl c48_21).1 (by decide) (by decide) k) ?_
      show own_End p e below s (s₁.setTop (mkF m 58 #[.val (.int p0)] [])) _ _ _
      exact J5 ng0 ng1 ng2 ng3 (fun hh => by omega)
    · skip
      refine own_go (fun t k => XS.icmpNo X0.here hx rfl (hb hby d1_48) rfl (own_flt (x := p0) (y := (216 : Int32)) (i := p0.toInt) (j := 216) rfl rfl c48_21).1 k) ?_
      show own_End p e below s (s₁.setTop (mkF m 51 #[.val (.int p0)] [])) _ _ _
      refine own_go (fun t k => XS.iloadN X0.here hx rfl (hb hby d1_51) rfl k) ?_
      show own_End p e below s (s₁.setTop (mkF m 52 #[.val (.int p0)] [(.int p0)])) _ _ _
      refine own_go (fun t k => XS.sipush X0.here hx rfl (hb hby d1_52) k) ?_
      show own_End p e below s (s₁.setTop (mkF m 55 #[.val (.int p0)] [(.int (246 : Int32)), (.int p0)])) _ _ _
      by_cases c55_22 : 246 < p0.toInt
      · skip
        refine own_go (fun t k => XS.icmpNo X0.here hx rfl (hb hby d1_55) rfl (own_tlt (x := (246 : Int32)) (y := p0) (i := 246) (j := p0.toInt) rfl rfl c55_22).2.2.2 k) ?_
        show own_End p e below s (s₁.setTop (mkF m 58 #[.val (.int p0)] [])) _ _ _
        exact J5 ng0 ng1 ng2 ng3 (fun hh => by omega)
      · skip
        refine own_go (fun t k => XS.icmpYes X0.here hx rfl (pc0 := 55) (pc' := 191) rfl (hb hby d1_55) rfl (own_flt (x := (246 : Int32)) (y := p0) (i := 246) (j := p0.toInt) rfl rfl c55_22).2.2.2 (by decide) (by decide) k) ?_
        show own_End p e below s (s₁.setTop (mkF m 191 #[.val (.int p0)] [])) _ _ _
        refine own_go (fun t k => XS.iconst X0.here hx rfl (hb hby d1_191) k) ?_
        show own_End p e below s (s₁.setTop (mkF m 192 #[.val (.int p0)] [(.int (1 : Int32))])) _ _ _
        refine own_go (fun t k => XS.goto X0.here hx rfl (pc0 := 192) (pc' := 196) rfl (hb hby d1_192) (by decide) (by decide) k) ?_
        show own_End p e below s (s₁.setTop (mkF m 196 #[.val (.int p0)] [(.int (1 : Int32))])) _ _ _
        refine own_ret X0 (v := some (.int (1 : Int32))) (fun h => by rw [Bd.returns] at h; cases h) Bd.notSynchronized (fun fs hr => retN X0 hx (t := .boolean) Bd.returns (by simp) (hb hby d1_196) hr) ?_ (by decide) (by decide)
        · rw [e0]; exact ⟨⟨_, rfl, Or.inl ⟨rfl, Or.inr (Or.inr (Or.inr (Or.inr (Or.inl (And.intro (by omega) (by omega))))))⟩⟩, N0, rfl⟩
  have J3 : ∀ (ng0 : ¬ (65 ≤ p0.toInt ∧ p0.toInt ≤ 90)) (ng1 : ¬ p0.toInt = 95) (ng2 : ¬ (97 ≤ p0.toInt ∧ p0.toInt ≤ 122)), own_End p e below s (s₁.setTop (mkF m 30 #[.val (.int p0)] [])) (Q_rm2 Z p0  h0 n0) ({ frames := 0, cells := 0, slots := 0, locals := 0 } : Room).cells ({ frames := 0, cells := 0, slots := 0, locals := 0 } : Room).slots := by
    intro ng0 ng1 ng2
    show own_End p e below s (s₁.setTop (mkF m 30 #[.val (.int p0)] [])) _ _ _
    refine own_go (fun t k => XS.iloadN X0.here hx rfl (hb hby d1_30) rfl k) ?_
    show own_End p e below s (s₁.setTop (mkF m 31 #[.val (.int p0)] [(.int p0)])) _ _ _
    refine own_go (fun t k => XS.sipush X0.here hx rfl (hb hby d1_31) k) ?_
    show own_End p e below s (s₁.setTop (mkF m 34 #[.val (.int p0)] [(.int (192 : Int32)), (.int p0)])) _ _ _
    by_cases c34_23 : p0.toInt < 192
    · skip
      refine own_go (fun t k => XS.icmpYes X0.here hx rfl (pc0 := 34) (pc' := 44) rfl (hb hby d1_34) rfl (own_tlt (x := p0) (y := (192 : Int32)) (i := p0.toInt) (j := 192) rfl rfl c34_23).1 (by decide) (by decide) k) ?_
      show own_End p e below s (s₁.setTop (mkF m 44 #[.val (.int p0)] [])) _ _ _
      exact J4 ng0 ng1 ng2 (fun hh => by omega)
    · skip
      refine own_go (fun t k => XS.icmpNo X0.here hx rfl (hb hby d1_34) rfl (own_flt (x := p0) (y := (192 : Int32)) (i := p0.toInt) (j := 192) rfl rfl c34_23).1 k) ?_
      show own_End p e below s (s₁.setTop (mkF m 37 #[.val (.int p0)] [])) _ _ _
      refine own_go (fun t k => XS.iloadN X0.here hx rfl (hb hby d1_37) rfl k) ?_
      show own_End p e below s (s₁.setTop (mkF m 38 #[.val (.int p0)] [(.int p0)])) _ _ _
      refine own_go (fun t k => XS.sipush X0.here hx rfl (hb hby d1_38) k) ?_
      show own_End p e below s (s₁.setTop (mkF m 41 #[.val (.int p0)] [(.int (214 : Int32)), (.int p0)])) _ _ _
      by_cases c41_24 : 214 < p0.toInt
      · skip
        refine own_go (fun t k => XS.icmpNo X0.here hx rfl (hb hby d1_41) rfl (own_tlt (x := (214 : Int32)) (y := p0) (i := 214) (j := p0.toInt) rfl rfl c41_24).2.2.2 k) ?_
        show own_End p e below s (s₁.setTop (mkF m 44 #[.val (.int p0)] [])) _ _ _
        exact J4 ng0 ng1 ng2 (fun hh => by omega)
      · skip
        refine own_go (fun t k => XS.icmpYes X0.here hx rfl (pc0 := 41) (pc' := 191) rfl (hb hby d1_41) rfl (own_flt (x := (214 : Int32)) (y := p0) (i := 214) (j := p0.toInt) rfl rfl c41_24).2.2.2 (by decide) (by decide) k) ?_
        show own_End p e below s (s₁.setTop (mkF m 191 #[.val (.int p0)] [])) _ _ _
        refine own_go (fun t k => XS.iconst X0.here hx rfl (hb hby d1_191) k) ?_
        show own_End p e below s (s₁.setTop (mkF m 192 #[.val (.int p0)] [(.int (1 : Int32))])) _ _ _
        refine own_go (fun t k => XS.goto X0.here hx rfl (pc0 := 192) (pc' := 196) rfl (hb hby d1_192) (by decide) (by decide) k) ?_
        show own_End p e below s (s₁.setTop (mkF m 196 #[.val (.int p0)] [(.int (1 : Int32))])) _ _ _
        refine own_ret X0 (v := some (.int (1 : Int32))) (fun h => by rw [Bd.returns] at h; cases h) Bd.notSynchronized (fun fs hr => retN X0 hx (t := .boolean) Bd.returns (by simp) (hb hby d1_196) hr) ?_ (by decide) (by decide)
        · rw [e0]; exact ⟨⟨_, rfl, Or.inl ⟨rfl, Or.inr (Or.inr (Or.inr (Or.inl (And.intro (by omega) (by omega)))))⟩⟩, N0, rfl⟩
  have J2 : ∀ (ng0 : ¬ (65 ≤ p0.toInt ∧ p0.toInt ≤ 90)) (ng1 : ¬ p0.toInt = 95), own_End p e below s (s₁.setTop (mkF m 18 #[.val (.int p0)] [])) (Q_rm2 Z p0  h0 n0) ({ frames := 0, cells := 0, slots := 0, locals := 0 } : Room).cells ({ frames := 0, cells := 0, slots := 0, locals := 0 } : Room).slots := by
    intro ng0 ng1
    show own_End p e below s (s₁.setTop (mkF m 18 #[.val (.int p0)] [])) _ _ _
    refine own_go (fun t k => XS.iloadN X0.here hx rfl (hb hby d1_18) rfl k) ?_
    show own_End p e below s (s₁.setTop (mkF m 19 #[.val (.int p0)] [(.int p0)])) _ _ _
    refine own_go (fun t k => XS.bipush X0.here hx rfl (hb hby d1_19) k) ?_
    show own_End p e below s (s₁.setTop (mkF m 21 #[.val (.int p0)] [(.int (97 : Int32)), (.int p0)])) _ _ _
    by_cases c21_25 : p0.toInt < 97
    · skip
      refine own_go (fun t k => XS.icmpYes X0.here hx rfl (pc0 := 21) (pc' := 30) rfl (hb hby d1_21) rfl (own_tlt (x := p0) (y := (97 : Int32)) (i := p0.toInt) (j := 97) rfl rfl c21_25).1 (by decide) (by decide) k) ?_
      show own_End p e below s (s₁.setTop (mkF m 30 #[.val (.int p0)] [])) _ _ _
      exact J3 ng0 ng1 (fun hh => by omega)
    · skip
      refine own_go (fun t k => XS.icmpNo X0.here hx rfl (hb hby d1_21) rfl (own_flt (x := p0) (y := (97 : Int32)) (i := p0.toInt) (j := 97) rfl rfl c21_25).1 k) ?_
      show own_End p e below s (s₁.setTop (mkF m 24 #[.val (.int p0)] [])) _ _ _
      refine own_go (fun t k => XS.iloadN X0.here hx rfl (hb hby d1_24) rfl k) ?_
      show own_End p e below s (s₁.setTop (mkF m 25 #[.val (.int p0)] [(.int p0)])) _ _ _
      refine own_go (fun t k => XS.bipush X0.here hx rfl (hb hby d1_25) k) ?_
      show own_End p e below s (s₁.setTop (mkF m 27 #[.val (.int p0)] [(.int (122 : Int32)), (.int p0)])) _ _ _
      by_cases c27_26 : 122 < p0.toInt
      · skip
        refine own_go (fun t k => XS.icmpNo X0.here hx rfl (hb hby d1_27) rfl (own_tlt (x := (122 : Int32)) (y := p0) (i := 122) (j := p0.toInt) rfl rfl c27_26).2.2.2 k) ?_
        show own_End p e below s (s₁.setTop (mkF m 30 #[.val (.int p0)] [])) _ _ _
        exact J3 ng0 ng1 (fun hh => by omega)
      · skip
        refine own_go (fun t k => XS.icmpYes X0.here hx rfl (pc0 := 27) (pc' := 191) rfl (hb hby d1_27) rfl (own_flt (x := (122 : Int32)) (y := p0) (i := 122) (j := p0.toInt) rfl rfl c27_26).2.2.2 (by decide) (by decide) k) ?_
        show own_End p e below s (s₁.setTop (mkF m 191 #[.val (.int p0)] [])) _ _ _
        refine own_go (fun t k => XS.iconst X0.here hx rfl (hb hby d1_191) k) ?_
        show own_End p e below s (s₁.setTop (mkF m 192 #[.val (.int p0)] [(.int (1 : Int32))])) _ _ _
        refine own_go (fun t k => XS.goto X0.here hx rfl (pc0 := 192) (pc' := 196) rfl (hb hby d1_192) (by decide) (by decide) k) ?_
        show own_End p e below s (s₁.setTop (mkF m 196 #[.val (.int p0)] [(.int (1 : Int32))])) _ _ _
        refine own_ret X0 (v := some (.int (1 : Int32))) (fun h => by rw [Bd.returns] at h; cases h) Bd.notSynchronized (fun fs hr => retN X0 hx (t := .boolean) Bd.returns (by simp) (hb hby d1_196) hr) ?_ (by decide) (by decide)
        · rw [e0]; exact ⟨⟨_, rfl, Or.inl ⟨rfl, Or.inr (Or.inr (Or.inl (And.intro (by omega) (by omega))))⟩⟩, N0, rfl⟩
  have J1 : ∀ (ng0 : ¬ (65 ≤ p0.toInt ∧ p0.toInt ≤ 90)), own_End p e below s (s₁.setTop (mkF m 12 #[.val (.int p0)] [])) (Q_rm2 Z p0  h0 n0) ({ frames := 0, cells := 0, slots := 0, locals := 0 } : Room).cells ({ frames := 0, cells := 0, slots := 0, locals := 0 } : Room).slots := by
    intro ng0
    show own_End p e below s (s₁.setTop (mkF m 12 #[.val (.int p0)] [])) _ _ _
    refine own_go (fun t k => XS.iloadN X0.here hx rfl (hb hby d1_12) rfl k) ?_
    show own_End p e below s (s₁.setTop (mkF m 13 #[.val (.int p0)] [(.int p0)])) _ _ _
    refine own_go (fun t k => XS.bipush X0.here hx rfl (hb hby d1_13) k) ?_
    show own_End p e below s (s₁.setTop (mkF m 15 #[.val (.int p0)] [(.int (95 : Int32)), (.int p0)])) _ _ _
    by_cases c15_27 : p0.toInt = 95
    · skip
      refine own_go (fun t k => XS.icmpYes X0.here hx rfl (pc0 := 15) (pc' := 191) rfl (hb hby d1_15) rfl (own_eq (x := p0) (y := (95 : Int32)) (i := p0.toInt) (j := 95) rfl rfl c15_27).1 (by decide) (by decide) k) ?_
      show own_End p e below s (s₁.setTop (mkF m 191 #[.val (.int p0)] [])) _ _ _
      refine own_go (fun t k => XS.iconst X0.here hx rfl (hb hby d1_191) k) ?_
      show own_End p e below s (s₁.setTop (mkF m 192 #[.val (.int p0)] [(.int (1 : Int32))])) _ _ _
      refine own_go (fun t k => XS.goto X0.here hx rfl (pc0 := 192) (pc' := 196) rfl (hb hby d1_192) (by decide) (by decide) k) ?_
      show own_End p e below s (s₁.setTop (mkF m 196 #[.val (.int p0)] [(.int (1 : Int32))])) _ _ _
      refine own_ret X0 (v := some (.int (1 : Int32))) (fun h => by rw [Bd.returns] at h; cases h) Bd.notSynchronized (fun fs hr => retN X0 hx (t := .boolean) Bd.returns (by simp) (hb hby d1_196) hr) ?_ (by decide) (by decide)
      · rw [e0]; exact ⟨⟨_, rfl, Or.inl ⟨rfl, Or.inr (Or.inl (by omega))⟩⟩, N0, rfl⟩
    · skip
      refine own_go (fun t k => XS.icmpNo X0.here hx rfl (hb hby d1_15) rfl (own_ne (x := p0) (y := (95 : Int32)) (i := p0.toInt) (j := 95) rfl rfl c15_27).1 k) ?_
      show own_End p e below s (s₁.setTop (mkF m 18 #[.val (.int p0)] [])) _ _ _
      exact J2 ng0 (fun hh => by omega)
  refine own_go (fun t k => XS.iloadN X0.here hx rfl (hb hby d1_0) rfl k) ?_
  show own_End p e below s (s₁.setTop (mkF m 1 #[.val (.int p0)] [(.int p0)])) _ _ _
  refine own_go (fun t k => XS.bipush X0.here hx rfl (hb hby d1_1) k) ?_
  show own_End p e below s (s₁.setTop (mkF m 3 #[.val (.int p0)] [(.int (65 : Int32)), (.int p0)])) _ _ _
  by_cases c3_28 : p0.toInt < 65
  · skip
    refine own_go (fun t k => XS.icmpYes X0.here hx rfl (pc0 := 3) (pc' := 12) rfl (hb hby d1_3) rfl (own_tlt (x := p0) (y := (65 : Int32)) (i := p0.toInt) (j := 65) rfl rfl c3_28).1 (by decide) (by decide) k) ?_
    show own_End p e below s (s₁.setTop (mkF m 12 #[.val (.int p0)] [])) _ _ _
    exact J1  (fun hh => by omega)
  · skip
    refine own_go (fun t k => XS.icmpNo X0.here hx rfl (hb hby d1_3) rfl (own_flt (x := p0) (y := (65 : Int32)) (i := p0.toInt) (j := 65) rfl rfl c3_28).1 k) ?_
    show own_End p e below s (s₁.setTop (mkF m 6 #[.val (.int p0)] [])) _ _ _
    refine own_go (fun t k => XS.iloadN X0.here hx rfl (hb hby d1_6) rfl k) ?_
    show own_End p e below s (s₁.setTop (mkF m 7 #[.val (.int p0)] [(.int p0)])) _ _ _
    refine own_go (fun t k => XS.bipush X0.here hx rfl (hb hby d1_7) k) ?_
    show own_End p e below s (s₁.setTop (mkF m 9 #[.val (.int p0)] [(.int (90 : Int32)), (.int p0)])) _ _ _
    by_cases c9_29 : 90 < p0.toInt
    · skip
      refine own_go (fun t k => XS.icmpNo X0.here hx rfl (hb hby d1_9) rfl (own_tlt (x := (90 : Int32)) (y := p0) (i := 90) (j := p0.toInt) rfl rfl c9_29).2.2.2 k) ?_
      show own_End p e below s (s₁.setTop (mkF m 12 #[.val (.int p0)] [])) _ _ _
      exact J1  (fun hh => by omega)
    · skip
      refine own_go (fun t k => XS.icmpYes X0.here hx rfl (pc0 := 9) (pc' := 191) rfl (hb hby d1_9) rfl (own_flt (x := (90 : Int32)) (y := p0) (i := 90) (j := p0.toInt) rfl rfl c9_29).2.2.2 (by decide) (by decide) k) ?_
      show own_End p e below s (s₁.setTop (mkF m 191 #[.val (.int p0)] [])) _ _ _
      refine own_go (fun t k => XS.iconst X0.here hx rfl (hb hby d1_191) k) ?_
      show own_End p e below s (s₁.setTop (mkF m 192 #[.val (.int p0)] [(.int (1 : Int32))])) _ _ _
      refine own_go (fun t k => XS.goto X0.here hx rfl (pc0 := 192) (pc' := 196) rfl (hb hby d1_192) (by decide) (by decide) k) ?_
      show own_End p e below s (s₁.setTop (mkF m 196 #[.val (.int p0)] [(.int (1 : Int32))])) _ _ _
      refine own_ret X0 (v := some (.int (1 : Int32))) (fun h => by rw [Bd.returns] at h; cases h) Bd.notSynchronized (fun fs hr => retN X0 hx (t := .boolean) Bd.returns (by simp) (hb hby d1_196) hr) ?_ (by decide) (by decide)
      · rw [e0]; exact ⟨⟨_, rfl, Or.inl ⟨rfl, Or.inl (And.intro (by omega) (by omega))⟩⟩, N0, rfl⟩
theorem own_ef2_rm3 (m : MethodId) (p0 : Int32) : entryFrame m #[(.int p0)] 1 = mkF m 0 #[.val (.int p0)] [] := by first | (simp [entryFrame, mkF, argsToLocals, Value.category]; done) | rfl
def Q_rm3 (Z : State) (p0 : Int32)  (h0 : Heap) (n0 : Nat) (v : Option Value) (h : Heap) (L : List Loc) : Prop := (∃ z, v = some (.int z) ∧ (z.toInt = 1 ∧ own_Ref p0.toInt ∨ z.toInt = 0 ∧ ¬ own_Ref p0.toInt)) ∧ Fr n0 L ∧ h = h0
theorem d2_0 : decode method_3_code 0 = .ok (.iload_n 0, 1) := by decide +kernel
theorem d2_1 : decode method_3_code 1 = .ok (.bipush 65, 2) := by decide +kernel
theorem d2_3 : decode method_3_code 3 = .ok (.ldc 7, 2) := by decide +kernel
theorem d2_5 : decode method_3_code 5 = .ok (.invokestatic 8, 3) := by decide +kernel
theorem own_pd0 : parseMethodDescriptor "(III)Z" = some ⟨[.int, .int, .int], some .boolean⟩ := by decide +kernel
theorem d2_8 : decode method_3_code 8 = .ok (.ifCond .ne 5, 3) := by decide +kernel
theorem d2_13 : decode method_3_code 13 = .ok (.iload_n 0, 1) := by decide +kernel
theorem d2_14 : decode method_3_code 14 = .ok (.bipush 91, 2) := by decide +kernel
theorem d2_16 : decode method_3_code 16 = .ok (.bipush 94, 2) := by decide +kernel
theorem d2_18 : decode method_3_code 18 = .ok (.invokestatic 8, 3) := by decide +kernel
theorem d2_21 : decode method_3_code 21 = .ok (.ifCond .ne 35, 3) := by decide +kernel
theorem d2_56 : decode method_3_code 56 = .ok (.iconst 0, 1) := by decide +kernel
theorem d2_57 : decode method_3_code 57 = .ok (.ireturn, 1) := by decide +kernel
theorem d2_24 : decode method_3_code 24 = .ok (.iload_n 0, 1) := by decide +kernel
theorem d2_25 : decode method_3_code 25 = .ok (.bipush 96, 2) := by decide +kernel
theorem d2_27 : decode method_3_code 27 = .ok (.if_icmp .eq 29, 3) := by decide +kernel
theorem d2_30 : decode method_3_code 30 = .ok (.iload_n 0, 1) := by decide +kernel
theorem d2_31 : decode method_3_code 31 = .ok (.bipush 123, 2) := by decide +kernel
theorem d2_33 : decode method_3_code 33 = .ok (.sipush 191, 3) := by decide +kernel
theorem d2_36 : decode method_3_code 36 = .ok (.invokestatic 8, 3) := by decide +kernel
theorem d2_39 : decode method_3_code 39 = .ok (.ifCond .ne 17, 3) := by decide +kernel
theorem d2_42 : decode method_3_code 42 = .ok (.iload_n 0, 1) := by decide +kernel
theorem d2_43 : decode method_3_code 43 = .ok (.sipush 215, 3) := by decide +kernel
theorem d2_46 : decode method_3_code 46 = .ok (.if_icmp .eq 10, 3) := by decide +kernel
theorem d2_49 : decode method_3_code 49 = .ok (.iload_n 0, 1) := by decide +kernel
theorem d2_50 : decode method_3_code 50 = .ok (.sipush 247, 3) := by decide +kernel
theorem d2_53 : decode method_3_code 53 = .ok (.if_icmp .ne 5, 3) := by decide +kernel
theorem d2_58 : decode method_3_code 58 = .ok (.iload_n 0, 1) := by decide +kernel
theorem d2_59 : decode method_3_code 59 = .ok (.sipush 768, 3) := by decide +kernel
theorem d2_62 : decode method_3_code 62 = .ok (.sipush 879, 3) := by decide +kernel
theorem d2_65 : decode method_3_code 65 = .ok (.invokestatic 8, 3) := by decide +kernel
theorem d2_68 : decode method_3_code 68 = .ok (.ifCond .ne 10, 3) := by decide +kernel
theorem d2_78 : decode method_3_code 78 = .ok (.iconst 0, 1) := by decide +kernel
theorem d2_79 : decode method_3_code 79 = .ok (.ireturn, 1) := by decide +kernel
theorem d2_71 : decode method_3_code 71 = .ok (.iload_n 0, 1) := by decide +kernel
theorem d2_72 : decode method_3_code 72 = .ok (.sipush 894, 3) := by decide +kernel
theorem d2_75 : decode method_3_code 75 = .ok (.if_icmp .ne 5, 3) := by decide +kernel
theorem d2_80 : decode method_3_code 80 = .ok (.iload_n 0, 1) := by decide +kernel
theorem d2_81 : decode method_3_code 81 = .ok (.sipush 8192, 3) := by decide +kernel
theorem d2_84 : decode method_3_code 84 = .ok (.sipush 8203, 3) := by decide +kernel
theorem d2_87 : decode method_3_code 87 = .ok (.invokestatic 8, 3) := by decide +kernel
theorem d2_90 : decode method_3_code 90 = .ok (.ifCond .ne 42, 3) := by decide +kernel
theorem d2_132 : decode method_3_code 132 = .ok (.iconst 0, 1) := by decide +kernel
theorem d2_133 : decode method_3_code 133 = .ok (.ireturn, 1) := by decide +kernel
theorem d2_93 : decode method_3_code 93 = .ok (.iload_n 0, 1) := by decide +kernel
theorem d2_94 : decode method_3_code 94 = .ok (.sipush 8206, 3) := by decide +kernel
theorem d2_97 : decode method_3_code 97 = .ok (.sipush 8303, 3) := by decide +kernel
theorem d2_100 : decode method_3_code 100 = .ok (.invokestatic 8, 3) := by decide +kernel
theorem d2_103 : decode method_3_code 103 = .ok (.ifCond .ne 29, 3) := by decide +kernel
theorem d2_106 : decode method_3_code 106 = .ok (.iload_n 0, 1) := by decide +kernel
theorem d2_107 : decode method_3_code 107 = .ok (.sipush 8592, 3) := by decide +kernel
theorem d2_110 : decode method_3_code 110 = .ok (.sipush 11263, 3) := by decide +kernel
theorem d2_113 : decode method_3_code 113 = .ok (.invokestatic 8, 3) := by decide +kernel
theorem d2_116 : decode method_3_code 116 = .ok (.ifCond .ne 16, 3) := by decide +kernel
theorem d2_119 : decode method_3_code 119 = .ok (.iload_n 0, 1) := by decide +kernel
theorem d2_120 : decode method_3_code 120 = .ok (.sipush 12272, 3) := by decide +kernel
theorem d2_123 : decode method_3_code 123 = .ok (.sipush 12288, 3) := by decide +kernel
theorem d2_126 : decode method_3_code 126 = .ok (.invokestatic 8, 3) := by decide +kernel
theorem d2_129 : decode method_3_code 129 = .ok (.ifCond .eq 5, 3) := by decide +kernel
theorem d2_134 : decode method_3_code 134 = .ok (.iload_n 0, 1) := by decide +kernel
theorem d2_135 : decode method_3_code 135 = .ok (.ldc 14, 2) := by decide +kernel
theorem d2_137 : decode method_3_code 137 = .ok (.ldc 15, 2) := by decide +kernel
theorem d2_139 : decode method_3_code 139 = .ok (.invokestatic 8, 3) := by decide +kernel
theorem d2_142 : decode method_3_code 142 = .ok (.ifCond .ne 25, 3) := by decide +kernel
theorem d2_167 : decode method_3_code 167 = .ok (.iconst 0, 1) := by decide +kernel
theorem d2_168 : decode method_3_code 168 = .ok (.ireturn, 1) := by decide +kernel
theorem d2_145 : decode method_3_code 145 = .ok (.iload_n 0, 1) := by decide +kernel
theorem d2_146 : decode method_3_code 146 = .ok (.ldc 16, 2) := by decide +kernel
theorem d2_148 : decode method_3_code 148 = .ok (.ldc 17, 2) := by decide +kernel
theorem d2_150 : decode method_3_code 150 = .ok (.invokestatic 8, 3) := by decide +kernel
theorem d2_153 : decode method_3_code 153 = .ok (.ifCond .ne 14, 3) := by decide +kernel
theorem d2_156 : decode method_3_code 156 = .ok (.iload_n 0, 1) := by decide +kernel
theorem d2_157 : decode method_3_code 157 = .ok (.ldc 18, 2) := by decide +kernel
theorem d2_159 : decode method_3_code 159 = .ok (.ldc 19, 2) := by decide +kernel
theorem d2_161 : decode method_3_code 161 = .ok (.invokestatic 8, 3) := by decide +kernel
theorem d2_164 : decode method_3_code 164 = .ok (.ifCond .eq 5, 3) := by decide +kernel
theorem d2_169 : decode method_3_code 169 = .ok (.iconst 1, 1) := by decide +kernel
theorem d2_170 : decode method_3_code 170 = .ok (.ireturn, 1) := by decide +kernel
theorem d2_11 : decode method_3_code 11 = .ok (.iconst 0, 1) := by decide +kernel
theorem d2_12 : decode method_3_code 12 = .ok (.ireturn, 1) := by decide +kernel
set_option maxRecDepth 65536 in
set_option maxHeartbeats 40000000 in
theorem rm3 (l : Launch) (Z : State) (a0 : Array Value) (hw : ∀ d ∈ tables_1, d.before a0 Z = true) (ws : List Jvm.Cond) (p0 : Int32)  (h0 : Heap) (n0 : Nat) (Z0 : n0 ≤ h0.size)  :
    MetFree l (⟨"com/example/lehti/lehti/model/XmlNamesIsNameStartPinLaw", "reference", "(I)Z"⟩ : MethodName) (head1 (Jvm.Cond.code (⟨"com/example/lehti/lehti/model/XmlNamesIsNameStartPinLaw", "reference", "(I)Z"⟩ : MethodName) method_3_code 1 (some .boolean) :: ws) ({ frames := 1, cells := 0, slots := 0, locals := 14 } : Room)) (fun a U => a = #[(.int p0)] ∧ Z.Warmed39 U.vm ∧ U.heap = h0) (fun _ _ _ _ _ => True) (fun _ U o U' => ∃ v L, o = .returned v ∧ Q_rm3 Z p0  h0 n0 v U'.heap L ∧ FrameEnd U o U' L ({ frames := 1, cells := 0, slots := 0, locals := 14 } : Room).cells ({ frames := 1, cells := 0, slots := 0, locals := 14 } : Room).slots) := by
  refine MetFree.of_bodySF (plainFor_of_name own_pn0) hisR ?_
  intro p e s m args below meth c s₁ Bd hml0 hP hK
  obtain ⟨rfl, hZ, hh⟩ := hP
  have hx := Bd.exec
  have hby := Bd.bytes
  have hml : c.maxLocals = 1 := hml0
  have hown : s.vm.findClass "com/example/lehti/lehti/model/XmlNamesIsNameStartPinLaw" = some m.cls := findClass_of_methodNamed Bd.named
  have hnm := (name_of_methodNamed Bd.named Bd.method).1
  have X0 : Stand p l e ({ frames := 1, cells := 0, slots := 0, locals := 14 } : Room) s m #[(.int p0)] below meth c s₁ [] 0 0 := Stand.of_body Bd
  have e0 : s₁.heap = h0 := by rw [← hh, Bd.state]; rfl
  have N0 := Fr.nil n0
  refine (show own_End p e below s (s₁.setTop (entryFrame m #[(.int p0)] 1)) (Q_rm3 Z p0  h0 n0) ({ frames := 1, cells := 0, slots := 0, locals := 14 } : Room).cells ({ frames := 1, cells := 0, slots := 0, locals := 14 } : Room).slots from ?_)
  refine own_go (fun t k => castTop (own_ef2_rm3 m p0) k) ?_
  have li0 : (0 : Int32).toInt = 0 := rfl
  have li1 : (1 : Int32).toInt = 1 := rfl
  show own_End p e below s (s₁.setTop (mkF m 0 #[.val (.int p0)] [])) _ _ _
  refine own_go (fun t k => XS.iloadN X0.here hx rfl (hb hby d2_0) rfl k) ?_
  show own_End p e below s (s₁.setTop (mkF m 1 #[.val (.int p0)] [(.int p0)])) _ _ _
  refine own_go (fun t k => XS.bipush X0.here hx rfl (hb hby d2_1) k) ?_
  show own_End p e below s (s₁.setTop (mkF m 3 #[.val (.int p0)] [(.int (65 : Int32)), (.int p0)])) _ _ _
  refine own_go (fun t k => X0.ldcInt hx hown (mvT hZ (hw _ (List.mem_of_getElem? (i := 12) rfl))) (g := (mkF m 3 #[.val (.int p0)] [(.int (65 : Int32)), (.int p0)])) rfl (hb hby d2_3) _ k) ?_
  show own_End p e below s (s₁.setTop (mkF m 5 #[.val (.int p0)] [(.int (983039 : Int32)), (.int (65 : Int32)), (.int p0)])) _ _ _
  obtain ⟨_, _, ⟨T1, L1, k1, n1⟩, -, X1, ⟨Lc1, hQ1, l1, y1, z1⟩, st1⟩ := Jvm.LawKit.callS X0 hx (y := (⟨"com/example/lehti/lehti/model/XmlNamesIsNameStartPinLaw", "in", "(III)Z"⟩ : MethodName)) hown (mvT hZ (hw _ (List.mem_of_getElem? (i := 13) rfl))) (mvT hZ (hw _ (List.mem_of_getElem? (i := 14) rfl))) (mvT hZ (hw _ (List.mem_of_getElem? (i := 10) rfl))) (mvT hZ (hw _ (List.mem_of_getElem? (i := 15) rfl))) (by decide) (backOf (W := 0) (rm1 l Z a0 hw [] p0 (65 : Int32) (983039 : Int32) 65 983039 h0 n0 Z0 rfl rfl) hZ (hw _ (List.mem_of_getElem? (i := 15) rfl)) (hw _ (List.mem_of_getElem? (i := 10) rfl)) (by decide) (by decide)) (g := (mkF m 5 #[.val (.int p0)] [(.int (983039 : Int32)), (.int (65 : Int32)), (.int p0)])) rfl (by rw [hml]; rfl) (argsL := [(.int p0), (.int (65 : Int32)), (.int (983039 : Int32))]) (rest := []) (lenOf own_pd0 rfl) rfl (by show 2 * 0 + _ ≤ _; exact Nat.le_of_eq rfl) (hb hby d2_5) (fun _ _ => ⟨rfl, e0, (by decide : 0 + 0 ≤ _), (by decide : 0 + 0 ≤ _)⟩)
  dsimp only [Pt.U, Pt.locs, Pt.cells, Pt.slots] at X1 l1 y1 z1 st1 hQ1
  subst l1 y1 z1
  obtain ⟨⟨r1, rfl, hr1⟩, N1q, e1⟩ := hQ1
  have N1 := Fr.app N0 N1q
  refine own_go st1 ?_
  show own_End p e below s (T1.setTop (mkF m 8 #[.val (.int p0)] [(.int r1)])) _ _ _
  rcases hr1 with ⟨hv, nb⟩ | ⟨hv, nb⟩
  · skip
    refine own_go (fun t k => XS.ifYes X1.here hx rfl (pc0 := 8) (pc' := 13) rfl (hb hby d2_8) rfl ((if0 _ _).trans (own_ne (x := r1) (y := (0 : Int32)) (i := r1.toInt) (j := 0) rfl rfl (by omega)).2) (by decide) (by decide) k) ?_
    show own_End p e below s (T1.setTop (mkF m 13 #[.val (.int p0)] [])) _ _ _
    refine own_go (fun t k => XS.iloadN X1.here hx rfl (hb hby d2_13) rfl k) ?_
    show own_End p e below s (T1.setTop (mkF m 14 #[.val (.int p0)] [(.int p0)])) _ _ _
    refine own_go (fun t k => XS.bipush X1.here hx rfl (hb hby d2_14) k) ?_
    show own_End p e below s (T1.setTop (mkF m 16 #[.val (.int p0)] [(.int (91 : Int32)), (.int p0)])) _ _ _
    refine own_go (fun t k => XS.bipush X1.here hx rfl (hb hby d2_16) k) ?_
    show own_End p e below s (T1.setTop (mkF m 18 #[.val (.int p0)] [(.int (94 : Int32)), (.int (91 : Int32)), (.int p0)])) _ _ _
    obtain ⟨_, _, ⟨T2, L2, k2, n2⟩, -, X2, ⟨Lc2, hQ2, l2, y2, z2⟩, st2⟩ := Jvm.LawKit.callS X1 hx (y := (⟨"com/example/lehti/lehti/model/XmlNamesIsNameStartPinLaw", "in", "(III)Z"⟩ : MethodName)) hown (mvT hZ (hw _ (List.mem_of_getElem? (i := 13) rfl))) (mvT hZ (hw _ (List.mem_of_getElem? (i := 14) rfl))) (mvT hZ (hw _ (List.mem_of_getElem? (i := 10) rfl))) (mvT hZ (hw _ (List.mem_of_getElem? (i := 15) rfl))) (by decide) (backOf (W := 0) (rm1 l Z a0 hw [] p0 (91 : Int32) (94 : Int32) 91 94 h0 n0 Z0 rfl rfl) hZ (hw _ (List.mem_of_getElem? (i := 15) rfl)) (hw _ (List.mem_of_getElem? (i := 10) rfl)) (by decide) (by decide)) (g := (mkF m 18 #[.val (.int p0)] [(.int (94 : Int32)), (.int (91 : Int32)), (.int p0)])) rfl (by rw [hml]; rfl) (argsL := [(.int p0), (.int (91 : Int32)), (.int (94 : Int32))]) (rest := []) (lenOf own_pd0 rfl) rfl (by show 2 * 0 + _ ≤ _; exact Nat.le_of_eq rfl) (hb hby d2_18) (fun _ _ => ⟨rfl, e1, (by decide : 0 + 0 ≤ _), (by decide : 0 + 0 ≤ _)⟩)
    dsimp only [Pt.U, Pt.locs, Pt.cells, Pt.slots] at X2 l2 y2 z2 st2 hQ2
    subst l2 y2 z2
    obtain ⟨⟨r2, rfl, hr2⟩, N2q, e2⟩ := hQ2
    have N2 := Fr.app N1 N2q
    refine own_go st2 ?_
    show own_End p e below s (T2.setTop (mkF m 21 #[.val (.int p0)] [(.int r2)])) _ _ _
    rcases hr2 with ⟨hv, ng0⟩ | ⟨hv, ng0⟩
    · skip
      refine own_go (fun t k => XS.ifYes X2.here hx rfl (pc0 := 21) (pc' := 56) rfl (hb hby d2_21) rfl ((if0 _ _).trans (own_ne (x := r2) (y := (0 : Int32)) (i := r2.toInt) (j := 0) rfl rfl (by omega)).2) (by decide) (by decide) k) ?_
      show own_End p e below s (T2.setTop (mkF m 56 #[.val (.int p0)] [])) _ _ _
      refine own_go (fun t k => XS.iconst X2.here hx rfl (hb hby d2_56) k) ?_
      show own_End p e below s (T2.setTop (mkF m 57 #[.val (.int p0)] [(.int (0 : Int32))])) _ _ _
      refine own_ret X2 (v := some (.int (0 : Int32))) (fun h => by rw [Bd.returns] at h; cases h) Bd.notSynchronized (fun fs hr => retN X2 hx (t := .boolean) Bd.returns (by simp) (hb hby d2_57) hr) ?_ (by decide) (by decide)
      · rw [e2]; exact ⟨⟨_, rfl, Or.inr ⟨rfl, fun hh => by obtain ⟨-, hk, -, -, -, -, -, -, -, -, -, -, -, -, -⟩ := hh; exact hk ng0⟩⟩, N2, rfl⟩
    · skip
      refine own_go (fun t k => XS.ifNo X2.here hx rfl (hb hby d2_21) rfl ((if0 _ _).trans (own_eq (x := r2) (y := (0 : Int32)) (i := r2.toInt) (j := 0) rfl rfl (by omega)).2) k) ?_
      show own_End p e below s (T2.setTop (mkF m 24 #[.val (.int p0)] [])) _ _ _
      refine own_go (fun t k => XS.iloadN X2.here hx rfl (hb hby d2_24) rfl k) ?_
      show own_End p e below s (T2.setTop (mkF m 25 #[.val (.int p0)] [(.int p0)])) _ _ _
      refine own_go (fun t k => XS.bipush X2.here hx rfl (hb hby d2_25) k) ?_
      show own_End p e below s (T2.setTop (mkF m 27 #[.val (.int p0)] [(.int (96 : Int32)), (.int p0)])) _ _ _
      by_cases ng1 : p0.toInt = 96
      · skip
        refine own_go (fun t k => XS.icmpYes X2.here hx rfl (pc0 := 27) (pc' := 56) rfl (hb hby d2_27) rfl (own_eq (x := p0) (y := (96 : Int32)) (i := p0.toInt) (j := 96) rfl rfl ng1).1 (by decide) (by decide) k) ?_
        show own_End p e below s (T2.setTop (mkF m 56 #[.val (.int p0)] [])) _ _ _
        refine own_go (fun t k => XS.iconst X2.here hx rfl (hb hby d2_56) k) ?_
        show own_End p e below s (T2.setTop (mkF m 57 #[.val (.int p0)] [(.int (0 : Int32))])) _ _ _
        refine own_ret X2 (v := some (.int (0 : Int32))) (fun h => by rw [Bd.returns] at h; cases h) Bd.notSynchronized (fun fs hr => retN X2 hx (t := .boolean) Bd.returns (by simp) (hb hby d2_57) hr) ?_ (by decide) (by decide)
        · rw [e2]; exact ⟨⟨_, rfl, Or.inr ⟨rfl, fun hh => by obtain ⟨-, -, hk, -, -, -, -, -, -, -, -, -, -, -, -⟩ := hh; exact hk ng1⟩⟩, N2, rfl⟩
      · skip
        refine own_go (fun t k => XS.icmpNo X2.here hx rfl (hb hby d2_27) rfl (own_ne (x := p0) (y := (96 : Int32)) (i := p0.toInt) (j := 96) rfl rfl ng1).1 k) ?_
        show own_End p e below s (T2.setTop (mkF m 30 #[.val (.int p0)] [])) _ _ _
        refine own_go (fun t k => XS.iloadN X2.here hx rfl (hb hby d2_30) rfl k) ?_
        show own_End p e below s (T2.setTop (mkF m 31 #[.val (.int p0)] [(.int p0)])) _ _ _
        refine own_go (fun t k => XS.bipush X2.here hx rfl (hb hby d2_31) k) ?_
        show own_End p e below s (T2.setTop (mkF m 33 #[.val (.int p0)] [(.int (123 : Int32)), (.int p0)])) _ _ _
        refine own_go (fun t k => XS.sipush X2.here hx rfl (hb hby d2_33) k) ?_
        show own_End p e below s (T2.setTop (mkF m 36 #[.val (.int p0)] [(.int (191 : Int32)), (.int (123 : Int32)), (.int p0)])) _ _ _
        obtain ⟨_, _, ⟨T3, L3, k3, n3⟩, -, X3, ⟨Lc3, hQ3, l3, y3, z3⟩, st3⟩ := Jvm.LawKit.callS X2 hx (y := (⟨"com/example/lehti/lehti/model/XmlNamesIsNameStartPinLaw", "in", "(III)Z"⟩ : MethodName)) hown (mvT hZ (hw _ (List.mem_of_getElem? (i := 13) rfl))) (mvT hZ (hw _ (List.mem_of_getElem? (i := 14) rfl))) (mvT hZ (hw _ (List.mem_of_getElem? (i := 10) rfl))) (mvT hZ (hw _ (List.mem_of_getElem? (i := 15) rfl))) (by decide) (backOf (W := 0) (rm1 l Z a0 hw [] p0 (123 : Int32) (191 : Int32) 123 191 h0 n0 Z0 rfl rfl) hZ (hw _ (List.mem_of_getElem? (i := 15) rfl)) (hw _ (List.mem_of_getElem? (i := 10) rfl)) (by decide) (by decide)) (g := (mkF m 36 #[.val (.int p0)] [(.int (191 : Int32)), (.int (123 : Int32)), (.int p0)])) rfl (by rw [hml]; rfl) (argsL := [(.int p0), (.int (123 : Int32)), (.int (191 : Int32))]) (rest := []) (lenOf own_pd0 rfl) rfl (by show 2 * 0 + _ ≤ _; exact Nat.le_of_eq rfl) (hb hby d2_36) (fun _ _ => ⟨rfl, e2, (by decide : 0 + 0 ≤ _), (by decide : 0 + 0 ≤ _)⟩)
        dsimp only [Pt.U, Pt.locs, Pt.cells, Pt.slots] at X3 l3 y3 z3 st3 hQ3
        subst l3 y3 z3
        obtain ⟨⟨r3, rfl, hr3⟩, N3q, e3⟩ := hQ3
        have N3 := Fr.app N2 N3q
        refine own_go st3 ?_
        show own_End p e below s (T3.setTop (mkF m 39 #[.val (.int p0)] [(.int r3)])) _ _ _
        rcases hr3 with ⟨hv, ng2⟩ | ⟨hv, ng2⟩
        · skip
          refine own_go (fun t k => XS.ifYes X3.here hx rfl (pc0 := 39) (pc' := 56) rfl (hb hby d2_39) rfl ((if0 _ _).trans (own_ne (x := r3) (y := (0 : Int32)) (i := r3.toInt) (j := 0) rfl rfl (by omega)).2) (by decide) (by decide) k) ?_
          show own_End p e below s (T3.setTop (mkF m 56 #[.val (.int p0)] [])) _ _ _
          refine own_go (fun t k => XS.iconst X3.here hx rfl (hb hby d2_56) k) ?_
          show own_End p e below s (T3.setTop (mkF m 57 #[.val (.int p0)] [(.int (0 : Int32))])) _ _ _
          refine own_ret X3 (v := some (.int (0 : Int32))) (fun h => by rw [Bd.returns] at h; cases h) Bd.notSynchronized (fun fs hr => retN X3 hx (t := .boolean) Bd.returns (by simp) (hb hby d2_57) hr) ?_ (by decide) (by decide)
          · rw [e3]; exact ⟨⟨_, rfl, Or.inr ⟨rfl, fun hh => by obtain ⟨-, -, -, hk, -, -, -, -, -, -, -, -, -, -, -⟩ := hh; exact hk ng2⟩⟩, N3, rfl⟩
        · skip
          refine own_go (fun t k => XS.ifNo X3.here hx rfl (hb hby d2_39) rfl ((if0 _ _).trans (own_eq (x := r3) (y := (0 : Int32)) (i := r3.toInt) (j := 0) rfl rfl (by omega)).2) k) ?_
          show own_End p e below s (T3.setTop (mkF m 42 #[.val (.int p0)] [])) _ _ _
          refine own_go (fun t k => XS.iloadN X3.here hx rfl (hb hby d2_42) rfl k) ?_
          show own_End p e below s (T3.setTop (mkF m 43 #[.val (.int p0)] [(.int p0)])) _ _ _
          refine own_go (fun t k => XS.sipush X3.here hx rfl (hb hby d2_43) k) ?_
          show own_End p e below s (T3.setTop (mkF m 46 #[.val (.int p0)] [(.int (215 : Int32)), (.int p0)])) _ _ _
          by_cases ng3 : p0.toInt = 215
          · skip
            refine own_go (fun t k => XS.icmpYes X3.here hx rfl (pc0 := 46) (pc' := 56) rfl (hb hby d2_46) rfl (own_eq (x := p0) (y := (215 : Int32)) (i := p0.toInt) (j := 215) rfl rfl ng3).1 (by decide) (by decide) k) ?_
            show own_End p e below s (T3.setTop (mkF m 56 #[.val (.int p0)] [])) _ _ _
            refine own_go (fun t k => XS.iconst X3.here hx rfl (hb hby d2_56) k) ?_
            show own_End p e below s (T3.setTop (mkF m 57 #[.val (.int p0)] [(.int (0 : Int32))])) _ _ _
            refine own_ret X3 (v := some (.int (0 : Int32))) (fun h => by rw [Bd.returns] at h; cases h) Bd.notSynchronized (fun fs hr => retN X3 hx (t := .boolean) Bd.returns (by simp) (hb hby d2_57) hr) ?_ (by decide) (by decide)
            · rw [e3]; exact ⟨⟨_, rfl, Or.inr ⟨rfl, fun hh => by obtain ⟨-, -, -, -, hk, -, -, -, -, -, -, -, -, -, -⟩ := hh; exact hk ng3⟩⟩, N3, rfl⟩
          · skip
            refine own_go (fun t k => XS.icmpNo X3.here hx rfl (hb hby d2_46) rfl (own_ne (x := p0) (y := (215 : Int32)) (i := p0.toInt) (j := 215) rfl rfl ng3).1 k) ?_
            show own_End p e below s (T3.setTop (mkF m 49 #[.val (.int p0)] [])) _ _ _
            refine own_go (fun t k => XS.iloadN X3.here hx rfl (hb hby d2_49) rfl k) ?_
            show own_End p e below s (T3.setTop (mkF m 50 #[.val (.int p0)] [(.int p0)])) _ _ _
            refine own_go (fun t k => XS.sipush X3.here hx rfl (hb hby d2_50) k) ?_
            show own_End p e below s (T3.setTop (mkF m 53 #[.val (.int p0)] [(.int (247 : Int32)), (.int p0)])) _ _ _
            by_cases ng4 : p0.toInt = 247
            · skip
              refine own_go (fun t k => XS.icmpNo X3.here hx rfl (hb hby d2_53) rfl (own_eq (x := p0) (y := (247 : Int32)) (i := p0.toInt) (j := 247) rfl rfl ng4).2 k) ?_
              show own_End p e below s (T3.setTop (mkF m 56 #[.val (.int p0)] [])) _ _ _
              refine own_go (fun t k => XS.iconst X3.here hx rfl (hb hby d2_56) k) ?_
              show own_End p e below s (T3.setTop (mkF m 57 #[.val (.int p0)] [(.int (0 : Int32))])) _ _ _
              refine own_ret X3 (v := some (.int (0 : Int32))) (fun h => by rw [Bd.returns] at h; cases h) Bd.notSynchronized (fun fs hr => retN X3 hx (t := .boolean) Bd.returns (by simp) (hb hby d2_57) hr) ?_ (by decide) (by decide)
              · rw [e3]; exact ⟨⟨_, rfl, Or.inr ⟨rfl, fun hh => by obtain ⟨-, -, -, -, -, hk, -, -, -, -, -, -, -, -, -⟩ := hh; exact hk ng4⟩⟩, N3, rfl⟩
            · skip
              refine own_go (fun t k => XS.icmpYes X3.here hx rfl (pc0 := 53) (pc' := 58) rfl (hb hby d2_53) rfl (own_ne (x := p0) (y := (247 : Int32)) (i := p0.toInt) (j := 247) rfl rfl ng4).2 (by decide) (by decide) k) ?_
              show own_End p e below s (T3.setTop (mkF m 58 #[.val (.int p0)] [])) _ _ _
              refine own_go (fun t k => XS.iloadN X3.here hx rfl (hb hby d2_58) rfl k) ?_
              show own_End p e below s (T3.setTop (mkF m 59 #[.val (.int p0)] [(.int p0)])) _ _ _
              refine own_go (fun t k => XS.sipush X3.here hx rfl (hb hby d2_59) k) ?_
              show own_End p e below s (T3.setTop (mkF m 62 #[.val (.int p0)] [(.int (768 : Int32)), (.int p0)])) _ _ _
              refine own_go (fun t k => XS.sipush X3.here hx rfl (hb hby d2_62) k) ?_
              show own_End p e below s (T3.setTop (mkF m 65 #[.val (.int p0)] [(.int (879 : Int32)), (.int (768 : Int32)), (.int p0)])) _ _ _
              obtain ⟨_, _, ⟨T4, L4, k4, n4⟩, -, X4, ⟨Lc4, hQ4, l4, y4, z4⟩, st4⟩ := Jvm.LawKit.callS X3 hx (y := (⟨"com/example/lehti/lehti/model/XmlNamesIsNameStartPinLaw", "in", "(III)Z"⟩ : MethodName)) hown (mvT hZ (hw _ (List.mem_of_getElem? (i := 13) rfl))) (mvT hZ (hw _ (List.mem_of_getElem? (i := 14) rfl))) (mvT hZ (hw _ (List.mem_of_getElem? (i := 10) rfl))) (mvT hZ (hw _ (List.mem_of_getElem? (i := 15) rfl))) (by decide) (backOf (W := 0) (rm1 l Z a0 hw [] p0 (768 : Int32) (879 : Int32) 768 879 h0 n0 Z0 rfl rfl) hZ (hw _ (List.mem_of_getElem? (i := 15) rfl)) (hw _ (List.mem_of_getElem? (i := 10) rfl)) (by decide) (by decide)) (g := (mkF m 65 #[.val (.int p0)] [(.int (879 : Int32)), (.int (768 : Int32)), (.int p0)])) rfl (by rw [hml]; rfl) (argsL := [(.int p0), (.int (768 : Int32)), (.int (879 : Int32))]) (rest := []) (lenOf own_pd0 rfl) rfl (by show 2 * 0 + _ ≤ _; exact Nat.le_of_eq rfl) (hb hby d2_65) (fun _ _ => ⟨rfl, e3, (by decide : 0 + 0 ≤ _), (by decide : 0 + 0 ≤ _)⟩)
              dsimp only [Pt.U, Pt.locs, Pt.cells, Pt.slots] at X4 l4 y4 z4 st4 hQ4
              subst l4 y4 z4
              obtain ⟨⟨r4, rfl, hr4⟩, N4q, e4⟩ := hQ4
              have N4 := Fr.app N3 N4q
              refine own_go st4 ?_
              show own_End p e below s (T4.setTop (mkF m 68 #[.val (.int p0)] [(.int r4)])) _ _ _
              rcases hr4 with ⟨hv, ng5⟩ | ⟨hv, ng5⟩
              · skip
                refine own_go (fun t k => XS.ifYes X4.here hx rfl (pc0 := 68) (pc' := 78) rfl (hb hby d2_68) rfl ((if0 _ _).trans (own_ne (x := r4) (y := (0 : Int32)) (i := r4.toInt) (j := 0) rfl rfl (by omega)).2) (by decide) (by decide) k) ?_
                show own_End p e below s (T4.setTop (mkF m 78 #[.val (.int p0)] [])) _ _ _
                refine own_go (fun t k => XS.iconst X4.here hx rfl (hb hby d2_78) k) ?_
                show own_End p e below s (T4.setTop (mkF m 79 #[.val (.int p0)] [(.int (0 : Int32))])) _ _ _
                refine own_ret X4 (v := some (.int (0 : Int32))) (fun h => by rw [Bd.returns] at h; cases h) Bd.notSynchronized (fun fs hr => retN X4 hx (t := .boolean) Bd.returns (by simp) (hb hby d2_79) hr) ?_ (by decide) (by decide)
                · rw [e4]; exact ⟨⟨_, rfl, Or.inr ⟨rfl, fun hh => by obtain ⟨-, -, -, -, -, -, hk, -, -, -, -, -, -, -, -⟩ := hh; exact hk ng5⟩⟩, N4, rfl⟩
              · skip
                refine own_go (fun t k => XS.ifNo X4.here hx rfl (hb hby d2_68) rfl ((if0 _ _).trans (own_eq (x := r4) (y := (0 : Int32)) (i := r4.toInt) (j := 0) rfl rfl (by omega)).2) k) ?_
                show own_End p e below s (T4.setTop (mkF m 71 #[.val (.int p0)] [])) _ _ _
                refine own_go (fun t k => XS.iloadN X4.here hx rfl (hb hby d2_71) rfl k) ?_
                show own_End p e below s (T4.setTop (mkF m 72 #[.val (.int p0)] [(.int p0)])) _ _ _
                refine own_go (fun t k => XS.sipush X4.here hx rfl (hb hby d2_72) k) ?_
                show own_End p e below s (T4.setTop (mkF m 75 #[.val (.int p0)] [(.int (894 : Int32)), (.int p0)])) _ _ _
                by_cases ng6 : p0.toInt = 894
                · skip
                  refine own_go (fun t k => XS.icmpNo X4.here hx rfl (hb hby d2_75) rfl (own_eq (x := p0) (y := (894 : Int32)) (i := p0.toInt) (j := 894) rfl rfl ng6).2 k) ?_
                  show own_End p e below s (T4.setTop (mkF m 78 #[.val (.int p0)] [])) _ _ _
                  refine own_go (fun t k => XS.iconst X4.here hx rfl (hb hby d2_78) k) ?_
                  show own_End p e below s (T4.setTop (mkF m 79 #[.val (.int p0)] [(.int (0 : Int32))])) _ _ _
                  refine own_ret X4 (v := some (.int (0 : Int32))) (fun h => by rw [Bd.returns] at h; cases h) Bd.notSynchronized (fun fs hr => retN X4 hx (t := .boolean) Bd.returns (by simp) (hb hby d2_79) hr) ?_ (by decide) (by decide)
                  · rw [e4]; exact ⟨⟨_, rfl, Or.inr ⟨rfl, fun hh => by obtain ⟨-, -, -, -, -, -, -, hk, -, -, -, -, -, -, -⟩ := hh; exact hk ng6⟩⟩, N4, rfl⟩
                · skip
                  refine own_go (fun t k => XS.icmpYes X4.here hx rfl (pc0 := 75) (pc' := 80) rfl (hb hby d2_75) rfl (own_ne (x := p0) (y := (894 : Int32)) (i := p0.toInt) (j := 894) rfl rfl ng6).2 (by decide) (by decide) k) ?_
                  show own_End p e below s (T4.setTop (mkF m 80 #[.val (.int p0)] [])) _ _ _
                  refine own_go (fun t k => XS.iloadN X4.here hx rfl (hb hby d2_80) rfl k) ?_
                  show own_End p e below s (T4.setTop (mkF m 81 #[.val (.int p0)] [(.int p0)])) _ _ _
                  refine own_go (fun t k => XS.sipush X4.here hx rfl (hb hby d2_81) k) ?_
                  show own_End p e below s (T4.setTop (mkF m 84 #[.val (.int p0)] [(.int (8192 : Int32)), (.int p0)])) _ _ _
                  refine own_go (fun t k => XS.sipush X4.here hx rfl (hb hby d2_84) k) ?_
                  show own_End p e below s (T4.setTop (mkF m 87 #[.val (.int p0)] [(.int (8203 : Int32)), (.int (8192 : Int32)), (.int p0)])) _ _ _
                  obtain ⟨_, _, ⟨T5, L5, k5, n5⟩, -, X5, ⟨Lc5, hQ5, l5, y5, z5⟩, st5⟩ := Jvm.LawKit.callS X4 hx (y := (⟨"com/example/lehti/lehti/model/XmlNamesIsNameStartPinLaw", "in", "(III)Z"⟩ : MethodName)) hown (mvT hZ (hw _ (List.mem_of_getElem? (i := 13) rfl))) (mvT hZ (hw _ (List.mem_of_getElem? (i := 14) rfl))) (mvT hZ (hw _ (List.mem_of_getElem? (i := 10) rfl))) (mvT hZ (hw _ (List.mem_of_getElem? (i := 15) rfl))) (by decide) (backOf (W := 0) (rm1 l Z a0 hw [] p0 (8192 : Int32) (8203 : Int32) 8192 8203 h0 n0 Z0 rfl rfl) hZ (hw _ (List.mem_of_getElem? (i := 15) rfl)) (hw _ (List.mem_of_getElem? (i := 10) rfl)) (by decide) (by decide)) (g := (mkF m 87 #[.val (.int p0)] [(.int (8203 : Int32)), (.int (8192 : Int32)), (.int p0)])) rfl (by rw [hml]; rfl) (argsL := [(.int p0), (.int (8192 : Int32)), (.int (8203 : Int32))]) (rest := []) (lenOf own_pd0 rfl) rfl (by show 2 * 0 + _ ≤ _; exact Nat.le_of_eq rfl) (hb hby d2_87) (fun _ _ => ⟨rfl, e4, (by decide : 0 + 0 ≤ _), (by decide : 0 + 0 ≤ _)⟩)
                  dsimp only [Pt.U, Pt.locs, Pt.cells, Pt.slots] at X5 l5 y5 z5 st5 hQ5
                  subst l5 y5 z5
                  obtain ⟨⟨r5, rfl, hr5⟩, N5q, e5⟩ := hQ5
                  have N5 := Fr.app N4 N5q
                  refine own_go st5 ?_
                  show own_End p e below s (T5.setTop (mkF m 90 #[.val (.int p0)] [(.int r5)])) _ _ _
                  rcases hr5 with ⟨hv, ng7⟩ | ⟨hv, ng7⟩
                  · skip
                    refine own_go (fun t k => XS.ifYes X5.here hx rfl (pc0 := 90) (pc' := 132) rfl (hb hby d2_90) rfl ((if0 _ _).trans (own_ne (x := r5) (y := (0 : Int32)) (i := r5.toInt) (j := 0) rfl rfl (by omega)).2) (by decide) (by decide) k) ?_
                    show own_End p e below s (T5.setTop (mkF m 132 #[.val (.int p0)] [])) _ _ _
                    refine own_go (fun t k => XS.iconst X5.here hx rfl (hb hby d2_132) k) ?_
                    show own_End p e below s (T5.setTop (mkF m 133 #[.val (.int p0)] [(.int (0 : Int32))])) _ _ _
                    refine own_ret X5 (v := some (.int (0 : Int32))) (fun h => by rw [Bd.returns] at h; cases h) Bd.notSynchronized (fun fs hr => retN X5 hx (t := .boolean) Bd.returns (by simp) (hb hby d2_133) hr) ?_ (by decide) (by decide)
                    · rw [e5]; exact ⟨⟨_, rfl, Or.inr ⟨rfl, fun hh => by obtain ⟨-, -, -, -, -, -, -, -, hk, -, -, -, -, -, -⟩ := hh; exact hk ng7⟩⟩, N5, rfl⟩
                  · skip
                    refine own_go (fun t k => XS.ifNo X5.here hx rfl (hb hby d2_90) rfl ((if0 _ _).trans (own_eq (x := r5) (y := (0 : Int32)) (i := r5.toInt) (j := 0) rfl rfl (by omega)).2) k) ?_
                    show own_End p e below s (T5.setTop (mkF m 93 #[.val (.int p0)] [])) _ _ _
                    refine own_go (fun t k => XS.iloadN X5.here hx rfl (hb hby d2_93) rfl k) ?_
                    show own_End p e below s (T5.setTop (mkF m 94 #[.val (.int p0)] [(.int p0)])) _ _ _
                    refine own_go (fun t k => XS.sipush X5.here hx rfl (hb hby d2_94) k) ?_
                    show own_End p e below s (T5.setTop (mkF m 97 #[.val (.int p0)] [(.int (8206 : Int32)), (.int p0)])) _ _ _
                    refine own_go (fun t k => XS.sipush X5.here hx rfl (hb hby d2_97) k) ?_
                    show own_End p e below s (T5.setTop (mkF m 100 #[.val (.int p0)] [(.int (8303 : Int32)), (.int (8206 : Int32)), (.int p0)])) _ _ _
                    obtain ⟨_, _, ⟨T6, L6, k6, n6⟩, -, X6, ⟨Lc6, hQ6, l6, y6, z6⟩, st6⟩ := Jvm.LawKit.callS X5 hx (y := (⟨"com/example/lehti/lehti/model/XmlNamesIsNameStartPinLaw", "in", "(III)Z"⟩ : MethodName)) hown (mvT hZ (hw _ (List.mem_of_getElem? (i := 13) rfl))) (mvT hZ (hw _ (List.mem_of_getElem? (i := 14) rfl))) (mvT hZ (hw _ (List.mem_of_getElem? (i := 10) rfl))) (mvT hZ (hw _ (List.mem_of_getElem? (i := 15) rfl))) (by decide) (backOf (W := 0) (rm1 l Z a0 hw [] p0 (8206 : Int32) (8303 : Int32) 8206 8303 h0 n0 Z0 rfl rfl) hZ (hw _ (List.mem_of_getElem? (i := 15) rfl)) (hw _ (List.mem_of_getElem? (i := 10) rfl)) (by decide) (by decide)) (g := (mkF m 100 #[.val (.int p0)] [(.int (8303 : Int32)), (.int (8206 : Int32)), (.int p0)])) rfl (by rw [hml]; rfl) (argsL := [(.int p0), (.int (8206 : Int32)), (.int (8303 : Int32))]) (rest := []) (lenOf own_pd0 rfl) rfl (by show 2 * 0 + _ ≤ _; exact Nat.le_of_eq rfl) (hb hby d2_100) (fun _ _ => ⟨rfl, e5, (by decide : 0 + 0 ≤ _), (by decide : 0 + 0 ≤ _)⟩)
                    dsimp only [Pt.U, Pt.locs, Pt.cells, Pt.slots] at X6 l6 y6 z6 st6 hQ6
                    subst l6 y6 z6
                    obtain ⟨⟨r6, rfl, hr6⟩, N6q, e6⟩ := hQ6
                    have N6 := Fr.app N5 N6q
                    refine own_go st6 ?_
                    show own_End p e below s (T6.setTop (mkF m 103 #[.val (.int p0)] [(.int r6)])) _ _ _
                    rcases hr6 with ⟨hv, ng8⟩ | ⟨hv, ng8⟩
                    · skip
                      refine own_go (fun t k => XS.ifYes X6.here hx rfl (pc0 := 103) (pc' := 132) rfl (hb hby d2_103) rfl ((if0 _ _).trans (own_ne (x := r6) (y := (0 : Int32)) (i := r6.toInt) (j := 0) rfl rfl (by omega)).2) (by decide) (by decide) k) ?_
                      show own_End p e below s (T6.setTop (mkF m 132 #[.val (.int p0)] [])) _ _ _
                      refine own_go (fun t k => XS.iconst X6.here hx rfl (hb hby d2_132) k) ?_
                      show own_End p e below s (T6.setTop (mkF m 133 #[.val (.int p0)] [(.int (0 : Int32))])) _ _ _
                      refine own_ret X6 (v := some (.int (0 : Int32))) (fun h => by rw [Bd.returns] at h; cases h) Bd.notSynchronized (fun fs hr => retN X6 hx (t := .boolean) Bd.returns (by simp) (hb hby d2_133) hr) ?_ (by decide) (by decide)
                      · rw [e6]; exact ⟨⟨_, rfl, Or.inr ⟨rfl, fun hh => by obtain ⟨-, -, -, -, -, -, -, -, -, hk, -, -, -, -, -⟩ := hh; exact hk ng8⟩⟩, N6, rfl⟩
                    · skip
                      refine own_go (fun t k => XS.ifNo X6.here hx rfl (hb hby d2_103) rfl ((if0 _ _).trans (own_eq (x := r6) (y := (0 : Int32)) (i := r6.toInt) (j := 0) rfl rfl (by omega)).2) k) ?_
                      show own_End p e below s (T6.setTop (mkF m 106 #[.val (.int p0)] [])) _ _ _
                      refine own_go (fun t k => XS.iloadN X6.here hx rfl (hb hby d2_106) rfl k) ?_
                      show own_End p e below s (T6.setTop (mkF m 107 #[.val (.int p0)] [(.int p0)])) _ _ _
                      refine own_go (fun t k => XS.sipush X6.here hx rfl (hb hby d2_107) k) ?_
                      show own_End p e below s (T6.setTop (mkF m 110 #[.val (.int p0)] [(.int (8592 : Int32)), (.int p0)])) _ _ _
                      refine own_go (fun t k => XS.sipush X6.here hx rfl (hb hby d2_110) k) ?_
                      show own_End p e below s (T6.setTop (mkF m 113 #[.val (.int p0)] [(.int (11263 : Int32)), (.int (8592 : Int32)), (.int p0)])) _ _ _
                      obtain ⟨_, _, ⟨T7, L7, k7, n7⟩, -, X7, ⟨Lc7, hQ7, l7, y7, z7⟩, st7⟩ := Jvm.LawKit.callS X6 hx (y := (⟨"com/example/lehti/lehti/model/XmlNamesIsNameStartPinLaw", "in", "(III)Z"⟩ : MethodName)) hown (mvT hZ (hw _ (List.mem_of_getElem? (i := 13) rfl))) (mvT hZ (hw _ (List.mem_of_getElem? (i := 14) rfl))) (mvT hZ (hw _ (List.mem_of_getElem? (i := 10) rfl))) (mvT hZ (hw _ (List.mem_of_getElem? (i := 15) rfl))) (by decide) (backOf (W := 0) (rm1 l Z a0 hw [] p0 (8592 : Int32) (11263 : Int32) 8592 11263 h0 n0 Z0 rfl rfl) hZ (hw _ (List.mem_of_getElem? (i := 15) rfl)) (hw _ (List.mem_of_getElem? (i := 10) rfl)) (by decide) (by decide)) (g := (mkF m 113 #[.val (.int p0)] [(.int (11263 : Int32)), (.int (8592 : Int32)), (.int p0)])) rfl (by rw [hml]; rfl) (argsL := [(.int p0), (.int (8592 : Int32)), (.int (11263 : Int32))]) (rest := []) (lenOf own_pd0 rfl) rfl (by show 2 * 0 + _ ≤ _; exact Nat.le_of_eq rfl) (hb hby d2_113) (fun _ _ => ⟨rfl, e6, (by decide : 0 + 0 ≤ _), (by decide : 0 + 0 ≤ _)⟩)
                      dsimp only [Pt.U, Pt.locs, Pt.cells, Pt.slots] at X7 l7 y7 z7 st7 hQ7
                      subst l7 y7 z7
                      obtain ⟨⟨r7, rfl, hr7⟩, N7q, e7⟩ := hQ7
                      have N7 := Fr.app N6 N7q
                      refine own_go st7 ?_
                      show own_End p e below s (T7.setTop (mkF m 116 #[.val (.int p0)] [(.int r7)])) _ _ _
                      rcases hr7 with ⟨hv, ng9⟩ | ⟨hv, ng9⟩
                      · skip
                        refine own_go (fun t k => XS.ifYes X7.here hx rfl (pc0 := 116) (pc' := 132) rfl (hb hby d2_116) rfl ((if0 _ _).trans (own_ne (x := r7) (y := (0 : Int32)) (i := r7.toInt) (j := 0) rfl rfl (by omega)).2) (by decide) (by decide) k) ?_
                        show own_End p e below s (T7.setTop (mkF m 132 #[.val (.int p0)] [])) _ _ _
                        refine own_go (fun t k => XS.iconst X7.here hx rfl (hb hby d2_132) k) ?_
                        show own_End p e below s (T7.setTop (mkF m 133 #[.val (.int p0)] [(.int (0 : Int32))])) _ _ _
                        refine own_ret X7 (v := some (.int (0 : Int32))) (fun h => by rw [Bd.returns] at h; cases h) Bd.notSynchronized (fun fs hr => retN X7 hx (t := .boolean) Bd.returns (by simp) (hb hby d2_133) hr) ?_ (by decide) (by decide)
                        · rw [e7]; exact ⟨⟨_, rfl, Or.inr ⟨rfl, fun hh => by obtain ⟨-, -, -, -, -, -, -, -, -, -, hk, -, -, -, -⟩ := hh; exact hk ng9⟩⟩, N7, rfl⟩
                      · skip
                        refine own_go (fun t k => XS.ifNo X7.here hx rfl (hb hby d2_116) rfl ((if0 _ _).trans (own_eq (x := r7) (y := (0 : Int32)) (i := r7.toInt) (j := 0) rfl rfl (by omega)).2) k) ?_
                        show own_End p e below s (T7.setTop (mkF m 119 #[.val (.int p0)] [])) _ _ _
                        refine own_go (fun t k => XS.iloadN X7.here hx rfl (hb hby d2_119) rfl k) ?_
                        show own_End p e below s (T7.setTop (mkF m 120 #[.val (.int p0)] [(.int p0)])) _ _ _
                        refine own_go (fun t k => XS.sipush X7.here hx rfl (hb hby d2_120) k) ?_
                        show own_End p e below s (T7.setTop (mkF m 123 #[.val (.int p0)] [(.int (12272 : Int32)), (.int p0)])) _ _ _
                        refine own_go (fun t k => XS.sipush X7.here hx rfl (hb hby d2_123) k) ?_
                        show own_End p e below s (T7.setTop (mkF m 126 #[.val (.int p0)] [(.int (12288 : Int32)), (.int (12272 : Int32)), (.int p0)])) _ _ _
                        obtain ⟨_, _, ⟨T8, L8, k8, n8⟩, -, X8, ⟨Lc8, hQ8, l8, y8, z8⟩, st8⟩ := Jvm.LawKit.callS X7 hx (y := (⟨"com/example/lehti/lehti/model/XmlNamesIsNameStartPinLaw", "in", "(III)Z"⟩ : MethodName)) hown (mvT hZ (hw _ (List.mem_of_getElem? (i := 13) rfl))) (mvT hZ (hw _ (List.mem_of_getElem? (i := 14) rfl))) (mvT hZ (hw _ (List.mem_of_getElem? (i := 10) rfl))) (mvT hZ (hw _ (List.mem_of_getElem? (i := 15) rfl))) (by decide) (backOf (W := 0) (rm1 l Z a0 hw [] p0 (12272 : Int32) (12288 : Int32) 12272 12288 h0 n0 Z0 rfl rfl) hZ (hw _ (List.mem_of_getElem? (i := 15) rfl)) (hw _ (List.mem_of_getElem? (i := 10) rfl)) (by decide) (by decide)) (g := (mkF m 126 #[.val (.int p0)] [(.int (12288 : Int32)), (.int (12272 : Int32)), (.int p0)])) rfl (by rw [hml]; rfl) (argsL := [(.int p0), (.int (12272 : Int32)), (.int (12288 : Int32))]) (rest := []) (lenOf own_pd0 rfl) rfl (by show 2 * 0 + _ ≤ _; exact Nat.le_of_eq rfl) (hb hby d2_126) (fun _ _ => ⟨rfl, e7, (by decide : 0 + 0 ≤ _), (by decide : 0 + 0 ≤ _)⟩)
                        dsimp only [Pt.U, Pt.locs, Pt.cells, Pt.slots] at X8 l8 y8 z8 st8 hQ8
                        subst l8 y8 z8
                        obtain ⟨⟨r8, rfl, hr8⟩, N8q, e8⟩ := hQ8
                        have N8 := Fr.app N7 N8q
                        refine own_go st8 ?_
                        show own_End p e below s (T8.setTop (mkF m 129 #[.val (.int p0)] [(.int r8)])) _ _ _
                        rcases hr8 with ⟨hv, ng10⟩ | ⟨hv, ng10⟩
                        · skip
                          refine own_go (fun t k => XS.ifNo X8.here hx rfl (hb hby d2_129) rfl ((if0 _ _).trans (own_ne (x := r8) (y := (0 : Int32)) (i := r8.toInt) (j := 0) rfl rfl (by omega)).1) k) ?_
                          show own_End p e below s (T8.setTop (mkF m 132 #[.val (.int p0)] [])) _ _ _
                          refine own_go (fun t k => XS.iconst X8.here hx rfl (hb hby d2_132) k) ?_
                          show own_End p e below s (T8.setTop (mkF m 133 #[.val (.int p0)] [(.int (0 : Int32))])) _ _ _
                          refine own_ret X8 (v := some (.int (0 : Int32))) (fun h => by rw [Bd.returns] at h; cases h) Bd.notSynchronized (fun fs hr => retN X8 hx (t := .boolean) Bd.returns (by simp) (hb hby d2_133) hr) ?_ (by decide) (by decide)
                          · rw [e8]; exact ⟨⟨_, rfl, Or.inr ⟨rfl, fun hh => by obtain ⟨-, -, -, -, -, -, -, -, -, -, -, hk, -, -, -⟩ := hh; exact hk ng10⟩⟩, N8, rfl⟩
                        · skip
                          refine own_go (fun t k => XS.ifYes X8.here hx rfl (pc0 := 129) (pc' := 134) rfl (hb hby d2_129) rfl ((if0 _ _).trans (own_eq (x := r8) (y := (0 : Int32)) (i := r8.toInt) (j := 0) rfl rfl (by omega)).1) (by decide) (by decide) k) ?_
                          show own_End p e below s (T8.setTop (mkF m 134 #[.val (.int p0)] [])) _ _ _
                          refine own_go (fun t k => XS.iloadN X8.here hx rfl (hb hby d2_134) rfl k) ?_
                          show own_End p e below s (T8.setTop (mkF m 135 #[.val (.int p0)] [(.int p0)])) _ _ _
                          refine own_go (fun t k => X8.ldcInt hx hown (mvT hZ (hw _ (List.mem_of_getElem? (i := 16) rfl))) (g := (mkF m 135 #[.val (.int p0)] [(.int p0)])) rfl (hb hby d2_135) _ k) ?_
                          show own_End p e below s (T8.setTop (mkF m 137 #[.val (.int p0)] [(.int (55296 : Int32)), (.int p0)])) _ _ _
                          refine own_go (fun t k => X8.ldcInt hx hown (mvT hZ (hw _ (List.mem_of_getElem? (i := 17) rfl))) (g := (mkF m 137 #[.val (.int p0)] [(.int (55296 : Int32)), (.int p0)])) rfl (hb hby d2_137) _ k) ?_
                          show own_End p e below s (T8.setTop (mkF m 139 #[.val (.int p0)] [(.int (63743 : Int32)), (.int (55296 : Int32)), (.int p0)])) _ _ _
                          obtain ⟨_, _, ⟨T9, L9, k9, n9⟩, -, X9, ⟨Lc9, hQ9, l9, y9, z9⟩, st9⟩ := Jvm.LawKit.callS X8 hx (y := (⟨"com/example/lehti/lehti/model/XmlNamesIsNameStartPinLaw", "in", "(III)Z"⟩ : MethodName)) hown (mvT hZ (hw _ (List.mem_of_getElem? (i := 13) rfl))) (mvT hZ (hw _ (List.mem_of_getElem? (i := 14) rfl))) (mvT hZ (hw _ (List.mem_of_getElem? (i := 10) rfl))) (mvT hZ (hw _ (List.mem_of_getElem? (i := 15) rfl))) (by decide) (backOf (W := 0) (rm1 l Z a0 hw [] p0 (55296 : Int32) (63743 : Int32) 55296 63743 h0 n0 Z0 rfl rfl) hZ (hw _ (List.mem_of_getElem? (i := 15) rfl)) (hw _ (List.mem_of_getElem? (i := 10) rfl)) (by decide) (by decide)) (g := (mkF m 139 #[.val (.int p0)] [(.int (63743 : Int32)), (.int (55296 : Int32)), (.int p0)])) rfl (by rw [hml]; rfl) (argsL := [(.int p0), (.int (55296 : Int32)), (.int (63743 : Int32))]) (rest := []) (lenOf own_pd0 rfl) rfl (by show 2 * 0 + _ ≤ _; exact Nat.le_of_eq rfl) (hb hby d2_139) (fun _ _ => ⟨rfl, e8, (by decide : 0 + 0 ≤ _), (by decide : 0 + 0 ≤ _)⟩)
                          dsimp only [Pt.U, Pt.locs, Pt.cells, Pt.slots] at X9 l9 y9 z9 st9 hQ9
                          subst l9 y9 z9
                          obtain ⟨⟨r9, rfl, hr9⟩, N9q, e9⟩ := hQ9
                          have N9 := Fr.app N8 N9q
                          refine own_go st9 ?_
                          show own_End p e below s (T9.setTop (mkF m 142 #[.val (.int p0)] [(.int r9)])) _ _ _
                          rcases hr9 with ⟨hv, ng11⟩ | ⟨hv, ng11⟩
                          · skip
                            refine own_go (fun t k => XS.ifYes X9.here hx rfl (pc0 := 142) (pc' := 167) rfl (hb hby d2_142) rfl ((if0 _ _).trans (own_ne (x := r9) (y := (0 : Int32)) (i := r9.toInt) (j := 0) rfl rfl (by omega)).2) (by decide) (by decide) k) ?_
                            show own_End p e below s (T9.setTop (mkF m 167 #[.val (.int p0)] [])) _ _ _
                            refine own_go (fun t k => XS.iconst X9.here hx rfl (hb hby d2_167) k) ?_
                            show own_End p e below s (T9.setTop (mkF m 168 #[.val (.int p0)] [(.int (0 : Int32))])) _ _ _
                            refine own_ret X9 (v := some (.int (0 : Int32))) (fun h => by rw [Bd.returns] at h; cases h) Bd.notSynchronized (fun fs hr => retN X9 hx (t := .boolean) Bd.returns (by simp) (hb hby d2_168) hr) ?_ (by decide) (by decide)
                            · rw [e9]; exact ⟨⟨_, rfl, Or.inr ⟨rfl, fun hh => by obtain ⟨-, -, -, -, -, -, -, -, -, -, -, -, hk, -, -⟩ := hh; exact hk ng11⟩⟩, N9, rfl⟩
                          · skip
                            refine own_go (fun t k => XS.ifNo X9.here hx rfl (hb hby d2_142) rfl ((if0 _ _).trans (own_eq (x := r9) (y := (0 : Int32)) (i := r9.toInt) (j := 0) rfl rfl (by omega)).2) k) ?_
                            show own_End p e below s (T9.setTop (mkF m 145 #[.val (.int p0)] [])) _ _ _
                            refine own_go (fun t k => XS.iloadN X9.here hx rfl (hb hby d2_145) rfl k) ?_
                            show own_End p e below s (T9.setTop (mkF m 146 #[.val (.int p0)] [(.int p0)])) _ _ _
                            refine own_go (fun t k => X9.ldcInt hx hown (mvT hZ (hw _ (List.mem_of_getElem? (i := 18) rfl))) (g := (mkF m 146 #[.val (.int p0)] [(.int p0)])) rfl (hb hby d2_146) _ k) ?_
                            show own_End p e below s (T9.setTop (mkF m 148 #[.val (.int p0)] [(.int (64976 : Int32)), (.int p0)])) _ _ _
                            refine own_go (fun t k => X9.ldcInt hx hown (mvT hZ (hw _ (List.mem_of_getElem? (i := 19) rfl))) (g := (mkF m 148 #[.val (.int p0)] [(.int (64976 : Int32)), (.int p0)])) rfl (hb hby d2_148) _ k) ?_
                            show own_End p e below s (T9.setTop (mkF m 150 #[.val (.int p0)] [(.int (65007 : Int32)), (.int (64976 : Int32)), (.int p0)])) _ _ _
                            obtain ⟨_, _, ⟨T10, L10, k10, n10⟩, -, X10, ⟨Lc10, hQ10, l10, y10, z10⟩, st10⟩ := Jvm.LawKit.callS X9 hx (y := (⟨"com/example/lehti/lehti/model/XmlNamesIsNameStartPinLaw", "in", "(III)Z"⟩ : MethodName)) hown (mvT hZ (hw _ (List.mem_of_getElem? (i := 13) rfl))) (mvT hZ (hw _ (List.mem_of_getElem? (i := 14) rfl))) (mvT hZ (hw _ (List.mem_of_getElem? (i := 10) rfl))) (mvT hZ (hw _ (List.mem_of_getElem? (i := 15) rfl))) (by decide) (backOf (W := 0) (rm1 l Z a0 hw [] p0 (64976 : Int32) (65007 : Int32) 64976 65007 h0 n0 Z0 rfl rfl) hZ (hw _ (List.mem_of_getElem? (i := 15) rfl)) (hw _ (List.mem_of_getElem? (i := 10) rfl)) (by decide) (by decide)) (g := (mkF m 150 #[.val (.int p0)] [(.int (65007 : Int32)), (.int (64976 : Int32)), (.int p0)])) rfl (by rw [hml]; rfl) (argsL := [(.int p0), (.int (64976 : Int32)), (.int (65007 : Int32))]) (rest := []) (lenOf own_pd0 rfl) rfl (by show 2 * 0 + _ ≤ _; exact Nat.le_of_eq rfl) (hb hby d2_150) (fun _ _ => ⟨rfl, e9, (by decide : 0 + 0 ≤ _), (by decide : 0 + 0 ≤ _)⟩)
                            dsimp only [Pt.U, Pt.locs, Pt.cells, Pt.slots] at X10 l10 y10 z10 st10 hQ10
                            subst l10 y10 z10
                            obtain ⟨⟨r10, rfl, hr10⟩, N10q, e10⟩ := hQ10
                            have N10 := Fr.app N9 N10q
                            refine own_go st10 ?_
                            show own_End p e below s (T10.setTop (mkF m 153 #[.val (.int p0)] [(.int r10)])) _ _ _
                            rcases hr10 with ⟨hv, ng12⟩ | ⟨hv, ng12⟩
                            · skip
                              refine own_go (fun t k => XS.ifYes X10.here hx rfl (pc0 := 153) (pc' := 167) rfl (hb hby d2_153) rfl ((if0 _ _).trans (own_ne (x := r10) (y := (0 : Int32)) (i := r10.toInt) (j := 0) rfl rfl (by omega)).2) (by decide) (by decide) k) ?_
                              show own_End p e below s (T10.setTop (mkF m 167 #[.val (.int p0)] [])) _ _ _
                              refine own_go (fun t k => XS.iconst X10.here hx rfl (hb hby d2_167) k) ?_
                              show own_End p e below s (T10.setTop (mkF m 168 #[.val (.int p0)] [(.int (0 : Int32))])) _ _ _
                              refine own_ret X10 (v := some (.int (0 : Int32))) (fun h => by rw [Bd.returns] at h; cases h) Bd.notSynchronized (fun fs hr => retN X10 hx (t := .boolean) Bd.returns (by simp) (hb hby d2_168) hr) ?_ (by decide) (by decide)
                              · rw [e10]; exact ⟨⟨_, rfl, Or.inr ⟨rfl, fun hh => by obtain ⟨-, -, -, -, -, -, -, -, -, -, -, -, -, hk, -⟩ := hh; exact hk ng12⟩⟩, N10, rfl⟩
                            · skip
                              refine own_go (fun t k => XS.ifNo X10.here hx rfl (hb hby d2_153) rfl ((if0 _ _).trans (own_eq (x := r10) (y := (0 : Int32)) (i := r10.toInt) (j := 0) rfl rfl (by omega)).2) k) ?_
                              show own_End p e below s (T10.setTop (mkF m 156 #[.val (.int p0)] [])) _ _ _
                              refine own_go (fun t k => XS.iloadN X10.here hx rfl (hb hby d2_156) rfl k) ?_
                              show own_End p e below s (T10.setTop (mkF m 157 #[.val (.int p0)] [(.int p0)])) _ _ _
                              refine own_go (fun t k => X10.ldcInt hx hown (mvT hZ (hw _ (List.mem_of_getElem? (i := 20) rfl))) (g := (mkF m 157 #[.val (.int p0)] [(.int p0)])) rfl (hb hby d2_157) _ k) ?_
                              show own_End p e below s (T10.setTop (mkF m 159 #[.val (.int p0)] [(.int (65534 : Int32)), (.int p0)])) _ _ _
                              refine own_go (fun t k => X10.ldcInt hx hown (mvT hZ (hw _ (List.mem_of_getElem? (i := 21) rfl))) (g := (mkF m 159 #[.val (.int p0)] [(.int (65534 : Int32)), (.int p0)])) rfl (hb hby d2_159) _ k) ?_
                              show own_End p e below s (T10.setTop (mkF m 161 #[.val (.int p0)] [(.int (65535 : Int32)), (.int (65534 : Int32)), (.int p0)])) _ _ _
                              obtain ⟨_, _, ⟨T11, L11, k11, n11⟩, -, X11, ⟨Lc11, hQ11, l11, y11, z11⟩, st11⟩ := Jvm.LawKit.callS X10 hx (y := (⟨"com/example/lehti/lehti/model/XmlNamesIsNameStartPinLaw", "in", "(III)Z"⟩ : MethodName)) hown (mvT hZ (hw _ (List.mem_of_getElem? (i := 13) rfl))) (mvT hZ (hw _ (List.mem_of_getElem? (i := 14) rfl))) (mvT hZ (hw _ (List.mem_of_getElem? (i := 10) rfl))) (mvT hZ (hw _ (List.mem_of_getElem? (i := 15) rfl))) (by decide) (backOf (W := 0) (rm1 l Z a0 hw [] p0 (65534 : Int32) (65535 : Int32) 65534 65535 h0 n0 Z0 rfl rfl) hZ (hw _ (List.mem_of_getElem? (i := 15) rfl)) (hw _ (List.mem_of_getElem? (i := 10) rfl)) (by decide) (by decide)) (g := (mkF m 161 #[.val (.int p0)] [(.int (65535 : Int32)), (.int (65534 : Int32)), (.int p0)])) rfl (by rw [hml]; rfl) (argsL := [(.int p0), (.int (65534 : Int32)), (.int (65535 : Int32))]) (rest := []) (lenOf own_pd0 rfl) rfl (by show 2 * 0 + _ ≤ _; exact Nat.le_of_eq rfl) (hb hby d2_161) (fun _ _ => ⟨rfl, e10, (by decide : 0 + 0 ≤ _), (by decide : 0 + 0 ≤ _)⟩)
                              dsimp only [Pt.U, Pt.locs, Pt.cells, Pt.slots] at X11 l11 y11 z11 st11 hQ11
                              subst l11 y11 z11
                              obtain ⟨⟨r11, rfl, hr11⟩, N11q, e11⟩ := hQ11
                              have N11 := Fr.app N10 N11q
                              refine own_go st11 ?_
                              show own_End p e below s (T11.setTop (mkF m 164 #[.val (.int p0)] [(.int r11)])) _ _ _
                              rcases hr11 with ⟨hv, ng13⟩ | ⟨hv, ng13⟩
                              · skip
                                refine own_go (fun t k => XS.ifNo X11.here hx rfl (hb hby d2_164) rfl ((if0 _ _).trans (own_ne (x := r11) (y := (0 : Int32)) (i := r11.toInt) (j := 0) rfl rfl (by omega)).1) k) ?_
                                show own_End p e below s (T11.setTop (mkF m 167 #[.val (.int p0)] [])) _ _ _
                                refine own_go (fun t k => XS.iconst X11.here hx rfl (hb hby d2_167) k) ?_
                                show own_End p e below s (T11.setTop (mkF m 168 #[.val (.int p0)] [(.int (0 : Int32))])) _ _ _
                                refine own_ret X11 (v := some (.int (0 : Int32))) (fun h => by rw [Bd.returns] at h; cases h) Bd.notSynchronized (fun fs hr => retN X11 hx (t := .boolean) Bd.returns (by simp) (hb hby d2_168) hr) ?_ (by decide) (by decide)
                                · rw [e11]; exact ⟨⟨_, rfl, Or.inr ⟨rfl, fun hh => by obtain ⟨-, -, -, -, -, -, -, -, -, -, -, -, -, -, hk⟩ := hh; exact hk ng13⟩⟩, N11, rfl⟩
                              · skip
                                refine own_go (fun t k => XS.ifYes X11.here hx rfl (pc0 := 164) (pc' := 169) rfl (hb hby d2_164) rfl ((if0 _ _).trans (own_eq (x := r11) (y := (0 : Int32)) (i := r11.toInt) (j := 0) rfl rfl (by omega)).1) (by decide) (by decide) k) ?_
                                show own_End p e below s (T11.setTop (mkF m 169 #[.val (.int p0)] [])) _ _ _
                                refine own_go (fun t k => XS.iconst X11.here hx rfl (hb hby d2_169) k) ?_
                                show own_End p e below s (T11.setTop (mkF m 170 #[.val (.int p0)] [(.int (1 : Int32))])) _ _ _
                                refine own_ret X11 (v := some (.int (1 : Int32))) (fun h => by rw [Bd.returns] at h; cases h) Bd.notSynchronized (fun fs hr => retN X11 hx (t := .boolean) Bd.returns (by simp) (hb hby d2_170) hr) ?_ (by decide) (by decide)
                                · rw [e11]; exact ⟨⟨_, rfl, Or.inl ⟨rfl, (And.intro nb (And.intro ng0 (And.intro ng1 (And.intro ng2 (And.intro ng3 (And.intro ng4 (And.intro ng5 (And.intro ng6 (And.intro ng7 (And.intro ng8 (And.intro ng9 (And.intro ng10 (And.intro ng11 (And.intro ng12 ng13))))))))))))))⟩⟩, N11, rfl⟩
  · skip
    refine own_go (fun t k => XS.ifNo X1.here hx rfl (hb hby d2_8) rfl ((if0 _ _).trans (own_eq (x := r1) (y := (0 : Int32)) (i := r1.toInt) (j := 0) rfl rfl (by omega)).2) k) ?_
    show own_End p e below s (T1.setTop (mkF m 11 #[.val (.int p0)] [])) _ _ _
    refine own_go (fun t k => XS.iconst X1.here hx rfl (hb hby d2_11) k) ?_
    show own_End p e below s (T1.setTop (mkF m 12 #[.val (.int p0)] [(.int (0 : Int32))])) _ _ _
    refine own_ret X1 (v := some (.int (0 : Int32))) (fun h => by rw [Bd.returns] at h; cases h) Bd.notSynchronized (fun fs hr => retN X1 hx (t := .boolean) Bd.returns (by simp) (hb hby d2_12) hr) ?_ (by decide) (by decide)
    · rw [e1]; exact ⟨⟨_, rfl, Or.inr ⟨rfl, fun hh => nb (by obtain ⟨hh, -⟩ := hh; exact hh)⟩⟩, N1, rfl⟩
theorem own_ef0_rm0 (m : MethodId) (p0 : Int32) (p1 : Int32) : entryFrame m #[(.int p0), (.int p1)] maxLocals = mkF m 0 #[.val (.int p0), .val (.int p1), .unset, .unset] [] := by first | (simp [entryFrame, mkF, argsToLocals, Value.category, maxLocals]; done) | rfl
def Q_rm0 (Z : State) (p0 : Int32) (p1 : Int32)  (h0 : Heap) (n0 : Nat) (v : Option Value) (h : Heap) (L : List Loc) : Prop := v = some (.int 1) ∧ Fr n0 L
theorem own_pd1 : parseMethodDescriptor "(I)Z" = some ⟨[.int], some .boolean⟩ := by decide +kernel
set_option maxRecDepth 65536 in
set_option maxHeartbeats 40000000 in
theorem rm0 (l : Launch) (Z : State) (a0 : Array Value) (hw : ∀ d ∈ tables_1, d.before a0 Z = true) (ws : List Jvm.Cond) (p0 : Int32) (p1 : Int32)  (h0 : Heap) (n0 : Nat) (Z0 : n0 ≤ h0.size)  :
    MetFree l x (head1 (Jvm.Cond.code x code maxLocals ret :: ws) room_1) (fun a U => a = #[(.int p0), (.int p1)] ∧ Z.Warmed39 U.vm ∧ U.heap = h0) (fun _ _ _ _ _ => True) (fun _ U o U' => ∃ v L, o = .returned v ∧ Q_rm0 Z p0 p1  h0 n0 v U'.heap L ∧ FrameEnd U o U' L room_1.cells room_1.slots) := by
  refine MetFree.of_bodySF (plainFor_of_name own_pn0) hisR ?_
  intro p e s m args below meth c s₁ Bd hml0 hP hK
  obtain ⟨rfl, hZ, hh⟩ := hP
  have hx := Bd.exec
  have hby := Bd.bytes
  have hml : c.maxLocals = 4 := hml0
  have hown : s.vm.findClass "com/example/lehti/lehti/model/XmlNamesIsNameStartPinLaw" = some m.cls := findClass_of_methodNamed Bd.named
  have hnm := (name_of_methodNamed Bd.named Bd.method).1
  have X0 : Stand p l e room_1 s m #[(.int p0), (.int p1)] below meth c s₁ [] 0 0 := Stand.of_body Bd
  have e0 : s₁.heap = h0 := by rw [← hh, Bd.state]; rfl
  have N0 := Fr.nil n0
  refine (show own_End p e below s (s₁.setTop (entryFrame m #[(.int p0), (.int p1)] maxLocals)) (Q_rm0 Z p0 p1  h0 n0) room_1.cells room_1.slots from ?_)
  refine own_go (fun t k => castTop (own_ef0_rm0 m p0 p1) k) ?_
  have li0 : (0 : Int32).toInt = 0 := rfl
  have li1 : (1 : Int32).toInt = 1 := rfl
  show own_End p e below s (s₁.setTop (mkF m 0 #[.val (.int p0), .val (.int p1), .unset, .unset] [])) _ _ _
  have J45 : ∀ (x : Int32), own_End p e below s (s₁.setTop (mkF m 45 #[.val (.int p0), .val (.int p1), .val (.int (p1 &&& (3 : Int32))), .val (.int x)] [])) (Q_rm0 Z p0 p1  h0 n0) room_1.cells room_1.slots := by
    intro x
    show own_End p e below s (s₁.setTop (mkF m 45 #[.val (.int p0), .val (.int p1), .val (.int (p1 &&& (3 : Int32))), .val (.int x)] [])) _ _ _
    refine own_go (fun t k => XS.iloadN X0.here hx rfl (hb hby at_45) rfl k) ?_
    show own_End p e below s (s₁.setTop (mkF m 46 #[.val (.int p0), .val (.int p1), .val (.int (p1 &&& (3 : Int32))), .val (.int x)] [(.int x)])) _ _ _
    obtain ⟨_, _, ⟨T1, L1, k1, n1⟩, -, X1, ⟨Lc1, hQ1, l1, y1, z1⟩, st1⟩ := Jvm.LawKit.callS X0 hx (y := (⟨"com/example/lehti/lehti/model/XmlNames", "isNameStart", "(I)Z"⟩ : MethodName)) hown (mvT hZ (hw _ (List.mem_of_getElem? (i := 1) rfl))) (mvT hZ (hw _ (List.mem_of_getElem? (i := 2) rfl))) (mvT hZ (hw _ (List.mem_of_getElem? (i := 3) rfl))) (mvT hZ (hw _ (List.mem_of_getElem? (i := 4) rfl))) (by decide) (backOf (W := 0) (rm2 l Z a0 hw [] x h0 n0 Z0) hZ (hw _ (List.mem_of_getElem? (i := 4) rfl)) (hw _ (List.mem_of_getElem? (i := 3) rfl)) (by decide) (by decide)) (g := (mkF m 46 #[.val (.int p0), .val (.int p1), .val (.int (p1 &&& (3 : Int32))), .val (.int x)] [(.int x)])) rfl (by rw [hml]; rfl) (argsL := [(.int x)]) (rest := []) (lenOf own_pd1 rfl) rfl (by show 2 * 0 + _ ≤ _; exact Nat.le_of_eq rfl) (hb hby at_46) (fun _ _ => ⟨rfl, e0, (by decide : 0 + 0 ≤ _), (by decide : 0 + 0 ≤ _)⟩)
    dsimp only [Pt.U, Pt.locs, Pt.cells, Pt.slots] at X1 l1 y1 z1 st1 hQ1
    subst l1 y1 z1
    obtain ⟨⟨r1, rfl, hr1⟩, N1q, e1⟩ := hQ1
    have N1 := Fr.app N0 N1q
    refine own_go st1 ?_
    show own_End p e below s (T1.setTop (mkF m 49 #[.val (.int p0), .val (.int p1), .val (.int (p1 &&& (3 : Int32))), .val (.int x)] [(.int r1)])) _ _ _
    refine own_go (fun t k => XS.iloadN X1.here hx rfl (hb hby at_49) rfl k) ?_
    show own_End p e below s (T1.setTop (mkF m 50 #[.val (.int p0), .val (.int p1), .val (.int (p1 &&& (3 : Int32))), .val (.int x)] [(.int x), (.int r1)])) _ _ _
    obtain ⟨_, _, ⟨T2, L2, k2, n2⟩, -, X2, ⟨Lc2, hQ2, l2, y2, z2⟩, st2⟩ := Jvm.LawKit.callS X1 hx (y := (⟨"com/example/lehti/lehti/model/XmlNamesIsNameStartPinLaw", "reference", "(I)Z"⟩ : MethodName)) hown (mvT hZ (hw _ (List.mem_of_getElem? (i := 8) rfl))) (mvT hZ (hw _ (List.mem_of_getElem? (i := 9) rfl))) (mvT hZ (hw _ (List.mem_of_getElem? (i := 10) rfl))) (mvT hZ (hw _ (List.mem_of_getElem? (i := 11) rfl))) (by decide) (backOf (W := 1) (rm3 l Z a0 hw [] x h0 n0 Z0) hZ (hw _ (List.mem_of_getElem? (i := 11) rfl)) (hw _ (List.mem_of_getElem? (i := 10) rfl)) (by decide) (by decide)) (g := (mkF m 50 #[.val (.int p0), .val (.int p1), .val (.int (p1 &&& (3 : Int32))), .val (.int x)] [(.int x), (.int r1)])) rfl (by rw [hml]; rfl) (argsL := [(.int x)]) (rest := [(.int r1)]) (lenOf own_pd1 rfl) rfl (by show 2 * 0 + _ ≤ _; exact Nat.le_of_eq rfl) (hb hby at_50) (fun _ _ => ⟨rfl, e1, (by decide : 0 + 0 ≤ _), (by decide : 0 + 0 ≤ _)⟩)
    dsimp only [Pt.U, Pt.locs, Pt.cells, Pt.slots] at X2 l2 y2 z2 st2 hQ2
    subst l2 y2 z2
    obtain ⟨⟨r2, rfl, hr2⟩, N2q, e2⟩ := hQ2
    have N2 := Fr.app N1 N2q
    refine own_go st2 ?_
    show own_End p e below s (T2.setTop (mkF m 53 #[.val (.int p0), .val (.int p1), .val (.int (p1 &&& (3 : Int32))), .val (.int x)] [(.int r2), (.int r1)])) _ _ _
    refine own_go (fun t k => XS.icmpNo X2.here hx rfl (hb hby at_53) rfl (own_eq (x := r1) (y := r2) (i := r1.toInt) (j := r2.toInt) rfl rfl (own_agree ⟨own_same1, own_same2⟩ hr1 hr2)).2 k) ?_
    show own_End p e below s (T2.setTop (mkF m 56 #[.val (.int p0), .val (.int p1), .val (.int (p1 &&& (3 : Int32))), .val (.int x)] [])) _ _ _
    refine own_go (fun t k => XS.iconst X2.here hx rfl (hb hby at_56) k) ?_
    show own_End p e below s (T2.setTop (mkF m 57 #[.val (.int p0), .val (.int p1), .val (.int (p1 &&& (3 : Int32))), .val (.int x)] [(.int (1 : Int32))])) _ _ _
    refine own_go (fun t k => XS.goto X2.here hx rfl (pc0 := 57) (pc' := 61) rfl (hb hby at_57) (by decide) (by decide) k) ?_
    show own_End p e below s (T2.setTop (mkF m 61 #[.val (.int p0), .val (.int p1), .val (.int (p1 &&& (3 : Int32))), .val (.int x)] [(.int (1 : Int32))])) _ _ _
    refine own_ret X2 (v := some (.int (1 : Int32))) (fun h => by rw [Bd.returns] at h; cases h) Bd.notSynchronized (fun fs hr => retN X2 hx (t := .boolean) Bd.returns (by simp) (hb hby at_61) hr) ?_ (by decide) (by decide)
    · exact ⟨rfl, N2⟩
  refine own_go (fun t k => XS.iloadN X0.here hx rfl (hb hby at_0) rfl k) ?_
  show own_End p e below s (s₁.setTop (mkF m 1 #[.val (.int p0), .val (.int p1), .unset, .unset] [(.int p1)])) _ _ _
  refine own_go (fun t k => XS.iconst X0.here hx rfl (hb hby at_1) k) ?_
  show own_End p e below s (s₁.setTop (mkF m 2 #[.val (.int p0), .val (.int p1), .unset, .unset] [(.int (3 : Int32)), (.int p1)])) _ _ _
  refine own_go (fun t k => XS.iand X0.here hx rfl (hb hby at_2) rfl k) ?_
  show own_End p e below s (s₁.setTop (mkF m 3 #[.val (.int p0), .val (.int p1), .unset, .unset] [(.int (p1 &&& (3 : Int32)))])) _ _ _
  refine own_go (fun t k => XS.istoreN X0.here hx rfl (hb hby at_3) rfl (l' := #[.val (.int p0), .val (.int p1), .val (.int (p1 &&& (3 : Int32))), .unset]) rfl k) ?_
  show own_End p e below s (s₁.setTop (mkF m 4 #[.val (.int p0), .val (.int p1), .val (.int (p1 &&& (3 : Int32))), .unset] [])) _ _ _
  refine own_go (fun t k => XS.iloadN X0.here hx rfl (hb hby at_4) rfl k) ?_
  show own_End p e below s (s₁.setTop (mkF m 5 #[.val (.int p0), .val (.int p1), .val (.int (p1 &&& (3 : Int32))), .unset] [(.int (p1 &&& (3 : Int32)))])) _ _ _
  by_cases c5_3 : (p1 &&& (3 : Int32)).toInt = 0
  · skip
    refine own_go (fun t k => XS.ifNo X0.here hx rfl (hb hby at_5) rfl ((if0 _ _).trans (own_eq (x := (p1 &&& (3 : Int32))) (y := (0 : Int32)) (i := (p1 &&& (3 : Int32)).toInt) (j := 0) rfl rfl c5_3).2) k) ?_
    show own_End p e below s (s₁.setTop (mkF m 8 #[.val (.int p0), .val (.int p1), .val (.int (p1 &&& (3 : Int32))), .unset] [])) _ _ _
    refine own_go (fun t k => XS.iloadN X0.here hx rfl (hb hby at_8) rfl k) ?_
    show own_End p e below s (s₁.setTop (mkF m 9 #[.val (.int p0), .val (.int p1), .val (.int (p1 &&& (3 : Int32))), .unset] [(.int p0)])) _ _ _
    refine own_go (fun t k => XS.istoreN X0.here hx rfl (hb hby at_9) rfl (l' := #[.val (.int p0), .val (.int p1), .val (.int (p1 &&& (3 : Int32))), .val (.int p0)]) rfl k) ?_
    show own_End p e below s (s₁.setTop (mkF m 10 #[.val (.int p0), .val (.int p1), .val (.int (p1 &&& (3 : Int32))), .val (.int p0)] [])) _ _ _
    refine own_go (fun t k => XS.goto X0.here hx rfl (pc0 := 10) (pc' := 45) rfl (hb hby at_10) (by decide) (by decide) k) ?_
    show own_End p e below s (s₁.setTop (mkF m 45 #[.val (.int p0), .val (.int p1), .val (.int (p1 &&& (3 : Int32))), .val (.int p0)] [])) _ _ _
    exact J45 _
  · skip
    refine own_go (fun t k => XS.ifYes X0.here hx rfl (pc0 := 5) (pc' := 13) rfl (hb hby at_5) rfl ((if0 _ _).trans (own_ne (x := (p1 &&& (3 : Int32))) (y := (0 : Int32)) (i := (p1 &&& (3 : Int32)).toInt) (j := 0) rfl rfl c5_3).2) (by decide) (by decide) k) ?_
    show own_End p e below s (s₁.setTop (mkF m 13 #[.val (.int p0), .val (.int p1), .val (.int (p1 &&& (3 : Int32))), .unset] [])) _ _ _
    refine own_go (fun t k => XS.iloadN X0.here hx rfl (hb hby at_13) rfl k) ?_
    show own_End p e below s (s₁.setTop (mkF m 14 #[.val (.int p0), .val (.int p1), .val (.int (p1 &&& (3 : Int32))), .unset] [(.int (p1 &&& (3 : Int32)))])) _ _ _
    refine own_go (fun t k => XS.iconst X0.here hx rfl (hb hby at_14) k) ?_
    show own_End p e below s (s₁.setTop (mkF m 15 #[.val (.int p0), .val (.int p1), .val (.int (p1 &&& (3 : Int32))), .unset] [(.int (1 : Int32)), (.int (p1 &&& (3 : Int32)))])) _ _ _
    by_cases c15_4 : (p1 &&& (3 : Int32)).toInt = 1
    · skip
      refine own_go (fun t k => XS.icmpNo X0.here hx rfl (hb hby at_15) rfl (own_eq (x := (p1 &&& (3 : Int32))) (y := (1 : Int32)) (i := (p1 &&& (3 : Int32)).toInt) (j := 1) rfl rfl c15_4).2 k) ?_
      show own_End p e below s (s₁.setTop (mkF m 18 #[.val (.int p0), .val (.int p1), .val (.int (p1 &&& (3 : Int32))), .unset] [])) _ _ _
      refine own_go (fun t k => XS.iloadN X0.here hx rfl (hb hby at_18) rfl k) ?_
      show own_End p e below s (s₁.setTop (mkF m 19 #[.val (.int p0), .val (.int p1), .val (.int (p1 &&& (3 : Int32))), .unset] [(.int p0)])) _ _ _
      refine own_go (fun t k => XS.sipush X0.here hx rfl (hb hby at_19) k) ?_
      show own_End p e below s (s₁.setTop (mkF m 22 #[.val (.int p0), .val (.int p1), .val (.int (p1 &&& (3 : Int32))), .unset] [(.int (16383 : Int32)), (.int p0)])) _ _ _
      refine own_go (fun t k => XS.iand X0.here hx rfl (hb hby at_22) rfl k) ?_
      show own_End p e below s (s₁.setTop (mkF m 23 #[.val (.int p0), .val (.int p1), .val (.int (p1 &&& (3 : Int32))), .unset] [(.int (p0 &&& (16383 : Int32)))])) _ _ _
      refine own_go (fun t k => XS.istoreN X0.here hx rfl (hb hby at_23) rfl (l' := #[.val (.int p0), .val (.int p1), .val (.int (p1 &&& (3 : Int32))), .val (.int (p0 &&& (16383 : Int32)))]) rfl k) ?_
      show own_End p e below s (s₁.setTop (mkF m 24 #[.val (.int p0), .val (.int p1), .val (.int (p1 &&& (3 : Int32))), .val (.int (p0 &&& (16383 : Int32)))] [])) _ _ _
      refine own_go (fun t k => XS.goto X0.here hx rfl (pc0 := 24) (pc' := 45) rfl (hb hby at_24) (by decide) (by decide) k) ?_
      show own_End p e below s (s₁.setTop (mkF m 45 #[.val (.int p0), .val (.int p1), .val (.int (p1 &&& (3 : Int32))), .val (.int (p0 &&& (16383 : Int32)))] [])) _ _ _
      exact J45 _
    · skip
      refine own_go (fun t k => XS.icmpYes X0.here hx rfl (pc0 := 15) (pc' := 27) rfl (hb hby at_15) rfl (own_ne (x := (p1 &&& (3 : Int32))) (y := (1 : Int32)) (i := (p1 &&& (3 : Int32)).toInt) (j := 1) rfl rfl c15_4).2 (by decide) (by decide) k) ?_
      show own_End p e below s (s₁.setTop (mkF m 27 #[.val (.int p0), .val (.int p1), .val (.int (p1 &&& (3 : Int32))), .unset] [])) _ _ _
      refine own_go (fun t k => XS.iloadN X0.here hx rfl (hb hby at_27) rfl k) ?_
      show own_End p e below s (s₁.setTop (mkF m 28 #[.val (.int p0), .val (.int p1), .val (.int (p1 &&& (3 : Int32))), .unset] [(.int (p1 &&& (3 : Int32)))])) _ _ _
      refine own_go (fun t k => XS.iconst X0.here hx rfl (hb hby at_28) k) ?_
      show own_End p e below s (s₁.setTop (mkF m 29 #[.val (.int p0), .val (.int p1), .val (.int (p1 &&& (3 : Int32))), .unset] [(.int (2 : Int32)), (.int (p1 &&& (3 : Int32)))])) _ _ _
      by_cases c29_5 : (p1 &&& (3 : Int32)).toInt = 2
      · skip
        refine own_go (fun t k => XS.icmpNo X0.here hx rfl (hb hby at_29) rfl (own_eq (x := (p1 &&& (3 : Int32))) (y := (2 : Int32)) (i := (p1 &&& (3 : Int32)).toInt) (j := 2) rfl rfl c29_5).2 k) ?_
        show own_End p e below s (s₁.setTop (mkF m 32 #[.val (.int p0), .val (.int p1), .val (.int (p1 &&& (3 : Int32))), .unset] [])) _ _ _
        refine own_go (fun t k => XS.iloadN X0.here hx rfl (hb hby at_32) rfl k) ?_
        show own_End p e below s (s₁.setTop (mkF m 33 #[.val (.int p0), .val (.int p1), .val (.int (p1 &&& (3 : Int32))), .unset] [(.int p0)])) _ _ _
        refine own_go (fun t k => X0.ldcInt hx hown (mvT hZ (hw _ (List.mem_of_getElem? (i := 21) rfl))) (g := (mkF m 33 #[.val (.int p0), .val (.int p1), .val (.int (p1 &&& (3 : Int32))), .unset] [(.int p0)])) rfl (hb hby at_33) _ k) ?_
        show own_End p e below s (s₁.setTop (mkF m 35 #[.val (.int p0), .val (.int p1), .val (.int (p1 &&& (3 : Int32))), .unset] [(.int (65535 : Int32)), (.int p0)])) _ _ _
        refine own_go (fun t k => XS.iand X0.here hx rfl (hb hby at_35) rfl k) ?_
        show own_End p e below s (s₁.setTop (mkF m 36 #[.val (.int p0), .val (.int p1), .val (.int (p1 &&& (3 : Int32))), .unset] [(.int (p0 &&& (65535 : Int32)))])) _ _ _
        refine own_go (fun t k => XS.istoreN X0.here hx rfl (hb hby at_36) rfl (l' := #[.val (.int p0), .val (.int p1), .val (.int (p1 &&& (3 : Int32))), .val (.int (p0 &&& (65535 : Int32)))]) rfl k) ?_
        show own_End p e below s (s₁.setTop (mkF m 37 #[.val (.int p0), .val (.int p1), .val (.int (p1 &&& (3 : Int32))), .val (.int (p0 &&& (65535 : Int32)))] [])) _ _ _
        refine own_go (fun t k => XS.goto X0.here hx rfl (pc0 := 37) (pc' := 45) rfl (hb hby at_37) (by decide) (by decide) k) ?_
        show own_End p e below s (s₁.setTop (mkF m 45 #[.val (.int p0), .val (.int p1), .val (.int (p1 &&& (3 : Int32))), .val (.int (p0 &&& (65535 : Int32)))] [])) _ _ _
        exact J45 _
      · skip
        refine own_go (fun t k => XS.icmpYes X0.here hx rfl (pc0 := 29) (pc' := 40) rfl (hb hby at_29) rfl (own_ne (x := (p1 &&& (3 : Int32))) (y := (2 : Int32)) (i := (p1 &&& (3 : Int32)).toInt) (j := 2) rfl rfl c29_5).2 (by decide) (by decide) k) ?_
        show own_End p e below s (s₁.setTop (mkF m 40 #[.val (.int p0), .val (.int p1), .val (.int (p1 &&& (3 : Int32))), .unset] [])) _ _ _
        refine own_go (fun t k => XS.iloadN X0.here hx rfl (hb hby at_40) rfl k) ?_
        show own_End p e below s (s₁.setTop (mkF m 41 #[.val (.int p0), .val (.int p1), .val (.int (p1 &&& (3 : Int32))), .unset] [(.int p0)])) _ _ _
        refine own_go (fun t k => X0.ldcInt hx hown (mvT hZ (hw _ (List.mem_of_getElem? (i := 0) rfl))) (g := (mkF m 41 #[.val (.int p0), .val (.int p1), .val (.int (p1 &&& (3 : Int32))), .unset] [(.int p0)])) rfl (hb hby at_41) _ k) ?_
        show own_End p e below s (s₁.setTop (mkF m 43 #[.val (.int p0), .val (.int p1), .val (.int (p1 &&& (3 : Int32))), .unset] [(.int (2097151 : Int32)), (.int p0)])) _ _ _
        refine own_go (fun t k => XS.iand X0.here hx rfl (hb hby at_43) rfl k) ?_
        show own_End p e below s (s₁.setTop (mkF m 44 #[.val (.int p0), .val (.int p1), .val (.int (p1 &&& (3 : Int32))), .unset] [(.int (p0 &&& (2097151 : Int32)))])) _ _ _
        refine own_go (fun t k => XS.istoreN X0.here hx rfl (hb hby at_44) rfl (l' := #[.val (.int p0), .val (.int p1), .val (.int (p1 &&& (3 : Int32))), .val (.int (p0 &&& (2097151 : Int32)))]) rfl k) ?_
        show own_End p e below s (s₁.setTop (mkF m 45 #[.val (.int p0), .val (.int p1), .val (.int (p1 &&& (3 : Int32))), .val (.int (p0 &&& (2097151 : Int32)))] [])) _ _ _
        exact J45 _
set_option maxRecDepth 65536 in
set_option maxHeartbeats 40000000 in
theorem comes_1 {Post : Tables → Env → Array Value → State → Outcome → State → Prop} (hpost : ∀ tb e args s v u, (limb_1_1.after args s (.returned v) u = true ∧ limb_1_2.after args s (.returned v) u = true ∧ True) → FrameEnd s (.returned v) u (Jvm.fieldLocs frame_1_writes args s ++ Jvm.arrayLocs frame_1_arrays args s ++ Jvm.staticLocs frame_1_statics s) 0 0 → Post tb e args s (.returned v) u) :
    ArmFor flags0 classFile x code maxLocals ret World_1 tables_1 room_1 Calls_1 rest_1 Pre_1 Post := by
  intro l hfl _ _ p e ha hc hk s m args below hf hA hF happ hP
  obtain ⟨hcalls, hrest, hpre⟩ := hP
  obtain ⟨-, -, -, hnamed, -, -, -, hat⟩ := (Spec.applies_iff hf).mp happ
  obtain ⟨hg, hn⟩ := and_e (Cond.before_iff.mp (show (Jvm.Cond.and given_1 narrow_1).before args s = true from hpre))
  obtain ⟨gc, gr0⟩ := and_e hg
  obtain ⟨ga0, gr1⟩ := and_e gr0
  have ga1 := gr1
  obtain ⟨w0, w1, rfl⟩ : ∃ w0 w1 : Value, args = #[w0, w1] := by
    have hs : args.size = 2 := by simpa [Cond.value, given_1] using gc
    obtain ⟨L⟩ := args
    match L, hs with
    | [w0, w1], _ => exact ⟨w0, w1, rfl⟩
  have hw := fun d (hd : d ∈ tables_1) => atoms_spec (ws := Jvm.Cond.code x code maxLocals ret :: tables_1) hat d (List.mem_cons_of_mem _ hd)
  obtain ⟨i0, ei0⟩ := is_v ga0
  obtain rfl : w0 = (.int i0) := Option.some.inj ei0
  obtain ⟨i1, ei1⟩ := is_v ga1
  obtain rfl : w1 = (.int i1) := Option.some.inj ei1
  obtain ⟨n, o, h1, h2, h3, _, L, rfl, ⟨rfl, N⟩, hq⟩ := rm0 l s _ hw tables_1 i0 i1  s.heap s.heap.size (Nat.le_refl _)  p e ha hc hk s m _ below hf ((Spec.applies_iff_loose hf).mp happ).1 ⟨rfl, State.Warmed39.refl s, rfl⟩ trivial
  refine ⟨n, _, h1, h2, h3, hpost _ _ _ _ _ _ ⟨Cond.after_iff.mpr rfl, Cond.after_iff.mpr (eq_i res_at (Term.int_eval (1)) rfl), trivial⟩ ⟨hq.1, hq.2.1, (hq.2.2.sift fun y hy => Or.inr (N y hy)).mono (by decide) (by decide)⟩⟩
theorem main_1_1 : Claimed_1_1 := comes_1 fun _ _ _ _ _ _ h hF => ⟨h.1, hF⟩
theorem main_1_2 : Claimed_1_2 := comes_1 fun _ _ _ _ _ _ h hF => ⟨h.2.1, hF⟩
end Jvm.Pilot.@@N@@
namespace Jvm.Pilot.@@N@@
open Jvm Jvm.ClassFile Sem Op Lib Jvm.Free Jvm.Stand Jvm.Pilot.@@N@@.Jvm.D
/-! MADE BY PROGRAM (witnessworld.py) out of the Statement's table words and the real class files: 9 classes; the members and pool entries that the words name. The judged class is class 1, her method 3. -/
namespace start1
open Jvm.ClassFile
def u (s : String) : CpInfo := .utf8 (stringToUtf16 s)
/-- a pool by its gaps: so many unusable entries, then the entry; so many at the end -/
def gap : Nat → List CpInfo → List CpInfo
  | 0, r => r
  | n + 1, r => .unusable :: gap n r
def poolList (es : List (Nat × CpInfo)) (last : Nat) : List CpInfo := es.foldr (fun e r => gap e.1 (e.2 :: r)) (gap last [])
def pool (es : List (Nat × CpInfo)) (last : Nat) : Array CpInfo := ⟨poolList es last⟩
def fileOf (pool : Array CpInfo) (this : Nat) (attrs : Array Attribute := #[]) (ms : Array MethodInfo := #[]) (fl : Nat := 33) (sup : Nat := 0) (ifs : Array Nat := #[]) (fds : Array FieldInfo := #[]) : ClassFile where
  minorVersion := 0
  majorVersion := 65
  constantPool := pool
  accessFlags := fl
  thisClass := this
  superClass := sup
  interfaces := ifs
  fields := fds
  methods := ms
  attributes := attrs
def plain (name : String) (sup : Option ClassId) : Class where
  name := name
  kind := .ordinary
  loader := none
  accessFlags := 33
  super := sup
  interfaces := #[]
  cf := none
  fields := #[]
  methods := #[]
  instanceTypes := #[]
  staticTypes := #[]
  resolved := #[]
  callSites := []
  init := .initialized
  statics := none
  mirror := none

def pool0 : Array CpInfo := pool [(5, u "<init>"), (0, u "()V"), (1, .class_ 10), (1, u "java/lang/Object")] 113

def k0m0 : Method := { name := "<init>", desc := "()V", sig := { parameters := [], returnType := none }, accessFlags := 1, code := none }
/-- java/lang/Object -/
def k0 : Class := { plain "java/lang/Object" none with
  accessFlags := 33
  interfaces := #[]
  cf := some (fileOf pool0 8 #[] #[{ accessFlags := 1, nameIndex := 5, descriptorIndex := 6, attributes := #[] }] 33 0 #[] #[])
  fields := #[]
  methods := #[k0m0]
  instanceTypes := #[]
  staticTypes := #[]
  resolved := Array.replicate 124 none
  statics := none }

def pool1 : Array CpInfo := pool [(2, .class_ 4), (1, u "java/lang/Object"), (0, u "<init>"), (0, u "()V"), (0, .integer 983039), (0, .methodref 9 10), (0, .class_ 11), (0, .nameAndType 12 13), (0, u "com/example/lehti/lehti/model/XmlNamesIsNameStartPinLaw"), (0, u "in"), (0, u "(III)Z"), (0, .integer 55296), (0, .integer 63743), (0, .integer 64976), (0, .integer 65007), (0, .integer 65534), (0, .integer 65535), (0, .integer 2097151), (0, .methodref 22 23), (0, .class_ 24), (0, .nameAndType 25 26), (0, u "com/example/lehti/lehti/model/XmlNames"), (0, u "isNameStart"), (0, u "(I)Z"), (0, .methodref 9 28), (0, .nameAndType 29 26), (0, u "reference"), (3, u "law"), (0, u "(II)Z")] 2

def k1m0 : Method := { name := "<init>", desc := "()V", sig := { parameters := [], returnType := none }, accessFlags := 2, code := none }
def k1c1 : Code := { maxStack := 2, maxLocals := 3, code := method_2_code, exceptionTable := #[], attributes := #[] }
def k1m1 : Method := { name := "in", desc := "(III)Z", sig := { parameters := [.int, .int, .int], returnType := some .boolean }, accessFlags := 10, code := some k1c1 }
def k1c2 : Code := { maxStack := 3, maxLocals := 1, code := method_3_code, exceptionTable := #[], attributes := #[] }
def k1m2 : Method := { name := "reference", desc := "(I)Z", sig := { parameters := [.int], returnType := some .boolean }, accessFlags := 10, code := some k1c2 }
def k1c3 : Code := { maxStack := 2, maxLocals := 4, code := code, exceptionTable := #[], attributes := #[] }
def k1m3 : Method := { name := "law", desc := "(II)Z", sig := { parameters := [.int, .int], returnType := some .boolean }, accessFlags := 9, code := some k1c3 }
/-- com/example/lehti/lehti/model/XmlNamesIsNameStartPinLaw -/
def k1 : Class := { plain "com/example/lehti/lehti/model/XmlNamesIsNameStartPinLaw" (some 0) with
  accessFlags := 49
  interfaces := #[]
  cf := some (fileOf pool1 9 #[] #[{ accessFlags := 2, nameIndex := 5, descriptorIndex := 6, attributes := #[] }, { accessFlags := 10, nameIndex := 12, descriptorIndex := 13, attributes := #[] }, { accessFlags := 10, nameIndex := 29, descriptorIndex := 26, attributes := #[] }, { accessFlags := 9, nameIndex := 33, descriptorIndex := 34, attributes := #[] }] 49 2 #[] #[])
  fields := #[]
  methods := #[k1m0, k1m1, k1m2, k1m3]
  instanceTypes := #[]
  staticTypes := #[]
  resolved := Array.replicate 37 none
  statics := none }

def pool2 : Array CpInfo := pool [(2, .class_ 4), (1, u "java/lang/Object"), (0, u "<init>"), (0, u "()V"), (11, .class_ 20), (1, u "com/example/lehti/lehti/model/XmlNames"), (0, u "isNameStart"), (0, u "(I)Z"), (20, .integer 55295), (0, .integer 63744), (0, .integer 64975), (0, .integer 65008), (0, .integer 65533), (0, .integer 65536), (0, .integer 983039)] 8

def k2m0 : Method := { name := "<init>", desc := "()V", sig := { parameters := [], returnType := none }, accessFlags := 2, code := none }
def k2c1 : Code := { maxStack := 2, maxLocals := 1, code := prog_142_method_5_code, exceptionTable := #[], attributes := #[] }
def k2m1 : Method := { name := "isNameStart", desc := "(I)Z", sig := { parameters := [.int], returnType := some .boolean }, accessFlags := 9, code := some k2c1 }
/-- com/example/lehti/lehti/model/XmlNames -/
def k2 : Class := { plain "com/example/lehti/lehti/model/XmlNames" (some 0) with
  accessFlags := 33
  interfaces := #[]
  cf := some (fileOf pool2 18 #[] #[{ accessFlags := 2, nameIndex := 5, descriptorIndex := 6, attributes := #[] }, { accessFlags := 9, nameIndex := 21, descriptorIndex := 22, attributes := #[] }] 33 2 #[] #[])
  fields := #[]
  methods := #[k2m0, k2m1]
  instanceTypes := #[]
  staticTypes := #[]
  resolved := Array.replicate 58 none
  statics := none }

def pool3 : Array CpInfo := pool [(1, u "java/lang/Cloneable"), (0, .class_ 1), (0, u "java/lang/Object"), (0, .class_ 3)] 3

/-- java/lang/Cloneable -/
def k3 : Class := { plain "java/lang/Cloneable" (some 0) with
  accessFlags := 1537
  interfaces := #[]
  cf := some (fileOf pool3 2 #[] #[] 1537 4 #[] #[])
  fields := #[]
  methods := #[]
  instanceTypes := #[]
  staticTypes := #[]
  resolved := Array.replicate 8 none
  statics := none }

def pool4 : Array CpInfo := pool [(1, u "java/io/Serializable"), (0, .class_ 1), (0, u "java/lang/Object"), (0, .class_ 3)] 3

/-- java/io/Serializable -/
def k4 : Class := { plain "java/io/Serializable" (some 0) with
  accessFlags := 1537
  interfaces := #[]
  cf := some (fileOf pool4 2 #[] #[] 1537 4 #[] #[])
  fields := #[]
  methods := #[]
  instanceTypes := #[]
  staticTypes := #[]
  resolved := Array.replicate 8 none
  statics := none }

/-- the primitive byte -/
def k5 : Class := { plain "byte" none with kind := .primitive 'B', accessFlags := 0x411 }
/-- [B -/
def k6 : Class := { plain "[B" (some 0) with kind := .array 5 .byte, interfaces := #[3, 4], accessFlags := 1041 }

/-- the primitive int -/
def k7 : Class := { plain "int" none with kind := .primitive 'I', accessFlags := 0x411 }
/-- [I -/
def k8 : Class := { plain "[I" (some 0) with kind := .array 7 .int, interfaces := #[3, 4], accessFlags := 1041 }

def heap : Heap := #[]
def classes : Array Class := #[k0, k1, k2, k3, k4, k5, k6, k7, k8]
def interned : List (Array UInt16 × Addr) := []
def slotsUsed : Nat := 0
def theMethod : MethodId := ⟨1, 3⟩
def args0 : Array Value := #[.int 65, .int 0]
def aboutOver (below : List Frame) : State where
  vm := { classes := classes, interned := interned.toArray }
  heap := heap
  slotsUsed := slotsUsed
  threads := #[{ frames := .invoking theMethod args0 :: below }]
def below0 : List Frame := [.native { method := ⟨0, 0⟩, args := #[] }]
def about1 : State := aboutOver below0
def p0 : Program := .bare "" "" ""
def e0 : Env := launch0.env 0 0 0
theorem w_frames : about1.frames = Frame.invoking theMethod args0 :: below0 := rfl
set_option maxRecDepth 65536 in
theorem w_args : argsFit about1.vm theMethod args0 = true := by decide +kernel
set_option maxRecDepth 65536 in
theorem w_heap : heapFits about1 = true := by decide +kernel
set_option maxRecDepth 65536 in
theorem w_runnable : about1.curStatus? = some .runnable := by decide +kernel
set_option maxRecDepth 65536 in
theorem w_alone : about1.alone = true := by decide +kernel
set_option maxRecDepth 65536 in
theorem w_named : about1.methodNamed? x = some theMethod := by decide +kernel
set_option maxRecDepth 65536 in
theorem w_hears : about1.hears theMethod below0 = true := by decide +kernel
set_option maxRecDepth 65536 in
theorem w_ripe : about1.ripe theMethod args0 below0 = true := by decide +kernel
theorem w_running : about1.status = .running := rfl
set_option maxRecDepth 65536 in
theorem w_room : about1.hasRoom e0.platform room_1 = true :=
  launch0.hasRoom_least _ room_1 (by decide +kernel) (by decide +kernel) (by decide +kernel) (by decide +kernel) (by decide +kernel) (by decide +kernel)
theorem allAtoms_all (ts : List Jvm.Cond) (a : Array Jvm.Value) (st : Jvm.State) : (allAtoms ts).before a st = ts.all (fun c => c.before a st) := by
  induction ts with
  | nil => rfl
  | cons c t ih =>
    show (Jvm.Cond.and c (allAtoms t)).before a st = _
    rw [Jvm.Cond.before_and, ih, List.all_cons]
def words1 : List Jvm.Cond := Jvm.Cond.code x code maxLocals ret :: tables_1
/-- a 'code' word, met by the world's own term for the bytes: nothing is compared byte by byte -/
theorem code_word {y : MethodName} {bytes : ByteArray} {mx : Nat} {rt : Option FieldType} {a : Array Value} {s : State} {m : MethodId} {meth : Method} {c : Code} (h1 : s.methodNamed? y = some m) (h2 : s.vm.method? m = some meth) (h3 : meth.code = some c) (h4 : c.code = bytes)
    (h5 : (c.maxLocals == mx && c.exceptionTable.isEmpty && decide (c.maxStack ≤ mostOperands) && decide (meth.sig.returnType = rt) && !meth.locks && decide (parseMethodDescriptor y.desc = some meth.sig)) = true) : (Jvm.Cond.code y bytes mx rt).before a s = true := by
  simp only [Bool.and_eq_true, beq_iff_eq, Bool.not_eq_true', decide_eq_true_eq] at h5
  obtain ⟨⟨⟨⟨⟨g1, g2⟩, g3⟩, g4⟩, g5⟩, g6⟩ := h5
  simp [Cond.before, Cond.holds, Cond.value, h1, h2, h3, h4, g1, g2, g3, g4, g5, g6]
def isCode : Jvm.Cond → Bool
  | .code _ _ _ _ => true
  | _ => false
theorem all_split {L : List Jvm.Cond} {P : Jvm.Cond → Bool} (h1 : L.all (fun c => isCode c || P c) = true) (h2 : ∀ c ∈ L.filter isCode, P c = true) : L.all P = true := by
  refine List.all_eq_true.mpr fun c hc => ?_
  have h := List.all_eq_true.mp h1 c hc
  rcases Bool.eq_false_or_eq_true (isCode c) with hi | hi
  · exact h2 c (List.mem_filter.mpr ⟨hc, hi⟩)
  · simpa [hi] using h
set_option maxRecDepth 65536 in
theorem w_c0 : (Jvm.Cond.code x code maxLocals ret).before args0 about1 = true := code_word (m := ⟨1, 3⟩) (meth := k1m3) (c := k1c3) (by decide +kernel) rfl rfl rfl (by decide +kernel)
set_option maxRecDepth 65536 in
theorem w_c1 : (Jvm.Cond.code ({ cls := "com/example/lehti/lehti/model/XmlNames", name := "isNameStart", desc := "(I)Z" } : Jvm.MethodName) prog_142_method_5_code (1 : Nat) (Option.some Jvm.ClassFile.FieldType.boolean)).before args0 about1 = true := code_word (m := ⟨2, 1⟩) (meth := k2m1) (c := k2c1) (by decide +kernel) rfl rfl rfl (by decide +kernel)
set_option maxRecDepth 65536 in
theorem w_c2 : (Jvm.Cond.code ({ cls := "com/example/lehti/lehti/model/XmlNamesIsNameStartPinLaw", name := "reference", desc := "(I)Z" } : Jvm.MethodName) method_3_code (1 : Nat) (Option.some Jvm.ClassFile.FieldType.boolean)).before args0 about1 = true := code_word (m := ⟨1, 2⟩) (meth := k1m2) (c := k1c2) (by decide +kernel) rfl rfl rfl (by decide +kernel)
set_option maxRecDepth 65536 in
theorem w_c3 : (Jvm.Cond.code ({ cls := "com/example/lehti/lehti/model/XmlNamesIsNameStartPinLaw", name := "in", desc := "(III)Z" } : Jvm.MethodName) method_2_code (3 : Nat) (Option.some Jvm.ClassFile.FieldType.boolean)).before args0 about1 = true := code_word (m := ⟨1, 1⟩) (meth := k1m1) (c := k1c1) (by decide +kernel) rfl rfl rfl (by decide +kernel)
def codes1 : List Jvm.Cond := [Jvm.Cond.code x code maxLocals ret, Jvm.Cond.code ({ cls := "com/example/lehti/lehti/model/XmlNames", name := "isNameStart", desc := "(I)Z" } : Jvm.MethodName) prog_142_method_5_code (1 : Nat) (Option.some Jvm.ClassFile.FieldType.boolean), Jvm.Cond.code ({ cls := "com/example/lehti/lehti/model/XmlNamesIsNameStartPinLaw", name := "reference", desc := "(I)Z" } : Jvm.MethodName) method_3_code (1 : Nat) (Option.some Jvm.ClassFile.FieldType.boolean), Jvm.Cond.code ({ cls := "com/example/lehti/lehti/model/XmlNamesIsNameStartPinLaw", name := "in", desc := "(III)Z" } : Jvm.MethodName) method_2_code (3 : Nat) (Option.some Jvm.ClassFile.FieldType.boolean)]
set_option maxRecDepth 65536 in
theorem codes_eq : words1.filter isCode = codes1 := rfl
theorem w_codes : ∀ c ∈ words1.filter isCode, c.before args0 about1 = true := by
  rw [codes_eq]
  intro c hc
  simp only [codes1, List.mem_cons, List.not_mem_nil, or_false] at hc
  rcases hc with rfl | rfl | rfl | rfl
  · exact w_c0
  · exact w_c1
  · exact w_c2
  · exact w_c3
set_option maxRecDepth 65536 in
theorem w_t1 : (words1.take 24).all (fun c => isCode c || c.before args0 about1) = true := by decide +kernel
set_option maxRecDepth 65536 in
theorem w_t2 : (words1.drop 24).all (fun c => isCode c || c.before args0 about1) = true := by decide +kernel
theorem w_tables : (allAtoms (Jvm.Cond.code x code maxLocals ret :: tables_1)).before args0 about1 = true := by
  rw [allAtoms_all]
  show words1.all (fun c => c.before args0 about1) = true
  refine all_split ?_ w_codes
  rw [← List.take_append_drop 24 words1, List.all_append, w_t1, w_t2]
  rfl
set_option maxRecDepth 65536 in
theorem w_case : (Jvm.Cond.and given_1 narrow_1).before args0 about1 = true := by decide +kernel
theorem w_applies : (headSpec (Jvm.Cond.code x code maxLocals ret :: tables_1) room_1).applies x e0.platform about1 = true :=
  (Spec.applies_iff w_frames).mpr ⟨w_running, w_runnable, w_alone, w_named, w_hears, w_ripe, w_room, w_tables⟩
theorem atStart : AtStart classFile x code maxLocals ret World_1 tables_1 room_1 Calls_1 rest_1 Pre_1 launch0 p0 e0 about1 theMethod args0 below0 :=
  ⟨lists_1, trivial, launch0.admits_env _ _ _, launch0.least_env, fairChoices_fair.cas, fairChoices_fair.clock, w_frames, w_args, w_heap, w_applies, trivial, trivial, w_case⟩
end start1
theorem witness_1 : WitnessClaimed_1 := ⟨start1.p0, start1.e0, start1.about1, start1.theMethod, start1.args0, start1.below0, start1.atStart⟩
end Jvm.Pilot.@@N@@
