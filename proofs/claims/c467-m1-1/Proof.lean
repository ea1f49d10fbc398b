import JvmDerived
import JvmDerived.Pilot.@@N@@Statement
import JvmDerived.Pilot.@@N@@Code
set_option linter.unusedVariables false
set_option linter.unusedSimpArgs false
namespace Jvm.RoadKit
open Sem ClassFile Op Lib Jvm.Stand Jvm.Free Jvm.LawKit
section New
variable {p : Program} {l : Launch} {e : Env} {R : Room} {s : State} {m : MethodId} {args : Array Value} {below : List Frame} {meth : Method} {c : Code} {T : State} {locs : List Loc} {cells slots : Nat}
theorem retI (X : Stand p l e R s m args below meth c T locs cells slots) (hx : p.tables.exec = Jvm.exec) {pc : Nat} {Ls : Array Slot} {z : Int32} {rest : List Value} (hret : meth.sig.returnType = some .int) (hd : decode c.code pc = .ok (.ireturn, 1)) {fs : List Frame}
    (hl : ∀ (f : JFrame) (acts : List Action), f.method = m → f.locked = none → f.entered = [] → (doReturn e (T.setTop f) acts (some (.int z))).1 = T.setFrames fs) : Steps p.tables e below (T.setTop (mkF m pc Ls (.int z :: rest))) (T.setFrames fs) := by
  have hm' : T.vm.method? m = some meth := X.method'
  have hn : narrow .int (.int z) = .int z := rfl
  show Steps p.tables e below (T.setTop { method := m, pc := pc, locals := Ls, stack := _ :: rest, locked := none }) _
  jvm_step X.here [X.here.top, hx, hd, hm', hret, hn]
  first | (intro acts; rw [hl _ acts rfl rfl rfl]) | rw [hl _ _ rfl rfl rfl]
  exact Steps.refl _
end New
end Jvm.RoadKit
namespace Jvm.Pilot.@@N@@
open Jvm Jvm.ClassFile Sem Op Lib Jvm.Free Jvm.Stand Jvm.LawKit Jvm.RoadKit Bundle Jvm.Pilot.@@N@@.Jvm.D
/-! OWN KIT: a walk's goal that can be forked and joined -/
section OwnKit
variable {p : Program} {l : Launch} {e : Env} {R : Room} {s : State} {m : MethodId} {args : Array Value} {below : List Frame} {meth : Method} {c : Code} {T : State} {locs : List Loc} {cells slots : Nat}
/-- from the state st the run comes to its end, having returned v over the heap and the places of which F speaks -/
def own_End (p : Program) (e : Env) (below : List Frame) (s st : State) (F : Option Value → Heap → List Loc → Prop) (k n : Nat) : Prop :=
  ∃ s₂ o, Steps p.tables e below st s₂ ∧ s₂.status = .running ∧ Ended s₂ below o ∧ ∃ v L, o = .returned v ∧ F v s₂.heap L ∧ FrameEnd s o s₂ L k n
theorem own_go {st st' : State} {F : Option Value → Heap → List Loc → Prop} {k n : Nat} (h : ∀ t, Steps p.tables e below st' t → Steps p.tables e below st t) (q : own_End p e below s st' F k n) : own_End p e below s st F k n := by
  obtain ⟨s₂, o, h1, h2⟩ := q
  exact ⟨s₂, o, h _ h1, h2⟩
theorem own_ret (X : Stand p l e R s m args below meth c T locs cells slots) {v : Option Value} {g : JFrame} {F : Option Value → Heap → List Loc → Prop} {k n : Nat} (hv : meth.sig.returnType = none → v = none) (hlocks : meth.locks = false)
    (hst : ∀ fs, (∀ (f : JFrame) (acts : List Action), f.method = m → f.locked = none → f.entered = [] → (doReturn e (T.setTop f) acts v).1 = T.setFrames fs) → Steps p.tables e below (T.setTop g) (T.setFrames fs))
    (hF : F v T.heap locs) (hc : cells ≤ k) (hs : slots ≤ n) : own_End p e below s (T.setTop g) F k n := by
  obtain ⟨fs, hr, hrun, hended, hW, hsame⟩ := X.leave (v := v) hv hlocks
  exact ⟨_, _, hst fs hr, hrun, hended, _, _, rfl, hF, ⟨_, rfl⟩, hW, hsame.mono hc hs⟩
/-- the same, where a String constant may have been booked meanwhile -/
def own_EndW (p : Program) (e : Env) (below : List Frame) (s st : State) (F : Option Value → Heap → List Loc → Prop) (k n : Nat) : Prop :=
  ∃ s₂ o, Steps p.tables e below st s₂ ∧ s₂.status = .running ∧ Ended s₂ below o ∧ ∃ v L, o = .returned v ∧ F v s₂.heap L ∧ ReturnedEndW s o s₂ L k n
theorem own_goW {st st' : State} {F : Option Value → Heap → List Loc → Prop} {k n : Nat} (h : ∀ t, Steps p.tables e below st' t → Steps p.tables e below st t) (q : own_EndW p e below s st' F k n) : own_EndW p e below s st F k n := by
  obtain ⟨s₂, o, h1, h2⟩ := q
  exact ⟨s₂, o, h _ h1, h2⟩
theorem own_retW {vm₁ : Vm} (X : Stand p l e R (s.setVm vm₁) m args below meth c T locs cells slots) {n' : Nat} (hS : s.Since vm₁ n') (hn : n' ≤ T.heap.size) {v : Option Value} {g : JFrame} {F : Option Value → Heap → List Loc → Prop} {k n : Nat} (hv : meth.sig.returnType = none → v = none) (hlocks : meth.locks = false)
    (hst : ∀ fs, (∀ (f : JFrame) (acts : List Action), f.method = m → f.locked = none → f.entered = [] → (doReturn e (T.setTop f) acts v).1 = T.setFrames fs) → Steps p.tables e below (T.setTop g) (T.setFrames fs))
    (hF : F v T.heap locs) (hc : cells ≤ k) (hs : slots ≤ n) : own_EndW p e below s (T.setTop g) F k n := by
  obtain ⟨fs, hr, hrun, hended, hW⟩ := X.leaveW hS hn (v := v) hv hlocks
  exact ⟨_, _, hst fs hr, hrun, hended, _, _, rfl, hF, hW.1, hW.2.1, hW.2.2.1, hW.2.2.2.mono hc hs⟩
/-- the places written so far, by a name alone -/
theorem own_abs (X : Stand p l e R s m args below meth c T locs cells slots) {k : Nat} (N : Fr k locs) : ∃ ls, Stand p l e R s m args below meth c T ls cells slots ∧ Fr k ls := ⟨_, X, N⟩
theorem own_retJ (X : Stand p l e R s m args below meth c T locs cells slots) (hx : p.tables.exec = Jvm.exec) {pc : Nat} {Ls : Array Slot} {z : Int64} {rest : List Value} (hret : meth.sig.returnType = some .long) (hd : decode c.code pc = .ok (.lreturn, 1)) {fs : List Frame}
    (hl : ∀ (f : JFrame) (acts : List Action), f.method = m → f.locked = none → f.entered = [] → (doReturn e (T.setTop f) acts (some (.long z))).1 = T.setFrames fs) : Steps p.tables e below (T.setTop (mkF m pc Ls (.long z :: rest))) (T.setFrames fs) := by
  have hm' : T.vm.method? m = some meth := X.method'
  have hn : narrow .long (.long z) = .long z := rfl
  show Steps p.tables e below (T.setTop { method := m, pc := pc, locals := Ls, stack := _ :: rest, locked := none }) _
  jvm_step X.here [X.here.top, hx, hd, hm', hret, hn]
  first | (intro acts; rw [hl _ acts rfl rfl rfl]) | rw [hl _ _ rfl rfl rfl]
  exact Steps.refl _
theorem own_retD (X : Stand p l e R s m args below meth c T locs cells slots) (hx : p.tables.exec = Jvm.exec) {pc : Nat} {Ls : Array Slot} {z : UInt64} {rest : List Value} (hret : meth.sig.returnType = some .double) (hd : decode c.code pc = .ok (.dreturn, 1)) {fs : List Frame}
    (hl : ∀ (f : JFrame) (acts : List Action), f.method = m → f.locked = none → f.entered = [] → (doReturn e (T.setTop f) acts (some (.double z))).1 = T.setFrames fs) : Steps p.tables e below (T.setTop (mkF m pc Ls (.double z :: rest))) (T.setFrames fs) := by
  have hm' : T.vm.method? m = some meth := X.method'
  have hn : narrow .double (.double z) = .double z := rfl
  show Steps p.tables e below (T.setTop { method := m, pc := pc, locals := Ls, stack := _ :: rest, locked := none }) _
  jvm_step X.here [X.here.top, hx, hd, hm', hret, hn]
  first | (intro acts; rw [hl _ acts rfl rfl rfl]) | rw [hl _ _ rfl rfl rfl]
  exact Steps.refl _
theorem own_tlt {x y : Int32} {i j : Int} (hx : x.toInt = i) (hy : y.toInt = j) (h : i < j) : if_icmp.holds .lt x y = true ∧ if_icmp.holds .ge x y = false ∧ if_icmp.holds .gt y x = true ∧ if_icmp.holds .le y x = false :=
  tlt (by rw [Int32.lt_iff_toInt_lt, hx, hy]; exact h)
theorem own_flt {x y : Int32} {i j : Int} (hx : x.toInt = i) (hy : y.toInt = j) (h : ¬ i < j) : if_icmp.holds .lt x y = false ∧ if_icmp.holds .ge x y = true ∧ if_icmp.holds .gt y x = false ∧ if_icmp.holds .le y x = true :=
  flt (by rw [Int32.lt_iff_toInt_lt, hx, hy]; exact h)
theorem own_eq {x y : Int32} {i j : Int} (hx : x.toInt = i) (hy : y.toInt = j) (h : i = j) : if_icmp.holds .eq x y = true ∧ if_icmp.holds .ne x y = false :=
  teq (Int32.toInt_inj.mp (by rw [hx, hy]; exact h))
theorem own_ne {x y : Int32} {i j : Int} (hx : x.toInt = i) (hy : y.toInt = j) (h : ¬ i = j) : if_icmp.holds .eq x y = false ∧ if_icmp.holds .ne x y = true :=
  feq (fun q => h (by rw [← hx, ← hy, q]))
theorem own_Llt {x y : Int64} {i j : Int} (hx : x.toInt = i) (hy : y.toInt = j) (h : i < j) : if_icmp.holds .lt (lcmpW x y) 0 = true ∧ if_icmp.holds .ge (lcmpW x y) 0 = false ∧ if_icmp.holds .gt 0 (lcmpW x y) = true ∧ if_icmp.holds .le 0 (lcmpW x y) = false :=
  tlt ((lw_lt x y).mpr (by rw [Int64.lt_iff_toInt_lt, hx, hy]; exact h))
theorem own_Llf {x y : Int64} {i j : Int} (hx : x.toInt = i) (hy : y.toInt = j) (h : ¬ i < j) : if_icmp.holds .lt (lcmpW x y) 0 = false ∧ if_icmp.holds .ge (lcmpW x y) 0 = true ∧ if_icmp.holds .gt 0 (lcmpW x y) = false ∧ if_icmp.holds .le 0 (lcmpW x y) = true :=
  flt (fun q => h (by have := (lw_lt x y).mp q; rw [Int64.lt_iff_toInt_lt, hx, hy] at this; exact this))
theorem own_Lgt {x y : Int64} {i j : Int} (hy : y.toInt = j) (hx : x.toInt = i) (h : j < i) : if_icmp.holds .lt 0 (lcmpW x y) = true ∧ if_icmp.holds .ge 0 (lcmpW x y) = false ∧ if_icmp.holds .gt (lcmpW x y) 0 = true ∧ if_icmp.holds .le (lcmpW x y) 0 = false :=
  tlt ((lw_gt x y).mpr (by rw [Int64.lt_iff_toInt_lt, hx, hy]; exact h))
theorem own_Lgf {x y : Int64} {i j : Int} (hy : y.toInt = j) (hx : x.toInt = i) (h : ¬ j < i) : if_icmp.holds .lt 0 (lcmpW x y) = false ∧ if_icmp.holds .ge 0 (lcmpW x y) = true ∧ if_icmp.holds .gt (lcmpW x y) 0 = false ∧ if_icmp.holds .le (lcmpW x y) 0 = true :=
  flt (fun q => h (by have := (lw_gt x y).mp q; rw [Int64.lt_iff_toInt_lt, hx, hy] at this; exact this))
theorem own_Let {x y : Int64} {i j : Int} (hx : x.toInt = i) (hy : y.toInt = j) (h : i = j) : if_icmp.holds .eq (lcmpW x y) 0 = true ∧ if_icmp.holds .ne (lcmpW x y) 0 = false :=
  teq ((lw_eq x y).mpr (Int64.toInt_inj.mp (by rw [hx, hy]; exact h)))
theorem own_Lef {x y : Int64} {i j : Int} (hx : x.toInt = i) (hy : y.toInt = j) (h : ¬ i = j) : if_icmp.holds .eq (lcmpW x y) 0 = false ∧ if_icmp.holds .ne (lcmpW x y) 0 = true :=
  feq (fun q => h (by rw [← hx, ← hy, (lw_eq x y).mp q]))
/-- (turned from the worked claim gauge-weight) the model's own selection picks a private method itself -/
theorem own_selP {y : MethodName} {s : State} {args : Array Value} {n : Nat} (hy : y.cls ≠ "java/lang/invoke/MethodHandle" ∧ y.cls ≠ "java/lang/invoke/VarHandle") (hins : (Cond.instantiable y.cls n).before args s = true) (hpriv : (Cond.privateMethod y).before args s = true) (hinst : (Cond.instanceMethod y).before args s = true) :
    (Cond.selects y.cls y y).before args s = true := by
  obtain ⟨c, k, hc, hk, -, hniab, -, -⟩ := Cond.instantiable_spec hins
  have hni : k.isInterface = false := (Bool.or_eq_false_iff.mp hniab).1
  obtain ⟨mk, methM, hnamed, hmethM, -, -⟩ := Cond.instanceMethod_spec hinst
  have hfound : s.methodFound? y.cls y.name y.desc = some mk := State.methodFound?_of_named hnamed hy
  have hcls : mk.cls = c := Option.some.inj ((findClass_of_methodNamed hnamed).symm.trans hc)
  have hsel : selectMethod {} s.vm c mk = .method mk := selectMethod_private hmethM (Cond.privateMethod_at hpriv mk methM hnamed hmethM)
  simp only [Cond.before, Cond.holds, Cond.value, hc, hfound, hnamed, hsel, hcls, hk]
  simp; exact hni
end OwnKit
/-! OWN: a Latin-1 String by its facts -/
section OwnStr
variable {Z : State} {h h' : Heap} {a b x t : Addr} {k : ClassId} {N : Int32} {vs : List Value} {ws : List Addr} {sl : Nat} {v : Value} {c : Cell} {f : Int32 → Int32}
def own_Str (Z : State) (h : Heap) (a b : Addr) (k : ClassId) (N : Int32) (vs : List Value) : Prop := Exa Z h a "java/lang/String" ∧ Fld Z h a "java/lang/String" "value" "[B" (.ref b) ∧ Fld Z h a "java/lang/String" "coder" "B" (.int (0 : Int32)) ∧ Arv Z h b k .byte N vs (.int (0 : Int32))
theorem own_Str.ext (F : own_Str Z h a b k N vs) (E : Ext h h') : own_Str Z h' a b k N vs := ⟨F.1.ext E, F.2.1.ext E, F.2.2.1.ext E, F.2.2.2.ext E⟩
theorem own_Str.keep (F : own_Str Z h a b k N vs) (K : Keep h h' ws) (q : a ∉ ws) (r : b ∉ ws) : own_Str Z h' a b k N vs := ⟨F.1.keep K, F.2.1.keep K q, F.2.2.1.keep K q, F.2.2.2.keep K r⟩
theorem own_Str.other (F : own_Str Z h a b k N vs) (W : Wr h h' x sl v) (q : a ≠ x) (r : b ≠ x) : own_Str Z h' a b k N vs := ⟨F.1.wr W, F.2.1.other W (Or.inl q), F.2.2.1.other W (Or.inl q), F.2.2.2.other W r⟩
theorem own_Str.lt (F : own_Str Z h a b k N vs) : a < h.size := F.1.lt
theorem own_Str.ltb (F : own_Str Z h a b k N vs) : b < h.size := F.2.2.2.lt
end OwnStr

def own_Dig (Z : State) (h : Heap) (t : Addr) (c : Cell) (f : Int → Int) : Prop := Arr Z h t c .byte ∧ c.slots.size = 100 ∧ ∀ j : Int32, 0 ≤ j.toInt → j.toInt < 100 → ∃ w : Int32, c.slots[j.toNatClampNeg]? = some (.int w) ∧ w.toInt = f j.toInt
theorem own_digIn {Z : State} {h : Heap} {t : Addr} {c : Cell} {f : Int → Int} (D : own_Dig Z h t c f) {j : Int32} (h0 : 0 ≤ j.toInt) (h1 : j.toInt < 100) : ¬ (j < 0 ∨ c.slots.size ≤ j.toNatClampNeg) :=
  inb_of (z := (100 : Int32)) (D.2.1.trans rfl) ⟨fun q => by rw [Int32.lt_iff_toInt_lt, show (0 : Int32).toInt = 0 from rfl] at q; omega, by rw [Int32.lt_iff_toInt_lt, show (100 : Int32).toInt = 100 from rfl]; omega⟩
theorem own_negneg {x : Int32} (h0 : 0 ≤ x.toInt) : (-x).toInt = -x.toInt ∧ (-(-x)).toInt = x.toInt := by
  have h1 := c_ineg x
  have h2 := rng32 (-x)
  have h3 := rng32 x
  have h4 := c_ineg (-x)
  have h5 := rng32 (-(-x))
  constructor <;> omega
theorem own_pn0 : plainName "java/lang/String" = true := by first | (simp [plainName, overriddenIn]; done) | decide +kernel
theorem own_ef4_rmSI (m : MethodId) (o0 : Addr) (o1 : Addr) : entryFrame m #[(.ref o0), (.ref o1), (.int (0 : Int32))] 3 = mkF m 0 #[.val (.ref o0), .val (.ref o1), .val (.int (0 : Int32))] [] := by first | (simp [entryFrame, mkF, argsToLocals, Value.category]; done) | rfl
def Q_rmSI (Z : State) (o0 : Addr) (o1 : Addr)  (h0 : Heap) (n0 : Nat) (v : Option Value) (h : Heap) (L : List Loc) : Prop := v = none ∧ Fr n0 L ∧ Keep h0 h [o0] ∧ Exa Z h o0 "java/lang/String" ∧ Fld Z h o0 "java/lang/String" "value" "[B" (.ref o1) ∧ Fld Z h o0 "java/lang/String" "coder" "B" (.int (0 : Int32))
theorem d4_0 : decode jdk_42_method_151_code 0 = .ok (.aload_n 0, 1) := by decide +kernel
theorem d4_1 : decode jdk_42_method_151_code 1 = .ok (.invokespecial 1, 3) := by decide +kernel
theorem d4_4 : decode jdk_42_method_151_code 4 = .ok (.aload_n 0, 1) := by decide +kernel
theorem d4_5 : decode jdk_42_method_151_code 5 = .ok (.aload_n 1, 1) := by decide +kernel
theorem d4_6 : decode jdk_42_method_151_code 6 = .ok (.putfield 9, 3) := by decide +kernel
theorem d4_9 : decode jdk_42_method_151_code 9 = .ok (.aload_n 0, 1) := by decide +kernel
theorem d4_10 : decode jdk_42_method_151_code 10 = .ok (.iload_n 2, 1) := by decide +kernel
theorem d4_11 : decode jdk_42_method_151_code 11 = .ok (.putfield 15, 3) := by decide +kernel
theorem d4_14 : decode jdk_42_method_151_code 14 = .ok (.return_, 1) := by decide +kernel
set_option maxRecDepth 65536 in
set_option maxHeartbeats 40000000 in
theorem rmSI (l : Launch) (Z : State) (a0 : Array Value) (hw : ∀ d ∈ tables_1, d.before a0 Z = true) (ws : List Jvm.Cond) (o0 : Addr) (o1 : Addr)  (h0 : Heap) (n0 : Nat) (Z0 : n0 ≤ h0.size) (g_o0 : n0 ≤ o0) (E_o0 : Exa Z h0 o0 "java/lang/String") (F_value : Fld Z h0 o0 "java/lang/String" "value" "[B" .null) (F_coder : Fld Z h0 o0 "java/lang/String" "coder" "B" (.int (0 : Int32))) :
    MetFree l (⟨"java/lang/String", "<init>", "([BB)V"⟩ : MethodName) (head1 (Jvm.Cond.code (⟨"java/lang/String", "<init>", "([BB)V"⟩ : MethodName) jdk_42_method_151_code 3 none :: ws) ({ frames := 1, cells := 0, slots := 0, locals := 12 } : Room)) (fun a U => a = #[(.ref o0), (.ref o1), (.int (0 : Int32))] ∧ Z.Warmed39 U.vm ∧ U.heap = h0) (fun _ _ _ _ _ => True) (fun _ U o U' => ∃ v L, o = .returned v ∧ Q_rmSI Z o0 o1  h0 n0 v U'.heap L ∧ FrameEnd U o U' L ({ frames := 1, cells := 0, slots := 0, locals := 12 } : Room).cells ({ frames := 1, cells := 0, slots := 0, locals := 12 } : Room).slots) := by
  refine MetFree.of_bodySF (plainFor_of_name own_pn0) hisR ?_
  intro p e s m args below meth c s₁ Bd hml0 hP hK
  obtain ⟨rfl, hZ, hh⟩ := hP
  have hx := Bd.exec
  have hby := Bd.bytes
  have hml : c.maxLocals = 3 := hml0
  have hown : s.vm.findClass "java/lang/String" = some m.cls := findClass_of_methodNamed Bd.named
  have hnm := (name_of_methodNamed Bd.named Bd.method).1
  have X0 : Stand p l e ({ frames := 1, cells := 0, slots := 0, locals := 12 } : Room) s m #[(.ref o0), (.ref o1), (.int (0 : Int32))] below meth c s₁ [] 0 0 := Stand.of_body Bd
  have e0 : s₁.heap = h0 := by rw [← hh, Bd.state]; rfl
  have N0 := Fr.nil n0
  refine (show own_End p e below s (s₁.setTop (entryFrame m #[(.ref o0), (.ref o1), (.int (0 : Int32))] 3)) (Q_rmSI Z o0 o1  h0 n0) ({ frames := 1, cells := 0, slots := 0, locals := 12 } : Room).cells ({ frames := 1, cells := 0, slots := 0, locals := 12 } : Room).slots from ?_)
  refine own_go (fun τ κ => castTop (own_ef4_rmSI m o0 o1) κ) ?_
  have li0 : (0 : Int32).toInt = 0 := rfl
  have li1 : (1 : Int32).toInt = 1 := rfl
  show own_End p e below s (s₁.setTop (mkF m 0 #[.val (.ref o0), .val (.ref o1), .val (.int (0 : Int32))] [])) _ _ _
  refine own_go (fun τ κ => XS.aloadN X0.here hx rfl (hb hby d4_0) rfl rfl κ) ?_
  show own_End p e below s (s₁.setTop (mkF m 1 #[.val (.ref o0), .val (.ref o1), .val (.int (0 : Int32))] [(.ref o0)])) _ _ _
  obtain ⟨T1, X1, e1, st1⟩ := initO X0 hx hZ hown (hw _ (List.mem_of_getElem? (i := 20) rfl)) (hw _ (List.mem_of_getElem? (i := 21) rfl)) (hw _ (List.mem_of_getElem? (i := 22) rfl)) e0 (g := (mkF m 1 #[.val (.ref o0), .val (.ref o1), .val (.int (0 : Int32))] [(.ref o0)])) rfl (by rw [hml]; rfl) rfl (hb hby d4_1) (by decide) (W := 0) (by show 2 * 0 + _ ≤ _; exact Nat.le_of_eq rfl) (by decide)
  refine own_go st1 ?_
  show own_End p e below s (T1.setTop (mkF m 4 #[.val (.ref o0), .val (.ref o1), .val (.int (0 : Int32))] [])) _ _ _
  refine own_go (fun τ κ => XS.aloadN X1.here hx rfl (hb hby d4_4) rfl rfl κ) ?_
  show own_End p e below s (T1.setTop (mkF m 5 #[.val (.ref o0), .val (.ref o1), .val (.int (0 : Int32))] [(.ref o0)])) _ _ _
  refine own_go (fun τ κ => XS.aloadN X1.here hx rfl (hb hby d4_5) rfl rfl κ) ?_
  show own_End p e below s (T1.setTop (mkF m 6 #[.val (.ref o0), .val (.ref o1), .val (.int (0 : Int32))] [(.ref o1), (.ref o0)])) _ _ _
  obtain ⟨T2, h2, X2, e2, W2, st2⟩ := putF X1 hx hZ hown (host := "") (Or.inl (hw _ (List.mem_of_getElem? (i := 23) rfl))) Via.refl e1 F_value E_o0 (Or.inr ⟨(hw _ (List.mem_of_getElem? (i := 24) rfl)), rfl, hnm⟩) (hw _ (List.mem_of_getElem? (i := 11) rfl)) (ty := (.array .byte)) (by decide) rfl rfl (g := (mkF m 6 #[.val (.ref o0), .val (.ref o1), .val (.int (0 : Int32))] [(.ref o1), (.ref o0)])) rfl rfl (hb hby d4_6)
  have Fw2 := F_value.same W2
  have N2 := Fr.snoc X2 N0 g_o0
  obtain ⟨ls2, Xl2, Nl2⟩ := own_abs X2 N2
  have Z2 : n0 ≤ h2.size := Nat.le_trans Z0 (Keep.of_wr W2).1
  have KP2 := (Keep.refl h0 [o0]).wr W2 (Or.inl (List.mem_of_getElem? (i := 0) rfl))
  refine own_go st2 ?_
  show own_End p e below s (T2.setTop (mkF m 9 #[.val (.ref o0), .val (.ref o1), .val (.int (0 : Int32))] [])) _ _ _
  refine own_go (fun τ κ => XS.aloadN Xl2.here hx rfl (hb hby d4_9) rfl rfl κ) ?_
  show own_End p e below s (T2.setTop (mkF m 10 #[.val (.ref o0), .val (.ref o1), .val (.int (0 : Int32))] [(.ref o0)])) _ _ _
  refine own_go (fun τ κ => XS.iloadN Xl2.here hx rfl (hb hby d4_10) rfl κ) ?_
  show own_End p e below s (T2.setTop (mkF m 11 #[.val (.ref o0), .val (.ref o1), .val (.int (0 : Int32))] [(.int (0 : Int32)), (.ref o0)])) _ _ _
  have U3 := (E_o0.wr W2)
  have U4 := (F_coder.other W2 (Or.inr (slot_ne (Or.inr (hw _ (List.mem_of_getElem? (i := 26) rfl))) (Or.inr (hw _ (List.mem_of_getElem? (i := 24) rfl))) (by decide) (t := .byte) (t' := (.array .byte)) (by decide) (by decide))))
  obtain ⟨T5, h5, X5, e5, W5, st5⟩ := putFN Xl2 hx hZ hown (hw _ (List.mem_of_getElem? (i := 25) rfl)) Via.refl e2 U4 U3 (Or.inr ⟨(hw _ (List.mem_of_getElem? (i := 26) rfl)), rfl, hnm⟩) (hw _ (List.mem_of_getElem? (i := 11) rfl)) (ty := .byte) (v' := (.int (0 : Int32))) (by decide) rfl rfl (g := (mkF m 11 #[.val (.ref o0), .val (.ref o1), .val (.int (0 : Int32))] [(.int (0 : Int32)), (.ref o0)])) rfl rfl (hb hby d4_11)
  have Fw5 := U4.same W5
  have N5 := Fr.snoc X5 Nl2 g_o0
  obtain ⟨ls5, Xl5, Nl5⟩ := own_abs X5 N5
  have Z5 : n0 ≤ h5.size := Nat.le_trans Z2 (Keep.of_wr W5).1
  have KP5 := KP2.wr W5 (Or.inl (List.mem_of_getElem? (i := 0) rfl))
  refine own_go st5 ?_
  show own_End p e below s (T5.setTop (mkF m 14 #[.val (.ref o0), .val (.ref o1), .val (.int (0 : Int32))] [])) _ _ _
  refine own_ret Xl5 (v := none) (fun _ => rfl) Bd.notSynchronized (fun fs hr => Xl5.returnOut hx Bd.returns (hb hby d4_14) hr) ?_ (by decide) (by decide)
  have U6 := (U3.wr W5)
  have U7 := (Fw2.other W5 (Or.inr (slot_ne (Or.inr (hw _ (List.mem_of_getElem? (i := 24) rfl))) (Or.inr (hw _ (List.mem_of_getElem? (i := 26) rfl))) (by decide) (t := (.array .byte)) (t' := .byte) (by decide) (by decide))))
  · rw [e5]; exact ⟨rfl, Nl5, KP5, U6, U7, Fw5⟩
theorem own_pn1 : plainName "java/lang/StringLatin1" = true := by first | (simp [plainName, overriddenIn]; done) | decide +kernel
theorem own_ef2_rmCE (m : MethodId) (p0 : Int32) : entryFrame m #[(.int p0)] 1 = mkF m 0 #[.val (.int p0)] [] := by first | (simp [entryFrame, mkF, argsToLocals, Value.category]; done) | rfl
def Q_rmCE (Z : State) (p0 : Int32)  (h0 : Heap) (n0 : Nat) (v : Option Value) (h : Heap) (L : List Loc) : Prop := v = some (.int 1) ∧ Fr n0 L ∧ h = h0
theorem d2_0 : decode jdk_43_method_3_code 0 = .ok (.iload_n 0, 1) := by decide +kernel
theorem d2_1 : decode jdk_43_method_3_code 1 = .ok (.sipush 255, 3) := by decide +kernel
theorem d2_4 : decode jdk_43_method_3_code 4 = .ok (.if_icmp .gt 7, 3) := by decide +kernel
theorem d2_7 : decode jdk_43_method_3_code 7 = .ok (.iconst 1, 1) := by decide +kernel
theorem d2_8 : decode jdk_43_method_3_code 8 = .ok (.goto 4, 3) := by decide +kernel
theorem d2_12 : decode jdk_43_method_3_code 12 = .ok (.ireturn, 1) := by decide +kernel
set_option maxRecDepth 65536 in
set_option maxHeartbeats 40000000 in
theorem rmCE (l : Launch) (Z : State) (a0 : Array Value) (hw : ∀ d ∈ tables_1, d.before a0 Z = true) (ws : List Jvm.Cond) (p0 : Int32)  (h0 : Heap) (n0 : Nat) (Z0 : n0 ≤ h0.size) (hp1 : ¬ 255 < p0.toInt) :
    MetFree l (⟨"java/lang/StringLatin1", "canEncode", "(C)Z"⟩ : MethodName) (head1 (Jvm.Cond.code (⟨"java/lang/StringLatin1", "canEncode", "(C)Z"⟩ : MethodName) jdk_43_method_3_code 1 (some .boolean) :: ws) ({ frames := 0, cells := 0, slots := 0, locals := 0 } : Room)) (fun a U => a = #[(.int p0)] ∧ Z.Warmed39 U.vm ∧ U.heap = h0) (fun _ _ _ _ _ => True) (fun _ U o U' => ∃ v L, o = .returned v ∧ Q_rmCE Z p0  h0 n0 v U'.heap L ∧ FrameEnd U o U' L ({ frames := 0, cells := 0, slots := 0, locals := 0 } : Room).cells ({ frames := 0, cells := 0, slots := 0, locals := 0 } : Room).slots) := by
  refine MetFree.of_bodySF (plainFor_of_name own_pn1) hisR ?_
  intro p e s m args below meth c s₁ Bd hml0 hP hK
  obtain ⟨rfl, hZ, hh⟩ := hP
  have hx := Bd.exec
  have hby := Bd.bytes
  have hml : c.maxLocals = 1 := hml0
  have hown : s.vm.findClass "java/lang/StringLatin1" = some m.cls := findClass_of_methodNamed Bd.named
  have hnm := (name_of_methodNamed Bd.named Bd.method).1
  have X0 : Stand p l e ({ frames := 0, cells := 0, slots := 0, locals := 0 } : Room) s m #[(.int p0)] below meth c s₁ [] 0 0 := Stand.of_body Bd
  have e0 : s₁.heap = h0 := by rw [← hh, Bd.state]; rfl
  have N0 := Fr.nil n0
  refine (show own_End p e below s (s₁.setTop (entryFrame m #[(.int p0)] 1)) (Q_rmCE Z p0  h0 n0) ({ frames := 0, cells := 0, slots := 0, locals := 0 } : Room).cells ({ frames := 0, cells := 0, slots := 0, locals := 0 } : Room).slots from ?_)
  refine own_go (fun τ κ => castTop (own_ef2_rmCE m p0) κ) ?_
  have li0 : (0 : Int32).toInt = 0 := rfl
  have li1 : (1 : Int32).toInt = 1 := rfl
  show own_End p e below s (s₁.setTop (mkF m 0 #[.val (.int p0)] [])) _ _ _
  refine own_go (fun τ κ => XS.iloadN X0.here hx rfl (hb hby d2_0) rfl κ) ?_
  show own_End p e below s (s₁.setTop (mkF m 1 #[.val (.int p0)] [(.int p0)])) _ _ _
  refine own_go (fun τ κ => XS.sipush X0.here hx rfl (hb hby d2_1) κ) ?_
  show own_End p e below s (s₁.setTop (mkF m 4 #[.val (.int p0)] [(.int (255 : Int32)), (.int p0)])) _ _ _
  refine own_go (fun τ κ => XS.icmpNo X0.here hx rfl (hb hby d2_4) rfl (own_flt (x := (255 : Int32)) (y := p0) (i := 255) (j := p0.toInt) rfl rfl hp1).2.2.1 κ) ?_
  show own_End p e below s (s₁.setTop (mkF m 7 #[.val (.int p0)] [])) _ _ _
  refine own_go (fun τ κ => XS.iconst X0.here hx rfl (hb hby d2_7) κ) ?_
  show own_End p e below s (s₁.setTop (mkF m 8 #[.val (.int p0)] [(.int (1 : Int32))])) _ _ _
  refine own_go (fun τ κ => XS.goto X0.here hx rfl (pc0 := 8) (pc' := 12) rfl (hb hby d2_8) (by decide) (by decide) κ) ?_
  show own_End p e below s (s₁.setTop (mkF m 12 #[.val (.int p0)] [(.int (1 : Int32))])) _ _ _
  refine own_ret X0 (v := some (.int (1 : Int32))) (fun h => by rw [Bd.returns] at h; cases h) Bd.notSynchronized (fun fs hr => retN X0 hx (t := .boolean) Bd.returns (by simp) (hb hby d2_12) hr) ?_ (by decide) (by decide)
  · rw [e0]; exact ⟨rfl, N0, rfl⟩
theorem own_ef3_rmTB (m : MethodId) (p0 : Int32) : entryFrame m #[(.int p0)] 1 = mkF m 0 #[.val (.int p0)] [] := by first | (simp [entryFrame, mkF, argsToLocals, Value.category]; done) | rfl
def Q_rmTB (Z : State) (p0 : Int32)  (h0 : Heap) (n0 : Nat) (v : Option Value) (h : Heap) (L : List Loc) : Prop := (∃ b kb, v = some (.ref b) ∧ h0.size ≤ b ∧ Arv Z h b kb .byte (1 : Int32) [(.int ((p0.toInt8.toInt32).toInt8.toInt32))] (.int (0 : Int32)) ∧ Keep h0 h []) ∧ Fr n0 L
theorem d3_0 : decode jdk_43_method_46_code 0 = .ok (.iconst 1, 1) := by decide +kernel
theorem d3_1 : decode jdk_43_method_46_code 1 = .ok (.newarray .byte, 2) := by decide +kernel
theorem d3_3 : decode jdk_43_method_46_code 3 = .ok (.dup, 1) := by decide +kernel
theorem d3_4 : decode jdk_43_method_46_code 4 = .ok (.iconst 0, 1) := by decide +kernel
theorem d3_5 : decode jdk_43_method_46_code 5 = .ok (.iload_n 0, 1) := by decide +kernel
theorem d3_6 : decode jdk_43_method_46_code 6 = .ok (.i2b, 1) := by decide +kernel
theorem d3_7 : decode jdk_43_method_46_code 7 = .ok (.bastore, 1) := by decide +kernel
theorem d3_8 : decode jdk_43_method_46_code 8 = .ok (.areturn, 1) := by decide +kernel
set_option maxRecDepth 65536 in
set_option maxHeartbeats 40000000 in
theorem rmTB (l : Launch) (Z : State) (a0 : Array Value) (hw : ∀ d ∈ tables_1, d.before a0 Z = true) (ws : List Jvm.Cond) (p0 : Int32)  (h0 : Heap) (n0 : Nat) (Z0 : n0 ≤ h0.size)  :
    MetFree l (⟨"java/lang/StringLatin1", "toBytes", "(C)[B"⟩ : MethodName) (head1 (Jvm.Cond.code (⟨"java/lang/StringLatin1", "toBytes", "(C)[B"⟩ : MethodName) jdk_43_method_46_code 1 (some (.array .byte)) :: ws) ({ frames := 0, cells := 1, slots := 1, locals := 0 } : Room)) (fun a U => a = #[(.int p0)] ∧ Z.Warmed39 U.vm ∧ U.heap = h0) (fun _ _ _ _ _ => True) (fun _ U o U' => ∃ v L, o = .returned v ∧ Q_rmTB Z p0  h0 n0 v U'.heap L ∧ FrameEnd U o U' L ({ frames := 0, cells := 1, slots := 1, locals := 0 } : Room).cells ({ frames := 0, cells := 1, slots := 1, locals := 0 } : Room).slots) := by
  refine MetFree.of_bodySF (plainFor_of_name own_pn1) hisR ?_
  intro p e s m args below meth c s₁ Bd hml0 hP hK
  obtain ⟨rfl, hZ, hh⟩ := hP
  have hx := Bd.exec
  have hby := Bd.bytes
  have hml : c.maxLocals = 1 := hml0
  have hown : s.vm.findClass "java/lang/StringLatin1" = some m.cls := findClass_of_methodNamed Bd.named
  have hnm := (name_of_methodNamed Bd.named Bd.method).1
  have X0 : Stand p l e ({ frames := 0, cells := 1, slots := 1, locals := 0 } : Room) s m #[(.int p0)] below meth c s₁ [] 0 0 := Stand.of_body Bd
  have e0 : s₁.heap = h0 := by rw [← hh, Bd.state]; rfl
  have N0 := Fr.nil n0
  refine (show own_End p e below s (s₁.setTop (entryFrame m #[(.int p0)] 1)) (Q_rmTB Z p0  h0 n0) ({ frames := 0, cells := 1, slots := 1, locals := 0 } : Room).cells ({ frames := 0, cells := 1, slots := 1, locals := 0 } : Room).slots from ?_)
  refine own_go (fun τ κ => castTop (own_ef3_rmTB m p0) κ) ?_
  have li0 : (0 : Int32).toInt = 0 := rfl
  have li1 : (1 : Int32).toInt = 1 := rfl
  show own_End p e below s (s₁.setTop (mkF m 0 #[.val (.int p0)] [])) _ _ _
  refine own_go (fun τ κ => XS.iconst X0.here hx rfl (hb hby d3_0) κ) ?_
  show own_End p e below s (s₁.setTop (mkF m 1 #[.val (.int p0)] [(.int (1 : Int32))])) _ _ _
  obtain ⟨T1, h1, k1, X1, e1, E1, A1, st1⟩ := newP X0 hx hZ (hw _ (List.mem_of_getElem? (i := 15) rfl)) e0 (g := (mkF m 1 #[.val (.int p0)] [(.int (1 : Int32))])) rfl (hb hby d3_1) rfl (by decide) (cap := 1) (by decide) (by decide) (by decide) (by decide)
  obtain ⟨b1, g1⟩ : ∃ z, z = h0.size := ⟨_, rfl⟩
  rw [← g1] at A1 st1
  have g_b1 : n0 ≤ b1 := Nat.le_trans Z0 (Nat.le_of_eq g1.symm)
  have Z1 : n0 ≤ h1.size := Nat.le_trans Z0 E1.1
  have KP1 := (Keep.refl h0 []).ext E1
  have sz_b1 : h0.size ≤ b1 := Nat.le_trans (Keep.refl h0 []).1 (Nat.le_of_eq g1.symm)
  have V_b1 : Arv Z h1 b1 k1 .byte (1 : Int32) [(.int (0 : Int32))] (.int (0 : Int32)) := (Arv.new A1 (by decide)).pad (pad_rep [] (.int (0 : Int32)) 1)
  refine own_go st1 ?_
  show own_End p e below s (T1.setTop (mkF m 3 #[.val (.int p0)] [(.ref b1)])) _ _ _
  refine own_go (fun τ κ => XS.dup X1.here hx rfl (hb hby d3_3) rfl rfl κ) ?_
  show own_End p e below s (T1.setTop (mkF m 4 #[.val (.int p0)] [(.ref b1), (.ref b1)])) _ _ _
  refine own_go (fun τ κ => XS.iconst X1.here hx rfl (hb hby d3_4) κ) ?_
  show own_End p e below s (T1.setTop (mkF m 5 #[.val (.int p0)] [(.int (0 : Int32)), (.ref b1), (.ref b1)])) _ _ _
  refine own_go (fun τ κ => XS.iloadN X1.here hx rfl (hb hby d3_5) rfl κ) ?_
  show own_End p e below s (T1.setTop (mkF m 6 #[.val (.int p0)] [(.int p0), (.int (0 : Int32)), (.ref b1), (.ref b1)])) _ _ _
  refine own_go (fun τ κ => XS.i2b X1.here hx rfl (hb hby d3_6) rfl κ) ?_
  show own_End p e below s (T1.setTop (mkF m 7 #[.val (.int p0)] [(.int (p0.toInt8.toInt32)), (.int (0 : Int32)), (.ref b1), (.ref b1)])) _ _ _
  obtain ⟨cl2, Ar2, qa2, Sq2, Mq2, Hh2, Gq2⟩ := id V_b1
  have hin2 : ¬ ((0 : Int32) < 0 ∨ cl2.slots.size ≤ ((0 : Int32)).toNatClampNeg) := inb_of Sq2 ⟨by decide, by decide⟩
  obtain ⟨T3, h3, X3, e3, W3, st3⟩ := stB X1 hx hZ e1 Ar2 (j := (0 : Int32)) hin2 (g := (mkF m 7 #[.val (.int p0)] [(.int (p0.toInt8.toInt32)), (.int (0 : Int32)), (.ref b1), (.ref b1)])) rfl rfl (hb hby d3_7)
  have V_b1_3 : Arv Z h3 b1 k1 .byte (1 : Int32) [(.int ((p0.toInt8.toInt32).toInt8.toInt32))] (.int (0 : Int32)) := Arv.set Ar2 qa2 Sq2 Mq2 Hh2 Gq2 (fits_nar_byte _) W3 0 rfl (Nat.le_of_ble_eq_true rfl)
  have N3 := Fr.snoc X3 N0 g_b1
  obtain ⟨ls3, Xl3, Nl3⟩ := own_abs X3 N3
  have Z3 : n0 ≤ h3.size := Nat.le_trans Z1 (Keep.of_wr W3).1
  have KP3 := KP1.wr W3 (Or.inr sz_b1)
  refine own_go st3 ?_
  show own_End p e below s (T3.setTop (mkF m 8 #[.val (.int p0)] [(.ref b1)])) _ _ _
  refine own_ret Xl3 (v := some (.ref b1)) (fun h => by rw [Bd.returns] at h; cases h) Bd.notSynchronized (fun fs hr => retOut Xl3 hx (w := (.ref b1)) Bd.returns rfl (Or.inr (Or.inr (Or.inr (Or.inr ⟨rfl, rfl, rfl⟩)))) (hb hby d3_8) hr) ?_ (by decide) (by decide)
  · rw [e3]; exact ⟨⟨_, _, rfl, sz_b1, V_b1_3, KP3⟩, Nl3⟩
theorem own_ef1_rmVC (m : MethodId) (p0 : Int32) : entryFrame m #[(.int p0)] 1 = mkF m 0 #[.val (.int p0)] [] := by first | (simp [entryFrame, mkF, argsToLocals, Value.category]; done) | rfl
def Q_rmVC (Z : State) (p0 : Int32) (cz : Int32) (h0 : Heap) (n0 : Nat) (v : Option Value) (h : Heap) (L : List Loc) : Prop := (∃ a b kb, v = some (.ref a) ∧ h0.size ≤ a ∧ h0.size ≤ b ∧ own_Str Z h a b kb (1 : Int32) [(.int ((p0.toInt8.toInt32).toInt8.toInt32))] ∧ Keep h0 h []) ∧ Fr n0 L
theorem d1_0 : decode jdk_42_method_139_code 0 = .ok (.getstatic 38, 3) := by decide +kernel
theorem d1_3 : decode jdk_42_method_139_code 3 = .ok (.ifCond .eq 23, 3) := by decide +kernel
theorem d1_6 : decode jdk_42_method_139_code 6 = .ok (.iload_n 0, 1) := by decide +kernel
theorem d1_7 : decode jdk_42_method_139_code 7 = .ok (.invokestatic 1015, 3) := by decide +kernel
theorem own_pd0 : parseMethodDescriptor "(C)Z" = some ⟨[.char], some .boolean⟩ := by decide +kernel
theorem d1_10 : decode jdk_42_method_139_code 10 = .ok (.ifCond .eq 16, 3) := by decide +kernel
theorem d1_13 : decode jdk_42_method_139_code 13 = .ok (.new 10, 3) := by decide +kernel
theorem d1_16 : decode jdk_42_method_139_code 16 = .ok (.dup, 1) := by decide +kernel
theorem d1_17 : decode jdk_42_method_139_code 17 = .ok (.iload_n 0, 1) := by decide +kernel
theorem d1_18 : decode jdk_42_method_139_code 18 = .ok (.invokestatic 1018, 3) := by decide +kernel
theorem own_pd1 : parseMethodDescriptor "(C)[B" = some ⟨[.char], some (.array .byte)⟩ := by decide +kernel
theorem d1_21 : decode jdk_42_method_139_code 21 = .ok (.iconst 0, 1) := by decide +kernel
theorem d1_22 : decode jdk_42_method_139_code 22 = .ok (.invokespecial 209, 3) := by decide +kernel
theorem own_pd2 : parseMethodDescriptor "([BB)V" = some ⟨[(.array .byte), .byte], none⟩ := by decide +kernel
theorem d1_25 : decode jdk_42_method_139_code 25 = .ok (.areturn, 1) := by decide +kernel
set_option maxRecDepth 65536 in
set_option maxHeartbeats 40000000 in
theorem rmVC (l : Launch) (Z : State) (a0 : Array Value) (hw : ∀ d ∈ tables_1, d.before a0 Z = true) (ws : List Jvm.Cond) (p0 : Int32) (cz : Int32) (h0 : Heap) (n0 : Nat) (Z0 : n0 ≤ h0.size) (Ol : Old Z n0 h0) (S_C : Sta Z Z.heap "java/lang/String" "COMPACT_STRINGS" "Z" (.int cz)) (hcz : ¬ cz.toInt = 0) (hp1 : ¬ 255 < p0.toInt) :
    MetFree l (⟨"java/lang/String", "valueOf", "(C)Ljava/lang/String;"⟩ : MethodName) (head1 (Jvm.Cond.code (⟨"java/lang/String", "valueOf", "(C)Ljava/lang/String;"⟩ : MethodName) jdk_42_method_139_code 1 (some (.object "java/lang/String")) :: ws) ({ frames := 2, cells := 2, slots := 5, locals := 28 } : Room)) (fun a U => a = #[(.int p0)] ∧ Z.Warmed39 U.vm ∧ U.heap = h0) (fun _ _ _ _ _ => True) (fun _ U o U' => ∃ v L, o = .returned v ∧ Q_rmVC Z p0 cz h0 n0 v U'.heap L ∧ FrameEnd U o U' L ({ frames := 2, cells := 2, slots := 5, locals := 28 } : Room).cells ({ frames := 2, cells := 2, slots := 5, locals := 28 } : Room).slots) := by
  refine MetFree.of_bodySF (plainFor_of_name own_pn0) hisR ?_
  intro p e s m args below meth c s₁ Bd hml0 hP hK
  obtain ⟨rfl, hZ, hh⟩ := hP
  have hx := Bd.exec
  have hby := Bd.bytes
  have hml : c.maxLocals = 1 := hml0
  have hown : s.vm.findClass "java/lang/String" = some m.cls := findClass_of_methodNamed Bd.named
  have hnm := (name_of_methodNamed Bd.named Bd.method).1
  have X0 : Stand p l e ({ frames := 2, cells := 2, slots := 5, locals := 28 } : Room) s m #[(.int p0)] below meth c s₁ [] 0 0 := Stand.of_body Bd
  have e0 : s₁.heap = h0 := by rw [← hh, Bd.state]; rfl
  have N0 := Fr.nil n0
  refine (show own_End p e below s (s₁.setTop (entryFrame m #[(.int p0)] 1)) (Q_rmVC Z p0 cz h0 n0) ({ frames := 2, cells := 2, slots := 5, locals := 28 } : Room).cells ({ frames := 2, cells := 2, slots := 5, locals := 28 } : Room).slots from ?_)
  refine own_go (fun τ κ => castTop (own_ef1_rmVC m p0) κ) ?_
  have li0 : (0 : Int32).toInt = 0 := rfl
  have li1 : (1 : Int32).toInt = 1 := rfl
  show own_End p e below s (s₁.setTop (mkF m 0 #[.val (.int p0)] [])) _ _ _
  obtain ⟨T1, X1, e1, st1⟩ := getS2 X0 hx hZ hown (host := "") (Or.inl (hw _ (List.mem_of_getElem? (i := 5) rfl))) Via.refl e0 (S_C.ext Ol.2) (g := (mkF m 0 #[.val (.int p0)] [])) rfl (hb hby d1_0)
  refine own_go st1 ?_
  show own_End p e below s (T1.setTop (mkF m 3 #[.val (.int p0)] [(.int cz)])) _ _ _
  refine own_go (fun τ κ => XS.ifNo X1.here hx rfl (hb hby d1_3) rfl ((if0 _ _).trans (own_ne (x := cz) (y := (0 : Int32)) (i := cz.toInt) (j := 0) rfl rfl hcz).1) κ) ?_
  show own_End p e below s (T1.setTop (mkF m 6 #[.val (.int p0)] [])) _ _ _
  refine own_go (fun τ κ => XS.iloadN X1.here hx rfl (hb hby d1_6) rfl κ) ?_
  show own_End p e below s (T1.setTop (mkF m 7 #[.val (.int p0)] [(.int p0)])) _ _ _
  obtain ⟨_, _, ⟨T2, L2, k2, n2⟩, -, X2, ⟨Lc2, hQ2, l2, y2, z2⟩, st2⟩ := Jvm.LawKit.callS X1 hx (y := (⟨"java/lang/StringLatin1", "canEncode", "(C)Z"⟩ : MethodName)) hown (mvT hZ (hw _ (List.mem_of_getElem? (i := 6) rfl))) (mvT hZ (hw _ (List.mem_of_getElem? (i := 7) rfl))) (mvT hZ (hw _ (List.mem_of_getElem? (i := 8) rfl))) (mvT hZ (hw _ (List.mem_of_getElem? (i := 9) rfl))) (by decide) (backOf (W := 0) (rmCE l Z a0 hw [] p0 h0 n0 Z0 hp1) hZ (hw _ (List.mem_of_getElem? (i := 9) rfl)) (hw _ (List.mem_of_getElem? (i := 8) rfl)) (by decide) (by decide)) (g := (mkF m 7 #[.val (.int p0)] [(.int p0)])) rfl (by rw [hml]; rfl) (argsL := [(.int p0)]) (rest := []) (lenOf own_pd0 rfl) rfl (by show 2 * 0 + _ ≤ _; exact Nat.le_of_eq rfl) (hb hby d1_7) (fun _ _ => ⟨rfl, e1, (by decide : 0 + 0 ≤ _), (by decide : 0 + 0 ≤ _)⟩)
  dsimp only [Pt.U, Pt.locs, Pt.cells, Pt.slots] at X2 l2 y2 z2 st2 hQ2
  subst l2 y2 z2
  obtain ⟨rfl, N2q, e2⟩ := hQ2
  have N2 := Fr.app N0 N2q
  obtain ⟨ls2, Xl2, Nl2⟩ := own_abs X2 N2
  refine own_go st2 ?_
  show own_End p e below s (T2.setTop (mkF m 10 #[.val (.int p0)] [(.int (1 : Int32))])) _ _ _
  refine own_go (fun τ κ => XS.ifNo Xl2.here hx rfl (hb hby d1_10) rfl ((if0 _ _).trans (own_ne (x := (1 : Int32)) (y := (0 : Int32)) (i := 1) (j := 0) rfl rfl (by decide)).1) κ) ?_
  show own_End p e below s (T2.setTop (mkF m 13 #[.val (.int p0)] [])) _ _ _
  obtain ⟨T3, h3, X3, e3, E3, A3, D3, -, st3⟩ := newO Xl2 hx hZ hown (hw _ (List.mem_of_getElem? (i := 10) rfl)) (hw _ (List.mem_of_getElem? (i := 11) rfl)) (hw _ (List.mem_of_getElem? (i := 3) rfl)) e2 (g := (mkF m 13 #[.val (.int p0)] [])) rfl (hb hby d1_13) (by decide) (by decide)
  obtain ⟨b3, g3⟩ : ∃ z, z = h0.size := ⟨_, rfl⟩
  rw [← g3] at A3 D3 st3
  have g_b3 : n0 ≤ b3 := Nat.le_trans Z0 (Nat.le_of_eq g3.symm)
  have Z3 : n0 ≤ h3.size := Nat.le_trans Z0 E3.1
  have KP3 := (Keep.refl h0 []).ext E3
  have sz_b3 : h0.size ≤ b3 := Nat.le_trans (Keep.refl h0 []).1 (Nat.le_of_eq g3.symm)
  have F_value_b3 : Fld Z h3 b3 "java/lang/String" "value" "[B" .null := D3 (Or.inr (hw _ (List.mem_of_getElem? (i := 24) rfl))) (ty := (.array .byte)) (by decide)
  have F_coder_b3 : Fld Z h3 b3 "java/lang/String" "coder" "B" (.int (0 : Int32)) := D3 (Or.inr (hw _ (List.mem_of_getElem? (i := 26) rfl))) (ty := .byte) (by decide)
  refine own_go st3 ?_
  show own_End p e below s (T3.setTop (mkF m 16 #[.val (.int p0)] [(.ref b3)])) _ _ _
  refine own_go (fun τ κ => XS.dup X3.here hx rfl (hb hby d1_16) rfl rfl κ) ?_
  show own_End p e below s (T3.setTop (mkF m 17 #[.val (.int p0)] [(.ref b3), (.ref b3)])) _ _ _
  refine own_go (fun τ κ => XS.iloadN X3.here hx rfl (hb hby d1_17) rfl κ) ?_
  show own_End p e below s (T3.setTop (mkF m 18 #[.val (.int p0)] [(.int p0), (.ref b3), (.ref b3)])) _ _ _
  obtain ⟨_, _, ⟨T4, L4, k4, n4⟩, -, X4, ⟨Lc4, hQ4, l4, y4, z4⟩, st4⟩ := Jvm.LawKit.callS X3 hx (y := (⟨"java/lang/StringLatin1", "toBytes", "(C)[B"⟩ : MethodName)) hown (mvT hZ (hw _ (List.mem_of_getElem? (i := 12) rfl))) (mvT hZ (hw _ (List.mem_of_getElem? (i := 13) rfl))) (mvT hZ (hw _ (List.mem_of_getElem? (i := 8) rfl))) (mvT hZ (hw _ (List.mem_of_getElem? (i := 14) rfl))) (by decide) (backOf (W := 2) (rmTB l Z a0 hw [] p0 h3 n0 Z3) hZ (hw _ (List.mem_of_getElem? (i := 14) rfl)) (hw _ (List.mem_of_getElem? (i := 8) rfl)) (by decide) (by decide)) (g := (mkF m 18 #[.val (.int p0)] [(.int p0), (.ref b3), (.ref b3)])) rfl (by rw [hml]; rfl) (argsL := [(.int p0)]) (rest := [(.ref b3), (.ref b3)]) (lenOf own_pd1 rfl) rfl (by show 2 * 0 + _ ≤ _; exact Nat.le_of_eq rfl) (hb hby d1_18) (fun _ _ => ⟨rfl, e3, (by decide : 1 + 1 ≤ _), (by decide : 4 + 1 ≤ _)⟩)
  dsimp only [Pt.U, Pt.locs, Pt.cells, Pt.slots] at X4 l4 y4 z4 st4 hQ4
  subst l4 y4 z4
  obtain ⟨⟨bb4, kb4, rfl, zb4, Vb4, K4⟩, N4q⟩ := hQ4
  have N4 := Fr.app Nl2 N4q
  obtain ⟨ls4, Xl4, Nl4⟩ := own_abs X4 N4
  have Z4 : n0 ≤ T4.heap.size := Nat.le_trans Z3 K4.1
  refine own_go st4 ?_
  show own_End p e below s (T4.setTop (mkF m 21 #[.val (.int p0)] [(.ref bb4), (.ref b3), (.ref b3)])) _ _ _
  have g_bb4 : n0 ≤ bb4 := Nat.le_trans Z3 zb4
  have sz_bb4 : h0.size ≤ bb4 := Nat.le_trans KP3.1 zb4
  have ne_b3_bb4 : b3 ≠ bb4 := Nat.ne_of_lt (Nat.lt_of_lt_of_le A3.lt zb4)
  have KP4 := KP3.trans K4 all0
  refine own_go (fun τ κ => XS.iconst Xl4.here hx rfl (hb hby d1_21) κ) ?_
  show own_End p e below s (T4.setTop (mkF m 22 #[.val (.int p0)] [(.int (0 : Int32)), (.ref bb4), (.ref b3), (.ref b3)])) _ _ _
  have U5 := (A3.keep K4)
  have U6 := (F_value_b3.keep K4 nin0)
  have U7 := (F_coder_b3.keep K4 nin0)
  obtain ⟨_, _, ⟨T8, L8, k8, n8⟩, -, X8, ⟨Lc8, hQ8, l8, y8, z8⟩, st8⟩ := Xl4.specialBack hx (y := (⟨"java/lang/String", "<init>", "([BB)V"⟩ : MethodName)) rfl hown (mvT hZ (hw _ (List.mem_of_getElem? (i := 16) rfl))) (mvT hZ (hw _ (List.mem_of_getElem? (i := 17) rfl))) (mvT hZ (hw _ (List.mem_of_getElem? (i := 19) rfl))) (by decide) (backOf (W := 1) (rmSI l Z a0 hw [] b3 bb4 T4.heap n0 Z4 g_b3 U5 U6 U7) hZ (hw _ (List.mem_of_getElem? (i := 19) rfl)) (hw _ (List.mem_of_getElem? (i := 3) rfl)) (by decide) (by decide)) (g := (mkF m 22 #[.val (.int p0)] [(.int (0 : Int32)), (.ref bb4), (.ref b3), (.ref b3)])) rfl (by rw [hml]; rfl) (Steps.refl _) (a := b3) (argsL := [(.ref bb4), (.int (0 : Int32))]) (rest := [(.ref b3)]) (lenOf own_pd2 rfl) rfl (by show 2 * 0 + _ ≤ _; exact Nat.le_of_eq rfl) (hb hby d1_22) (fun _ _ => ⟨rfl, rfl, (by decide : 2 + 0 ≤ _), (by decide : 5 + 0 ≤ _)⟩)
  dsimp only [Pt.U, Pt.locs, Pt.cells, Pt.slots] at X8 l8 y8 z8 st8 hQ8
  subst l8 y8 z8
  obtain ⟨rfl, N8q, K8, Ex8, Fv8, Fc8⟩ := hQ8
  have N8 := Fr.app Nl4 N8q
  obtain ⟨ls8, Xl8, Nl8⟩ := own_abs X8 N8
  have Z8 : n0 ≤ T8.heap.size := Nat.le_trans Z4 K8.1
  refine own_go (fun τ κ => st8.trans κ) ?_
  show own_End p e below s (T8.setTop (mkF m 25 #[.val (.int p0)] [(.ref b3)])) _ _ _
  have KP8 := KP4.trans K8 (allS (Or.inr sz_b3) all0)
  refine own_ret Xl8 (v := some (.ref b3)) (fun h => by rw [Bd.returns] at h; cases h) Bd.notSynchronized (fun fs hr => retOut Xl8 hx (w := (.ref b3)) Bd.returns rfl (Or.inr (Or.inr (Or.inr (Or.inr ⟨rfl, rfl, rfl⟩)))) (hb hby d1_25) hr) ?_ (by decide) (by decide)
  have U9 := (Vb4.keep K8 (ninS (Ne.symm ne_b3_bb4) nin0))
  · exact ⟨⟨_, _, _, rfl, sz_b3, sz_bb4, ⟨Ex8, Fv8, Fc8, U9⟩, KP8⟩, Nl8⟩
theorem own_pn2 : plainName "java/lang/StringUTF16" = true := by first | (simp [plainName, overriddenIn]; done) | decide +kernel
theorem own_ef15_rmK2 (m : MethodId) (o0 : Addr) (o2 : Addr) : entryFrame m #[(.ref o0), (.int (0 : Int32)), (.ref o2), (.int (0 : Int32)), (.int (2 : Int32))] 7 = mkF m 0 #[.val (.ref o0), .val (.int (0 : Int32)), .val (.ref o2), .val (.int (0 : Int32)), .val (.int (2 : Int32)), .unset, .unset] [] := by first | (simp [entryFrame, mkF, argsToLocals, Value.category]; done) | rfl
def Q_rmK2 (Z : State) (o0 : Addr) (o2 : Addr) (kc : ClassId) (kb : ClassId) (u0 : Int32) (u1 : Int32) (h0 : Heap) (n0 : Nat) (v : Option Value) (h : Heap) (L : List Loc) : Prop := v = some (.int (2 : Int32)) ∧ Fr n0 L ∧ Keep h0 h [o2] ∧ Arv Z h o2 kb .byte (2 : Int32) [(.int ((u0.toInt8.toInt32).toInt8.toInt32)), (.int ((u1.toInt8.toInt32).toInt8.toInt32))] (.int (0 : Int32))
theorem d15_0 : decode jdk_52_method_21_code 0 = .ok (.iconst 0, 1) := by decide +kernel
theorem d15_1 : decode jdk_52_method_21_code 1 = .ok (.istore 5, 2) := by decide +kernel
theorem d15_3 : decode jdk_52_method_21_code 3 = .ok (.iload 5, 2) := by decide +kernel
theorem d15_5 : decode jdk_52_method_21_code 5 = .ok (.iload 4, 2) := by decide +kernel
theorem d15_7 : decode jdk_52_method_21_code 7 = .ok (.if_icmp .ge 37, 3) := by decide +kernel
theorem d15_10 : decode jdk_52_method_21_code 10 = .ok (.aload_n 0, 1) := by decide +kernel
theorem d15_11 : decode jdk_52_method_21_code 11 = .ok (.iload_n 1, 1) := by decide +kernel
theorem d15_12 : decode jdk_52_method_21_code 12 = .ok (.caload, 1) := by decide +kernel
theorem d15_13 : decode jdk_52_method_21_code 13 = .ok (.istore 6, 2) := by decide +kernel
theorem d15_15 : decode jdk_52_method_21_code 15 = .ok (.iload 6, 2) := by decide +kernel
theorem d15_17 : decode jdk_52_method_21_code 17 = .ok (.sipush 255, 3) := by decide +kernel
theorem d15_20 : decode jdk_52_method_21_code 20 = .ok (.if_icmp .le 6, 3) := by decide +kernel
theorem d15_26 : decode jdk_52_method_21_code 26 = .ok (.aload_n 2, 1) := by decide +kernel
theorem d15_27 : decode jdk_52_method_21_code 27 = .ok (.iload_n 3, 1) := by decide +kernel
theorem d15_28 : decode jdk_52_method_21_code 28 = .ok (.iload 6, 2) := by decide +kernel
theorem d15_30 : decode jdk_52_method_21_code 30 = .ok (.i2b, 1) := by decide +kernel
theorem d15_31 : decode jdk_52_method_21_code 31 = .ok (.bastore, 1) := by decide +kernel
theorem d15_32 : decode jdk_52_method_21_code 32 = .ok (.iinc 1 1, 3) := by decide +kernel
theorem d15_35 : decode jdk_52_method_21_code 35 = .ok (.iinc 3 1, 3) := by decide +kernel
theorem d15_38 : decode jdk_52_method_21_code 38 = .ok (.iinc 5 1, 3) := by decide +kernel
theorem d15_41 : decode jdk_52_method_21_code 41 = .ok (.goto (-38), 3) := by decide +kernel
theorem d15_44 : decode jdk_52_method_21_code 44 = .ok (.iload 4, 2) := by decide +kernel
theorem d15_46 : decode jdk_52_method_21_code 46 = .ok (.ireturn, 1) := by decide +kernel
set_option maxRecDepth 65536 in
set_option maxHeartbeats 40000000 in
theorem rmK2 (l : Launch) (Z : State) (a0 : Array Value) (hw : ∀ d ∈ tables_1, d.before a0 Z = true) (ws : List Jvm.Cond) (o0 : Addr) (o2 : Addr) (kc : ClassId) (kb : ClassId) (u0 : Int32) (u1 : Int32) (h0 : Heap) (n0 : Nat) (Z0 : n0 ≤ h0.size) (g_o2 : n0 ≤ o2) (hne : o0 ≠ o2) (Vc : Arv Z h0 o0 kc .char (2 : Int32) [(.int u0), (.int u1)] (.int (0 : Int32))) (Vb : Arv Z h0 o2 kb .byte (2 : Int32) [(.int (0 : Int32)), (.int (0 : Int32))] (.int (0 : Int32))) (hu0 : ¬ 255 < u0.toInt) (hu1 : ¬ 255 < u1.toInt) :
    MetFree l (⟨"java/lang/StringUTF16", "compress", "([CI[BII)I"⟩ : MethodName) (head1 (Jvm.Cond.code (⟨"java/lang/StringUTF16", "compress", "([CI[BII)I"⟩ : MethodName) jdk_52_method_21_code 7 (some .int) :: ws) ({ frames := 0, cells := 0, slots := 0, locals := 0 } : Room)) (fun a U => a = #[(.ref o0), (.int (0 : Int32)), (.ref o2), (.int (0 : Int32)), (.int (2 : Int32))] ∧ Z.Warmed39 U.vm ∧ U.heap = h0) (fun _ _ _ _ _ => True) (fun _ U o U' => ∃ v L, o = .returned v ∧ Q_rmK2 Z o0 o2 kc kb u0 u1 h0 n0 v U'.heap L ∧ FrameEnd U o U' L ({ frames := 0, cells := 0, slots := 0, locals := 0 } : Room).cells ({ frames := 0, cells := 0, slots := 0, locals := 0 } : Room).slots) := by
  refine MetFree.of_bodySF (plainFor_of_name own_pn2) hisR ?_
  intro p e s m args below meth c s₁ Bd hml0 hP hK
  obtain ⟨rfl, hZ, hh⟩ := hP
  have hx := Bd.exec
  have hby := Bd.bytes
  have hml : c.maxLocals = 7 := hml0
  have hown : s.vm.findClass "java/lang/StringUTF16" = some m.cls := findClass_of_methodNamed Bd.named
  have hnm := (name_of_methodNamed Bd.named Bd.method).1
  have X0 : Stand p l e ({ frames := 0, cells := 0, slots := 0, locals := 0 } : Room) s m #[(.ref o0), (.int (0 : Int32)), (.ref o2), (.int (0 : Int32)), (.int (2 : Int32))] below meth c s₁ [] 0 0 := Stand.of_body Bd
  have e0 : s₁.heap = h0 := by rw [← hh, Bd.state]; rfl
  have N0 := Fr.nil n0
  refine (show own_End p e below s (s₁.setTop (entryFrame m #[(.ref o0), (.int (0 : Int32)), (.ref o2), (.int (0 : Int32)), (.int (2 : Int32))] 7)) (Q_rmK2 Z o0 o2 kc kb u0 u1 h0 n0) ({ frames := 0, cells := 0, slots := 0, locals := 0 } : Room).cells ({ frames := 0, cells := 0, slots := 0, locals := 0 } : Room).slots from ?_)
  refine own_go (fun τ κ => castTop (own_ef15_rmK2 m o0 o2) κ) ?_
  have li0 : (0 : Int32).toInt = 0 := rfl
  have li1 : (1 : Int32).toInt = 1 := rfl
  show own_End p e below s (s₁.setTop (mkF m 0 #[.val (.ref o0), .val (.int (0 : Int32)), .val (.ref o2), .val (.int (0 : Int32)), .val (.int (2 : Int32)), .unset, .unset] [])) _ _ _
  refine own_go (fun τ κ => XS.iconst X0.here hx rfl (hb hby d15_0) κ) ?_
  show own_End p e below s (s₁.setTop (mkF m 1 #[.val (.ref o0), .val (.int (0 : Int32)), .val (.ref o2), .val (.int (0 : Int32)), .val (.int (2 : Int32)), .unset, .unset] [(.int (0 : Int32))])) _ _ _
  refine own_go (fun τ κ => XS.istore X0.here hx rfl (hb hby d15_1) rfl (l' := #[.val (.ref o0), .val (.int (0 : Int32)), .val (.ref o2), .val (.int (0 : Int32)), .val (.int (2 : Int32)), .val (.int (0 : Int32)), .unset]) rfl κ) ?_
  show own_End p e below s (s₁.setTop (mkF m 3 #[.val (.ref o0), .val (.int (0 : Int32)), .val (.ref o2), .val (.int (0 : Int32)), .val (.int (2 : Int32)), .val (.int (0 : Int32)), .unset] [])) _ _ _
  refine own_go (fun τ κ => XS.iload X0.here hx rfl (hb hby d15_3) rfl κ) ?_
  show own_End p e below s (s₁.setTop (mkF m 5 #[.val (.ref o0), .val (.int (0 : Int32)), .val (.ref o2), .val (.int (0 : Int32)), .val (.int (2 : Int32)), .val (.int (0 : Int32)), .unset] [(.int (0 : Int32))])) _ _ _
  refine own_go (fun τ κ => XS.iload X0.here hx rfl (hb hby d15_5) rfl κ) ?_
  show own_End p e below s (s₁.setTop (mkF m 7 #[.val (.ref o0), .val (.int (0 : Int32)), .val (.ref o2), .val (.int (0 : Int32)), .val (.int (2 : Int32)), .val (.int (0 : Int32)), .unset] [(.int (2 : Int32)), (.int (0 : Int32))])) _ _ _
  refine own_go (fun τ κ => XS.icmpNo X0.here hx rfl (hb hby d15_7) rfl (own_tlt (x := (0 : Int32)) (y := (2 : Int32)) (i := 0) (j := 2) rfl rfl (by decide)).2.1 κ) ?_
  show own_End p e below s (s₁.setTop (mkF m 10 #[.val (.ref o0), .val (.int (0 : Int32)), .val (.ref o2), .val (.int (0 : Int32)), .val (.int (2 : Int32)), .val (.int (0 : Int32)), .unset] [])) _ _ _
  refine own_go (fun τ κ => XS.aloadN X0.here hx rfl (hb hby d15_10) rfl rfl κ) ?_
  show own_End p e below s (s₁.setTop (mkF m 11 #[.val (.ref o0), .val (.int (0 : Int32)), .val (.ref o2), .val (.int (0 : Int32)), .val (.int (2 : Int32)), .val (.int (0 : Int32)), .unset] [(.ref o0)])) _ _ _
  refine own_go (fun τ κ => XS.iloadN X0.here hx rfl (hb hby d15_11) rfl κ) ?_
  show own_End p e below s (s₁.setTop (mkF m 12 #[.val (.ref o0), .val (.int (0 : Int32)), .val (.ref o2), .val (.int (0 : Int32)), .val (.int (2 : Int32)), .val (.int (0 : Int32)), .unset] [(.int (0 : Int32)), (.ref o0)])) _ _ _
  obtain ⟨cl1, Ar1, qa1, Sq1, Mq1, Hh1, Gq1⟩ := id Vc
  have hin1 : ¬ ((0 : Int32) < 0 ∨ cl1.slots.size ≤ ((0 : Int32)).toNatClampNeg) := inb_of Sq1 ⟨by decide, by decide⟩
  refine own_go (fun τ κ => X0.caload hx (j := (0 : Int32)) (v := (.int u0)) (by rw [e0]; exact Ar1.1) (State.isArrayOf_alike hZ.alike Ar1.2.1) Ar1.2.2 hin1 (Hh1.at hin1 rfl) (g := (mkF m 12 #[.val (.ref o0), .val (.int (0 : Int32)), .val (.ref o2), .val (.int (0 : Int32)), .val (.int (2 : Int32)), .val (.int (0 : Int32)), .unset] [(.int (0 : Int32)), (.ref o0)])) rfl rfl (hb hby d15_12) _ κ) ?_
  show own_End p e below s (s₁.setTop (mkF m 13 #[.val (.ref o0), .val (.int (0 : Int32)), .val (.ref o2), .val (.int (0 : Int32)), .val (.int (2 : Int32)), .val (.int (0 : Int32)), .unset] [(.int u0)])) _ _ _
  refine own_go (fun τ κ => XS.istore X0.here hx rfl (hb hby d15_13) rfl (l' := #[.val (.ref o0), .val (.int (0 : Int32)), .val (.ref o2), .val (.int (0 : Int32)), .val (.int (2 : Int32)), .val (.int (0 : Int32)), .val (.int u0)]) rfl κ) ?_
  show own_End p e below s (s₁.setTop (mkF m 15 #[.val (.ref o0), .val (.int (0 : Int32)), .val (.ref o2), .val (.int (0 : Int32)), .val (.int (2 : Int32)), .val (.int (0 : Int32)), .val (.int u0)] [])) _ _ _
  refine own_go (fun τ κ => XS.iload X0.here hx rfl (hb hby d15_15) rfl κ) ?_
  show own_End p e below s (s₁.setTop (mkF m 17 #[.val (.ref o0), .val (.int (0 : Int32)), .val (.ref o2), .val (.int (0 : Int32)), .val (.int (2 : Int32)), .val (.int (0 : Int32)), .val (.int u0)] [(.int u0)])) _ _ _
  refine own_go (fun τ κ => XS.sipush X0.here hx rfl (hb hby d15_17) κ) ?_
  show own_End p e below s (s₁.setTop (mkF m 20 #[.val (.ref o0), .val (.int (0 : Int32)), .val (.ref o2), .val (.int (0 : Int32)), .val (.int (2 : Int32)), .val (.int (0 : Int32)), .val (.int u0)] [(.int (255 : Int32)), (.int u0)])) _ _ _
  refine own_go (fun τ κ => XS.icmpYes X0.here hx rfl (pc0 := 20) (pc' := 26) rfl (hb hby d15_20) rfl (own_flt (x := (255 : Int32)) (y := u0) (i := 255) (j := u0.toInt) rfl rfl hu0).2.2.2 (by decide) (by decide) κ) ?_
  show own_End p e below s (s₁.setTop (mkF m 26 #[.val (.ref o0), .val (.int (0 : Int32)), .val (.ref o2), .val (.int (0 : Int32)), .val (.int (2 : Int32)), .val (.int (0 : Int32)), .val (.int u0)] [])) _ _ _
  refine own_go (fun τ κ => XS.aloadN X0.here hx rfl (hb hby d15_26) rfl rfl κ) ?_
  show own_End p e below s (s₁.setTop (mkF m 27 #[.val (.ref o0), .val (.int (0 : Int32)), .val (.ref o2), .val (.int (0 : Int32)), .val (.int (2 : Int32)), .val (.int (0 : Int32)), .val (.int u0)] [(.ref o2)])) _ _ _
  refine own_go (fun τ κ => XS.iloadN X0.here hx rfl (hb hby d15_27) rfl κ) ?_
  show own_End p e below s (s₁.setTop (mkF m 28 #[.val (.ref o0), .val (.int (0 : Int32)), .val (.ref o2), .val (.int (0 : Int32)), .val (.int (2 : Int32)), .val (.int (0 : Int32)), .val (.int u0)] [(.int (0 : Int32)), (.ref o2)])) _ _ _
  refine own_go (fun τ κ => XS.iload X0.here hx rfl (hb hby d15_28) rfl κ) ?_
  show own_End p e below s (s₁.setTop (mkF m 30 #[.val (.ref o0), .val (.int (0 : Int32)), .val (.ref o2), .val (.int (0 : Int32)), .val (.int (2 : Int32)), .val (.int (0 : Int32)), .val (.int u0)] [(.int u0), (.int (0 : Int32)), (.ref o2)])) _ _ _
  refine own_go (fun τ κ => XS.i2b X0.here hx rfl (hb hby d15_30) rfl κ) ?_
  show own_End p e below s (s₁.setTop (mkF m 31 #[.val (.ref o0), .val (.int (0 : Int32)), .val (.ref o2), .val (.int (0 : Int32)), .val (.int (2 : Int32)), .val (.int (0 : Int32)), .val (.int u0)] [(.int (u0.toInt8.toInt32)), (.int (0 : Int32)), (.ref o2)])) _ _ _
  obtain ⟨cl2, Ar2, qa2, Sq2, Mq2, Hh2, Gq2⟩ := id Vb
  have hin2 : ¬ ((0 : Int32) < 0 ∨ cl2.slots.size ≤ ((0 : Int32)).toNatClampNeg) := inb_of Sq2 ⟨by decide, by decide⟩
  obtain ⟨T3, h3, X3, e3, W3, st3⟩ := stB X0 hx hZ e0 Ar2 (j := (0 : Int32)) hin2 (g := (mkF m 31 #[.val (.ref o0), .val (.int (0 : Int32)), .val (.ref o2), .val (.int (0 : Int32)), .val (.int (2 : Int32)), .val (.int (0 : Int32)), .val (.int u0)] [(.int (u0.toInt8.toInt32)), (.int (0 : Int32)), (.ref o2)])) rfl rfl (hb hby d15_31)
  have V_o2_3 : Arv Z h3 o2 kb .byte (2 : Int32) [(.int ((u0.toInt8.toInt32).toInt8.toInt32)), (.int (0 : Int32))] (.int (0 : Int32)) := Arv.set Ar2 qa2 Sq2 Mq2 Hh2 Gq2 (fits_nar_byte _) W3 0 rfl (Nat.le_of_ble_eq_true rfl)
  have N3 := Fr.snoc X3 N0 g_o2
  obtain ⟨ls3, Xl3, Nl3⟩ := own_abs X3 N3
  have Z3 : n0 ≤ h3.size := Nat.le_trans Z0 (Keep.of_wr W3).1
  have KP3 := (Keep.refl h0 [o2]).wr W3 (Or.inl (List.mem_of_getElem? (i := 0) rfl))
  refine own_go st3 ?_
  show own_End p e below s (T3.setTop (mkF m 32 #[.val (.ref o0), .val (.int (0 : Int32)), .val (.ref o2), .val (.int (0 : Int32)), .val (.int (2 : Int32)), .val (.int (0 : Int32)), .val (.int u0)] [])) _ _ _
  refine own_go (fun τ κ => XS.iinc Xl3.here hx rfl (hb hby d15_32) rfl (l' := #[.val (.ref o0), .val (.int (1 : Int32)), .val (.ref o2), .val (.int (0 : Int32)), .val (.int (2 : Int32)), .val (.int (0 : Int32)), .val (.int u0)]) rfl κ) ?_
  show own_End p e below s (T3.setTop (mkF m 35 #[.val (.ref o0), .val (.int (1 : Int32)), .val (.ref o2), .val (.int (0 : Int32)), .val (.int (2 : Int32)), .val (.int (0 : Int32)), .val (.int u0)] [])) _ _ _
  refine own_go (fun τ κ => XS.iinc Xl3.here hx rfl (hb hby d15_35) rfl (l' := #[.val (.ref o0), .val (.int (1 : Int32)), .val (.ref o2), .val (.int (1 : Int32)), .val (.int (2 : Int32)), .val (.int (0 : Int32)), .val (.int u0)]) rfl κ) ?_
  show own_End p e below s (T3.setTop (mkF m 38 #[.val (.ref o0), .val (.int (1 : Int32)), .val (.ref o2), .val (.int (1 : Int32)), .val (.int (2 : Int32)), .val (.int (0 : Int32)), .val (.int u0)] [])) _ _ _
  refine own_go (fun τ κ => XS.iinc Xl3.here hx rfl (hb hby d15_38) rfl (l' := #[.val (.ref o0), .val (.int (1 : Int32)), .val (.ref o2), .val (.int (1 : Int32)), .val (.int (2 : Int32)), .val (.int (1 : Int32)), .val (.int u0)]) rfl κ) ?_
  show own_End p e below s (T3.setTop (mkF m 41 #[.val (.ref o0), .val (.int (1 : Int32)), .val (.ref o2), .val (.int (1 : Int32)), .val (.int (2 : Int32)), .val (.int (1 : Int32)), .val (.int u0)] [])) _ _ _
  refine own_go (fun τ κ => XS.goto Xl3.here hx rfl (pc0 := 41) (pc' := 3) rfl (hb hby d15_41) (by decide) (by decide) κ) ?_
  show own_End p e below s (T3.setTop (mkF m 3 #[.val (.ref o0), .val (.int (1 : Int32)), .val (.ref o2), .val (.int (1 : Int32)), .val (.int (2 : Int32)), .val (.int (1 : Int32)), .val (.int u0)] [])) _ _ _
  refine own_go (fun τ κ => XS.iload Xl3.here hx rfl (hb hby d15_3) rfl κ) ?_
  show own_End p e below s (T3.setTop (mkF m 5 #[.val (.ref o0), .val (.int (1 : Int32)), .val (.ref o2), .val (.int (1 : Int32)), .val (.int (2 : Int32)), .val (.int (1 : Int32)), .val (.int u0)] [(.int (1 : Int32))])) _ _ _
  refine own_go (fun τ κ => XS.iload Xl3.here hx rfl (hb hby d15_5) rfl κ) ?_
  show own_End p e below s (T3.setTop (mkF m 7 #[.val (.ref o0), .val (.int (1 : Int32)), .val (.ref o2), .val (.int (1 : Int32)), .val (.int (2 : Int32)), .val (.int (1 : Int32)), .val (.int u0)] [(.int (2 : Int32)), (.int (1 : Int32))])) _ _ _
  refine own_go (fun τ κ => XS.icmpNo Xl3.here hx rfl (hb hby d15_7) rfl (own_tlt (x := (1 : Int32)) (y := (2 : Int32)) (i := 1) (j := 2) rfl rfl (by decide)).2.1 κ) ?_
  show own_End p e below s (T3.setTop (mkF m 10 #[.val (.ref o0), .val (.int (1 : Int32)), .val (.ref o2), .val (.int (1 : Int32)), .val (.int (2 : Int32)), .val (.int (1 : Int32)), .val (.int u0)] [])) _ _ _
  refine own_go (fun τ κ => XS.aloadN Xl3.here hx rfl (hb hby d15_10) rfl rfl κ) ?_
  show own_End p e below s (T3.setTop (mkF m 11 #[.val (.ref o0), .val (.int (1 : Int32)), .val (.ref o2), .val (.int (1 : Int32)), .val (.int (2 : Int32)), .val (.int (1 : Int32)), .val (.int u0)] [(.ref o0)])) _ _ _
  refine own_go (fun τ κ => XS.iloadN Xl3.here hx rfl (hb hby d15_11) rfl κ) ?_
  show own_End p e below s (T3.setTop (mkF m 12 #[.val (.ref o0), .val (.int (1 : Int32)), .val (.ref o2), .val (.int (1 : Int32)), .val (.int (2 : Int32)), .val (.int (1 : Int32)), .val (.int u0)] [(.int (1 : Int32)), (.ref o0)])) _ _ _
  have U4 := (Vc.other W3 hne)
  obtain ⟨cl5, Ar5, qa5, Sq5, Mq5, Hh5, Gq5⟩ := id U4
  have hin5 : ¬ ((1 : Int32) < 0 ∨ cl5.slots.size ≤ ((1 : Int32)).toNatClampNeg) := inb_of Sq5 ⟨by decide, by decide⟩
  refine own_go (fun τ κ => Xl3.caload hx (j := (1 : Int32)) (v := (.int u1)) (by rw [e3]; exact Ar5.1) (State.isArrayOf_alike hZ.alike Ar5.2.1) Ar5.2.2 hin5 (Hh5.at hin5 rfl) (g := (mkF m 12 #[.val (.ref o0), .val (.int (1 : Int32)), .val (.ref o2), .val (.int (1 : Int32)), .val (.int (2 : Int32)), .val (.int (1 : Int32)), .val (.int u0)] [(.int (1 : Int32)), (.ref o0)])) rfl rfl (hb hby d15_12) _ κ) ?_
  show own_End p e below s (T3.setTop (mkF m 13 #[.val (.ref o0), .val (.int (1 : Int32)), .val (.ref o2), .val (.int (1 : Int32)), .val (.int (2 : Int32)), .val (.int (1 : Int32)), .val (.int u0)] [(.int u1)])) _ _ _
  refine own_go (fun τ κ => XS.istore Xl3.here hx rfl (hb hby d15_13) rfl (l' := #[.val (.ref o0), .val (.int (1 : Int32)), .val (.ref o2), .val (.int (1 : Int32)), .val (.int (2 : Int32)), .val (.int (1 : Int32)), .val (.int u1)]) rfl κ) ?_
  show own_End p e below s (T3.setTop (mkF m 15 #[.val (.ref o0), .val (.int (1 : Int32)), .val (.ref o2), .val (.int (1 : Int32)), .val (.int (2 : Int32)), .val (.int (1 : Int32)), .val (.int u1)] [])) _ _ _
  refine own_go (fun τ κ => XS.iload Xl3.here hx rfl (hb hby d15_15) rfl κ) ?_
  show own_End p e below s (T3.setTop (mkF m 17 #[.val (.ref o0), .val (.int (1 : Int32)), .val (.ref o2), .val (.int (1 : Int32)), .val (.int (2 : Int32)), .val (.int (1 : Int32)), .val (.int u1)] [(.int u1)])) _ _ _
  refine own_go (fun τ κ => XS.sipush Xl3.here hx rfl (hb hby d15_17) κ) ?_
  show own_End p e below s (T3.setTop (mkF m 20 #[.val (.ref o0), .val (.int (1 : Int32)), .val (.ref o2), .val (.int (1 : Int32)), .val (.int (2 : Int32)), .val (.int (1 : Int32)), .val (.int u1)] [(.int (255 : Int32)), (.int u1)])) _ _ _
  refine own_go (fun τ κ => XS.icmpYes Xl3.here hx rfl (pc0 := 20) (pc' := 26) rfl (hb hby d15_20) rfl (own_flt (x := (255 : Int32)) (y := u1) (i := 255) (j := u1.toInt) rfl rfl hu1).2.2.2 (by decide) (by decide) κ) ?_
  show own_End p e below s (T3.setTop (mkF m 26 #[.val (.ref o0), .val (.int (1 : Int32)), .val (.ref o2), .val (.int (1 : Int32)), .val (.int (2 : Int32)), .val (.int (1 : Int32)), .val (.int u1)] [])) _ _ _
  refine own_go (fun τ κ => XS.aloadN Xl3.here hx rfl (hb hby d15_26) rfl rfl κ) ?_
  show own_End p e below s (T3.setTop (mkF m 27 #[.val (.ref o0), .val (.int (1 : Int32)), .val (.ref o2), .val (.int (1 : Int32)), .val (.int (2 : Int32)), .val (.int (1 : Int32)), .val (.int u1)] [(.ref o2)])) _ _ _
  refine own_go (fun τ κ => XS.iloadN Xl3.here hx rfl (hb hby d15_27) rfl κ) ?_
  show own_End p e below s (T3.setTop (mkF m 28 #[.val (.ref o0), .val (.int (1 : Int32)), .val (.ref o2), .val (.int (1 : Int32)), .val (.int (2 : Int32)), .val (.int (1 : Int32)), .val (.int u1)] [(.int (1 : Int32)), (.ref o2)])) _ _ _
  refine own_go (fun τ κ => XS.iload Xl3.here hx rfl (hb hby d15_28) rfl κ) ?_
  show own_End p e below s (T3.setTop (mkF m 30 #[.val (.ref o0), .val (.int (1 : Int32)), .val (.ref o2), .val (.int (1 : Int32)), .val (.int (2 : Int32)), .val (.int (1 : Int32)), .val (.int u1)] [(.int u1), (.int (1 : Int32)), (.ref o2)])) _ _ _
  refine own_go (fun τ κ => XS.i2b Xl3.here hx rfl (hb hby d15_30) rfl κ) ?_
  show own_End p e below s (T3.setTop (mkF m 31 #[.val (.ref o0), .val (.int (1 : Int32)), .val (.ref o2), .val (.int (1 : Int32)), .val (.int (2 : Int32)), .val (.int (1 : Int32)), .val (.int u1)] [(.int (u1.toInt8.toInt32)), (.int (1 : Int32)), (.ref o2)])) _ _ _
  obtain ⟨cl6, Ar6, qa6, Sq6, Mq6, Hh6, Gq6⟩ := id V_o2_3
  have hin6 : ¬ ((1 : Int32) < 0 ∨ cl6.slots.size ≤ ((1 : Int32)).toNatClampNeg) := inb_of Sq6 ⟨by decide, by decide⟩
  obtain ⟨T7, h7, X7, e7, W7, st7⟩ := stB Xl3 hx hZ e3 Ar6 (j := (1 : Int32)) hin6 (g := (mkF m 31 #[.val (.ref o0), .val (.int (1 : Int32)), .val (.ref o2), .val (.int (1 : Int32)), .val (.int (2 : Int32)), .val (.int (1 : Int32)), .val (.int u1)] [(.int (u1.toInt8.toInt32)), (.int (1 : Int32)), (.ref o2)])) rfl rfl (hb hby d15_31)
  have V_o2_7 : Arv Z h7 o2 kb .byte (2 : Int32) [(.int ((u0.toInt8.toInt32).toInt8.toInt32)), (.int ((u1.toInt8.toInt32).toInt8.toInt32))] (.int (0 : Int32)) := Arv.set Ar6 qa6 Sq6 Mq6 Hh6 Gq6 (fits_nar_byte _) W7 1 rfl (Nat.le_of_ble_eq_true rfl)
  have N7 := Fr.snoc X7 Nl3 g_o2
  obtain ⟨ls7, Xl7, Nl7⟩ := own_abs X7 N7
  have Z7 : n0 ≤ h7.size := Nat.le_trans Z3 (Keep.of_wr W7).1
  have KP7 := KP3.wr W7 (Or.inl (List.mem_of_getElem? (i := 0) rfl))
  refine own_go st7 ?_
  show own_End p e below s (T7.setTop (mkF m 32 #[.val (.ref o0), .val (.int (1 : Int32)), .val (.ref o2), .val (.int (1 : Int32)), .val (.int (2 : Int32)), .val (.int (1 : Int32)), .val (.int u1)] [])) _ _ _
  refine own_go (fun τ κ => XS.iinc Xl7.here hx rfl (hb hby d15_32) rfl (l' := #[.val (.ref o0), .val (.int (2 : Int32)), .val (.ref o2), .val (.int (1 : Int32)), .val (.int (2 : Int32)), .val (.int (1 : Int32)), .val (.int u1)]) rfl κ) ?_
  show own_End p e below s (T7.setTop (mkF m 35 #[.val (.ref o0), .val (.int (2 : Int32)), .val (.ref o2), .val (.int (1 : Int32)), .val (.int (2 : Int32)), .val (.int (1 : Int32)), .val (.int u1)] [])) _ _ _
  refine own_go (fun τ κ => XS.iinc Xl7.here hx rfl (hb hby d15_35) rfl (l' := #[.val (.ref o0), .val (.int (2 : Int32)), .val (.ref o2), .val (.int (2 : Int32)), .val (.int (2 : Int32)), .val (.int (1 : Int32)), .val (.int u1)]) rfl κ) ?_
  show own_End p e below s (T7.setTop (mkF m 38 #[.val (.ref o0), .val (.int (2 : Int32)), .val (.ref o2), .val (.int (2 : Int32)), .val (.int (2 : Int32)), .val (.int (1 : Int32)), .val (.int u1)] [])) _ _ _
  refine own_go (fun τ κ => XS.iinc Xl7.here hx rfl (hb hby d15_38) rfl (l' := #[.val (.ref o0), .val (.int (2 : Int32)), .val (.ref o2), .val (.int (2 : Int32)), .val (.int (2 : Int32)), .val (.int (2 : Int32)), .val (.int u1)]) rfl κ) ?_
  show own_End p e below s (T7.setTop (mkF m 41 #[.val (.ref o0), .val (.int (2 : Int32)), .val (.ref o2), .val (.int (2 : Int32)), .val (.int (2 : Int32)), .val (.int (2 : Int32)), .val (.int u1)] [])) _ _ _
  refine own_go (fun τ κ => XS.goto Xl7.here hx rfl (pc0 := 41) (pc' := 3) rfl (hb hby d15_41) (by decide) (by decide) κ) ?_
  show own_End p e below s (T7.setTop (mkF m 3 #[.val (.ref o0), .val (.int (2 : Int32)), .val (.ref o2), .val (.int (2 : Int32)), .val (.int (2 : Int32)), .val (.int (2 : Int32)), .val (.int u1)] [])) _ _ _
  refine own_go (fun τ κ => XS.iload Xl7.here hx rfl (hb hby d15_3) rfl κ) ?_
  show own_End p e below s (T7.setTop (mkF m 5 #[.val (.ref o0), .val (.int (2 : Int32)), .val (.ref o2), .val (.int (2 : Int32)), .val (.int (2 : Int32)), .val (.int (2 : Int32)), .val (.int u1)] [(.int (2 : Int32))])) _ _ _
  refine own_go (fun τ κ => XS.iload Xl7.here hx rfl (hb hby d15_5) rfl κ) ?_
  show own_End p e below s (T7.setTop (mkF m 7 #[.val (.ref o0), .val (.int (2 : Int32)), .val (.ref o2), .val (.int (2 : Int32)), .val (.int (2 : Int32)), .val (.int (2 : Int32)), .val (.int u1)] [(.int (2 : Int32)), (.int (2 : Int32))])) _ _ _
  refine own_go (fun τ κ => XS.icmpYes Xl7.here hx rfl (pc0 := 7) (pc' := 44) rfl (hb hby d15_7) rfl (own_flt (x := (2 : Int32)) (y := (2 : Int32)) (i := 2) (j := 2) rfl rfl (by decide)).2.1 (by decide) (by decide) κ) ?_
  show own_End p e below s (T7.setTop (mkF m 44 #[.val (.ref o0), .val (.int (2 : Int32)), .val (.ref o2), .val (.int (2 : Int32)), .val (.int (2 : Int32)), .val (.int (2 : Int32)), .val (.int u1)] [])) _ _ _
  refine own_go (fun τ κ => XS.iload Xl7.here hx rfl (hb hby d15_44) rfl κ) ?_
  show own_End p e below s (T7.setTop (mkF m 46 #[.val (.ref o0), .val (.int (2 : Int32)), .val (.ref o2), .val (.int (2 : Int32)), .val (.int (2 : Int32)), .val (.int (2 : Int32)), .val (.int u1)] [(.int (2 : Int32))])) _ _ _
  refine own_ret Xl7 (v := some (.int (2 : Int32))) (fun h => by rw [Bd.returns] at h; cases h) Bd.notSynchronized (fun fs hr => retI Xl7 hx Bd.returns (hb hby d15_46) hr) ?_ (by decide) (by decide)
  · rw [e7]; exact ⟨rfl, Nl7, KP7, V_o2_7⟩
theorem own_ef14_rmB2 (m : MethodId) (o0 : Addr) : entryFrame m #[(.ref o0), (.int (0 : Int32)), (.int (2 : Int32))] 6 = mkF m 0 #[.val (.ref o0), .val (.int (0 : Int32)), .val (.int (2 : Int32)), .unset, .unset, .unset] [] := by first | (simp [entryFrame, mkF, argsToLocals, Value.category]; done) | rfl
def Q_rmB2 (Z : State) (o0 : Addr) (kc : ClassId) (u0 : Int32) (u1 : Int32) (h0 : Heap) (n0 : Nat) (v : Option Value) (h : Heap) (L : List Loc) : Prop := (∃ b kb, v = some (.ref b) ∧ h0.size ≤ b ∧ Arv Z h b kb .byte (2 : Int32) [(.int ((u0.toInt8.toInt32).toInt8.toInt32)), (.int ((u1.toInt8.toInt32).toInt8.toInt32))] (.int (0 : Int32)) ∧ Keep h0 h []) ∧ Fr n0 L
theorem d14_0 : decode jdk_52_method_16_code 0 = .ok (.iload_n 2, 1) := by decide +kernel
theorem d14_1 : decode jdk_52_method_16_code 1 = .ok (.newarray .byte, 2) := by decide +kernel
theorem d14_3 : decode jdk_52_method_16_code 3 = .ok (.astore_n 3, 1) := by decide +kernel
theorem d14_4 : decode jdk_52_method_16_code 4 = .ok (.aload_n 0, 1) := by decide +kernel
theorem d14_5 : decode jdk_52_method_16_code 5 = .ok (.iload_n 1, 1) := by decide +kernel
theorem d14_6 : decode jdk_52_method_16_code 6 = .ok (.aload_n 3, 1) := by decide +kernel
theorem d14_7 : decode jdk_52_method_16_code 7 = .ok (.iconst 0, 1) := by decide +kernel
theorem d14_8 : decode jdk_52_method_16_code 8 = .ok (.iload_n 2, 1) := by decide +kernel
theorem d14_9 : decode jdk_52_method_16_code 9 = .ok (.invokestatic 115, 3) := by decide +kernel
theorem own_pd3 : parseMethodDescriptor "([CI[BII)I" = some ⟨[(.array .char), .int, (.array .byte), .int, .int], some .int⟩ := by decide +kernel
theorem d14_12 : decode jdk_52_method_16_code 12 = .ok (.istore 4, 2) := by decide +kernel
theorem d14_14 : decode jdk_52_method_16_code 14 = .ok (.iload 4, 2) := by decide +kernel
theorem d14_16 : decode jdk_52_method_16_code 16 = .ok (.iload_n 2, 1) := by decide +kernel
theorem d14_17 : decode jdk_52_method_16_code 17 = .ok (.if_icmp .eq 40, 3) := by decide +kernel
theorem d14_57 : decode jdk_52_method_16_code 57 = .ok (.aload_n 3, 1) := by decide +kernel
theorem d14_58 : decode jdk_52_method_16_code 58 = .ok (.areturn, 1) := by decide +kernel
set_option maxRecDepth 65536 in
set_option maxHeartbeats 40000000 in
theorem rmB2 (l : Launch) (Z : State) (a0 : Array Value) (hw : ∀ d ∈ tables_1, d.before a0 Z = true) (ws : List Jvm.Cond) (o0 : Addr) (kc : ClassId) (u0 : Int32) (u1 : Int32) (h0 : Heap) (n0 : Nat) (Z0 : n0 ≤ h0.size) (Vc : Arv Z h0 o0 kc .char (2 : Int32) [(.int u0), (.int u1)] (.int (0 : Int32))) (hu0 : ¬ 255 < u0.toInt) (hu1 : ¬ 255 < u1.toInt) :
    MetFree l (⟨"java/lang/StringUTF16", "compress", "([CII)[B"⟩ : MethodName) (head1 (Jvm.Cond.code (⟨"java/lang/StringUTF16", "compress", "([CII)[B"⟩ : MethodName) jdk_52_method_16_code 6 (some (.array .byte)) :: ws) ({ frames := 1, cells := 1, slots := 2, locals := 18 } : Room)) (fun a U => a = #[(.ref o0), (.int (0 : Int32)), (.int (2 : Int32))] ∧ Z.Warmed39 U.vm ∧ U.heap = h0) (fun _ _ _ _ _ => True) (fun _ U o U' => ∃ v L, o = .returned v ∧ Q_rmB2 Z o0 kc u0 u1 h0 n0 v U'.heap L ∧ FrameEnd U o U' L ({ frames := 1, cells := 1, slots := 2, locals := 18 } : Room).cells ({ frames := 1, cells := 1, slots := 2, locals := 18 } : Room).slots) := by
  refine MetFree.of_bodySF (plainFor_of_name own_pn2) hisR ?_
  intro p e s m args below meth c s₁ Bd hml0 hP hK
  obtain ⟨rfl, hZ, hh⟩ := hP
  have hx := Bd.exec
  have hby := Bd.bytes
  have hml : c.maxLocals = 6 := hml0
  have hown : s.vm.findClass "java/lang/StringUTF16" = some m.cls := findClass_of_methodNamed Bd.named
  have hnm := (name_of_methodNamed Bd.named Bd.method).1
  have X0 : Stand p l e ({ frames := 1, cells := 1, slots := 2, locals := 18 } : Room) s m #[(.ref o0), (.int (0 : Int32)), (.int (2 : Int32))] below meth c s₁ [] 0 0 := Stand.of_body Bd
  have e0 : s₁.heap = h0 := by rw [← hh, Bd.state]; rfl
  have N0 := Fr.nil n0
  refine (show own_End p e below s (s₁.setTop (entryFrame m #[(.ref o0), (.int (0 : Int32)), (.int (2 : Int32))] 6)) (Q_rmB2 Z o0 kc u0 u1 h0 n0) ({ frames := 1, cells := 1, slots := 2, locals := 18 } : Room).cells ({ frames := 1, cells := 1, slots := 2, locals := 18 } : Room).slots from ?_)
  refine own_go (fun τ κ => castTop (own_ef14_rmB2 m o0) κ) ?_
  have li0 : (0 : Int32).toInt = 0 := rfl
  have li1 : (1 : Int32).toInt = 1 := rfl
  show own_End p e below s (s₁.setTop (mkF m 0 #[.val (.ref o0), .val (.int (0 : Int32)), .val (.int (2 : Int32)), .unset, .unset, .unset] [])) _ _ _
  refine own_go (fun τ κ => XS.iloadN X0.here hx rfl (hb hby d14_0) rfl κ) ?_
  show own_End p e below s (s₁.setTop (mkF m 1 #[.val (.ref o0), .val (.int (0 : Int32)), .val (.int (2 : Int32)), .unset, .unset, .unset] [(.int (2 : Int32))])) _ _ _
  obtain ⟨T1, h1, k1, X1, e1, E1, A1, st1⟩ := newP X0 hx hZ (hw _ (List.mem_of_getElem? (i := 15) rfl)) e0 (g := (mkF m 1 #[.val (.ref o0), .val (.int (0 : Int32)), .val (.int (2 : Int32)), .unset, .unset, .unset] [(.int (2 : Int32))])) rfl (hb hby d14_1) rfl (by decide) (cap := 2) (by decide) (by decide) (by decide) (by decide)
  obtain ⟨b1, g1⟩ : ∃ z, z = h0.size := ⟨_, rfl⟩
  rw [← g1] at A1 st1
  have g_b1 : n0 ≤ b1 := Nat.le_trans Z0 (Nat.le_of_eq g1.symm)
  have ne_o0_b1 : o0 ≠ b1 := Nat.ne_of_lt (Nat.lt_of_lt_of_le Vc.lt (Nat.le_of_eq g1.symm))
  have Z1 : n0 ≤ h1.size := Nat.le_trans Z0 E1.1
  have KP1 := (Keep.refl h0 []).ext E1
  have sz_b1 : h0.size ≤ b1 := Nat.le_trans (Keep.refl h0 []).1 (Nat.le_of_eq g1.symm)
  have V_b1 : Arv Z h1 b1 k1 .byte (2 : Int32) [(.int (0 : Int32)), (.int (0 : Int32))] (.int (0 : Int32)) := (Arv.new A1 (by decide)).pad (pad_rep [] (.int (0 : Int32)) 2)
  refine own_go st1 ?_
  show own_End p e below s (T1.setTop (mkF m 3 #[.val (.ref o0), .val (.int (0 : Int32)), .val (.int (2 : Int32)), .unset, .unset, .unset] [(.ref b1)])) _ _ _
  refine own_go (fun τ κ => XS.astoreN X1.here hx rfl (hb hby d14_3) rfl rfl (l' := #[.val (.ref o0), .val (.int (0 : Int32)), .val (.int (2 : Int32)), .val (.ref b1), .unset, .unset]) rfl κ) ?_
  show own_End p e below s (T1.setTop (mkF m 4 #[.val (.ref o0), .val (.int (0 : Int32)), .val (.int (2 : Int32)), .val (.ref b1), .unset, .unset] [])) _ _ _
  refine own_go (fun τ κ => XS.aloadN X1.here hx rfl (hb hby d14_4) rfl rfl κ) ?_
  show own_End p e below s (T1.setTop (mkF m 5 #[.val (.ref o0), .val (.int (0 : Int32)), .val (.int (2 : Int32)), .val (.ref b1), .unset, .unset] [(.ref o0)])) _ _ _
  refine own_go (fun τ κ => XS.iloadN X1.here hx rfl (hb hby d14_5) rfl κ) ?_
  show own_End p e below s (T1.setTop (mkF m 6 #[.val (.ref o0), .val (.int (0 : Int32)), .val (.int (2 : Int32)), .val (.ref b1), .unset, .unset] [(.int (0 : Int32)), (.ref o0)])) _ _ _
  refine own_go (fun τ κ => XS.aloadN X1.here hx rfl (hb hby d14_6) rfl rfl κ) ?_
  show own_End p e below s (T1.setTop (mkF m 7 #[.val (.ref o0), .val (.int (0 : Int32)), .val (.int (2 : Int32)), .val (.ref b1), .unset, .unset] [(.ref b1), (.int (0 : Int32)), (.ref o0)])) _ _ _
  refine own_go (fun τ κ => XS.iconst X1.here hx rfl (hb hby d14_7) κ) ?_
  show own_End p e below s (T1.setTop (mkF m 8 #[.val (.ref o0), .val (.int (0 : Int32)), .val (.int (2 : Int32)), .val (.ref b1), .unset, .unset] [(.int (0 : Int32)), (.ref b1), (.int (0 : Int32)), (.ref o0)])) _ _ _
  refine own_go (fun τ κ => XS.iloadN X1.here hx rfl (hb hby d14_8) rfl κ) ?_
  show own_End p e below s (T1.setTop (mkF m 9 #[.val (.ref o0), .val (.int (0 : Int32)), .val (.int (2 : Int32)), .val (.ref b1), .unset, .unset] [(.int (2 : Int32)), (.int (0 : Int32)), (.ref b1), (.int (0 : Int32)), (.ref o0)])) _ _ _
  have U2 := (Vc.ext E1)
  obtain ⟨_, _, ⟨T3, L3, k3, n3⟩, -, X3, ⟨Lc3, hQ3, l3, y3, z3⟩, st3⟩ := Jvm.LawKit.callS X1 hx (y := (⟨"java/lang/StringUTF16", "compress", "([CI[BII)I"⟩ : MethodName)) hown (mvT hZ (hw _ (List.mem_of_getElem? (i := 65) rfl))) (mvT hZ (hw _ (List.mem_of_getElem? (i := 66) rfl))) (mvT hZ (hw _ (List.mem_of_getElem? (i := 63) rfl))) (mvT hZ (hw _ (List.mem_of_getElem? (i := 67) rfl))) (by decide) (backOf (W := 0) (rmK2 l Z a0 hw [] o0 b1 kc k1 u0 u1 h1 n0 Z1 g_b1 ne_o0_b1 U2 V_b1 hu0 hu1) hZ (hw _ (List.mem_of_getElem? (i := 67) rfl)) (hw _ (List.mem_of_getElem? (i := 63) rfl)) (by decide) (by decide)) (g := (mkF m 9 #[.val (.ref o0), .val (.int (0 : Int32)), .val (.int (2 : Int32)), .val (.ref b1), .unset, .unset] [(.int (2 : Int32)), (.int (0 : Int32)), (.ref b1), (.int (0 : Int32)), (.ref o0)])) rfl (by rw [hml]; rfl) (argsL := [(.ref o0), (.int (0 : Int32)), (.ref b1), (.int (0 : Int32)), (.int (2 : Int32))]) (rest := []) (lenOf own_pd3 rfl) rfl (by show 2 * 0 + _ ≤ _; exact Nat.le_of_eq rfl) (hb hby d14_9) (fun _ _ => ⟨rfl, e1, (by decide : 1 + 0 ≤ _), (by decide : 2 + 0 ≤ _)⟩)
  dsimp only [Pt.U, Pt.locs, Pt.cells, Pt.slots] at X3 l3 y3 z3 st3 hQ3
  subst l3 y3 z3
  obtain ⟨rfl, N3q, K3, Vb3⟩ := hQ3
  have N3 := Fr.app N0 N3q
  obtain ⟨ls3, Xl3, Nl3⟩ := own_abs X3 N3
  have Z3 : n0 ≤ T3.heap.size := Nat.le_trans Z1 K3.1
  refine own_go st3 ?_
  show own_End p e below s (T3.setTop (mkF m 12 #[.val (.ref o0), .val (.int (0 : Int32)), .val (.int (2 : Int32)), .val (.ref b1), .unset, .unset] [(.int (2 : Int32))])) _ _ _
  have KP3 := KP1.trans K3 (allS (Or.inr sz_b1) all0)
  refine own_go (fun τ κ => XS.istore Xl3.here hx rfl (hb hby d14_12) rfl (l' := #[.val (.ref o0), .val (.int (0 : Int32)), .val (.int (2 : Int32)), .val (.ref b1), .val (.int (2 : Int32)), .unset]) rfl κ) ?_
  show own_End p e below s (T3.setTop (mkF m 14 #[.val (.ref o0), .val (.int (0 : Int32)), .val (.int (2 : Int32)), .val (.ref b1), .val (.int (2 : Int32)), .unset] [])) _ _ _
  refine own_go (fun τ κ => XS.iload Xl3.here hx rfl (hb hby d14_14) rfl κ) ?_
  show own_End p e below s (T3.setTop (mkF m 16 #[.val (.ref o0), .val (.int (0 : Int32)), .val (.int (2 : Int32)), .val (.ref b1), .val (.int (2 : Int32)), .unset] [(.int (2 : Int32))])) _ _ _
  refine own_go (fun τ κ => XS.iloadN Xl3.here hx rfl (hb hby d14_16) rfl κ) ?_
  show own_End p e below s (T3.setTop (mkF m 17 #[.val (.ref o0), .val (.int (0 : Int32)), .val (.int (2 : Int32)), .val (.ref b1), .val (.int (2 : Int32)), .unset] [(.int (2 : Int32)), (.int (2 : Int32))])) _ _ _
  refine own_go (fun τ κ => XS.icmpYes Xl3.here hx rfl (pc0 := 17) (pc' := 57) rfl (hb hby d14_17) rfl (own_eq (x := (2 : Int32)) (y := (2 : Int32)) (i := 2) (j := 2) rfl rfl (by decide)).1 (by decide) (by decide) κ) ?_
  show own_End p e below s (T3.setTop (mkF m 57 #[.val (.ref o0), .val (.int (0 : Int32)), .val (.int (2 : Int32)), .val (.ref b1), .val (.int (2 : Int32)), .unset] [])) _ _ _
  refine own_go (fun τ κ => XS.aloadN Xl3.here hx rfl (hb hby d14_57) rfl rfl κ) ?_
  show own_End p e below s (T3.setTop (mkF m 58 #[.val (.ref o0), .val (.int (0 : Int32)), .val (.int (2 : Int32)), .val (.ref b1), .val (.int (2 : Int32)), .unset] [(.ref b1)])) _ _ _
  refine own_ret Xl3 (v := some (.ref b1)) (fun h => by rw [Bd.returns] at h; cases h) Bd.notSynchronized (fun fs hr => retOut Xl3 hx (w := (.ref b1)) Bd.returns rfl (Or.inr (Or.inr (Or.inr (Or.inr ⟨rfl, rfl, rfl⟩)))) (hb hby d14_58) hr) ?_ (by decide) (by decide)
  · exact ⟨⟨_, _, rfl, sz_b1, Vb3, KP3⟩, Nl3⟩
theorem own_ef16_rmF2 (m : MethodId) (o0 : Addr) : entryFrame m #[(.ref o0), (.int (2 : Int32))] 2 = mkF m 0 #[.val (.ref o0), .val (.int (2 : Int32))] [] := by first | (simp [entryFrame, mkF, argsToLocals, Value.category]; done) | rfl
def Q_rmF2 (Z : State) (o0 : Addr) (kb : ClassId) (vs : List Value) (h0 : Heap) (n0 : Nat) (v : Option Value) (h : Heap) (L : List Loc) : Prop := v = some (.int (0 : Int32)) ∧ Fr n0 L ∧ h = h0
theorem d16_0 : decode jdk_52_method_15_code 0 = .ok (.iload_n 1, 1) := by decide +kernel
theorem d16_1 : decode jdk_52_method_15_code 1 = .ok (.aload_n 0, 1) := by decide +kernel
theorem d16_2 : decode jdk_52_method_15_code 2 = .ok (.arraylength, 1) := by decide +kernel
theorem d16_3 : decode jdk_52_method_15_code 3 = .ok (.isub, 1) := by decide +kernel
theorem d16_4 : decode jdk_52_method_15_code 4 = .ok (.bipush 31, 2) := by decide +kernel
theorem d16_6 : decode jdk_52_method_15_code 6 = .ok (.iushr, 1) := by decide +kernel
theorem d16_7 : decode jdk_52_method_15_code 7 = .ok (.i2b, 1) := by decide +kernel
theorem d16_8 : decode jdk_52_method_15_code 8 = .ok (.ireturn, 1) := by decide +kernel
set_option maxRecDepth 65536 in
set_option maxHeartbeats 40000000 in
theorem rmF2 (l : Launch) (Z : State) (a0 : Array Value) (hw : ∀ d ∈ tables_1, d.before a0 Z = true) (ws : List Jvm.Cond) (o0 : Addr) (kb : ClassId) (vs : List Value) (h0 : Heap) (n0 : Nat) (Z0 : n0 ≤ h0.size) (Vb : Arv Z h0 o0 kb .byte (2 : Int32) vs (.int (0 : Int32))) :
    MetFree l (⟨"java/lang/StringUTF16", "coderFromArrayLen", "([BI)B"⟩ : MethodName) (head1 (Jvm.Cond.code (⟨"java/lang/StringUTF16", "coderFromArrayLen", "([BI)B"⟩ : MethodName) jdk_52_method_15_code 2 (some .byte) :: ws) ({ frames := 0, cells := 0, slots := 0, locals := 0 } : Room)) (fun a U => a = #[(.ref o0), (.int (2 : Int32))] ∧ Z.Warmed39 U.vm ∧ U.heap = h0) (fun _ _ _ _ _ => True) (fun _ U o U' => ∃ v L, o = .returned v ∧ Q_rmF2 Z o0 kb vs h0 n0 v U'.heap L ∧ FrameEnd U o U' L ({ frames := 0, cells := 0, slots := 0, locals := 0 } : Room).cells ({ frames := 0, cells := 0, slots := 0, locals := 0 } : Room).slots) := by
  refine MetFree.of_bodySF (plainFor_of_name own_pn2) hisR ?_
  intro p e s m args below meth c s₁ Bd hml0 hP hK
  obtain ⟨rfl, hZ, hh⟩ := hP
  have hx := Bd.exec
  have hby := Bd.bytes
  have hml : c.maxLocals = 2 := hml0
  have hown : s.vm.findClass "java/lang/StringUTF16" = some m.cls := findClass_of_methodNamed Bd.named
  have hnm := (name_of_methodNamed Bd.named Bd.method).1
  have X0 : Stand p l e ({ frames := 0, cells := 0, slots := 0, locals := 0 } : Room) s m #[(.ref o0), (.int (2 : Int32))] below meth c s₁ [] 0 0 := Stand.of_body Bd
  have e0 : s₁.heap = h0 := by rw [← hh, Bd.state]; rfl
  have N0 := Fr.nil n0
  refine (show own_End p e below s (s₁.setTop (entryFrame m #[(.ref o0), (.int (2 : Int32))] 2)) (Q_rmF2 Z o0 kb vs h0 n0) ({ frames := 0, cells := 0, slots := 0, locals := 0 } : Room).cells ({ frames := 0, cells := 0, slots := 0, locals := 0 } : Room).slots from ?_)
  refine own_go (fun τ κ => castTop (own_ef16_rmF2 m o0) κ) ?_
  have li0 : (0 : Int32).toInt = 0 := rfl
  have li1 : (1 : Int32).toInt = 1 := rfl
  show own_End p e below s (s₁.setTop (mkF m 0 #[.val (.ref o0), .val (.int (2 : Int32))] [])) _ _ _
  refine own_go (fun τ κ => XS.iloadN X0.here hx rfl (hb hby d16_0) rfl κ) ?_
  show own_End p e below s (s₁.setTop (mkF m 1 #[.val (.ref o0), .val (.int (2 : Int32))] [(.int (2 : Int32))])) _ _ _
  refine own_go (fun τ κ => XS.aloadN X0.here hx rfl (hb hby d16_1) rfl rfl κ) ?_
  show own_End p e below s (s₁.setTop (mkF m 2 #[.val (.ref o0), .val (.int (2 : Int32))] [(.ref o0), (.int (2 : Int32))])) _ _ _
  obtain ⟨cl1, Ar1, qa1, Sq1, Mq1, Hh1, Gq1⟩ := id Vb
  refine own_go (fun τ κ => X0.arraylength hx (by rw [e0]; exact Ar1.1) (State.isArrayOf_alike hZ.alike Ar1.2.1) (g := (mkF m 2 #[.val (.ref o0), .val (.int (2 : Int32))] [(.ref o0), (.int (2 : Int32))])) rfl rfl (hb hby d16_2) _ (by rw [len_of Sq1 Mq1]; exact κ)) ?_
  show own_End p e below s (s₁.setTop (mkF m 3 #[.val (.ref o0), .val (.int (2 : Int32))] [(.int (2 : Int32)), (.int (2 : Int32))])) _ _ _
  refine own_go (fun τ κ => XS.isub X0.here hx rfl (hb hby d16_3) rfl κ) ?_
  show own_End p e below s (s₁.setTop (mkF m 4 #[.val (.ref o0), .val (.int (2 : Int32))] [(.int (0 : Int32))])) _ _ _
  refine own_go (fun τ κ => XS.bipush X0.here hx rfl (hb hby d16_4) κ) ?_
  show own_End p e below s (s₁.setTop (mkF m 6 #[.val (.ref o0), .val (.int (2 : Int32))] [(.int (31 : Int32)), (.int (0 : Int32))])) _ _ _
  refine own_go (fun τ κ => XS.iushr X0.here hx rfl (hb hby d16_6) rfl κ) ?_
  show own_End p e below s (s₁.setTop (mkF m 7 #[.val (.ref o0), .val (.int (2 : Int32))] [(.int (((0 : Int32).toUInt32 >>> ((31 : Int32) &&& 31).toUInt32).toInt32))])) _ _ _
  refine own_go (fun τ κ => XS.i2b X0.here hx rfl (hb hby d16_7) rfl κ) ?_
  show own_End p e below s (s₁.setTop (mkF m 8 #[.val (.ref o0), .val (.int (2 : Int32))] [(.int ((((0 : Int32).toUInt32 >>> ((31 : Int32) &&& 31).toUInt32).toInt32).toInt8.toInt32))])) _ _ _
  refine own_ret X0 (v := some (.int (((((0 : Int32).toUInt32 >>> ((31 : Int32) &&& 31).toUInt32).toInt32).toInt8.toInt32).toInt8.toInt32))) (fun h => by rw [Bd.returns] at h; cases h) Bd.notSynchronized (fun fs hr => retN X0 hx (t := .byte) Bd.returns (by simp) (hb hby d16_8) hr) ?_ (by decide) (by decide)
  · rw [e0]; exact ⟨rfl, N0, rfl⟩
theorem own_ef13_rmI2 (m : MethodId) (o0 : Addr) (o1 : Addr) : entryFrame m #[(.ref o0), (.ref o1), (.int (0 : Int32)), (.int (2 : Int32)), .null] 6 = mkF m 0 #[.val (.ref o0), .val (.ref o1), .val (.int (0 : Int32)), .val (.int (2 : Int32)), .val .null, .unset] [] := by first | (simp [entryFrame, mkF, argsToLocals, Value.category]; done) | rfl
def Q_rmI2 (Z : State) (o0 : Addr) (o1 : Addr) (kc : ClassId) (cz : Int32) (u0 : Int32) (u1 : Int32) (h0 : Heap) (n0 : Nat) (v : Option Value) (h : Heap) (L : List Loc) : Prop := (∃ b kb, h0.size ≤ b ∧ own_Str Z h o0 b kb (2 : Int32) [(.int ((u0.toInt8.toInt32).toInt8.toInt32)), (.int ((u1.toInt8.toInt32).toInt8.toInt32))]) ∧ Fr n0 L ∧ Keep h0 h [o0] ∧ v = none
theorem d13_0 : decode jdk_42_method_149_code 0 = .ok (.aload_n 0, 1) := by decide +kernel
theorem d13_1 : decode jdk_42_method_149_code 1 = .ok (.invokespecial 1, 3) := by decide +kernel
theorem d13_4 : decode jdk_42_method_149_code 4 = .ok (.iload_n 3, 1) := by decide +kernel
theorem d13_5 : decode jdk_42_method_149_code 5 = .ok (.ifCond .ne 22, 3) := by decide +kernel
theorem d13_27 : decode jdk_42_method_149_code 27 = .ok (.getstatic 38, 3) := by decide +kernel
theorem d13_30 : decode jdk_42_method_149_code 30 = .ok (.ifCond .eq 28, 3) := by decide +kernel
theorem d13_33 : decode jdk_42_method_149_code 33 = .ok (.aload_n 1, 1) := by decide +kernel
theorem d13_34 : decode jdk_42_method_149_code 34 = .ok (.iload_n 2, 1) := by decide +kernel
theorem d13_35 : decode jdk_42_method_149_code 35 = .ok (.iload_n 3, 1) := by decide +kernel
theorem d13_36 : decode jdk_42_method_149_code 36 = .ok (.invokestatic 177, 3) := by decide +kernel
theorem own_pd4 : parseMethodDescriptor "([CII)[B" = some ⟨[(.array .char), .int, .int], some (.array .byte)⟩ := by decide +kernel
theorem d13_39 : decode jdk_42_method_149_code 39 = .ok (.astore 5, 2) := by decide +kernel
theorem d13_41 : decode jdk_42_method_149_code 41 = .ok (.aload_n 0, 1) := by decide +kernel
theorem d13_42 : decode jdk_42_method_149_code 42 = .ok (.aload 5, 2) := by decide +kernel
theorem d13_44 : decode jdk_42_method_149_code 44 = .ok (.iload_n 3, 1) := by decide +kernel
theorem d13_45 : decode jdk_42_method_149_code 45 = .ok (.invokestatic 47, 3) := by decide +kernel
theorem own_pd5 : parseMethodDescriptor "([BI)B" = some ⟨[(.array .byte), .int], some .byte⟩ := by decide +kernel
theorem d13_48 : decode jdk_42_method_149_code 48 = .ok (.putfield 15, 3) := by decide +kernel
theorem d13_51 : decode jdk_42_method_149_code 51 = .ok (.aload_n 0, 1) := by decide +kernel
theorem d13_52 : decode jdk_42_method_149_code 52 = .ok (.aload 5, 2) := by decide +kernel
theorem d13_54 : decode jdk_42_method_149_code 54 = .ok (.putfield 9, 3) := by decide +kernel
theorem d13_57 : decode jdk_42_method_149_code 57 = .ok (.return_, 1) := by decide +kernel
set_option maxRecDepth 65536 in
set_option maxHeartbeats 40000000 in
theorem rmI2 (l : Launch) (Z : State) (a0 : Array Value) (hw : ∀ d ∈ tables_1, d.before a0 Z = true) (ws : List Jvm.Cond) (o0 : Addr) (o1 : Addr) (kc : ClassId) (cz : Int32) (u0 : Int32) (u1 : Int32) (h0 : Heap) (n0 : Nat) (Z0 : n0 ≤ h0.size) (g_o0 : n0 ≤ o0) (E_o0 : Exa Z h0 o0 "java/lang/String") (F_value : Fld Z h0 o0 "java/lang/String" "value" "[B" .null) (F_coder : Fld Z h0 o0 "java/lang/String" "coder" "B" (.int (0 : Int32))) (hne : o0 ≠ o1) (Vc : Arv Z h0 o1 kc .char (2 : Int32) [(.int u0), (.int u1)] (.int (0 : Int32))) (Ol : Old Z n0 h0) (S_C : Sta Z Z.heap "java/lang/String" "COMPACT_STRINGS" "Z" (.int cz)) (hcz : ¬ cz.toInt = 0) (hu0 : ¬ 255 < u0.toInt) (hu1 : ¬ 255 < u1.toInt) :
    MetFree l (⟨"java/lang/String", "<init>", "([CIILjava/lang/Void;)V"⟩ : MethodName) (head1 (Jvm.Cond.code (⟨"java/lang/String", "<init>", "([CIILjava/lang/Void;)V"⟩ : MethodName) jdk_42_method_149_code 6 none :: ws) ({ frames := 2, cells := 1, slots := 2, locals := 36 } : Room)) (fun a U => a = #[(.ref o0), (.ref o1), (.int (0 : Int32)), (.int (2 : Int32)), .null] ∧ Z.Warmed39 U.vm ∧ U.heap = h0) (fun _ _ _ _ _ => True) (fun _ U o U' => ∃ v L, o = .returned v ∧ Q_rmI2 Z o0 o1 kc cz u0 u1 h0 n0 v U'.heap L ∧ FrameEnd U o U' L ({ frames := 2, cells := 1, slots := 2, locals := 36 } : Room).cells ({ frames := 2, cells := 1, slots := 2, locals := 36 } : Room).slots) := by
  refine MetFree.of_bodySF (plainFor_of_name own_pn0) hisR ?_
  intro p e s m args below meth c s₁ Bd hml0 hP hK
  obtain ⟨rfl, hZ, hh⟩ := hP
  have hx := Bd.exec
  have hby := Bd.bytes
  have hml : c.maxLocals = 6 := hml0
  have hown : s.vm.findClass "java/lang/String" = some m.cls := findClass_of_methodNamed Bd.named
  have hnm := (name_of_methodNamed Bd.named Bd.method).1
  have X0 : Stand p l e ({ frames := 2, cells := 1, slots := 2, locals := 36 } : Room) s m #[(.ref o0), (.ref o1), (.int (0 : Int32)), (.int (2 : Int32)), .null] below meth c s₁ [] 0 0 := Stand.of_body Bd
  have e0 : s₁.heap = h0 := by rw [← hh, Bd.state]; rfl
  have N0 := Fr.nil n0
  refine (show own_End p e below s (s₁.setTop (entryFrame m #[(.ref o0), (.ref o1), (.int (0 : Int32)), (.int (2 : Int32)), .null] 6)) (Q_rmI2 Z o0 o1 kc cz u0 u1 h0 n0) ({ frames := 2, cells := 1, slots := 2, locals := 36 } : Room).cells ({ frames := 2, cells := 1, slots := 2, locals := 36 } : Room).slots from ?_)
  refine own_go (fun τ κ => castTop (own_ef13_rmI2 m o0 o1) κ) ?_
  have li0 : (0 : Int32).toInt = 0 := rfl
  have li1 : (1 : Int32).toInt = 1 := rfl
  show own_End p e below s (s₁.setTop (mkF m 0 #[.val (.ref o0), .val (.ref o1), .val (.int (0 : Int32)), .val (.int (2 : Int32)), .val .null, .unset] [])) _ _ _
  refine own_go (fun τ κ => XS.aloadN X0.here hx rfl (hb hby d13_0) rfl rfl κ) ?_
  show own_End p e below s (s₁.setTop (mkF m 1 #[.val (.ref o0), .val (.ref o1), .val (.int (0 : Int32)), .val (.int (2 : Int32)), .val .null, .unset] [(.ref o0)])) _ _ _
  obtain ⟨T1, X1, e1, st1⟩ := initO X0 hx hZ hown (hw _ (List.mem_of_getElem? (i := 20) rfl)) (hw _ (List.mem_of_getElem? (i := 21) rfl)) (hw _ (List.mem_of_getElem? (i := 22) rfl)) e0 (g := (mkF m 1 #[.val (.ref o0), .val (.ref o1), .val (.int (0 : Int32)), .val (.int (2 : Int32)), .val .null, .unset] [(.ref o0)])) rfl (by rw [hml]; rfl) rfl (hb hby d13_1) (by decide) (W := 0) (by show 2 * 0 + _ ≤ _; exact Nat.le_of_eq rfl) (by decide)
  refine own_go st1 ?_
  show own_End p e below s (T1.setTop (mkF m 4 #[.val (.ref o0), .val (.ref o1), .val (.int (0 : Int32)), .val (.int (2 : Int32)), .val .null, .unset] [])) _ _ _
  refine own_go (fun τ κ => XS.iloadN X1.here hx rfl (hb hby d13_4) rfl κ) ?_
  show own_End p e below s (T1.setTop (mkF m 5 #[.val (.ref o0), .val (.ref o1), .val (.int (0 : Int32)), .val (.int (2 : Int32)), .val .null, .unset] [(.int (2 : Int32))])) _ _ _
  refine own_go (fun τ κ => XS.ifYes X1.here hx rfl (pc0 := 5) (pc' := 27) rfl (hb hby d13_5) rfl ((if0 _ _).trans (own_ne (x := (2 : Int32)) (y := (0 : Int32)) (i := 2) (j := 0) rfl rfl (by decide)).2) (by decide) (by decide) κ) ?_
  show own_End p e below s (T1.setTop (mkF m 27 #[.val (.ref o0), .val (.ref o1), .val (.int (0 : Int32)), .val (.int (2 : Int32)), .val .null, .unset] [])) _ _ _
  obtain ⟨T2, X2, e2, st2⟩ := getS2 X1 hx hZ hown (host := "") (Or.inl (hw _ (List.mem_of_getElem? (i := 5) rfl))) Via.refl e1 (S_C.ext Ol.2) (g := (mkF m 27 #[.val (.ref o0), .val (.ref o1), .val (.int (0 : Int32)), .val (.int (2 : Int32)), .val .null, .unset] [])) rfl (hb hby d13_27)
  refine own_go st2 ?_
  show own_End p e below s (T2.setTop (mkF m 30 #[.val (.ref o0), .val (.ref o1), .val (.int (0 : Int32)), .val (.int (2 : Int32)), .val .null, .unset] [(.int cz)])) _ _ _
  refine own_go (fun τ κ => XS.ifNo X2.here hx rfl (hb hby d13_30) rfl ((if0 _ _).trans (own_ne (x := cz) (y := (0 : Int32)) (i := cz.toInt) (j := 0) rfl rfl hcz).1) κ) ?_
  show own_End p e below s (T2.setTop (mkF m 33 #[.val (.ref o0), .val (.ref o1), .val (.int (0 : Int32)), .val (.int (2 : Int32)), .val .null, .unset] [])) _ _ _
  refine own_go (fun τ κ => XS.aloadN X2.here hx rfl (hb hby d13_33) rfl rfl κ) ?_
  show own_End p e below s (T2.setTop (mkF m 34 #[.val (.ref o0), .val (.ref o1), .val (.int (0 : Int32)), .val (.int (2 : Int32)), .val .null, .unset] [(.ref o1)])) _ _ _
  refine own_go (fun τ κ => XS.iloadN X2.here hx rfl (hb hby d13_34) rfl κ) ?_
  show own_End p e below s (T2.setTop (mkF m 35 #[.val (.ref o0), .val (.ref o1), .val (.int (0 : Int32)), .val (.int (2 : Int32)), .val .null, .unset] [(.int (0 : Int32)), (.ref o1)])) _ _ _
  refine own_go (fun τ κ => XS.iloadN X2.here hx rfl (hb hby d13_35) rfl κ) ?_
  show own_End p e below s (T2.setTop (mkF m 36 #[.val (.ref o0), .val (.ref o1), .val (.int (0 : Int32)), .val (.int (2 : Int32)), .val .null, .unset] [(.int (2 : Int32)), (.int (0 : Int32)), (.ref o1)])) _ _ _
  obtain ⟨_, _, ⟨T3, L3, k3, n3⟩, -, X3, ⟨Lc3, hQ3, l3, y3, z3⟩, st3⟩ := Jvm.LawKit.callS X2 hx (y := (⟨"java/lang/StringUTF16", "compress", "([CII)[B"⟩ : MethodName)) hown (mvT hZ (hw _ (List.mem_of_getElem? (i := 61) rfl))) (mvT hZ (hw _ (List.mem_of_getElem? (i := 62) rfl))) (mvT hZ (hw _ (List.mem_of_getElem? (i := 63) rfl))) (mvT hZ (hw _ (List.mem_of_getElem? (i := 64) rfl))) (by decide) (backOf (W := 0) (rmB2 l Z a0 hw [] o1 kc u0 u1 h0 n0 Z0 Vc hu0 hu1) hZ (hw _ (List.mem_of_getElem? (i := 64) rfl)) (hw _ (List.mem_of_getElem? (i := 63) rfl)) (by decide) (by decide)) (g := (mkF m 36 #[.val (.ref o0), .val (.ref o1), .val (.int (0 : Int32)), .val (.int (2 : Int32)), .val .null, .unset] [(.int (2 : Int32)), (.int (0 : Int32)), (.ref o1)])) rfl (by rw [hml]; rfl) (argsL := [(.ref o1), (.int (0 : Int32)), (.int (2 : Int32))]) (rest := []) (lenOf own_pd4 rfl) rfl (by show 2 * 0 + _ ≤ _; exact Nat.le_of_eq rfl) (hb hby d13_36) (fun _ _ => ⟨rfl, e2, (by decide : 0 + 1 ≤ _), (by decide : 0 + 2 ≤ _)⟩)
  dsimp only [Pt.U, Pt.locs, Pt.cells, Pt.slots] at X3 l3 y3 z3 st3 hQ3
  subst l3 y3 z3
  obtain ⟨⟨bb3, kb3, rfl, zb3, Vb3, K3⟩, N3q⟩ := hQ3
  have N3 := Fr.app N0 N3q
  obtain ⟨ls3, Xl3, Nl3⟩ := own_abs X3 N3
  have Z3 : n0 ≤ T3.heap.size := Nat.le_trans Z0 K3.1
  refine own_go st3 ?_
  show own_End p e below s (T3.setTop (mkF m 39 #[.val (.ref o0), .val (.ref o1), .val (.int (0 : Int32)), .val (.int (2 : Int32)), .val .null, .unset] [(.ref bb3)])) _ _ _
  have g_bb3 : n0 ≤ bb3 := Nat.le_trans Z0 zb3
  have sz_bb3 : h0.size ≤ bb3 := Nat.le_trans (Keep.refl h0 [o0]).1 zb3
  have ne_o0_bb3 : o0 ≠ bb3 := Nat.ne_of_lt (Nat.lt_of_lt_of_le E_o0.lt zb3)
  have ne_o1_bb3 : o1 ≠ bb3 := Nat.ne_of_lt (Nat.lt_of_lt_of_le Vc.lt zb3)
  have KP3 := (Keep.refl h0 [o0]).trans K3 all0
  refine own_go (fun τ κ => XS.astore Xl3.here hx rfl (hb hby d13_39) rfl rfl (l' := #[.val (.ref o0), .val (.ref o1), .val (.int (0 : Int32)), .val (.int (2 : Int32)), .val .null, .val (.ref bb3)]) rfl κ) ?_
  show own_End p e below s (T3.setTop (mkF m 41 #[.val (.ref o0), .val (.ref o1), .val (.int (0 : Int32)), .val (.int (2 : Int32)), .val .null, .val (.ref bb3)] [])) _ _ _
  refine own_go (fun τ κ => XS.aloadN Xl3.here hx rfl (hb hby d13_41) rfl rfl κ) ?_
  show own_End p e below s (T3.setTop (mkF m 42 #[.val (.ref o0), .val (.ref o1), .val (.int (0 : Int32)), .val (.int (2 : Int32)), .val .null, .val (.ref bb3)] [(.ref o0)])) _ _ _
  refine own_go (fun τ κ => XS.aload Xl3.here hx rfl (hb hby d13_42) rfl rfl κ) ?_
  show own_End p e below s (T3.setTop (mkF m 44 #[.val (.ref o0), .val (.ref o1), .val (.int (0 : Int32)), .val (.int (2 : Int32)), .val .null, .val (.ref bb3)] [(.ref bb3), (.ref o0)])) _ _ _
  refine own_go (fun τ κ => XS.iloadN Xl3.here hx rfl (hb hby d13_44) rfl κ) ?_
  show own_End p e below s (T3.setTop (mkF m 45 #[.val (.ref o0), .val (.ref o1), .val (.int (0 : Int32)), .val (.int (2 : Int32)), .val .null, .val (.ref bb3)] [(.int (2 : Int32)), (.ref bb3), (.ref o0)])) _ _ _
  obtain ⟨_, _, ⟨T4, L4, k4, n4⟩, -, X4, ⟨Lc4, hQ4, l4, y4, z4⟩, st4⟩ := Jvm.LawKit.callS Xl3 hx (y := (⟨"java/lang/StringUTF16", "coderFromArrayLen", "([BI)B"⟩ : MethodName)) hown (mvT hZ (hw _ (List.mem_of_getElem? (i := 68) rfl))) (mvT hZ (hw _ (List.mem_of_getElem? (i := 69) rfl))) (mvT hZ (hw _ (List.mem_of_getElem? (i := 63) rfl))) (mvT hZ (hw _ (List.mem_of_getElem? (i := 70) rfl))) (by decide) (backOf (W := 1) (rmF2 l Z a0 hw [] bb3 kb3 [(.int ((u0.toInt8.toInt32).toInt8.toInt32)), (.int ((u1.toInt8.toInt32).toInt8.toInt32))] T3.heap n0 Z3 Vb3) hZ (hw _ (List.mem_of_getElem? (i := 70) rfl)) (hw _ (List.mem_of_getElem? (i := 63) rfl)) (by decide) (by decide)) (g := (mkF m 45 #[.val (.ref o0), .val (.ref o1), .val (.int (0 : Int32)), .val (.int (2 : Int32)), .val .null, .val (.ref bb3)] [(.int (2 : Int32)), (.ref bb3), (.ref o0)])) rfl (by rw [hml]; rfl) (argsL := [(.ref bb3), (.int (2 : Int32))]) (rest := [(.ref o0)]) (lenOf own_pd5 rfl) rfl (by show 2 * 0 + _ ≤ _; exact Nat.le_of_eq rfl) (hb hby d13_45) (fun _ _ => ⟨rfl, rfl, (by decide : 1 + 0 ≤ _), (by decide : 2 + 0 ≤ _)⟩)
  dsimp only [Pt.U, Pt.locs, Pt.cells, Pt.slots] at X4 l4 y4 z4 st4 hQ4
  subst l4 y4 z4
  obtain ⟨rfl, N4q, e4⟩ := hQ4
  have N4 := Fr.app Nl3 N4q
  obtain ⟨ls4, Xl4, Nl4⟩ := own_abs X4 N4
  refine own_go st4 ?_
  show own_End p e below s (T4.setTop (mkF m 48 #[.val (.ref o0), .val (.ref o1), .val (.int (0 : Int32)), .val (.int (2 : Int32)), .val .null, .val (.ref bb3)] [(.int (0 : Int32)), (.ref o0)])) _ _ _
  have U5 := (E_o0.keep K3)
  have U6 := (F_coder.keep K3 nin0)
  obtain ⟨T7, h7, X7, e7, W7, st7⟩ := putFN Xl4 hx hZ hown (hw _ (List.mem_of_getElem? (i := 25) rfl)) Via.refl e4 U6 U5 (Or.inr ⟨(hw _ (List.mem_of_getElem? (i := 26) rfl)), rfl, hnm⟩) (hw _ (List.mem_of_getElem? (i := 11) rfl)) (ty := .byte) (v' := (.int (0 : Int32))) (by decide) rfl rfl (g := (mkF m 48 #[.val (.ref o0), .val (.ref o1), .val (.int (0 : Int32)), .val (.int (2 : Int32)), .val .null, .val (.ref bb3)] [(.int (0 : Int32)), (.ref o0)])) rfl rfl (hb hby d13_48)
  have Fw7 := U6.same W7
  have N7 := Fr.snoc X7 Nl4 g_o0
  obtain ⟨ls7, Xl7, Nl7⟩ := own_abs X7 N7
  have Z7 : n0 ≤ h7.size := Nat.le_trans Z3 (Keep.of_wr W7).1
  have KP7 := KP3.wr W7 (Or.inl (List.mem_of_getElem? (i := 0) rfl))
  refine own_go st7 ?_
  show own_End p e below s (T7.setTop (mkF m 51 #[.val (.ref o0), .val (.ref o1), .val (.int (0 : Int32)), .val (.int (2 : Int32)), .val .null, .val (.ref bb3)] [])) _ _ _
  refine own_go (fun τ κ => XS.aloadN Xl7.here hx rfl (hb hby d13_51) rfl rfl κ) ?_
  show own_End p e below s (T7.setTop (mkF m 52 #[.val (.ref o0), .val (.ref o1), .val (.int (0 : Int32)), .val (.int (2 : Int32)), .val .null, .val (.ref bb3)] [(.ref o0)])) _ _ _
  refine own_go (fun τ κ => XS.aload Xl7.here hx rfl (hb hby d13_52) rfl rfl κ) ?_
  show own_End p e below s (T7.setTop (mkF m 54 #[.val (.ref o0), .val (.ref o1), .val (.int (0 : Int32)), .val (.int (2 : Int32)), .val .null, .val (.ref bb3)] [(.ref bb3), (.ref o0)])) _ _ _
  have U8 := (U5.wr W7)
  have U9 := ((F_value.keep K3 nin0).other W7 (Or.inr (slot_ne (Or.inr (hw _ (List.mem_of_getElem? (i := 24) rfl))) (Or.inr (hw _ (List.mem_of_getElem? (i := 26) rfl))) (by decide) (t := (.array .byte)) (t' := .byte) (by decide) (by decide))))
  obtain ⟨T10, h10, X10, e10, W10, st10⟩ := putF Xl7 hx hZ hown (host := "") (Or.inl (hw _ (List.mem_of_getElem? (i := 23) rfl))) Via.refl e7 U9 U8 (Or.inr ⟨(hw _ (List.mem_of_getElem? (i := 24) rfl)), rfl, hnm⟩) (hw _ (List.mem_of_getElem? (i := 11) rfl)) (ty := (.array .byte)) (by decide) rfl rfl (g := (mkF m 54 #[.val (.ref o0), .val (.ref o1), .val (.int (0 : Int32)), .val (.int (2 : Int32)), .val .null, .val (.ref bb3)] [(.ref bb3), (.ref o0)])) rfl rfl (hb hby d13_54)
  have Fw10 := U9.same W10
  have N10 := Fr.snoc X10 Nl7 g_o0
  obtain ⟨ls10, Xl10, Nl10⟩ := own_abs X10 N10
  have Z10 : n0 ≤ h10.size := Nat.le_trans Z7 (Keep.of_wr W10).1
  have KP10 := KP7.wr W10 (Or.inl (List.mem_of_getElem? (i := 0) rfl))
  refine own_go st10 ?_
  show own_End p e below s (T10.setTop (mkF m 57 #[.val (.ref o0), .val (.ref o1), .val (.int (0 : Int32)), .val (.int (2 : Int32)), .val .null, .val (.ref bb3)] [])) _ _ _
  refine own_ret Xl10 (v := none) (fun _ => rfl) Bd.notSynchronized (fun fs hr => Xl10.returnOut hx Bd.returns (hb hby d13_57) hr) ?_ (by decide) (by decide)
  have U11 := (U8.wr W10)
  have U12 := (Fw7.other W10 (Or.inr (slot_ne (Or.inr (hw _ (List.mem_of_getElem? (i := 26) rfl))) (Or.inr (hw _ (List.mem_of_getElem? (i := 24) rfl))) (by decide) (t := .byte) (t' := (.array .byte)) (by decide) (by decide))))
  have U13 := ((Vb3.other W7 (Ne.symm ne_o0_bb3)).other W10 (Ne.symm ne_o0_bb3))
  · rw [e10]; exact ⟨⟨_, _, sz_bb3, ⟨U11, Fw10, U12, U13⟩⟩, Nl10, KP10, rfl⟩
theorem own_ef12_rmC2 (m : MethodId) (o0 : Addr) (o1 : Addr) : entryFrame m #[(.ref o0), (.ref o1)] 2 = mkF m 0 #[.val (.ref o0), .val (.ref o1)] [] := by first | (simp [entryFrame, mkF, argsToLocals, Value.category]; done) | rfl
def Q_rmC2 (Z : State) (o0 : Addr) (o1 : Addr) (kc : ClassId) (cz : Int32) (u0 : Int32) (u1 : Int32) (h0 : Heap) (n0 : Nat) (v : Option Value) (h : Heap) (L : List Loc) : Prop := (∃ b kb, h0.size ≤ b ∧ own_Str Z h o0 b kb (2 : Int32) [(.int ((u0.toInt8.toInt32).toInt8.toInt32)), (.int ((u1.toInt8.toInt32).toInt8.toInt32))]) ∧ Fr n0 L ∧ Keep h0 h [o0] ∧ v = none
theorem d12_0 : decode jdk_42_method_3_code 0 = .ok (.aload_n 0, 1) := by decide +kernel
theorem d12_1 : decode jdk_42_method_3_code 1 = .ok (.aload_n 1, 1) := by decide +kernel
theorem d12_2 : decode jdk_42_method_3_code 2 = .ok (.iconst 0, 1) := by decide +kernel
theorem d12_3 : decode jdk_42_method_3_code 3 = .ok (.aload_n 1, 1) := by decide +kernel
theorem d12_4 : decode jdk_42_method_3_code 4 = .ok (.arraylength, 1) := by decide +kernel
theorem d12_5 : decode jdk_42_method_3_code 5 = .ok (.aconst_null, 1) := by decide +kernel
theorem d12_6 : decode jdk_42_method_3_code 6 = .ok (.invokespecial 27, 3) := by decide +kernel
theorem own_pd6 : parseMethodDescriptor "([CIILjava/lang/Void;)V" = some ⟨[(.array .char), .int, .int, (.object "java/lang/Void")], none⟩ := by decide +kernel
theorem d12_9 : decode jdk_42_method_3_code 9 = .ok (.return_, 1) := by decide +kernel
set_option maxRecDepth 65536 in
set_option maxHeartbeats 40000000 in
theorem rmC2 (l : Launch) (Z : State) (a0 : Array Value) (hw : ∀ d ∈ tables_1, d.before a0 Z = true) (ws : List Jvm.Cond) (o0 : Addr) (o1 : Addr) (kc : ClassId) (cz : Int32) (u0 : Int32) (u1 : Int32) (h0 : Heap) (n0 : Nat) (Z0 : n0 ≤ h0.size) (g_o0 : n0 ≤ o0) (E_o0 : Exa Z h0 o0 "java/lang/String") (F_value : Fld Z h0 o0 "java/lang/String" "value" "[B" .null) (F_coder : Fld Z h0 o0 "java/lang/String" "coder" "B" (.int (0 : Int32))) (hne : o0 ≠ o1) (Vc : Arv Z h0 o1 kc .char (2 : Int32) [(.int u0), (.int u1)] (.int (0 : Int32))) (Ol : Old Z n0 h0) (S_C : Sta Z Z.heap "java/lang/String" "COMPACT_STRINGS" "Z" (.int cz)) (hcz : ¬ cz.toInt = 0) (hu0 : ¬ 255 < u0.toInt) (hu1 : ¬ 255 < u1.toInt) :
    MetFree l (⟨"java/lang/String", "<init>", "([C)V"⟩ : MethodName) (head1 (Jvm.Cond.code (⟨"java/lang/String", "<init>", "([C)V"⟩ : MethodName) jdk_42_method_3_code 2 none :: ws) ({ frames := 3, cells := 1, slots := 2, locals := 54 } : Room)) (fun a U => a = #[(.ref o0), (.ref o1)] ∧ Z.Warmed39 U.vm ∧ U.heap = h0) (fun _ _ _ _ _ => True) (fun _ U o U' => ∃ v L, o = .returned v ∧ Q_rmC2 Z o0 o1 kc cz u0 u1 h0 n0 v U'.heap L ∧ FrameEnd U o U' L ({ frames := 3, cells := 1, slots := 2, locals := 54 } : Room).cells ({ frames := 3, cells := 1, slots := 2, locals := 54 } : Room).slots) := by
  refine MetFree.of_bodySF (plainFor_of_name own_pn0) hisR ?_
  intro p e s m args below meth c s₁ Bd hml0 hP hK
  obtain ⟨rfl, hZ, hh⟩ := hP
  have hx := Bd.exec
  have hby := Bd.bytes
  have hml : c.maxLocals = 2 := hml0
  have hown : s.vm.findClass "java/lang/String" = some m.cls := findClass_of_methodNamed Bd.named
  have hnm := (name_of_methodNamed Bd.named Bd.method).1
  have X0 : Stand p l e ({ frames := 3, cells := 1, slots := 2, locals := 54 } : Room) s m #[(.ref o0), (.ref o1)] below meth c s₁ [] 0 0 := Stand.of_body Bd
  have e0 : s₁.heap = h0 := by rw [← hh, Bd.state]; rfl
  have N0 := Fr.nil n0
  refine (show own_End p e below s (s₁.setTop (entryFrame m #[(.ref o0), (.ref o1)] 2)) (Q_rmC2 Z o0 o1 kc cz u0 u1 h0 n0) ({ frames := 3, cells := 1, slots := 2, locals := 54 } : Room).cells ({ frames := 3, cells := 1, slots := 2, locals := 54 } : Room).slots from ?_)
  refine own_go (fun τ κ => castTop (own_ef12_rmC2 m o0 o1) κ) ?_
  have li0 : (0 : Int32).toInt = 0 := rfl
  have li1 : (1 : Int32).toInt = 1 := rfl
  show own_End p e below s (s₁.setTop (mkF m 0 #[.val (.ref o0), .val (.ref o1)] [])) _ _ _
  refine own_go (fun τ κ => XS.aloadN X0.here hx rfl (hb hby d12_0) rfl rfl κ) ?_
  show own_End p e below s (s₁.setTop (mkF m 1 #[.val (.ref o0), .val (.ref o1)] [(.ref o0)])) _ _ _
  refine own_go (fun τ κ => XS.aloadN X0.here hx rfl (hb hby d12_1) rfl rfl κ) ?_
  show own_End p e below s (s₁.setTop (mkF m 2 #[.val (.ref o0), .val (.ref o1)] [(.ref o1), (.ref o0)])) _ _ _
  refine own_go (fun τ κ => XS.iconst X0.here hx rfl (hb hby d12_2) κ) ?_
  show own_End p e below s (s₁.setTop (mkF m 3 #[.val (.ref o0), .val (.ref o1)] [(.int (0 : Int32)), (.ref o1), (.ref o0)])) _ _ _
  refine own_go (fun τ κ => XS.aloadN X0.here hx rfl (hb hby d12_3) rfl rfl κ) ?_
  show own_End p e below s (s₁.setTop (mkF m 4 #[.val (.ref o0), .val (.ref o1)] [(.ref o1), (.int (0 : Int32)), (.ref o1), (.ref o0)])) _ _ _
  obtain ⟨cl1, Ar1, qa1, Sq1, Mq1, Hh1, Gq1⟩ := id Vc
  refine own_go (fun τ κ => X0.arraylength hx (by rw [e0]; exact Ar1.1) (State.isArrayOf_alike hZ.alike Ar1.2.1) (g := (mkF m 4 #[.val (.ref o0), .val (.ref o1)] [(.ref o1), (.int (0 : Int32)), (.ref o1), (.ref o0)])) rfl rfl (hb hby d12_4) _ (by rw [len_of Sq1 Mq1]; exact κ)) ?_
  show own_End p e below s (s₁.setTop (mkF m 5 #[.val (.ref o0), .val (.ref o1)] [(.int (2 : Int32)), (.int (0 : Int32)), (.ref o1), (.ref o0)])) _ _ _
  refine own_go (fun τ κ => XS.aconstNull X0.here hx rfl (hb hby d12_5) κ) ?_
  show own_End p e below s (s₁.setTop (mkF m 6 #[.val (.ref o0), .val (.ref o1)] [.null, (.int (2 : Int32)), (.int (0 : Int32)), (.ref o1), (.ref o0)])) _ _ _
  obtain ⟨_, _, ⟨T2, L2, k2, n2⟩, -, X2, ⟨Lc2, hQ2, l2, y2, z2⟩, st2⟩ := X0.specialBack hx (y := (⟨"java/lang/String", "<init>", "([CIILjava/lang/Void;)V"⟩ : MethodName)) rfl hown (mvT hZ (hw _ (List.mem_of_getElem? (i := 58) rfl))) (mvT hZ (hw _ (List.mem_of_getElem? (i := 59) rfl))) (mvT hZ (hw _ (List.mem_of_getElem? (i := 60) rfl))) (by decide) (backOf (W := 0) (rmI2 l Z a0 hw [] o0 o1 kc cz u0 u1 h0 n0 Z0 g_o0 E_o0 F_value F_coder hne Vc Ol S_C hcz hu0 hu1) hZ (hw _ (List.mem_of_getElem? (i := 60) rfl)) (hw _ (List.mem_of_getElem? (i := 3) rfl)) (by decide) (by decide)) (g := (mkF m 6 #[.val (.ref o0), .val (.ref o1)] [.null, (.int (2 : Int32)), (.int (0 : Int32)), (.ref o1), (.ref o0)])) rfl (by rw [hml]; rfl) (Steps.refl _) (a := o0) (argsL := [(.ref o1), (.int (0 : Int32)), (.int (2 : Int32)), .null]) (rest := []) (lenOf own_pd6 rfl) rfl (by show 2 * 0 + _ ≤ _; exact Nat.le_of_eq rfl) (hb hby d12_6) (fun _ _ => ⟨rfl, e0, (by decide : 0 + 1 ≤ _), (by decide : 0 + 2 ≤ _)⟩)
  dsimp only [Pt.U, Pt.locs, Pt.cells, Pt.slots] at X2 l2 y2 z2 st2 hQ2
  subst l2 y2 z2
  obtain ⟨⟨sb2, sk2, zb2, Ss2⟩, N2q, K2, rfl⟩ := hQ2
  have N2 := Fr.app N0 N2q
  obtain ⟨ls2, Xl2, Nl2⟩ := own_abs X2 N2
  have Z2 : n0 ≤ T2.heap.size := Nat.le_trans Z0 K2.1
  refine own_go (fun τ κ => st2.trans κ) ?_
  show own_End p e below s (T2.setTop (mkF m 9 #[.val (.ref o0), .val (.ref o1)] [])) _ _ _
  have KP2 := (Keep.refl h0 [o0]).trans K2 (allS (Or.inl (List.mem_of_getElem? (i := 0) rfl)) all0)
  refine own_ret Xl2 (v := none) (fun _ => rfl) Bd.notSynchronized (fun fs hr => Xl2.returnOut hx Bd.returns (hb hby d12_9) hr) ?_ (by decide) (by decide)
  · exact ⟨⟨_, _, zb2, Ss2⟩, Nl2, KP2, rfl⟩
theorem own_ef11_rmL1_1 (m : MethodId) (o0 : Addr) (o1 : Addr) : entryFrame m #[(.ref o0), (.ref o1)] 3 = mkF m 0 #[.val (.ref o0), .val (.ref o1), .unset] [] := by first | (simp [entryFrame, mkF, argsToLocals, Value.category]; done) | rfl
def Q_rmL1_1 (Z : State) (o0 : Addr) (o1 : Addr) (k0 : ClassId) (k1 : ClassId) (u0 : Int32) (w0 : Int32) (h0 : Heap) (n0 : Nat) (v : Option Value) (h : Heap) (L : List Loc) : Prop := (∃ z, v = some (.int z) ∧ (z.toInt = 1 ∧ (u0.toInt = w0.toInt) ∨ z.toInt = 0 ∧ ¬ (u0.toInt = w0.toInt))) ∧ Fr n0 L ∧ h = h0
theorem d11_0 : decode jdk_43_method_13_code 0 = .ok (.aload_n 0, 1) := by decide +kernel
theorem d11_1 : decode jdk_43_method_13_code 1 = .ok (.arraylength, 1) := by decide +kernel
theorem d11_2 : decode jdk_43_method_13_code 2 = .ok (.aload_n 1, 1) := by decide +kernel
theorem d11_3 : decode jdk_43_method_13_code 3 = .ok (.arraylength, 1) := by decide +kernel
theorem d11_4 : decode jdk_43_method_13_code 4 = .ok (.if_icmp .ne 30, 3) := by decide +kernel
theorem d11_7 : decode jdk_43_method_13_code 7 = .ok (.iconst 0, 1) := by decide +kernel
theorem d11_8 : decode jdk_43_method_13_code 8 = .ok (.istore_n 2, 1) := by decide +kernel
theorem d11_9 : decode jdk_43_method_13_code 9 = .ok (.iload_n 2, 1) := by decide +kernel
theorem d11_10 : decode jdk_43_method_13_code 10 = .ok (.aload_n 0, 1) := by decide +kernel
theorem d11_11 : decode jdk_43_method_13_code 11 = .ok (.arraylength, 1) := by decide +kernel
theorem d11_12 : decode jdk_43_method_13_code 12 = .ok (.if_icmp .ge 20, 3) := by decide +kernel
theorem d11_15 : decode jdk_43_method_13_code 15 = .ok (.aload_n 0, 1) := by decide +kernel
theorem d11_16 : decode jdk_43_method_13_code 16 = .ok (.iload_n 2, 1) := by decide +kernel
theorem d11_17 : decode jdk_43_method_13_code 17 = .ok (.baload, 1) := by decide +kernel
theorem d11_18 : decode jdk_43_method_13_code 18 = .ok (.aload_n 1, 1) := by decide +kernel
theorem d11_19 : decode jdk_43_method_13_code 19 = .ok (.iload_n 2, 1) := by decide +kernel
theorem d11_20 : decode jdk_43_method_13_code 20 = .ok (.baload, 1) := by decide +kernel
theorem d11_21 : decode jdk_43_method_13_code 21 = .ok (.if_icmp .eq 5, 3) := by decide +kernel
theorem d11_26 : decode jdk_43_method_13_code 26 = .ok (.iinc 2 1, 3) := by decide +kernel
theorem d11_29 : decode jdk_43_method_13_code 29 = .ok (.goto (-20), 3) := by decide +kernel
theorem d11_32 : decode jdk_43_method_13_code 32 = .ok (.iconst 1, 1) := by decide +kernel
theorem d11_33 : decode jdk_43_method_13_code 33 = .ok (.ireturn, 1) := by decide +kernel
theorem d11_24 : decode jdk_43_method_13_code 24 = .ok (.iconst 0, 1) := by decide +kernel
theorem d11_25 : decode jdk_43_method_13_code 25 = .ok (.ireturn, 1) := by decide +kernel
set_option maxRecDepth 65536 in
set_option maxHeartbeats 40000000 in
theorem rmL1_1 (l : Launch) (Z : State) (a0 : Array Value) (hw : ∀ d ∈ tables_1, d.before a0 Z = true) (ws : List Jvm.Cond) (o0 : Addr) (o1 : Addr) (k0 : ClassId) (k1 : ClassId) (u0 : Int32) (w0 : Int32) (h0 : Heap) (n0 : Nat) (Z0 : n0 ≤ h0.size) (V0 : Arv Z h0 o0 k0 .byte (1 : Int32) [(.int u0)] (.int (0 : Int32))) (V1 : Arv Z h0 o1 k1 .byte (1 : Int32) [(.int w0)] (.int (0 : Int32))) :
    MetFree l (⟨"java/lang/StringLatin1", "equals", "([B[B)Z"⟩ : MethodName) (head1 (Jvm.Cond.code (⟨"java/lang/StringLatin1", "equals", "([B[B)Z"⟩ : MethodName) jdk_43_method_13_code 3 (some .boolean) :: ws) ({ frames := 0, cells := 0, slots := 0, locals := 0 } : Room)) (fun a U => a = #[(.ref o0), (.ref o1)] ∧ Z.Warmed39 U.vm ∧ U.heap = h0) (fun _ _ _ _ _ => True) (fun _ U o U' => ∃ v L, o = .returned v ∧ Q_rmL1_1 Z o0 o1 k0 k1 u0 w0 h0 n0 v U'.heap L ∧ FrameEnd U o U' L ({ frames := 0, cells := 0, slots := 0, locals := 0 } : Room).cells ({ frames := 0, cells := 0, slots := 0, locals := 0 } : Room).slots) := by
  refine MetFree.of_bodySF (plainFor_of_name own_pn1) hisR ?_
  intro p e s m args below meth c s₁ Bd hml0 hP hK
  obtain ⟨rfl, hZ, hh⟩ := hP
  have hx := Bd.exec
  have hby := Bd.bytes
  have hml : c.maxLocals = 3 := hml0
  have hown : s.vm.findClass "java/lang/StringLatin1" = some m.cls := findClass_of_methodNamed Bd.named
  have hnm := (name_of_methodNamed Bd.named Bd.method).1
  have X0 : Stand p l e ({ frames := 0, cells := 0, slots := 0, locals := 0 } : Room) s m #[(.ref o0), (.ref o1)] below meth c s₁ [] 0 0 := Stand.of_body Bd
  have e0 : s₁.heap = h0 := by rw [← hh, Bd.state]; rfl
  have N0 := Fr.nil n0
  refine (show own_End p e below s (s₁.setTop (entryFrame m #[(.ref o0), (.ref o1)] 3)) (Q_rmL1_1 Z o0 o1 k0 k1 u0 w0 h0 n0) ({ frames := 0, cells := 0, slots := 0, locals := 0 } : Room).cells ({ frames := 0, cells := 0, slots := 0, locals := 0 } : Room).slots from ?_)
  refine own_go (fun τ κ => castTop (own_ef11_rmL1_1 m o0 o1) κ) ?_
  have li0 : (0 : Int32).toInt = 0 := rfl
  have li1 : (1 : Int32).toInt = 1 := rfl
  show own_End p e below s (s₁.setTop (mkF m 0 #[.val (.ref o0), .val (.ref o1), .unset] [])) _ _ _
  refine own_go (fun τ κ => XS.aloadN X0.here hx rfl (hb hby d11_0) rfl rfl κ) ?_
  show own_End p e below s (s₁.setTop (mkF m 1 #[.val (.ref o0), .val (.ref o1), .unset] [(.ref o0)])) _ _ _
  obtain ⟨cl1, Ar1, qa1, Sq1, Mq1, Hh1, Gq1⟩ := id V0
  refine own_go (fun τ κ => X0.arraylength hx (by rw [e0]; exact Ar1.1) (State.isArrayOf_alike hZ.alike Ar1.2.1) (g := (mkF m 1 #[.val (.ref o0), .val (.ref o1), .unset] [(.ref o0)])) rfl rfl (hb hby d11_1) _ (by rw [len_of Sq1 Mq1]; exact κ)) ?_
  show own_End p e below s (s₁.setTop (mkF m 2 #[.val (.ref o0), .val (.ref o1), .unset] [(.int (1 : Int32))])) _ _ _
  refine own_go (fun τ κ => XS.aloadN X0.here hx rfl (hb hby d11_2) rfl rfl κ) ?_
  show own_End p e below s (s₁.setTop (mkF m 3 #[.val (.ref o0), .val (.ref o1), .unset] [(.ref o1), (.int (1 : Int32))])) _ _ _
  obtain ⟨cl2, Ar2, qa2, Sq2, Mq2, Hh2, Gq2⟩ := id V1
  refine own_go (fun τ κ => X0.arraylength hx (by rw [e0]; exact Ar2.1) (State.isArrayOf_alike hZ.alike Ar2.2.1) (g := (mkF m 3 #[.val (.ref o0), .val (.ref o1), .unset] [(.ref o1), (.int (1 : Int32))])) rfl rfl (hb hby d11_3) _ (by rw [len_of Sq2 Mq2]; exact κ)) ?_
  show own_End p e below s (s₁.setTop (mkF m 4 #[.val (.ref o0), .val (.ref o1), .unset] [(.int (1 : Int32)), (.int (1 : Int32))])) _ _ _
  refine own_go (fun τ κ => XS.icmpNo X0.here hx rfl (hb hby d11_4) rfl (own_eq (x := (1 : Int32)) (y := (1 : Int32)) (i := 1) (j := 1) rfl rfl (by decide)).2 κ) ?_
  show own_End p e below s (s₁.setTop (mkF m 7 #[.val (.ref o0), .val (.ref o1), .unset] [])) _ _ _
  refine own_go (fun τ κ => XS.iconst X0.here hx rfl (hb hby d11_7) κ) ?_
  show own_End p e below s (s₁.setTop (mkF m 8 #[.val (.ref o0), .val (.ref o1), .unset] [(.int (0 : Int32))])) _ _ _
  refine own_go (fun τ κ => XS.istoreN X0.here hx rfl (hb hby d11_8) rfl (l' := #[.val (.ref o0), .val (.ref o1), .val (.int (0 : Int32))]) rfl κ) ?_
  show own_End p e below s (s₁.setTop (mkF m 9 #[.val (.ref o0), .val (.ref o1), .val (.int (0 : Int32))] [])) _ _ _
  refine own_go (fun τ κ => XS.iloadN X0.here hx rfl (hb hby d11_9) rfl κ) ?_
  show own_End p e below s (s₁.setTop (mkF m 10 #[.val (.ref o0), .val (.ref o1), .val (.int (0 : Int32))] [(.int (0 : Int32))])) _ _ _
  refine own_go (fun τ κ => XS.aloadN X0.here hx rfl (hb hby d11_10) rfl rfl κ) ?_
  show own_End p e below s (s₁.setTop (mkF m 11 #[.val (.ref o0), .val (.ref o1), .val (.int (0 : Int32))] [(.ref o0), (.int (0 : Int32))])) _ _ _
  obtain ⟨cl3, Ar3, qa3, Sq3, Mq3, Hh3, Gq3⟩ := id V0
  refine own_go (fun τ κ => X0.arraylength hx (by rw [e0]; exact Ar3.1) (State.isArrayOf_alike hZ.alike Ar3.2.1) (g := (mkF m 11 #[.val (.ref o0), .val (.ref o1), .val (.int (0 : Int32))] [(.ref o0), (.int (0 : Int32))])) rfl rfl (hb hby d11_11) _ (by rw [len_of Sq3 Mq3]; exact κ)) ?_
  show own_End p e below s (s₁.setTop (mkF m 12 #[.val (.ref o0), .val (.ref o1), .val (.int (0 : Int32))] [(.int (1 : Int32)), (.int (0 : Int32))])) _ _ _
  refine own_go (fun τ κ => XS.icmpNo X0.here hx rfl (hb hby d11_12) rfl (own_tlt (x := (0 : Int32)) (y := (1 : Int32)) (i := 0) (j := 1) rfl rfl (by decide)).2.1 κ) ?_
  show own_End p e below s (s₁.setTop (mkF m 15 #[.val (.ref o0), .val (.ref o1), .val (.int (0 : Int32))] [])) _ _ _
  refine own_go (fun τ κ => XS.aloadN X0.here hx rfl (hb hby d11_15) rfl rfl κ) ?_
  show own_End p e below s (s₁.setTop (mkF m 16 #[.val (.ref o0), .val (.ref o1), .val (.int (0 : Int32))] [(.ref o0)])) _ _ _
  refine own_go (fun τ κ => XS.iloadN X0.here hx rfl (hb hby d11_16) rfl κ) ?_
  show own_End p e below s (s₁.setTop (mkF m 17 #[.val (.ref o0), .val (.ref o1), .val (.int (0 : Int32))] [(.int (0 : Int32)), (.ref o0)])) _ _ _
  obtain ⟨cl4, Ar4, qa4, Sq4, Mq4, Hh4, Gq4⟩ := id V0
  have hin4 : ¬ ((0 : Int32) < 0 ∨ cl4.slots.size ≤ ((0 : Int32)).toNatClampNeg) := inb_of Sq4 ⟨by decide, by decide⟩
  refine own_go (fun τ κ => X0.baloadBytes hx (j := (0 : Int32)) (v := (.int u0)) (by rw [e0]; exact Ar4.1) (State.isArrayOf_alike hZ.alike Ar4.2.1) Ar4.2.2 hin4 (Hh4.at hin4 rfl) (g := (mkF m 17 #[.val (.ref o0), .val (.ref o1), .val (.int (0 : Int32))] [(.int (0 : Int32)), (.ref o0)])) rfl rfl (hb hby d11_17) _ κ) ?_
  show own_End p e below s (s₁.setTop (mkF m 18 #[.val (.ref o0), .val (.ref o1), .val (.int (0 : Int32))] [(.int u0)])) _ _ _
  refine own_go (fun τ κ => XS.aloadN X0.here hx rfl (hb hby d11_18) rfl rfl κ) ?_
  show own_End p e below s (s₁.setTop (mkF m 19 #[.val (.ref o0), .val (.ref o1), .val (.int (0 : Int32))] [(.ref o1), (.int u0)])) _ _ _
  refine own_go (fun τ κ => XS.iloadN X0.here hx rfl (hb hby d11_19) rfl κ) ?_
  show own_End p e below s (s₁.setTop (mkF m 20 #[.val (.ref o0), .val (.ref o1), .val (.int (0 : Int32))] [(.int (0 : Int32)), (.ref o1), (.int u0)])) _ _ _
  obtain ⟨cl5, Ar5, qa5, Sq5, Mq5, Hh5, Gq5⟩ := id V1
  have hin5 : ¬ ((0 : Int32) < 0 ∨ cl5.slots.size ≤ ((0 : Int32)).toNatClampNeg) := inb_of Sq5 ⟨by decide, by decide⟩
  refine own_go (fun τ κ => X0.baloadBytes hx (j := (0 : Int32)) (v := (.int w0)) (by rw [e0]; exact Ar5.1) (State.isArrayOf_alike hZ.alike Ar5.2.1) Ar5.2.2 hin5 (Hh5.at hin5 rfl) (g := (mkF m 20 #[.val (.ref o0), .val (.ref o1), .val (.int (0 : Int32))] [(.int (0 : Int32)), (.ref o1), (.int u0)])) rfl rfl (hb hby d11_20) _ κ) ?_
  show own_End p e below s (s₁.setTop (mkF m 21 #[.val (.ref o0), .val (.ref o1), .val (.int (0 : Int32))] [(.int w0), (.int u0)])) _ _ _
  by_cases c21_6 : u0.toInt = w0.toInt
  · skip
    refine own_go (fun τ κ => XS.icmpYes X0.here hx rfl (pc0 := 21) (pc' := 26) rfl (hb hby d11_21) rfl (own_eq (x := u0) (y := w0) (i := u0.toInt) (j := w0.toInt) rfl rfl c21_6).1 (by decide) (by decide) κ) ?_
    show own_End p e below s (s₁.setTop (mkF m 26 #[.val (.ref o0), .val (.ref o1), .val (.int (0 : Int32))] [])) _ _ _
    refine own_go (fun τ κ => XS.iinc X0.here hx rfl (hb hby d11_26) rfl (l' := #[.val (.ref o0), .val (.ref o1), .val (.int (1 : Int32))]) rfl κ) ?_
    show own_End p e below s (s₁.setTop (mkF m 29 #[.val (.ref o0), .val (.ref o1), .val (.int (1 : Int32))] [])) _ _ _
    refine own_go (fun τ κ => XS.goto X0.here hx rfl (pc0 := 29) (pc' := 9) rfl (hb hby d11_29) (by decide) (by decide) κ) ?_
    show own_End p e below s (s₁.setTop (mkF m 9 #[.val (.ref o0), .val (.ref o1), .val (.int (1 : Int32))] [])) _ _ _
    refine own_go (fun τ κ => XS.iloadN X0.here hx rfl (hb hby d11_9) rfl κ) ?_
    show own_End p e below s (s₁.setTop (mkF m 10 #[.val (.ref o0), .val (.ref o1), .val (.int (1 : Int32))] [(.int (1 : Int32))])) _ _ _
    refine own_go (fun τ κ => XS.aloadN X0.here hx rfl (hb hby d11_10) rfl rfl κ) ?_
    show own_End p e below s (s₁.setTop (mkF m 11 #[.val (.ref o0), .val (.ref o1), .val (.int (1 : Int32))] [(.ref o0), (.int (1 : Int32))])) _ _ _
    obtain ⟨cl7, Ar7, qa7, Sq7, Mq7, Hh7, Gq7⟩ := id V0
    refine own_go (fun τ κ => X0.arraylength hx (by rw [e0]; exact Ar7.1) (State.isArrayOf_alike hZ.alike Ar7.2.1) (g := (mkF m 11 #[.val (.ref o0), .val (.ref o1), .val (.int (1 : Int32))] [(.ref o0), (.int (1 : Int32))])) rfl rfl (hb hby d11_11) _ (by rw [len_of Sq7 Mq7]; exact κ)) ?_
    show own_End p e below s (s₁.setTop (mkF m 12 #[.val (.ref o0), .val (.ref o1), .val (.int (1 : Int32))] [(.int (1 : Int32)), (.int (1 : Int32))])) _ _ _
    refine own_go (fun τ κ => XS.icmpYes X0.here hx rfl (pc0 := 12) (pc' := 32) rfl (hb hby d11_12) rfl (own_flt (x := (1 : Int32)) (y := (1 : Int32)) (i := 1) (j := 1) rfl rfl (by decide)).2.1 (by decide) (by decide) κ) ?_
    show own_End p e below s (s₁.setTop (mkF m 32 #[.val (.ref o0), .val (.ref o1), .val (.int (1 : Int32))] [])) _ _ _
    refine own_go (fun τ κ => XS.iconst X0.here hx rfl (hb hby d11_32) κ) ?_
    show own_End p e below s (s₁.setTop (mkF m 33 #[.val (.ref o0), .val (.ref o1), .val (.int (1 : Int32))] [(.int (1 : Int32))])) _ _ _
    refine own_ret X0 (v := some (.int (1 : Int32))) (fun h => by rw [Bd.returns] at h; cases h) Bd.notSynchronized (fun fs hr => retN X0 hx (t := .boolean) Bd.returns (by simp) (hb hby d11_33) hr) ?_ (by decide) (by decide)
    · rw [e0]; exact ⟨⟨_, rfl, by omega⟩, N0, rfl⟩
  · skip
    refine own_go (fun τ κ => XS.icmpNo X0.here hx rfl (hb hby d11_21) rfl (own_ne (x := u0) (y := w0) (i := u0.toInt) (j := w0.toInt) rfl rfl c21_6).1 κ) ?_
    show own_End p e below s (s₁.setTop (mkF m 24 #[.val (.ref o0), .val (.ref o1), .val (.int (0 : Int32))] [])) _ _ _
    refine own_go (fun τ κ => XS.iconst X0.here hx rfl (hb hby d11_24) κ) ?_
    show own_End p e below s (s₁.setTop (mkF m 25 #[.val (.ref o0), .val (.ref o1), .val (.int (0 : Int32))] [(.int (0 : Int32))])) _ _ _
    refine own_ret X0 (v := some (.int (0 : Int32))) (fun h => by rw [Bd.returns] at h; cases h) Bd.notSynchronized (fun fs hr => retN X0 hx (t := .boolean) Bd.returns (by simp) (hb hby d11_25) hr) ?_ (by decide) (by decide)
    · rw [e0]; exact ⟨⟨_, rfl, by omega⟩, N0, rfl⟩
theorem own_ef10_rmE1_1 (m : MethodId) (o0 : Addr) (o1 : Addr) : entryFrame m #[(.ref o0), (.ref o1)] 3 = mkF m 0 #[.val (.ref o0), .val (.ref o1), .unset] [] := by first | (simp [entryFrame, mkF, argsToLocals, Value.category]; done) | rfl
def Q_rmE1_1 (Z : State) (o0 : Addr) (o1 : Addr) (b0 : Addr) (k0 : ClassId) (b1 : Addr) (k1 : ClassId) (cz : Int32) (u0 : Int32) (w0 : Int32) (h0 : Heap) (n0 : Nat) (v : Option Value) (h : Heap) (L : List Loc) : Prop := (∃ z, v = some (.int z) ∧ (z.toInt = 1 ∧ (u0.toInt = w0.toInt) ∨ z.toInt = 0 ∧ ¬ (u0.toInt = w0.toInt))) ∧ Fr n0 L ∧ h = h0
theorem d10_0 : decode jdk_42_method_66_code 0 = .ok (.aload_n 0, 1) := by decide +kernel
theorem d10_1 : decode jdk_42_method_66_code 1 = .ok (.aload_n 1, 1) := by decide +kernel
theorem d10_2 : decode jdk_42_method_66_code 2 = .ok (.if_acmp .ne 5, 3) := by decide +kernel
theorem d10_7 : decode jdk_42_method_66_code 7 = .ok (.aload_n 1, 1) := by decide +kernel
theorem d10_8 : decode jdk_42_method_66_code 8 = .ok (.instanceof 10, 3) := by decide +kernel
theorem d10_11 : decode jdk_42_method_66_code 11 = .ok (.ifCond .eq 43, 3) := by decide +kernel
theorem d10_14 : decode jdk_42_method_66_code 14 = .ok (.aload_n 1, 1) := by decide +kernel
theorem d10_15 : decode jdk_42_method_66_code 15 = .ok (.checkcast 10, 3) := by decide +kernel
theorem d10_18 : decode jdk_42_method_66_code 18 = .ok (.astore_n 2, 1) := by decide +kernel
theorem d10_19 : decode jdk_42_method_66_code 19 = .ok (.getstatic 38, 3) := by decide +kernel
theorem d10_22 : decode jdk_42_method_66_code 22 = .ok (.ifCond .eq 14, 3) := by decide +kernel
theorem d10_25 : decode jdk_42_method_66_code 25 = .ok (.aload_n 0, 1) := by decide +kernel
theorem d10_26 : decode jdk_42_method_66_code 26 = .ok (.getfield 15, 3) := by decide +kernel
theorem d10_29 : decode jdk_42_method_66_code 29 = .ok (.aload_n 2, 1) := by decide +kernel
theorem d10_30 : decode jdk_42_method_66_code 30 = .ok (.getfield 15, 3) := by decide +kernel
theorem d10_33 : decode jdk_42_method_66_code 33 = .ok (.if_icmp .ne 21, 3) := by decide +kernel
theorem d10_36 : decode jdk_42_method_66_code 36 = .ok (.aload_n 0, 1) := by decide +kernel
theorem d10_37 : decode jdk_42_method_66_code 37 = .ok (.getfield 9, 3) := by decide +kernel
theorem d10_40 : decode jdk_42_method_66_code 40 = .ok (.aload_n 2, 1) := by decide +kernel
theorem d10_41 : decode jdk_42_method_66_code 41 = .ok (.getfield 9, 3) := by decide +kernel
theorem d10_44 : decode jdk_42_method_66_code 44 = .ok (.invokestatic 541, 3) := by decide +kernel
theorem own_pd7 : parseMethodDescriptor "([B[B)Z" = some ⟨[(.array .byte), (.array .byte)], some .boolean⟩ := by decide +kernel
theorem d10_47 : decode jdk_42_method_66_code 47 = .ok (.ifCond .eq 7, 3) := by decide +kernel
theorem d10_54 : decode jdk_42_method_66_code 54 = .ok (.iconst 0, 1) := by decide +kernel
theorem d10_55 : decode jdk_42_method_66_code 55 = .ok (.ireturn, 1) := by decide +kernel
theorem d10_50 : decode jdk_42_method_66_code 50 = .ok (.iconst 1, 1) := by decide +kernel
theorem d10_51 : decode jdk_42_method_66_code 51 = .ok (.goto 4, 3) := by decide +kernel
set_option maxRecDepth 65536 in
set_option maxHeartbeats 40000000 in
theorem rmE1_1 (l : Launch) (Z : State) (a0 : Array Value) (hw : ∀ d ∈ tables_1, d.before a0 Z = true) (ws : List Jvm.Cond) (o0 : Addr) (o1 : Addr) (b0 : Addr) (k0 : ClassId) (b1 : Addr) (k1 : ClassId) (cz : Int32) (u0 : Int32) (w0 : Int32) (h0 : Heap) (n0 : Nat) (Z0 : n0 ≤ h0.size) (hne : ¬ o0 = o1) (S0 : own_Str Z h0 o0 b0 k0 (1 : Int32) [(.int u0)]) (S1 : own_Str Z h0 o1 b1 k1 (1 : Int32) [(.int w0)]) (Ol : Old Z n0 h0) (S_C : Sta Z Z.heap "java/lang/String" "COMPACT_STRINGS" "Z" (.int cz)) (hcz : ¬ cz.toInt = 0) :
    MetFree l (⟨"java/lang/String", "equals", "(Ljava/lang/Object;)Z"⟩ : MethodName) (head1 (Jvm.Cond.code (⟨"java/lang/String", "equals", "(Ljava/lang/Object;)Z"⟩ : MethodName) jdk_42_method_66_code 3 (some .boolean) :: ws) ({ frames := 1, cells := 0, slots := 0, locals := 14 } : Room)) (fun a U => a = #[(.ref o0), (.ref o1)] ∧ Z.Warmed39 U.vm ∧ U.heap = h0) (fun _ _ _ _ _ => True) (fun _ U o U' => ∃ v L, o = .returned v ∧ Q_rmE1_1 Z o0 o1 b0 k0 b1 k1 cz u0 w0 h0 n0 v U'.heap L ∧ FrameEnd U o U' L ({ frames := 1, cells := 0, slots := 0, locals := 14 } : Room).cells ({ frames := 1, cells := 0, slots := 0, locals := 14 } : Room).slots) := by
  refine MetFree.of_bodySF (plainFor_of_name own_pn0) hisR ?_
  intro p e s m args below meth c s₁ Bd hml0 hP hK
  obtain ⟨rfl, hZ, hh⟩ := hP
  have hx := Bd.exec
  have hby := Bd.bytes
  have hml : c.maxLocals = 3 := hml0
  have hown : s.vm.findClass "java/lang/String" = some m.cls := findClass_of_methodNamed Bd.named
  have hnm := (name_of_methodNamed Bd.named Bd.method).1
  have X0 : Stand p l e ({ frames := 1, cells := 0, slots := 0, locals := 14 } : Room) s m #[(.ref o0), (.ref o1)] below meth c s₁ [] 0 0 := Stand.of_body Bd
  have e0 : s₁.heap = h0 := by rw [← hh, Bd.state]; rfl
  have N0 := Fr.nil n0
  refine (show own_End p e below s (s₁.setTop (entryFrame m #[(.ref o0), (.ref o1)] 3)) (Q_rmE1_1 Z o0 o1 b0 k0 b1 k1 cz u0 w0 h0 n0) ({ frames := 1, cells := 0, slots := 0, locals := 14 } : Room).cells ({ frames := 1, cells := 0, slots := 0, locals := 14 } : Room).slots from ?_)
  refine own_go (fun τ κ => castTop (own_ef10_rmE1_1 m o0 o1) κ) ?_
  have li0 : (0 : Int32).toInt = 0 := rfl
  have li1 : (1 : Int32).toInt = 1 := rfl
  show own_End p e below s (s₁.setTop (mkF m 0 #[.val (.ref o0), .val (.ref o1), .unset] [])) _ _ _
  obtain ⟨E0, Fv0, Fc0, V0⟩ := S0
  obtain ⟨E1, Fv1, Fc1, V1⟩ := S1
  refine own_go (fun τ κ => XS.aloadN X0.here hx rfl (hb hby d10_0) rfl rfl κ) ?_
  show own_End p e below s (s₁.setTop (mkF m 1 #[.val (.ref o0), .val (.ref o1), .unset] [(.ref o0)])) _ _ _
  refine own_go (fun τ κ => XS.aloadN X0.here hx rfl (hb hby d10_1) rfl rfl κ) ?_
  show own_End p e below s (s₁.setTop (mkF m 2 #[.val (.ref o0), .val (.ref o1), .unset] [(.ref o1), (.ref o0)])) _ _ _
  refine own_go (fun τ κ => Jvm.RoadKit.acmp (g := (mkF m 2 #[.val (.ref o0), .val (.ref o1), .unset] [(.ref o1), (.ref o0)])) X0 hx rfl rfl rfl (pc0 := 2) (pc' := 7) (same := false) rfl (hb hby d10_2) rfl (decide_eq_false fun q => hne (Value.ref.inj q)) (by decide) (by decide) κ) ?_
  show own_End p e below s (s₁.setTop (mkF m 7 #[.val (.ref o0), .val (.ref o1), .unset] [])) _ _ _
  refine own_go (fun τ κ => XS.aloadN X0.here hx rfl (hb hby d10_7) rfl rfl κ) ?_
  show own_End p e below s (s₁.setTop (mkF m 8 #[.val (.ref o0), .val (.ref o1), .unset] [(.ref o1)])) _ _ _
  obtain ⟨T1, X1, e1, st1⟩ := instY X0 hx hZ hown (hw _ (List.mem_of_getElem? (i := 10) rfl)) e0 (Ins.self E1) (g := (mkF m 8 #[.val (.ref o0), .val (.ref o1), .unset] [(.ref o1)])) rfl rfl (hb hby d10_8)
  refine own_go st1 ?_
  show own_End p e below s (T1.setTop (mkF m 11 #[.val (.ref o0), .val (.ref o1), .unset] [(.int (1 : Int32))])) _ _ _
  refine own_go (fun τ κ => XS.ifNo X1.here hx rfl (hb hby d10_11) rfl ((if0 _ _).trans (own_ne (x := (1 : Int32)) (y := (0 : Int32)) (i := 1) (j := 0) rfl rfl (by decide)).1) κ) ?_
  show own_End p e below s (T1.setTop (mkF m 14 #[.val (.ref o0), .val (.ref o1), .unset] [])) _ _ _
  refine own_go (fun τ κ => XS.aloadN X1.here hx rfl (hb hby d10_14) rfl rfl κ) ?_
  show own_End p e below s (T1.setTop (mkF m 15 #[.val (.ref o0), .val (.ref o1), .unset] [(.ref o1)])) _ _ _
  obtain ⟨T2, X2, e2, st2⟩ := castY X1 hx hZ hown (hw _ (List.mem_of_getElem? (i := 10) rfl)) e1 (Ins.self E1) (g := (mkF m 15 #[.val (.ref o0), .val (.ref o1), .unset] [(.ref o1)])) rfl rfl (hb hby d10_15)
  refine own_go st2 ?_
  show own_End p e below s (T2.setTop (mkF m 18 #[.val (.ref o0), .val (.ref o1), .unset] [(.ref o1)])) _ _ _
  refine own_go (fun τ κ => XS.astoreN X2.here hx rfl (hb hby d10_18) rfl rfl (l' := #[.val (.ref o0), .val (.ref o1), .val (.ref o1)]) rfl κ) ?_
  show own_End p e below s (T2.setTop (mkF m 19 #[.val (.ref o0), .val (.ref o1), .val (.ref o1)] [])) _ _ _
  obtain ⟨T3, X3, e3, st3⟩ := getS2 X2 hx hZ hown (host := "") (Or.inl (hw _ (List.mem_of_getElem? (i := 5) rfl))) Via.refl e2 (S_C.ext Ol.2) (g := (mkF m 19 #[.val (.ref o0), .val (.ref o1), .val (.ref o1)] [])) rfl (hb hby d10_19)
  refine own_go st3 ?_
  show own_End p e below s (T3.setTop (mkF m 22 #[.val (.ref o0), .val (.ref o1), .val (.ref o1)] [(.int cz)])) _ _ _
  refine own_go (fun τ κ => XS.ifNo X3.here hx rfl (hb hby d10_22) rfl ((if0 _ _).trans (own_ne (x := cz) (y := (0 : Int32)) (i := cz.toInt) (j := 0) rfl rfl hcz).1) κ) ?_
  show own_End p e below s (T3.setTop (mkF m 25 #[.val (.ref o0), .val (.ref o1), .val (.ref o1)] [])) _ _ _
  refine own_go (fun τ κ => XS.aloadN X3.here hx rfl (hb hby d10_25) rfl rfl κ) ?_
  show own_End p e below s (T3.setTop (mkF m 26 #[.val (.ref o0), .val (.ref o1), .val (.ref o1)] [(.ref o0)])) _ _ _
  obtain ⟨T4, X4, e4, st4⟩ := getF X3 hx hZ hown (host := "") (Or.inl (hw _ (List.mem_of_getElem? (i := 25) rfl))) Via.refl e3 Fc0 (g := (mkF m 26 #[.val (.ref o0), .val (.ref o1), .val (.ref o1)] [(.ref o0)])) rfl rfl (hb hby d10_26)
  refine own_go st4 ?_
  show own_End p e below s (T4.setTop (mkF m 29 #[.val (.ref o0), .val (.ref o1), .val (.ref o1)] [(.int (0 : Int32))])) _ _ _
  refine own_go (fun τ κ => XS.aloadN X4.here hx rfl (hb hby d10_29) rfl rfl κ) ?_
  show own_End p e below s (T4.setTop (mkF m 30 #[.val (.ref o0), .val (.ref o1), .val (.ref o1)] [(.ref o1), (.int (0 : Int32))])) _ _ _
  obtain ⟨T5, X5, e5, st5⟩ := getF X4 hx hZ hown (host := "") (Or.inl (hw _ (List.mem_of_getElem? (i := 25) rfl))) Via.refl e4 Fc1 (g := (mkF m 30 #[.val (.ref o0), .val (.ref o1), .val (.ref o1)] [(.ref o1), (.int (0 : Int32))])) rfl rfl (hb hby d10_30)
  refine own_go st5 ?_
  show own_End p e below s (T5.setTop (mkF m 33 #[.val (.ref o0), .val (.ref o1), .val (.ref o1)] [(.int (0 : Int32)), (.int (0 : Int32))])) _ _ _
  refine own_go (fun τ κ => XS.icmpNo X5.here hx rfl (hb hby d10_33) rfl (own_eq (x := (0 : Int32)) (y := (0 : Int32)) (i := 0) (j := 0) rfl rfl (by decide)).2 κ) ?_
  show own_End p e below s (T5.setTop (mkF m 36 #[.val (.ref o0), .val (.ref o1), .val (.ref o1)] [])) _ _ _
  refine own_go (fun τ κ => XS.aloadN X5.here hx rfl (hb hby d10_36) rfl rfl κ) ?_
  show own_End p e below s (T5.setTop (mkF m 37 #[.val (.ref o0), .val (.ref o1), .val (.ref o1)] [(.ref o0)])) _ _ _
  obtain ⟨T6, X6, e6, st6⟩ := getF X5 hx hZ hown (host := "") (Or.inl (hw _ (List.mem_of_getElem? (i := 23) rfl))) Via.refl e5 Fv0 (g := (mkF m 37 #[.val (.ref o0), .val (.ref o1), .val (.ref o1)] [(.ref o0)])) rfl rfl (hb hby d10_37)
  refine own_go st6 ?_
  show own_End p e below s (T6.setTop (mkF m 40 #[.val (.ref o0), .val (.ref o1), .val (.ref o1)] [(.ref b0)])) _ _ _
  refine own_go (fun τ κ => XS.aloadN X6.here hx rfl (hb hby d10_40) rfl rfl κ) ?_
  show own_End p e below s (T6.setTop (mkF m 41 #[.val (.ref o0), .val (.ref o1), .val (.ref o1)] [(.ref o1), (.ref b0)])) _ _ _
  obtain ⟨T7, X7, e7, st7⟩ := getF X6 hx hZ hown (host := "") (Or.inl (hw _ (List.mem_of_getElem? (i := 23) rfl))) Via.refl e6 Fv1 (g := (mkF m 41 #[.val (.ref o0), .val (.ref o1), .val (.ref o1)] [(.ref o1), (.ref b0)])) rfl rfl (hb hby d10_41)
  refine own_go st7 ?_
  show own_End p e below s (T7.setTop (mkF m 44 #[.val (.ref o0), .val (.ref o1), .val (.ref o1)] [(.ref b1), (.ref b0)])) _ _ _
  obtain ⟨_, _, ⟨T8, L8, k8, n8⟩, -, X8, ⟨Lc8, hQ8, l8, y8, z8⟩, st8⟩ := Jvm.LawKit.callS X7 hx (y := (⟨"java/lang/StringLatin1", "equals", "([B[B)Z"⟩ : MethodName)) hown (mvT hZ (hw _ (List.mem_of_getElem? (i := 50) rfl))) (mvT hZ (hw _ (List.mem_of_getElem? (i := 51) rfl))) (mvT hZ (hw _ (List.mem_of_getElem? (i := 8) rfl))) (mvT hZ (hw _ (List.mem_of_getElem? (i := 52) rfl))) (by decide) (backOf (W := 0) (rmL1_1 l Z a0 hw [] b0 b1 k0 k1 u0 w0 h0 n0 Z0 V0 V1) hZ (hw _ (List.mem_of_getElem? (i := 52) rfl)) (hw _ (List.mem_of_getElem? (i := 8) rfl)) (by decide) (by decide)) (g := (mkF m 44 #[.val (.ref o0), .val (.ref o1), .val (.ref o1)] [(.ref b1), (.ref b0)])) rfl (by rw [hml]; rfl) (argsL := [(.ref b0), (.ref b1)]) (rest := []) (lenOf own_pd7 rfl) rfl (by show 2 * 0 + _ ≤ _; exact Nat.le_of_eq rfl) (hb hby d10_44) (fun _ _ => ⟨rfl, e7, (by decide : 0 + 0 ≤ _), (by decide : 0 + 0 ≤ _)⟩)
  dsimp only [Pt.U, Pt.locs, Pt.cells, Pt.slots] at X8 l8 y8 z8 st8 hQ8
  subst l8 y8 z8
  obtain ⟨⟨r8, rfl, hr8⟩, N8q, e8⟩ := hQ8
  have N8 := Fr.app N0 N8q
  obtain ⟨ls8, Xl8, Nl8⟩ := own_abs X8 N8
  refine own_go st8 ?_
  show own_End p e below s (T8.setTop (mkF m 47 #[.val (.ref o0), .val (.ref o1), .val (.ref o1)] [(.int r8)])) _ _ _
  by_cases c47_9 : r8.toInt = 0
  · skip
    refine own_go (fun τ κ => XS.ifYes Xl8.here hx rfl (pc0 := 47) (pc' := 54) rfl (hb hby d10_47) rfl ((if0 _ _).trans (own_eq (x := r8) (y := (0 : Int32)) (i := r8.toInt) (j := 0) rfl rfl c47_9).1) (by decide) (by decide) κ) ?_
    show own_End p e below s (T8.setTop (mkF m 54 #[.val (.ref o0), .val (.ref o1), .val (.ref o1)] [])) _ _ _
    refine own_go (fun τ κ => XS.iconst Xl8.here hx rfl (hb hby d10_54) κ) ?_
    show own_End p e below s (T8.setTop (mkF m 55 #[.val (.ref o0), .val (.ref o1), .val (.ref o1)] [(.int (0 : Int32))])) _ _ _
    refine own_ret Xl8 (v := some (.int (0 : Int32))) (fun h => by rw [Bd.returns] at h; cases h) Bd.notSynchronized (fun fs hr => retN Xl8 hx (t := .boolean) Bd.returns (by simp) (hb hby d10_55) hr) ?_ (by decide) (by decide)
    · rw [e8]; exact ⟨⟨_, rfl, by omega⟩, Nl8, rfl⟩
  · skip
    refine own_go (fun τ κ => XS.ifNo Xl8.here hx rfl (hb hby d10_47) rfl ((if0 _ _).trans (own_ne (x := r8) (y := (0 : Int32)) (i := r8.toInt) (j := 0) rfl rfl c47_9).1) κ) ?_
    show own_End p e below s (T8.setTop (mkF m 50 #[.val (.ref o0), .val (.ref o1), .val (.ref o1)] [])) _ _ _
    refine own_go (fun τ κ => XS.iconst Xl8.here hx rfl (hb hby d10_50) κ) ?_
    show own_End p e below s (T8.setTop (mkF m 51 #[.val (.ref o0), .val (.ref o1), .val (.ref o1)] [(.int (1 : Int32))])) _ _ _
    refine own_go (fun τ κ => XS.goto Xl8.here hx rfl (pc0 := 51) (pc' := 55) rfl (hb hby d10_51) (by decide) (by decide) κ) ?_
    show own_End p e below s (T8.setTop (mkF m 55 #[.val (.ref o0), .val (.ref o1), .val (.ref o1)] [(.int (1 : Int32))])) _ _ _
    refine own_ret Xl8 (v := some (.int (1 : Int32))) (fun h => by rw [Bd.returns] at h; cases h) Bd.notSynchronized (fun fs hr => retN Xl8 hx (t := .boolean) Bd.returns (by simp) (hb hby d10_55) hr) ?_ (by decide) (by decide)
    · rw [e8]; exact ⟨⟨_, rfl, by omega⟩, Nl8, rfl⟩
theorem own_ef11_rmL1_2 (m : MethodId) (o0 : Addr) (o1 : Addr) : entryFrame m #[(.ref o0), (.ref o1)] 3 = mkF m 0 #[.val (.ref o0), .val (.ref o1), .unset] [] := by first | (simp [entryFrame, mkF, argsToLocals, Value.category]; done) | rfl
def Q_rmL1_2 (Z : State) (o0 : Addr) (o1 : Addr) (k0 : ClassId) (k1 : ClassId) (u0 : Int32) (w0 : Int32) (w1 : Int32) (h0 : Heap) (n0 : Nat) (v : Option Value) (h : Heap) (L : List Loc) : Prop := v = some (.int (0 : Int32)) ∧ Fr n0 L ∧ h = h0
theorem d11_34 : decode jdk_43_method_13_code 34 = .ok (.iconst 0, 1) := by decide +kernel
theorem d11_35 : decode jdk_43_method_13_code 35 = .ok (.ireturn, 1) := by decide +kernel
set_option maxRecDepth 65536 in
set_option maxHeartbeats 40000000 in
theorem rmL1_2 (l : Launch) (Z : State) (a0 : Array Value) (hw : ∀ d ∈ tables_1, d.before a0 Z = true) (ws : List Jvm.Cond) (o0 : Addr) (o1 : Addr) (k0 : ClassId) (k1 : ClassId) (u0 : Int32) (w0 : Int32) (w1 : Int32) (h0 : Heap) (n0 : Nat) (Z0 : n0 ≤ h0.size) (V0 : Arv Z h0 o0 k0 .byte (1 : Int32) [(.int u0)] (.int (0 : Int32))) (V1 : Arv Z h0 o1 k1 .byte (2 : Int32) [(.int w0), (.int w1)] (.int (0 : Int32))) :
    MetFree l (⟨"java/lang/StringLatin1", "equals", "([B[B)Z"⟩ : MethodName) (head1 (Jvm.Cond.code (⟨"java/lang/StringLatin1", "equals", "([B[B)Z"⟩ : MethodName) jdk_43_method_13_code 3 (some .boolean) :: ws) ({ frames := 0, cells := 0, slots := 0, locals := 0 } : Room)) (fun a U => a = #[(.ref o0), (.ref o1)] ∧ Z.Warmed39 U.vm ∧ U.heap = h0) (fun _ _ _ _ _ => True) (fun _ U o U' => ∃ v L, o = .returned v ∧ Q_rmL1_2 Z o0 o1 k0 k1 u0 w0 w1 h0 n0 v U'.heap L ∧ FrameEnd U o U' L ({ frames := 0, cells := 0, slots := 0, locals := 0 } : Room).cells ({ frames := 0, cells := 0, slots := 0, locals := 0 } : Room).slots) := by
  refine MetFree.of_bodySF (plainFor_of_name own_pn1) hisR ?_
  intro p e s m args below meth c s₁ Bd hml0 hP hK
  obtain ⟨rfl, hZ, hh⟩ := hP
  have hx := Bd.exec
  have hby := Bd.bytes
  have hml : c.maxLocals = 3 := hml0
  have hown : s.vm.findClass "java/lang/StringLatin1" = some m.cls := findClass_of_methodNamed Bd.named
  have hnm := (name_of_methodNamed Bd.named Bd.method).1
  have X0 : Stand p l e ({ frames := 0, cells := 0, slots := 0, locals := 0 } : Room) s m #[(.ref o0), (.ref o1)] below meth c s₁ [] 0 0 := Stand.of_body Bd
  have e0 : s₁.heap = h0 := by rw [← hh, Bd.state]; rfl
  have N0 := Fr.nil n0
  refine (show own_End p e below s (s₁.setTop (entryFrame m #[(.ref o0), (.ref o1)] 3)) (Q_rmL1_2 Z o0 o1 k0 k1 u0 w0 w1 h0 n0) ({ frames := 0, cells := 0, slots := 0, locals := 0 } : Room).cells ({ frames := 0, cells := 0, slots := 0, locals := 0 } : Room).slots from ?_)
  refine own_go (fun τ κ => castTop (own_ef11_rmL1_2 m o0 o1) κ) ?_
  have li0 : (0 : Int32).toInt = 0 := rfl
  have li1 : (1 : Int32).toInt = 1 := rfl
  show own_End p e below s (s₁.setTop (mkF m 0 #[.val (.ref o0), .val (.ref o1), .unset] [])) _ _ _
  refine own_go (fun τ κ => XS.aloadN X0.here hx rfl (hb hby d11_0) rfl rfl κ) ?_
  show own_End p e below s (s₁.setTop (mkF m 1 #[.val (.ref o0), .val (.ref o1), .unset] [(.ref o0)])) _ _ _
  obtain ⟨cl1, Ar1, qa1, Sq1, Mq1, Hh1, Gq1⟩ := id V0
  refine own_go (fun τ κ => X0.arraylength hx (by rw [e0]; exact Ar1.1) (State.isArrayOf_alike hZ.alike Ar1.2.1) (g := (mkF m 1 #[.val (.ref o0), .val (.ref o1), .unset] [(.ref o0)])) rfl rfl (hb hby d11_1) _ (by rw [len_of Sq1 Mq1]; exact κ)) ?_
  show own_End p e below s (s₁.setTop (mkF m 2 #[.val (.ref o0), .val (.ref o1), .unset] [(.int (1 : Int32))])) _ _ _
  refine own_go (fun τ κ => XS.aloadN X0.here hx rfl (hb hby d11_2) rfl rfl κ) ?_
  show own_End p e below s (s₁.setTop (mkF m 3 #[.val (.ref o0), .val (.ref o1), .unset] [(.ref o1), (.int (1 : Int32))])) _ _ _
  obtain ⟨cl2, Ar2, qa2, Sq2, Mq2, Hh2, Gq2⟩ := id V1
  refine own_go (fun τ κ => X0.arraylength hx (by rw [e0]; exact Ar2.1) (State.isArrayOf_alike hZ.alike Ar2.2.1) (g := (mkF m 3 #[.val (.ref o0), .val (.ref o1), .unset] [(.ref o1), (.int (1 : Int32))])) rfl rfl (hb hby d11_3) _ (by rw [len_of Sq2 Mq2]; exact κ)) ?_
  show own_End p e below s (s₁.setTop (mkF m 4 #[.val (.ref o0), .val (.ref o1), .unset] [(.int (2 : Int32)), (.int (1 : Int32))])) _ _ _
  refine own_go (fun τ κ => XS.icmpYes X0.here hx rfl (pc0 := 4) (pc' := 34) rfl (hb hby d11_4) rfl (own_ne (x := (1 : Int32)) (y := (2 : Int32)) (i := 1) (j := 2) rfl rfl (by decide)).2 (by decide) (by decide) κ) ?_
  show own_End p e below s (s₁.setTop (mkF m 34 #[.val (.ref o0), .val (.ref o1), .unset] [])) _ _ _
  refine own_go (fun τ κ => XS.iconst X0.here hx rfl (hb hby d11_34) κ) ?_
  show own_End p e below s (s₁.setTop (mkF m 35 #[.val (.ref o0), .val (.ref o1), .unset] [(.int (0 : Int32))])) _ _ _
  refine own_ret X0 (v := some (.int (0 : Int32))) (fun h => by rw [Bd.returns] at h; cases h) Bd.notSynchronized (fun fs hr => retN X0 hx (t := .boolean) Bd.returns (by simp) (hb hby d11_35) hr) ?_ (by decide) (by decide)
  · rw [e0]; exact ⟨rfl, N0, rfl⟩
theorem own_ef10_rmE1_2 (m : MethodId) (o0 : Addr) (o1 : Addr) : entryFrame m #[(.ref o0), (.ref o1)] 3 = mkF m 0 #[.val (.ref o0), .val (.ref o1), .unset] [] := by first | (simp [entryFrame, mkF, argsToLocals, Value.category]; done) | rfl
def Q_rmE1_2 (Z : State) (o0 : Addr) (o1 : Addr) (b0 : Addr) (k0 : ClassId) (b1 : Addr) (k1 : ClassId) (cz : Int32) (u0 : Int32) (w0 : Int32) (w1 : Int32) (h0 : Heap) (n0 : Nat) (v : Option Value) (h : Heap) (L : List Loc) : Prop := v = some (.int (0 : Int32)) ∧ Fr n0 L ∧ h = h0
set_option maxRecDepth 65536 in
set_option maxHeartbeats 40000000 in
theorem rmE1_2 (l : Launch) (Z : State) (a0 : Array Value) (hw : ∀ d ∈ tables_1, d.before a0 Z = true) (ws : List Jvm.Cond) (o0 : Addr) (o1 : Addr) (b0 : Addr) (k0 : ClassId) (b1 : Addr) (k1 : ClassId) (cz : Int32) (u0 : Int32) (w0 : Int32) (w1 : Int32) (h0 : Heap) (n0 : Nat) (Z0 : n0 ≤ h0.size) (hne : ¬ o0 = o1) (S0 : own_Str Z h0 o0 b0 k0 (1 : Int32) [(.int u0)]) (S1 : own_Str Z h0 o1 b1 k1 (2 : Int32) [(.int w0), (.int w1)]) (Ol : Old Z n0 h0) (S_C : Sta Z Z.heap "java/lang/String" "COMPACT_STRINGS" "Z" (.int cz)) (hcz : ¬ cz.toInt = 0) :
    MetFree l (⟨"java/lang/String", "equals", "(Ljava/lang/Object;)Z"⟩ : MethodName) (head1 (Jvm.Cond.code (⟨"java/lang/String", "equals", "(Ljava/lang/Object;)Z"⟩ : MethodName) jdk_42_method_66_code 3 (some .boolean) :: ws) ({ frames := 1, cells := 0, slots := 0, locals := 14 } : Room)) (fun a U => a = #[(.ref o0), (.ref o1)] ∧ Z.Warmed39 U.vm ∧ U.heap = h0) (fun _ _ _ _ _ => True) (fun _ U o U' => ∃ v L, o = .returned v ∧ Q_rmE1_2 Z o0 o1 b0 k0 b1 k1 cz u0 w0 w1 h0 n0 v U'.heap L ∧ FrameEnd U o U' L ({ frames := 1, cells := 0, slots := 0, locals := 14 } : Room).cells ({ frames := 1, cells := 0, slots := 0, locals := 14 } : Room).slots) := by
  refine MetFree.of_bodySF (plainFor_of_name own_pn0) hisR ?_
  intro p e s m args below meth c s₁ Bd hml0 hP hK
  obtain ⟨rfl, hZ, hh⟩ := hP
  have hx := Bd.exec
  have hby := Bd.bytes
  have hml : c.maxLocals = 3 := hml0
  have hown : s.vm.findClass "java/lang/String" = some m.cls := findClass_of_methodNamed Bd.named
  have hnm := (name_of_methodNamed Bd.named Bd.method).1
  have X0 : Stand p l e ({ frames := 1, cells := 0, slots := 0, locals := 14 } : Room) s m #[(.ref o0), (.ref o1)] below meth c s₁ [] 0 0 := Stand.of_body Bd
  have e0 : s₁.heap = h0 := by rw [← hh, Bd.state]; rfl
  have N0 := Fr.nil n0
  refine (show own_End p e below s (s₁.setTop (entryFrame m #[(.ref o0), (.ref o1)] 3)) (Q_rmE1_2 Z o0 o1 b0 k0 b1 k1 cz u0 w0 w1 h0 n0) ({ frames := 1, cells := 0, slots := 0, locals := 14 } : Room).cells ({ frames := 1, cells := 0, slots := 0, locals := 14 } : Room).slots from ?_)
  refine own_go (fun τ κ => castTop (own_ef10_rmE1_2 m o0 o1) κ) ?_
  have li0 : (0 : Int32).toInt = 0 := rfl
  have li1 : (1 : Int32).toInt = 1 := rfl
  show own_End p e below s (s₁.setTop (mkF m 0 #[.val (.ref o0), .val (.ref o1), .unset] [])) _ _ _
  obtain ⟨E0, Fv0, Fc0, V0⟩ := S0
  obtain ⟨E1, Fv1, Fc1, V1⟩ := S1
  refine own_go (fun τ κ => XS.aloadN X0.here hx rfl (hb hby d10_0) rfl rfl κ) ?_
  show own_End p e below s (s₁.setTop (mkF m 1 #[.val (.ref o0), .val (.ref o1), .unset] [(.ref o0)])) _ _ _
  refine own_go (fun τ κ => XS.aloadN X0.here hx rfl (hb hby d10_1) rfl rfl κ) ?_
  show own_End p e below s (s₁.setTop (mkF m 2 #[.val (.ref o0), .val (.ref o1), .unset] [(.ref o1), (.ref o0)])) _ _ _
  refine own_go (fun τ κ => Jvm.RoadKit.acmp (g := (mkF m 2 #[.val (.ref o0), .val (.ref o1), .unset] [(.ref o1), (.ref o0)])) X0 hx rfl rfl rfl (pc0 := 2) (pc' := 7) (same := false) rfl (hb hby d10_2) rfl (decide_eq_false fun q => hne (Value.ref.inj q)) (by decide) (by decide) κ) ?_
  show own_End p e below s (s₁.setTop (mkF m 7 #[.val (.ref o0), .val (.ref o1), .unset] [])) _ _ _
  refine own_go (fun τ κ => XS.aloadN X0.here hx rfl (hb hby d10_7) rfl rfl κ) ?_
  show own_End p e below s (s₁.setTop (mkF m 8 #[.val (.ref o0), .val (.ref o1), .unset] [(.ref o1)])) _ _ _
  obtain ⟨T1, X1, e1, st1⟩ := instY X0 hx hZ hown (hw _ (List.mem_of_getElem? (i := 10) rfl)) e0 (Ins.self E1) (g := (mkF m 8 #[.val (.ref o0), .val (.ref o1), .unset] [(.ref o1)])) rfl rfl (hb hby d10_8)
  refine own_go st1 ?_
  show own_End p e below s (T1.setTop (mkF m 11 #[.val (.ref o0), .val (.ref o1), .unset] [(.int (1 : Int32))])) _ _ _
  refine own_go (fun τ κ => XS.ifNo X1.here hx rfl (hb hby d10_11) rfl ((if0 _ _).trans (own_ne (x := (1 : Int32)) (y := (0 : Int32)) (i := 1) (j := 0) rfl rfl (by decide)).1) κ) ?_
  show own_End p e below s (T1.setTop (mkF m 14 #[.val (.ref o0), .val (.ref o1), .unset] [])) _ _ _
  refine own_go (fun τ κ => XS.aloadN X1.here hx rfl (hb hby d10_14) rfl rfl κ) ?_
  show own_End p e below s (T1.setTop (mkF m 15 #[.val (.ref o0), .val (.ref o1), .unset] [(.ref o1)])) _ _ _
  obtain ⟨T2, X2, e2, st2⟩ := castY X1 hx hZ hown (hw _ (List.mem_of_getElem? (i := 10) rfl)) e1 (Ins.self E1) (g := (mkF m 15 #[.val (.ref o0), .val (.ref o1), .unset] [(.ref o1)])) rfl rfl (hb hby d10_15)
  refine own_go st2 ?_
  show own_End p e below s (T2.setTop (mkF m 18 #[.val (.ref o0), .val (.ref o1), .unset] [(.ref o1)])) _ _ _
  refine own_go (fun τ κ => XS.astoreN X2.here hx rfl (hb hby d10_18) rfl rfl (l' := #[.val (.ref o0), .val (.ref o1), .val (.ref o1)]) rfl κ) ?_
  show own_End p e below s (T2.setTop (mkF m 19 #[.val (.ref o0), .val (.ref o1), .val (.ref o1)] [])) _ _ _
  obtain ⟨T3, X3, e3, st3⟩ := getS2 X2 hx hZ hown (host := "") (Or.inl (hw _ (List.mem_of_getElem? (i := 5) rfl))) Via.refl e2 (S_C.ext Ol.2) (g := (mkF m 19 #[.val (.ref o0), .val (.ref o1), .val (.ref o1)] [])) rfl (hb hby d10_19)
  refine own_go st3 ?_
  show own_End p e below s (T3.setTop (mkF m 22 #[.val (.ref o0), .val (.ref o1), .val (.ref o1)] [(.int cz)])) _ _ _
  refine own_go (fun τ κ => XS.ifNo X3.here hx rfl (hb hby d10_22) rfl ((if0 _ _).trans (own_ne (x := cz) (y := (0 : Int32)) (i := cz.toInt) (j := 0) rfl rfl hcz).1) κ) ?_
  show own_End p e below s (T3.setTop (mkF m 25 #[.val (.ref o0), .val (.ref o1), .val (.ref o1)] [])) _ _ _
  refine own_go (fun τ κ => XS.aloadN X3.here hx rfl (hb hby d10_25) rfl rfl κ) ?_
  show own_End p e below s (T3.setTop (mkF m 26 #[.val (.ref o0), .val (.ref o1), .val (.ref o1)] [(.ref o0)])) _ _ _
  obtain ⟨T4, X4, e4, st4⟩ := getF X3 hx hZ hown (host := "") (Or.inl (hw _ (List.mem_of_getElem? (i := 25) rfl))) Via.refl e3 Fc0 (g := (mkF m 26 #[.val (.ref o0), .val (.ref o1), .val (.ref o1)] [(.ref o0)])) rfl rfl (hb hby d10_26)
  refine own_go st4 ?_
  show own_End p e below s (T4.setTop (mkF m 29 #[.val (.ref o0), .val (.ref o1), .val (.ref o1)] [(.int (0 : Int32))])) _ _ _
  refine own_go (fun τ κ => XS.aloadN X4.here hx rfl (hb hby d10_29) rfl rfl κ) ?_
  show own_End p e below s (T4.setTop (mkF m 30 #[.val (.ref o0), .val (.ref o1), .val (.ref o1)] [(.ref o1), (.int (0 : Int32))])) _ _ _
  obtain ⟨T5, X5, e5, st5⟩ := getF X4 hx hZ hown (host := "") (Or.inl (hw _ (List.mem_of_getElem? (i := 25) rfl))) Via.refl e4 Fc1 (g := (mkF m 30 #[.val (.ref o0), .val (.ref o1), .val (.ref o1)] [(.ref o1), (.int (0 : Int32))])) rfl rfl (hb hby d10_30)
  refine own_go st5 ?_
  show own_End p e below s (T5.setTop (mkF m 33 #[.val (.ref o0), .val (.ref o1), .val (.ref o1)] [(.int (0 : Int32)), (.int (0 : Int32))])) _ _ _
  refine own_go (fun τ κ => XS.icmpNo X5.here hx rfl (hb hby d10_33) rfl (own_eq (x := (0 : Int32)) (y := (0 : Int32)) (i := 0) (j := 0) rfl rfl (by decide)).2 κ) ?_
  show own_End p e below s (T5.setTop (mkF m 36 #[.val (.ref o0), .val (.ref o1), .val (.ref o1)] [])) _ _ _
  refine own_go (fun τ κ => XS.aloadN X5.here hx rfl (hb hby d10_36) rfl rfl κ) ?_
  show own_End p e below s (T5.setTop (mkF m 37 #[.val (.ref o0), .val (.ref o1), .val (.ref o1)] [(.ref o0)])) _ _ _
  obtain ⟨T6, X6, e6, st6⟩ := getF X5 hx hZ hown (host := "") (Or.inl (hw _ (List.mem_of_getElem? (i := 23) rfl))) Via.refl e5 Fv0 (g := (mkF m 37 #[.val (.ref o0), .val (.ref o1), .val (.ref o1)] [(.ref o0)])) rfl rfl (hb hby d10_37)
  refine own_go st6 ?_
  show own_End p e below s (T6.setTop (mkF m 40 #[.val (.ref o0), .val (.ref o1), .val (.ref o1)] [(.ref b0)])) _ _ _
  refine own_go (fun τ κ => XS.aloadN X6.here hx rfl (hb hby d10_40) rfl rfl κ) ?_
  show own_End p e below s (T6.setTop (mkF m 41 #[.val (.ref o0), .val (.ref o1), .val (.ref o1)] [(.ref o1), (.ref b0)])) _ _ _
  obtain ⟨T7, X7, e7, st7⟩ := getF X6 hx hZ hown (host := "") (Or.inl (hw _ (List.mem_of_getElem? (i := 23) rfl))) Via.refl e6 Fv1 (g := (mkF m 41 #[.val (.ref o0), .val (.ref o1), .val (.ref o1)] [(.ref o1), (.ref b0)])) rfl rfl (hb hby d10_41)
  refine own_go st7 ?_
  show own_End p e below s (T7.setTop (mkF m 44 #[.val (.ref o0), .val (.ref o1), .val (.ref o1)] [(.ref b1), (.ref b0)])) _ _ _
  obtain ⟨_, _, ⟨T8, L8, k8, n8⟩, -, X8, ⟨Lc8, hQ8, l8, y8, z8⟩, st8⟩ := Jvm.LawKit.callS X7 hx (y := (⟨"java/lang/StringLatin1", "equals", "([B[B)Z"⟩ : MethodName)) hown (mvT hZ (hw _ (List.mem_of_getElem? (i := 50) rfl))) (mvT hZ (hw _ (List.mem_of_getElem? (i := 51) rfl))) (mvT hZ (hw _ (List.mem_of_getElem? (i := 8) rfl))) (mvT hZ (hw _ (List.mem_of_getElem? (i := 52) rfl))) (by decide) (backOf (W := 0) (rmL1_2 l Z a0 hw [] b0 b1 k0 k1 u0 w0 w1 h0 n0 Z0 V0 V1) hZ (hw _ (List.mem_of_getElem? (i := 52) rfl)) (hw _ (List.mem_of_getElem? (i := 8) rfl)) (by decide) (by decide)) (g := (mkF m 44 #[.val (.ref o0), .val (.ref o1), .val (.ref o1)] [(.ref b1), (.ref b0)])) rfl (by rw [hml]; rfl) (argsL := [(.ref b0), (.ref b1)]) (rest := []) (lenOf own_pd7 rfl) rfl (by show 2 * 0 + _ ≤ _; exact Nat.le_of_eq rfl) (hb hby d10_44) (fun _ _ => ⟨rfl, e7, (by decide : 0 + 0 ≤ _), (by decide : 0 + 0 ≤ _)⟩)
  dsimp only [Pt.U, Pt.locs, Pt.cells, Pt.slots] at X8 l8 y8 z8 st8 hQ8
  subst l8 y8 z8
  obtain ⟨rfl, N8q, e8⟩ := hQ8
  have N8 := Fr.app N0 N8q
  obtain ⟨ls8, Xl8, Nl8⟩ := own_abs X8 N8
  refine own_go st8 ?_
  show own_End p e below s (T8.setTop (mkF m 47 #[.val (.ref o0), .val (.ref o1), .val (.ref o1)] [(.int (0 : Int32))])) _ _ _
  refine own_go (fun τ κ => XS.ifYes Xl8.here hx rfl (pc0 := 47) (pc' := 54) rfl (hb hby d10_47) rfl ((if0 _ _).trans (own_eq (x := (0 : Int32)) (y := (0 : Int32)) (i := 0) (j := 0) rfl rfl (by decide)).1) (by decide) (by decide) κ) ?_
  show own_End p e below s (T8.setTop (mkF m 54 #[.val (.ref o0), .val (.ref o1), .val (.ref o1)] [])) _ _ _
  refine own_go (fun τ κ => XS.iconst Xl8.here hx rfl (hb hby d10_54) κ) ?_
  show own_End p e below s (T8.setTop (mkF m 55 #[.val (.ref o0), .val (.ref o1), .val (.ref o1)] [(.int (0 : Int32))])) _ _ _
  refine own_ret Xl8 (v := some (.int (0 : Int32))) (fun h => by rw [Bd.returns] at h; cases h) Bd.notSynchronized (fun fs hr => retN Xl8 hx (t := .boolean) Bd.returns (by simp) (hb hby d10_55) hr) ?_ (by decide) (by decide)
  · rw [e8]; exact ⟨rfl, Nl8, rfl⟩
theorem own_ef11_rmL2_2 (m : MethodId) (o0 : Addr) (o1 : Addr) : entryFrame m #[(.ref o0), (.ref o1)] 3 = mkF m 0 #[.val (.ref o0), .val (.ref o1), .unset] [] := by first | (simp [entryFrame, mkF, argsToLocals, Value.category]; done) | rfl
def Q_rmL2_2 (Z : State) (o0 : Addr) (o1 : Addr) (k0 : ClassId) (k1 : ClassId) (u0 : Int32) (u1 : Int32) (w0 : Int32) (w1 : Int32) (h0 : Heap) (n0 : Nat) (v : Option Value) (h : Heap) (L : List Loc) : Prop := (∃ z, v = some (.int z) ∧ (z.toInt = 1 ∧ (u0.toInt = w0.toInt ∧ u1.toInt = w1.toInt) ∨ z.toInt = 0 ∧ ¬ (u0.toInt = w0.toInt ∧ u1.toInt = w1.toInt))) ∧ Fr n0 L ∧ h = h0
set_option maxRecDepth 65536 in
set_option maxHeartbeats 40000000 in
theorem rmL2_2 (l : Launch) (Z : State) (a0 : Array Value) (hw : ∀ d ∈ tables_1, d.before a0 Z = true) (ws : List Jvm.Cond) (o0 : Addr) (o1 : Addr) (k0 : ClassId) (k1 : ClassId) (u0 : Int32) (u1 : Int32) (w0 : Int32) (w1 : Int32) (h0 : Heap) (n0 : Nat) (Z0 : n0 ≤ h0.size) (V0 : Arv Z h0 o0 k0 .byte (2 : Int32) [(.int u0), (.int u1)] (.int (0 : Int32))) (V1 : Arv Z h0 o1 k1 .byte (2 : Int32) [(.int w0), (.int w1)] (.int (0 : Int32))) :
    MetFree l (⟨"java/lang/StringLatin1", "equals", "([B[B)Z"⟩ : MethodName) (head1 (Jvm.Cond.code (⟨"java/lang/StringLatin1", "equals", "([B[B)Z"⟩ : MethodName) jdk_43_method_13_code 3 (some .boolean) :: ws) ({ frames := 0, cells := 0, slots := 0, locals := 0 } : Room)) (fun a U => a = #[(.ref o0), (.ref o1)] ∧ Z.Warmed39 U.vm ∧ U.heap = h0) (fun _ _ _ _ _ => True) (fun _ U o U' => ∃ v L, o = .returned v ∧ Q_rmL2_2 Z o0 o1 k0 k1 u0 u1 w0 w1 h0 n0 v U'.heap L ∧ FrameEnd U o U' L ({ frames := 0, cells := 0, slots := 0, locals := 0 } : Room).cells ({ frames := 0, cells := 0, slots := 0, locals := 0 } : Room).slots) := by
  refine MetFree.of_bodySF (plainFor_of_name own_pn1) hisR ?_
  intro p e s m args below meth c s₁ Bd hml0 hP hK
  obtain ⟨rfl, hZ, hh⟩ := hP
  have hx := Bd.exec
  have hby := Bd.bytes
  have hml : c.maxLocals = 3 := hml0
  have hown : s.vm.findClass "java/lang/StringLatin1" = some m.cls := findClass_of_methodNamed Bd.named
  have hnm := (name_of_methodNamed Bd.named Bd.method).1
  have X0 : Stand p l e ({ frames := 0, cells := 0, slots := 0, locals := 0 } : Room) s m #[(.ref o0), (.ref o1)] below meth c s₁ [] 0 0 := Stand.of_body Bd
  have e0 : s₁.heap = h0 := by rw [← hh, Bd.state]; rfl
  have N0 := Fr.nil n0
  refine (show own_End p e below s (s₁.setTop (entryFrame m #[(.ref o0), (.ref o1)] 3)) (Q_rmL2_2 Z o0 o1 k0 k1 u0 u1 w0 w1 h0 n0) ({ frames := 0, cells := 0, slots := 0, locals := 0 } : Room).cells ({ frames := 0, cells := 0, slots := 0, locals := 0 } : Room).slots from ?_)
  refine own_go (fun τ κ => castTop (own_ef11_rmL2_2 m o0 o1) κ) ?_
  have li0 : (0 : Int32).toInt = 0 := rfl
  have li1 : (1 : Int32).toInt = 1 := rfl
  show own_End p e below s (s₁.setTop (mkF m 0 #[.val (.ref o0), .val (.ref o1), .unset] [])) _ _ _
  refine own_go (fun τ κ => XS.aloadN X0.here hx rfl (hb hby d11_0) rfl rfl κ) ?_
  show own_End p e below s (s₁.setTop (mkF m 1 #[.val (.ref o0), .val (.ref o1), .unset] [(.ref o0)])) _ _ _
  obtain ⟨cl1, Ar1, qa1, Sq1, Mq1, Hh1, Gq1⟩ := id V0
  refine own_go (fun τ κ => X0.arraylength hx (by rw [e0]; exact Ar1.1) (State.isArrayOf_alike hZ.alike Ar1.2.1) (g := (mkF m 1 #[.val (.ref o0), .val (.ref o1), .unset] [(.ref o0)])) rfl rfl (hb hby d11_1) _ (by rw [len_of Sq1 Mq1]; exact κ)) ?_
  show own_End p e below s (s₁.setTop (mkF m 2 #[.val (.ref o0), .val (.ref o1), .unset] [(.int (2 : Int32))])) _ _ _
  refine own_go (fun τ κ => XS.aloadN X0.here hx rfl (hb hby d11_2) rfl rfl κ) ?_
  show own_End p e below s (s₁.setTop (mkF m 3 #[.val (.ref o0), .val (.ref o1), .unset] [(.ref o1), (.int (2 : Int32))])) _ _ _
  obtain ⟨cl2, Ar2, qa2, Sq2, Mq2, Hh2, Gq2⟩ := id V1
  refine own_go (fun τ κ => X0.arraylength hx (by rw [e0]; exact Ar2.1) (State.isArrayOf_alike hZ.alike Ar2.2.1) (g := (mkF m 3 #[.val (.ref o0), .val (.ref o1), .unset] [(.ref o1), (.int (2 : Int32))])) rfl rfl (hb hby d11_3) _ (by rw [len_of Sq2 Mq2]; exact κ)) ?_
  show own_End p e below s (s₁.setTop (mkF m 4 #[.val (.ref o0), .val (.ref o1), .unset] [(.int (2 : Int32)), (.int (2 : Int32))])) _ _ _
  refine own_go (fun τ κ => XS.icmpNo X0.here hx rfl (hb hby d11_4) rfl (own_eq (x := (2 : Int32)) (y := (2 : Int32)) (i := 2) (j := 2) rfl rfl (by decide)).2 κ) ?_
  show own_End p e below s (s₁.setTop (mkF m 7 #[.val (.ref o0), .val (.ref o1), .unset] [])) _ _ _
  refine own_go (fun τ κ => XS.iconst X0.here hx rfl (hb hby d11_7) κ) ?_
  show own_End p e below s (s₁.setTop (mkF m 8 #[.val (.ref o0), .val (.ref o1), .unset] [(.int (0 : Int32))])) _ _ _
  refine own_go (fun τ κ => XS.istoreN X0.here hx rfl (hb hby d11_8) rfl (l' := #[.val (.ref o0), .val (.ref o1), .val (.int (0 : Int32))]) rfl κ) ?_
  show own_End p e below s (s₁.setTop (mkF m 9 #[.val (.ref o0), .val (.ref o1), .val (.int (0 : Int32))] [])) _ _ _
  refine own_go (fun τ κ => XS.iloadN X0.here hx rfl (hb hby d11_9) rfl κ) ?_
  show own_End p e below s (s₁.setTop (mkF m 10 #[.val (.ref o0), .val (.ref o1), .val (.int (0 : Int32))] [(.int (0 : Int32))])) _ _ _
  refine own_go (fun τ κ => XS.aloadN X0.here hx rfl (hb hby d11_10) rfl rfl κ) ?_
  show own_End p e below s (s₁.setTop (mkF m 11 #[.val (.ref o0), .val (.ref o1), .val (.int (0 : Int32))] [(.ref o0), (.int (0 : Int32))])) _ _ _
  obtain ⟨cl3, Ar3, qa3, Sq3, Mq3, Hh3, Gq3⟩ := id V0
  refine own_go (fun τ κ => X0.arraylength hx (by rw [e0]; exact Ar3.1) (State.isArrayOf_alike hZ.alike Ar3.2.1) (g := (mkF m 11 #[.val (.ref o0), .val (.ref o1), .val (.int (0 : Int32))] [(.ref o0), (.int (0 : Int32))])) rfl rfl (hb hby d11_11) _ (by rw [len_of Sq3 Mq3]; exact κ)) ?_
  show own_End p e below s (s₁.setTop (mkF m 12 #[.val (.ref o0), .val (.ref o1), .val (.int (0 : Int32))] [(.int (2 : Int32)), (.int (0 : Int32))])) _ _ _
  refine own_go (fun τ κ => XS.icmpNo X0.here hx rfl (hb hby d11_12) rfl (own_tlt (x := (0 : Int32)) (y := (2 : Int32)) (i := 0) (j := 2) rfl rfl (by decide)).2.1 κ) ?_
  show own_End p e below s (s₁.setTop (mkF m 15 #[.val (.ref o0), .val (.ref o1), .val (.int (0 : Int32))] [])) _ _ _
  refine own_go (fun τ κ => XS.aloadN X0.here hx rfl (hb hby d11_15) rfl rfl κ) ?_
  show own_End p e below s (s₁.setTop (mkF m 16 #[.val (.ref o0), .val (.ref o1), .val (.int (0 : Int32))] [(.ref o0)])) _ _ _
  refine own_go (fun τ κ => XS.iloadN X0.here hx rfl (hb hby d11_16) rfl κ) ?_
  show own_End p e below s (s₁.setTop (mkF m 17 #[.val (.ref o0), .val (.ref o1), .val (.int (0 : Int32))] [(.int (0 : Int32)), (.ref o0)])) _ _ _
  obtain ⟨cl4, Ar4, qa4, Sq4, Mq4, Hh4, Gq4⟩ := id V0
  have hin4 : ¬ ((0 : Int32) < 0 ∨ cl4.slots.size ≤ ((0 : Int32)).toNatClampNeg) := inb_of Sq4 ⟨by decide, by decide⟩
  refine own_go (fun τ κ => X0.baloadBytes hx (j := (0 : Int32)) (v := (.int u0)) (by rw [e0]; exact Ar4.1) (State.isArrayOf_alike hZ.alike Ar4.2.1) Ar4.2.2 hin4 (Hh4.at hin4 rfl) (g := (mkF m 17 #[.val (.ref o0), .val (.ref o1), .val (.int (0 : Int32))] [(.int (0 : Int32)), (.ref o0)])) rfl rfl (hb hby d11_17) _ κ) ?_
  show own_End p e below s (s₁.setTop (mkF m 18 #[.val (.ref o0), .val (.ref o1), .val (.int (0 : Int32))] [(.int u0)])) _ _ _
  refine own_go (fun τ κ => XS.aloadN X0.here hx rfl (hb hby d11_18) rfl rfl κ) ?_
  show own_End p e below s (s₁.setTop (mkF m 19 #[.val (.ref o0), .val (.ref o1), .val (.int (0 : Int32))] [(.ref o1), (.int u0)])) _ _ _
  refine own_go (fun τ κ => XS.iloadN X0.here hx rfl (hb hby d11_19) rfl κ) ?_
  show own_End p e below s (s₁.setTop (mkF m 20 #[.val (.ref o0), .val (.ref o1), .val (.int (0 : Int32))] [(.int (0 : Int32)), (.ref o1), (.int u0)])) _ _ _
  obtain ⟨cl5, Ar5, qa5, Sq5, Mq5, Hh5, Gq5⟩ := id V1
  have hin5 : ¬ ((0 : Int32) < 0 ∨ cl5.slots.size ≤ ((0 : Int32)).toNatClampNeg) := inb_of Sq5 ⟨by decide, by decide⟩
  refine own_go (fun τ κ => X0.baloadBytes hx (j := (0 : Int32)) (v := (.int w0)) (by rw [e0]; exact Ar5.1) (State.isArrayOf_alike hZ.alike Ar5.2.1) Ar5.2.2 hin5 (Hh5.at hin5 rfl) (g := (mkF m 20 #[.val (.ref o0), .val (.ref o1), .val (.int (0 : Int32))] [(.int (0 : Int32)), (.ref o1), (.int u0)])) rfl rfl (hb hby d11_20) _ κ) ?_
  show own_End p e below s (s₁.setTop (mkF m 21 #[.val (.ref o0), .val (.ref o1), .val (.int (0 : Int32))] [(.int w0), (.int u0)])) _ _ _
  by_cases c21_6 : u0.toInt = w0.toInt
  · skip
    refine own_go (fun τ κ => XS.icmpYes X0.here hx rfl (pc0 := 21) (pc' := 26) rfl (hb hby d11_21) rfl (own_eq (x := u0) (y := w0) (i := u0.toInt) (j := w0.toInt) rfl rfl c21_6).1 (by decide) (by decide) κ) ?_
    show own_End p e below s (s₁.setTop (mkF m 26 #[.val (.ref o0), .val (.ref o1), .val (.int (0 : Int32))] [])) _ _ _
    refine own_go (fun τ κ => XS.iinc X0.here hx rfl (hb hby d11_26) rfl (l' := #[.val (.ref o0), .val (.ref o1), .val (.int (1 : Int32))]) rfl κ) ?_
    show own_End p e below s (s₁.setTop (mkF m 29 #[.val (.ref o0), .val (.ref o1), .val (.int (1 : Int32))] [])) _ _ _
    refine own_go (fun τ κ => XS.goto X0.here hx rfl (pc0 := 29) (pc' := 9) rfl (hb hby d11_29) (by decide) (by decide) κ) ?_
    show own_End p e below s (s₁.setTop (mkF m 9 #[.val (.ref o0), .val (.ref o1), .val (.int (1 : Int32))] [])) _ _ _
    refine own_go (fun τ κ => XS.iloadN X0.here hx rfl (hb hby d11_9) rfl κ) ?_
    show own_End p e below s (s₁.setTop (mkF m 10 #[.val (.ref o0), .val (.ref o1), .val (.int (1 : Int32))] [(.int (1 : Int32))])) _ _ _
    refine own_go (fun τ κ => XS.aloadN X0.here hx rfl (hb hby d11_10) rfl rfl κ) ?_
    show own_End p e below s (s₁.setTop (mkF m 11 #[.val (.ref o0), .val (.ref o1), .val (.int (1 : Int32))] [(.ref o0), (.int (1 : Int32))])) _ _ _
    obtain ⟨cl7, Ar7, qa7, Sq7, Mq7, Hh7, Gq7⟩ := id V0
    refine own_go (fun τ κ => X0.arraylength hx (by rw [e0]; exact Ar7.1) (State.isArrayOf_alike hZ.alike Ar7.2.1) (g := (mkF m 11 #[.val (.ref o0), .val (.ref o1), .val (.int (1 : Int32))] [(.ref o0), (.int (1 : Int32))])) rfl rfl (hb hby d11_11) _ (by rw [len_of Sq7 Mq7]; exact κ)) ?_
    show own_End p e below s (s₁.setTop (mkF m 12 #[.val (.ref o0), .val (.ref o1), .val (.int (1 : Int32))] [(.int (2 : Int32)), (.int (1 : Int32))])) _ _ _
    refine own_go (fun τ κ => XS.icmpNo X0.here hx rfl (hb hby d11_12) rfl (own_tlt (x := (1 : Int32)) (y := (2 : Int32)) (i := 1) (j := 2) rfl rfl (by decide)).2.1 κ) ?_
    show own_End p e below s (s₁.setTop (mkF m 15 #[.val (.ref o0), .val (.ref o1), .val (.int (1 : Int32))] [])) _ _ _
    refine own_go (fun τ κ => XS.aloadN X0.here hx rfl (hb hby d11_15) rfl rfl κ) ?_
    show own_End p e below s (s₁.setTop (mkF m 16 #[.val (.ref o0), .val (.ref o1), .val (.int (1 : Int32))] [(.ref o0)])) _ _ _
    refine own_go (fun τ κ => XS.iloadN X0.here hx rfl (hb hby d11_16) rfl κ) ?_
    show own_End p e below s (s₁.setTop (mkF m 17 #[.val (.ref o0), .val (.ref o1), .val (.int (1 : Int32))] [(.int (1 : Int32)), (.ref o0)])) _ _ _
    obtain ⟨cl8, Ar8, qa8, Sq8, Mq8, Hh8, Gq8⟩ := id V0
    have hin8 : ¬ ((1 : Int32) < 0 ∨ cl8.slots.size ≤ ((1 : Int32)).toNatClampNeg) := inb_of Sq8 ⟨by decide, by decide⟩
    refine own_go (fun τ κ => X0.baloadBytes hx (j := (1 : Int32)) (v := (.int u1)) (by rw [e0]; exact Ar8.1) (State.isArrayOf_alike hZ.alike Ar8.2.1) Ar8.2.2 hin8 (Hh8.at hin8 rfl) (g := (mkF m 17 #[.val (.ref o0), .val (.ref o1), .val (.int (1 : Int32))] [(.int (1 : Int32)), (.ref o0)])) rfl rfl (hb hby d11_17) _ κ) ?_
    show own_End p e below s (s₁.setTop (mkF m 18 #[.val (.ref o0), .val (.ref o1), .val (.int (1 : Int32))] [(.int u1)])) _ _ _
    refine own_go (fun τ κ => XS.aloadN X0.here hx rfl (hb hby d11_18) rfl rfl κ) ?_
    show own_End p e below s (s₁.setTop (mkF m 19 #[.val (.ref o0), .val (.ref o1), .val (.int (1 : Int32))] [(.ref o1), (.int u1)])) _ _ _
    refine own_go (fun τ κ => XS.iloadN X0.here hx rfl (hb hby d11_19) rfl κ) ?_
    show own_End p e below s (s₁.setTop (mkF m 20 #[.val (.ref o0), .val (.ref o1), .val (.int (1 : Int32))] [(.int (1 : Int32)), (.ref o1), (.int u1)])) _ _ _
    obtain ⟨cl9, Ar9, qa9, Sq9, Mq9, Hh9, Gq9⟩ := id V1
    have hin9 : ¬ ((1 : Int32) < 0 ∨ cl9.slots.size ≤ ((1 : Int32)).toNatClampNeg) := inb_of Sq9 ⟨by decide, by decide⟩
    refine own_go (fun τ κ => X0.baloadBytes hx (j := (1 : Int32)) (v := (.int w1)) (by rw [e0]; exact Ar9.1) (State.isArrayOf_alike hZ.alike Ar9.2.1) Ar9.2.2 hin9 (Hh9.at hin9 rfl) (g := (mkF m 20 #[.val (.ref o0), .val (.ref o1), .val (.int (1 : Int32))] [(.int (1 : Int32)), (.ref o1), (.int u1)])) rfl rfl (hb hby d11_20) _ κ) ?_
    show own_End p e below s (s₁.setTop (mkF m 21 #[.val (.ref o0), .val (.ref o1), .val (.int (1 : Int32))] [(.int w1), (.int u1)])) _ _ _
    by_cases c21_10 : u1.toInt = w1.toInt
    · skip
      refine own_go (fun τ κ => XS.icmpYes X0.here hx rfl (pc0 := 21) (pc' := 26) rfl (hb hby d11_21) rfl (own_eq (x := u1) (y := w1) (i := u1.toInt) (j := w1.toInt) rfl rfl c21_10).1 (by decide) (by decide) κ) ?_
      show own_End p e below s (s₁.setTop (mkF m 26 #[.val (.ref o0), .val (.ref o1), .val (.int (1 : Int32))] [])) _ _ _
      refine own_go (fun τ κ => XS.iinc X0.here hx rfl (hb hby d11_26) rfl (l' := #[.val (.ref o0), .val (.ref o1), .val (.int (2 : Int32))]) rfl κ) ?_
      show own_End p e below s (s₁.setTop (mkF m 29 #[.val (.ref o0), .val (.ref o1), .val (.int (2 : Int32))] [])) _ _ _
      refine own_go (fun τ κ => XS.goto X0.here hx rfl (pc0 := 29) (pc' := 9) rfl (hb hby d11_29) (by decide) (by decide) κ) ?_
      show own_End p e below s (s₁.setTop (mkF m 9 #[.val (.ref o0), .val (.ref o1), .val (.int (2 : Int32))] [])) _ _ _
      refine own_go (fun τ κ => XS.iloadN X0.here hx rfl (hb hby d11_9) rfl κ) ?_
      show own_End p e below s (s₁.setTop (mkF m 10 #[.val (.ref o0), .val (.ref o1), .val (.int (2 : Int32))] [(.int (2 : Int32))])) _ _ _
      refine own_go (fun τ κ => XS.aloadN X0.here hx rfl (hb hby d11_10) rfl rfl κ) ?_
      show own_End p e below s (s₁.setTop (mkF m 11 #[.val (.ref o0), .val (.ref o1), .val (.int (2 : Int32))] [(.ref o0), (.int (2 : Int32))])) _ _ _
      obtain ⟨cl11, Ar11, qa11, Sq11, Mq11, Hh11, Gq11⟩ := id V0
      refine own_go (fun τ κ => X0.arraylength hx (by rw [e0]; exact Ar11.1) (State.isArrayOf_alike hZ.alike Ar11.2.1) (g := (mkF m 11 #[.val (.ref o0), .val (.ref o1), .val (.int (2 : Int32))] [(.ref o0), (.int (2 : Int32))])) rfl rfl (hb hby d11_11) _ (by rw [len_of Sq11 Mq11]; exact κ)) ?_
      show own_End p e below s (s₁.setTop (mkF m 12 #[.val (.ref o0), .val (.ref o1), .val (.int (2 : Int32))] [(.int (2 : Int32)), (.int (2 : Int32))])) _ _ _
      refine own_go (fun τ κ => XS.icmpYes X0.here hx rfl (pc0 := 12) (pc' := 32) rfl (hb hby d11_12) rfl (own_flt (x := (2 : Int32)) (y := (2 : Int32)) (i := 2) (j := 2) rfl rfl (by decide)).2.1 (by decide) (by decide) κ) ?_
      show own_End p e below s (s₁.setTop (mkF m 32 #[.val (.ref o0), .val (.ref o1), .val (.int (2 : Int32))] [])) _ _ _
      refine own_go (fun τ κ => XS.iconst X0.here hx rfl (hb hby d11_32) κ) ?_
      show own_End p e below s (s₁.setTop (mkF m 33 #[.val (.ref o0), .val (.ref o1), .val (.int (2 : Int32))] [(.int (1 : Int32))])) _ _ _
      refine own_ret X0 (v := some (.int (1 : Int32))) (fun h => by rw [Bd.returns] at h; cases h) Bd.notSynchronized (fun fs hr => retN X0 hx (t := .boolean) Bd.returns (by simp) (hb hby d11_33) hr) ?_ (by decide) (by decide)
      · rw [e0]; exact ⟨⟨_, rfl, by omega⟩, N0, rfl⟩
    · skip
      refine own_go (fun τ κ => XS.icmpNo X0.here hx rfl (hb hby d11_21) rfl (own_ne (x := u1) (y := w1) (i := u1.toInt) (j := w1.toInt) rfl rfl c21_10).1 κ) ?_
      show own_End p e below s (s₁.setTop (mkF m 24 #[.val (.ref o0), .val (.ref o1), .val (.int (1 : Int32))] [])) _ _ _
      refine own_go (fun τ κ => XS.iconst X0.here hx rfl (hb hby d11_24) κ) ?_
      show own_End p e below s (s₁.setTop (mkF m 25 #[.val (.ref o0), .val (.ref o1), .val (.int (1 : Int32))] [(.int (0 : Int32))])) _ _ _
      refine own_ret X0 (v := some (.int (0 : Int32))) (fun h => by rw [Bd.returns] at h; cases h) Bd.notSynchronized (fun fs hr => retN X0 hx (t := .boolean) Bd.returns (by simp) (hb hby d11_25) hr) ?_ (by decide) (by decide)
      · rw [e0]; exact ⟨⟨_, rfl, by omega⟩, N0, rfl⟩
  · skip
    refine own_go (fun τ κ => XS.icmpNo X0.here hx rfl (hb hby d11_21) rfl (own_ne (x := u0) (y := w0) (i := u0.toInt) (j := w0.toInt) rfl rfl c21_6).1 κ) ?_
    show own_End p e below s (s₁.setTop (mkF m 24 #[.val (.ref o0), .val (.ref o1), .val (.int (0 : Int32))] [])) _ _ _
    refine own_go (fun τ κ => XS.iconst X0.here hx rfl (hb hby d11_24) κ) ?_
    show own_End p e below s (s₁.setTop (mkF m 25 #[.val (.ref o0), .val (.ref o1), .val (.int (0 : Int32))] [(.int (0 : Int32))])) _ _ _
    refine own_ret X0 (v := some (.int (0 : Int32))) (fun h => by rw [Bd.returns] at h; cases h) Bd.notSynchronized (fun fs hr => retN X0 hx (t := .boolean) Bd.returns (by simp) (hb hby d11_25) hr) ?_ (by decide) (by decide)
    · rw [e0]; exact ⟨⟨_, rfl, by omega⟩, N0, rfl⟩
theorem own_ef10_rmE2_2 (m : MethodId) (o0 : Addr) (o1 : Addr) : entryFrame m #[(.ref o0), (.ref o1)] 3 = mkF m 0 #[.val (.ref o0), .val (.ref o1), .unset] [] := by first | (simp [entryFrame, mkF, argsToLocals, Value.category]; done) | rfl
def Q_rmE2_2 (Z : State) (o0 : Addr) (o1 : Addr) (b0 : Addr) (k0 : ClassId) (b1 : Addr) (k1 : ClassId) (cz : Int32) (u0 : Int32) (u1 : Int32) (w0 : Int32) (w1 : Int32) (h0 : Heap) (n0 : Nat) (v : Option Value) (h : Heap) (L : List Loc) : Prop := (∃ z, v = some (.int z) ∧ (z.toInt = 1 ∧ (u0.toInt = w0.toInt ∧ u1.toInt = w1.toInt) ∨ z.toInt = 0 ∧ ¬ (u0.toInt = w0.toInt ∧ u1.toInt = w1.toInt))) ∧ Fr n0 L ∧ h = h0
set_option maxRecDepth 65536 in
set_option maxHeartbeats 40000000 in
theorem rmE2_2 (l : Launch) (Z : State) (a0 : Array Value) (hw : ∀ d ∈ tables_1, d.before a0 Z = true) (ws : List Jvm.Cond) (o0 : Addr) (o1 : Addr) (b0 : Addr) (k0 : ClassId) (b1 : Addr) (k1 : ClassId) (cz : Int32) (u0 : Int32) (u1 : Int32) (w0 : Int32) (w1 : Int32) (h0 : Heap) (n0 : Nat) (Z0 : n0 ≤ h0.size) (hne : ¬ o0 = o1) (S0 : own_Str Z h0 o0 b0 k0 (2 : Int32) [(.int u0), (.int u1)]) (S1 : own_Str Z h0 o1 b1 k1 (2 : Int32) [(.int w0), (.int w1)]) (Ol : Old Z n0 h0) (S_C : Sta Z Z.heap "java/lang/String" "COMPACT_STRINGS" "Z" (.int cz)) (hcz : ¬ cz.toInt = 0) :
    MetFree l (⟨"java/lang/String", "equals", "(Ljava/lang/Object;)Z"⟩ : MethodName) (head1 (Jvm.Cond.code (⟨"java/lang/String", "equals", "(Ljava/lang/Object;)Z"⟩ : MethodName) jdk_42_method_66_code 3 (some .boolean) :: ws) ({ frames := 1, cells := 0, slots := 0, locals := 14 } : Room)) (fun a U => a = #[(.ref o0), (.ref o1)] ∧ Z.Warmed39 U.vm ∧ U.heap = h0) (fun _ _ _ _ _ => True) (fun _ U o U' => ∃ v L, o = .returned v ∧ Q_rmE2_2 Z o0 o1 b0 k0 b1 k1 cz u0 u1 w0 w1 h0 n0 v U'.heap L ∧ FrameEnd U o U' L ({ frames := 1, cells := 0, slots := 0, locals := 14 } : Room).cells ({ frames := 1, cells := 0, slots := 0, locals := 14 } : Room).slots) := by
  refine MetFree.of_bodySF (plainFor_of_name own_pn0) hisR ?_
  intro p e s m args below meth c s₁ Bd hml0 hP hK
  obtain ⟨rfl, hZ, hh⟩ := hP
  have hx := Bd.exec
  have hby := Bd.bytes
  have hml : c.maxLocals = 3 := hml0
  have hown : s.vm.findClass "java/lang/String" = some m.cls := findClass_of_methodNamed Bd.named
  have hnm := (name_of_methodNamed Bd.named Bd.method).1
  have X0 : Stand p l e ({ frames := 1, cells := 0, slots := 0, locals := 14 } : Room) s m #[(.ref o0), (.ref o1)] below meth c s₁ [] 0 0 := Stand.of_body Bd
  have e0 : s₁.heap = h0 := by rw [← hh, Bd.state]; rfl
  have N0 := Fr.nil n0
  refine (show own_End p e below s (s₁.setTop (entryFrame m #[(.ref o0), (.ref o1)] 3)) (Q_rmE2_2 Z o0 o1 b0 k0 b1 k1 cz u0 u1 w0 w1 h0 n0) ({ frames := 1, cells := 0, slots := 0, locals := 14 } : Room).cells ({ frames := 1, cells := 0, slots := 0, locals := 14 } : Room).slots from ?_)
  refine own_go (fun τ κ => castTop (own_ef10_rmE2_2 m o0 o1) κ) ?_
  have li0 : (0 : Int32).toInt = 0 := rfl
  have li1 : (1 : Int32).toInt = 1 := rfl
  show own_End p e below s (s₁.setTop (mkF m 0 #[.val (.ref o0), .val (.ref o1), .unset] [])) _ _ _
  obtain ⟨E0, Fv0, Fc0, V0⟩ := S0
  obtain ⟨E1, Fv1, Fc1, V1⟩ := S1
  refine own_go (fun τ κ => XS.aloadN X0.here hx rfl (hb hby d10_0) rfl rfl κ) ?_
  show own_End p e below s (s₁.setTop (mkF m 1 #[.val (.ref o0), .val (.ref o1), .unset] [(.ref o0)])) _ _ _
  refine own_go (fun τ κ => XS.aloadN X0.here hx rfl (hb hby d10_1) rfl rfl κ) ?_
  show own_End p e below s (s₁.setTop (mkF m 2 #[.val (.ref o0), .val (.ref o1), .unset] [(.ref o1), (.ref o0)])) _ _ _
  refine own_go (fun τ κ => Jvm.RoadKit.acmp (g := (mkF m 2 #[.val (.ref o0), .val (.ref o1), .unset] [(.ref o1), (.ref o0)])) X0 hx rfl rfl rfl (pc0 := 2) (pc' := 7) (same := false) rfl (hb hby d10_2) rfl (decide_eq_false fun q => hne (Value.ref.inj q)) (by decide) (by decide) κ) ?_
  show own_End p e below s (s₁.setTop (mkF m 7 #[.val (.ref o0), .val (.ref o1), .unset] [])) _ _ _
  refine own_go (fun τ κ => XS.aloadN X0.here hx rfl (hb hby d10_7) rfl rfl κ) ?_
  show own_End p e below s (s₁.setTop (mkF m 8 #[.val (.ref o0), .val (.ref o1), .unset] [(.ref o1)])) _ _ _
  obtain ⟨T1, X1, e1, st1⟩ := instY X0 hx hZ hown (hw _ (List.mem_of_getElem? (i := 10) rfl)) e0 (Ins.self E1) (g := (mkF m 8 #[.val (.ref o0), .val (.ref o1), .unset] [(.ref o1)])) rfl rfl (hb hby d10_8)
  refine own_go st1 ?_
  show own_End p e below s (T1.setTop (mkF m 11 #[.val (.ref o0), .val (.ref o1), .unset] [(.int (1 : Int32))])) _ _ _
  refine own_go (fun τ κ => XS.ifNo X1.here hx rfl (hb hby d10_11) rfl ((if0 _ _).trans (own_ne (x := (1 : Int32)) (y := (0 : Int32)) (i := 1) (j := 0) rfl rfl (by decide)).1) κ) ?_
  show own_End p e below s (T1.setTop (mkF m 14 #[.val (.ref o0), .val (.ref o1), .unset] [])) _ _ _
  refine own_go (fun τ κ => XS.aloadN X1.here hx rfl (hb hby d10_14) rfl rfl κ) ?_
  show own_End p e below s (T1.setTop (mkF m 15 #[.val (.ref o0), .val (.ref o1), .unset] [(.ref o1)])) _ _ _
  obtain ⟨T2, X2, e2, st2⟩ := castY X1 hx hZ hown (hw _ (List.mem_of_getElem? (i := 10) rfl)) e1 (Ins.self E1) (g := (mkF m 15 #[.val (.ref o0), .val (.ref o1), .unset] [(.ref o1)])) rfl rfl (hb hby d10_15)
  refine own_go st2 ?_
  show own_End p e below s (T2.setTop (mkF m 18 #[.val (.ref o0), .val (.ref o1), .unset] [(.ref o1)])) _ _ _
  refine own_go (fun τ κ => XS.astoreN X2.here hx rfl (hb hby d10_18) rfl rfl (l' := #[.val (.ref o0), .val (.ref o1), .val (.ref o1)]) rfl κ) ?_
  show own_End p e below s (T2.setTop (mkF m 19 #[.val (.ref o0), .val (.ref o1), .val (.ref o1)] [])) _ _ _
  obtain ⟨T3, X3, e3, st3⟩ := getS2 X2 hx hZ hown (host := "") (Or.inl (hw _ (List.mem_of_getElem? (i := 5) rfl))) Via.refl e2 (S_C.ext Ol.2) (g := (mkF m 19 #[.val (.ref o0), .val (.ref o1), .val (.ref o1)] [])) rfl (hb hby d10_19)
  refine own_go st3 ?_
  show own_End p e below s (T3.setTop (mkF m 22 #[.val (.ref o0), .val (.ref o1), .val (.ref o1)] [(.int cz)])) _ _ _
  refine own_go (fun τ κ => XS.ifNo X3.here hx rfl (hb hby d10_22) rfl ((if0 _ _).trans (own_ne (x := cz) (y := (0 : Int32)) (i := cz.toInt) (j := 0) rfl rfl hcz).1) κ) ?_
  show own_End p e below s (T3.setTop (mkF m 25 #[.val (.ref o0), .val (.ref o1), .val (.ref o1)] [])) _ _ _
  refine own_go (fun τ κ => XS.aloadN X3.here hx rfl (hb hby d10_25) rfl rfl κ) ?_
  show own_End p e below s (T3.setTop (mkF m 26 #[.val (.ref o0), .val (.ref o1), .val (.ref o1)] [(.ref o0)])) _ _ _
  obtain ⟨T4, X4, e4, st4⟩ := getF X3 hx hZ hown (host := "") (Or.inl (hw _ (List.mem_of_getElem? (i := 25) rfl))) Via.refl e3 Fc0 (g := (mkF m 26 #[.val (.ref o0), .val (.ref o1), .val (.ref o1)] [(.ref o0)])) rfl rfl (hb hby d10_26)
  refine own_go st4 ?_
  show own_End p e below s (T4.setTop (mkF m 29 #[.val (.ref o0), .val (.ref o1), .val (.ref o1)] [(.int (0 : Int32))])) _ _ _
  refine own_go (fun τ κ => XS.aloadN X4.here hx rfl (hb hby d10_29) rfl rfl κ) ?_
  show own_End p e below s (T4.setTop (mkF m 30 #[.val (.ref o0), .val (.ref o1), .val (.ref o1)] [(.ref o1), (.int (0 : Int32))])) _ _ _
  obtain ⟨T5, X5, e5, st5⟩ := getF X4 hx hZ hown (host := "") (Or.inl (hw _ (List.mem_of_getElem? (i := 25) rfl))) Via.refl e4 Fc1 (g := (mkF m 30 #[.val (.ref o0), .val (.ref o1), .val (.ref o1)] [(.ref o1), (.int (0 : Int32))])) rfl rfl (hb hby d10_30)
  refine own_go st5 ?_
  show own_End p e below s (T5.setTop (mkF m 33 #[.val (.ref o0), .val (.ref o1), .val (.ref o1)] [(.int (0 : Int32)), (.int (0 : Int32))])) _ _ _
  refine own_go (fun τ κ => XS.icmpNo X5.here hx rfl (hb hby d10_33) rfl (own_eq (x := (0 : Int32)) (y := (0 : Int32)) (i := 0) (j := 0) rfl rfl (by decide)).2 κ) ?_
  show own_End p e below s (T5.setTop (mkF m 36 #[.val (.ref o0), .val (.ref o1), .val (.ref o1)] [])) _ _ _
  refine own_go (fun τ κ => XS.aloadN X5.here hx rfl (hb hby d10_36) rfl rfl κ) ?_
  show own_End p e below s (T5.setTop (mkF m 37 #[.val (.ref o0), .val (.ref o1), .val (.ref o1)] [(.ref o0)])) _ _ _
  obtain ⟨T6, X6, e6, st6⟩ := getF X5 hx hZ hown (host := "") (Or.inl (hw _ (List.mem_of_getElem? (i := 23) rfl))) Via.refl e5 Fv0 (g := (mkF m 37 #[.val (.ref o0), .val (.ref o1), .val (.ref o1)] [(.ref o0)])) rfl rfl (hb hby d10_37)
  refine own_go st6 ?_
  show own_End p e below s (T6.setTop (mkF m 40 #[.val (.ref o0), .val (.ref o1), .val (.ref o1)] [(.ref b0)])) _ _ _
  refine own_go (fun τ κ => XS.aloadN X6.here hx rfl (hb hby d10_40) rfl rfl κ) ?_
  show own_End p e below s (T6.setTop (mkF m 41 #[.val (.ref o0), .val (.ref o1), .val (.ref o1)] [(.ref o1), (.ref b0)])) _ _ _
  obtain ⟨T7, X7, e7, st7⟩ := getF X6 hx hZ hown (host := "") (Or.inl (hw _ (List.mem_of_getElem? (i := 23) rfl))) Via.refl e6 Fv1 (g := (mkF m 41 #[.val (.ref o0), .val (.ref o1), .val (.ref o1)] [(.ref o1), (.ref b0)])) rfl rfl (hb hby d10_41)
  refine own_go st7 ?_
  show own_End p e below s (T7.setTop (mkF m 44 #[.val (.ref o0), .val (.ref o1), .val (.ref o1)] [(.ref b1), (.ref b0)])) _ _ _
  obtain ⟨_, _, ⟨T8, L8, k8, n8⟩, -, X8, ⟨Lc8, hQ8, l8, y8, z8⟩, st8⟩ := Jvm.LawKit.callS X7 hx (y := (⟨"java/lang/StringLatin1", "equals", "([B[B)Z"⟩ : MethodName)) hown (mvT hZ (hw _ (List.mem_of_getElem? (i := 50) rfl))) (mvT hZ (hw _ (List.mem_of_getElem? (i := 51) rfl))) (mvT hZ (hw _ (List.mem_of_getElem? (i := 8) rfl))) (mvT hZ (hw _ (List.mem_of_getElem? (i := 52) rfl))) (by decide) (backOf (W := 0) (rmL2_2 l Z a0 hw [] b0 b1 k0 k1 u0 u1 w0 w1 h0 n0 Z0 V0 V1) hZ (hw _ (List.mem_of_getElem? (i := 52) rfl)) (hw _ (List.mem_of_getElem? (i := 8) rfl)) (by decide) (by decide)) (g := (mkF m 44 #[.val (.ref o0), .val (.ref o1), .val (.ref o1)] [(.ref b1), (.ref b0)])) rfl (by rw [hml]; rfl) (argsL := [(.ref b0), (.ref b1)]) (rest := []) (lenOf own_pd7 rfl) rfl (by show 2 * 0 + _ ≤ _; exact Nat.le_of_eq rfl) (hb hby d10_44) (fun _ _ => ⟨rfl, e7, (by decide : 0 + 0 ≤ _), (by decide : 0 + 0 ≤ _)⟩)
  dsimp only [Pt.U, Pt.locs, Pt.cells, Pt.slots] at X8 l8 y8 z8 st8 hQ8
  subst l8 y8 z8
  obtain ⟨⟨r8, rfl, hr8⟩, N8q, e8⟩ := hQ8
  have N8 := Fr.app N0 N8q
  obtain ⟨ls8, Xl8, Nl8⟩ := own_abs X8 N8
  refine own_go st8 ?_
  show own_End p e below s (T8.setTop (mkF m 47 #[.val (.ref o0), .val (.ref o1), .val (.ref o1)] [(.int r8)])) _ _ _
  by_cases c47_9 : r8.toInt = 0
  · skip
    refine own_go (fun τ κ => XS.ifYes Xl8.here hx rfl (pc0 := 47) (pc' := 54) rfl (hb hby d10_47) rfl ((if0 _ _).trans (own_eq (x := r8) (y := (0 : Int32)) (i := r8.toInt) (j := 0) rfl rfl c47_9).1) (by decide) (by decide) κ) ?_
    show own_End p e below s (T8.setTop (mkF m 54 #[.val (.ref o0), .val (.ref o1), .val (.ref o1)] [])) _ _ _
    refine own_go (fun τ κ => XS.iconst Xl8.here hx rfl (hb hby d10_54) κ) ?_
    show own_End p e below s (T8.setTop (mkF m 55 #[.val (.ref o0), .val (.ref o1), .val (.ref o1)] [(.int (0 : Int32))])) _ _ _
    refine own_ret Xl8 (v := some (.int (0 : Int32))) (fun h => by rw [Bd.returns] at h; cases h) Bd.notSynchronized (fun fs hr => retN Xl8 hx (t := .boolean) Bd.returns (by simp) (hb hby d10_55) hr) ?_ (by decide) (by decide)
    · rw [e8]; exact ⟨⟨_, rfl, by omega⟩, Nl8, rfl⟩
  · skip
    refine own_go (fun τ κ => XS.ifNo Xl8.here hx rfl (hb hby d10_47) rfl ((if0 _ _).trans (own_ne (x := r8) (y := (0 : Int32)) (i := r8.toInt) (j := 0) rfl rfl c47_9).1) κ) ?_
    show own_End p e below s (T8.setTop (mkF m 50 #[.val (.ref o0), .val (.ref o1), .val (.ref o1)] [])) _ _ _
    refine own_go (fun τ κ => XS.iconst Xl8.here hx rfl (hb hby d10_50) κ) ?_
    show own_End p e below s (T8.setTop (mkF m 51 #[.val (.ref o0), .val (.ref o1), .val (.ref o1)] [(.int (1 : Int32))])) _ _ _
    refine own_go (fun τ κ => XS.goto Xl8.here hx rfl (pc0 := 51) (pc' := 55) rfl (hb hby d10_51) (by decide) (by decide) κ) ?_
    show own_End p e below s (T8.setTop (mkF m 55 #[.val (.ref o0), .val (.ref o1), .val (.ref o1)] [(.int (1 : Int32))])) _ _ _
    refine own_ret Xl8 (v := some (.int (1 : Int32))) (fun h => by rw [Bd.returns] at h; cases h) Bd.notSynchronized (fun fs hr => retN Xl8 hx (t := .boolean) Bd.returns (by simp) (hb hby d10_55) hr) ?_ (by decide) (by decide)
    · rw [e8]; exact ⟨⟨_, rfl, by omega⟩, Nl8, rfl⟩
theorem own_pn3 : plainName "java/lang/Integer" = true := by first | (simp [plainName, overriddenIn]; done) | decide +kernel
theorem own_ef8_rmZ1 (m : MethodId) (p0 : Int32) : entryFrame m #[(.int p0)] 4 = mkF m 0 #[.val (.int p0), .unset, .unset, .unset] [] := by first | (simp [entryFrame, mkF, argsToLocals, Value.category]; done) | rfl
def Q_rmZ1 (Z : State) (p0 : Int32)  (h0 : Heap) (n0 : Nat) (v : Option Value) (h : Heap) (L : List Loc) : Prop := v = some (.int (1 : Int32)) ∧ Fr n0 L ∧ h = h0
theorem d8_0 : decode jdk_33_method_13_code 0 = .ok (.iconst 1, 1) := by decide +kernel
theorem d8_1 : decode jdk_33_method_13_code 1 = .ok (.istore_n 1, 1) := by decide +kernel
theorem d8_2 : decode jdk_33_method_13_code 2 = .ok (.iload_n 0, 1) := by decide +kernel
theorem d8_3 : decode jdk_33_method_13_code 3 = .ok (.ifCond .lt 8, 3) := by decide +kernel
theorem d8_6 : decode jdk_33_method_13_code 6 = .ok (.iconst 0, 1) := by decide +kernel
theorem d8_7 : decode jdk_33_method_13_code 7 = .ok (.istore_n 1, 1) := by decide +kernel
theorem d8_8 : decode jdk_33_method_13_code 8 = .ok (.iload_n 0, 1) := by decide +kernel
theorem d8_9 : decode jdk_33_method_13_code 9 = .ok (.ineg, 1) := by decide +kernel
theorem d8_10 : decode jdk_33_method_13_code 10 = .ok (.istore_n 0, 1) := by decide +kernel
theorem d8_11 : decode jdk_33_method_13_code 11 = .ok (.bipush (-10), 2) := by decide +kernel
theorem d8_13 : decode jdk_33_method_13_code 13 = .ok (.istore_n 2, 1) := by decide +kernel
theorem d8_14 : decode jdk_33_method_13_code 14 = .ok (.iconst 1, 1) := by decide +kernel
theorem d8_15 : decode jdk_33_method_13_code 15 = .ok (.istore_n 3, 1) := by decide +kernel
theorem d8_16 : decode jdk_33_method_13_code 16 = .ok (.iload_n 3, 1) := by decide +kernel
theorem d8_17 : decode jdk_33_method_13_code 17 = .ok (.bipush 10, 2) := by decide +kernel
theorem d8_19 : decode jdk_33_method_13_code 19 = .ok (.if_icmp .ge 23, 3) := by decide +kernel
theorem d8_22 : decode jdk_33_method_13_code 22 = .ok (.iload_n 0, 1) := by decide +kernel
theorem d8_23 : decode jdk_33_method_13_code 23 = .ok (.iload_n 2, 1) := by decide +kernel
theorem d8_24 : decode jdk_33_method_13_code 24 = .ok (.if_icmp .le 7, 3) := by decide +kernel
theorem d8_27 : decode jdk_33_method_13_code 27 = .ok (.iload_n 3, 1) := by decide +kernel
theorem d8_28 : decode jdk_33_method_13_code 28 = .ok (.iload_n 1, 1) := by decide +kernel
theorem d8_29 : decode jdk_33_method_13_code 29 = .ok (.iadd, 1) := by decide +kernel
theorem d8_30 : decode jdk_33_method_13_code 30 = .ok (.ireturn, 1) := by decide +kernel
set_option maxRecDepth 65536 in
set_option maxHeartbeats 40000000 in
theorem rmZ1 (l : Launch) (Z : State) (a0 : Array Value) (hw : ∀ d ∈ tables_1, d.before a0 Z = true) (ws : List Jvm.Cond) (p0 : Int32)  (h0 : Heap) (n0 : Nat) (Z0 : n0 ≤ h0.size) (hp0 : 0 ≤ p0.toInt) (hp9 : p0.toInt < 10) :
    MetFree l (⟨"java/lang/Integer", "stringSize", "(I)I"⟩ : MethodName) (head1 (Jvm.Cond.code (⟨"java/lang/Integer", "stringSize", "(I)I"⟩ : MethodName) jdk_33_method_13_code 4 (some .int) :: ws) ({ frames := 0, cells := 0, slots := 0, locals := 0 } : Room)) (fun a U => a = #[(.int p0)] ∧ Z.Warmed39 U.vm ∧ U.heap = h0) (fun _ _ _ _ _ => True) (fun _ U o U' => ∃ v L, o = .returned v ∧ Q_rmZ1 Z p0  h0 n0 v U'.heap L ∧ FrameEnd U o U' L ({ frames := 0, cells := 0, slots := 0, locals := 0 } : Room).cells ({ frames := 0, cells := 0, slots := 0, locals := 0 } : Room).slots) := by
  refine MetFree.of_bodySF (plainFor_of_name own_pn3) hisR ?_
  intro p e s m args below meth c s₁ Bd hml0 hP hK
  obtain ⟨rfl, hZ, hh⟩ := hP
  have hx := Bd.exec
  have hby := Bd.bytes
  have hml : c.maxLocals = 4 := hml0
  have hown : s.vm.findClass "java/lang/Integer" = some m.cls := findClass_of_methodNamed Bd.named
  have hnm := (name_of_methodNamed Bd.named Bd.method).1
  have X0 : Stand p l e ({ frames := 0, cells := 0, slots := 0, locals := 0 } : Room) s m #[(.int p0)] below meth c s₁ [] 0 0 := Stand.of_body Bd
  have e0 : s₁.heap = h0 := by rw [← hh, Bd.state]; rfl
  have N0 := Fr.nil n0
  refine (show own_End p e below s (s₁.setTop (entryFrame m #[(.int p0)] 4)) (Q_rmZ1 Z p0  h0 n0) ({ frames := 0, cells := 0, slots := 0, locals := 0 } : Room).cells ({ frames := 0, cells := 0, slots := 0, locals := 0 } : Room).slots from ?_)
  refine own_go (fun τ κ => castTop (own_ef8_rmZ1 m p0) κ) ?_
  have li0 : (0 : Int32).toInt = 0 := rfl
  have li1 : (1 : Int32).toInt = 1 := rfl
  show own_End p e below s (s₁.setTop (mkF m 0 #[.val (.int p0), .unset, .unset, .unset] [])) _ _ _
  have ng := own_negneg (x := p0) (by omega)
  have lm : (-10 : Int32).toInt = -10 := rfl
  have lm2 : (-100 : Int32).toInt = -100 := rfl
  refine own_go (fun τ κ => XS.iconst X0.here hx rfl (hb hby d8_0) κ) ?_
  show own_End p e below s (s₁.setTop (mkF m 1 #[.val (.int p0), .unset, .unset, .unset] [(.int (1 : Int32))])) _ _ _
  refine own_go (fun τ κ => XS.istoreN X0.here hx rfl (hb hby d8_1) rfl (l' := #[.val (.int p0), .val (.int (1 : Int32)), .unset, .unset]) rfl κ) ?_
  show own_End p e below s (s₁.setTop (mkF m 2 #[.val (.int p0), .val (.int (1 : Int32)), .unset, .unset] [])) _ _ _
  refine own_go (fun τ κ => XS.iloadN X0.here hx rfl (hb hby d8_2) rfl κ) ?_
  show own_End p e below s (s₁.setTop (mkF m 3 #[.val (.int p0), .val (.int (1 : Int32)), .unset, .unset] [(.int p0)])) _ _ _
  refine own_go (fun τ κ => XS.ifNo X0.here hx rfl (hb hby d8_3) rfl ((if0 _ _).trans (own_flt (x := p0) (y := (0 : Int32)) (i := p0.toInt) (j := 0) rfl rfl (by omega)).1) κ) ?_
  show own_End p e below s (s₁.setTop (mkF m 6 #[.val (.int p0), .val (.int (1 : Int32)), .unset, .unset] [])) _ _ _
  refine own_go (fun τ κ => XS.iconst X0.here hx rfl (hb hby d8_6) κ) ?_
  show own_End p e below s (s₁.setTop (mkF m 7 #[.val (.int p0), .val (.int (1 : Int32)), .unset, .unset] [(.int (0 : Int32))])) _ _ _
  refine own_go (fun τ κ => XS.istoreN X0.here hx rfl (hb hby d8_7) rfl (l' := #[.val (.int p0), .val (.int (0 : Int32)), .unset, .unset]) rfl κ) ?_
  show own_End p e below s (s₁.setTop (mkF m 8 #[.val (.int p0), .val (.int (0 : Int32)), .unset, .unset] [])) _ _ _
  refine own_go (fun τ κ => XS.iloadN X0.here hx rfl (hb hby d8_8) rfl κ) ?_
  show own_End p e below s (s₁.setTop (mkF m 9 #[.val (.int p0), .val (.int (0 : Int32)), .unset, .unset] [(.int p0)])) _ _ _
  refine own_go (fun τ κ => XS.ineg X0.here hx rfl (hb hby d8_9) rfl κ) ?_
  show own_End p e below s (s₁.setTop (mkF m 10 #[.val (.int p0), .val (.int (0 : Int32)), .unset, .unset] [(.int (-p0))])) _ _ _
  refine own_go (fun τ κ => XS.istoreN X0.here hx rfl (hb hby d8_10) rfl (l' := #[.val (.int (-p0)), .val (.int (0 : Int32)), .unset, .unset]) rfl κ) ?_
  show own_End p e below s (s₁.setTop (mkF m 11 #[.val (.int (-p0)), .val (.int (0 : Int32)), .unset, .unset] [])) _ _ _
  refine own_go (fun τ κ => XS.bipush X0.here hx rfl (hb hby d8_11) κ) ?_
  show own_End p e below s (s₁.setTop (mkF m 13 #[.val (.int (-p0)), .val (.int (0 : Int32)), .unset, .unset] [(.int (-10 : Int32))])) _ _ _
  refine own_go (fun τ κ => XS.istoreN X0.here hx rfl (hb hby d8_13) rfl (l' := #[.val (.int (-p0)), .val (.int (0 : Int32)), .val (.int (-10 : Int32)), .unset]) rfl κ) ?_
  show own_End p e below s (s₁.setTop (mkF m 14 #[.val (.int (-p0)), .val (.int (0 : Int32)), .val (.int (-10 : Int32)), .unset] [])) _ _ _
  refine own_go (fun τ κ => XS.iconst X0.here hx rfl (hb hby d8_14) κ) ?_
  show own_End p e below s (s₁.setTop (mkF m 15 #[.val (.int (-p0)), .val (.int (0 : Int32)), .val (.int (-10 : Int32)), .unset] [(.int (1 : Int32))])) _ _ _
  refine own_go (fun τ κ => XS.istoreN X0.here hx rfl (hb hby d8_15) rfl (l' := #[.val (.int (-p0)), .val (.int (0 : Int32)), .val (.int (-10 : Int32)), .val (.int (1 : Int32))]) rfl κ) ?_
  show own_End p e below s (s₁.setTop (mkF m 16 #[.val (.int (-p0)), .val (.int (0 : Int32)), .val (.int (-10 : Int32)), .val (.int (1 : Int32))] [])) _ _ _
  refine own_go (fun τ κ => XS.iloadN X0.here hx rfl (hb hby d8_16) rfl κ) ?_
  show own_End p e below s (s₁.setTop (mkF m 17 #[.val (.int (-p0)), .val (.int (0 : Int32)), .val (.int (-10 : Int32)), .val (.int (1 : Int32))] [(.int (1 : Int32))])) _ _ _
  refine own_go (fun τ κ => XS.bipush X0.here hx rfl (hb hby d8_17) κ) ?_
  show own_End p e below s (s₁.setTop (mkF m 19 #[.val (.int (-p0)), .val (.int (0 : Int32)), .val (.int (-10 : Int32)), .val (.int (1 : Int32))] [(.int (10 : Int32)), (.int (1 : Int32))])) _ _ _
  refine own_go (fun τ κ => XS.icmpNo X0.here hx rfl (hb hby d8_19) rfl (own_tlt (x := (1 : Int32)) (y := (10 : Int32)) (i := 1) (j := 10) rfl rfl (by decide)).2.1 κ) ?_
  show own_End p e below s (s₁.setTop (mkF m 22 #[.val (.int (-p0)), .val (.int (0 : Int32)), .val (.int (-10 : Int32)), .val (.int (1 : Int32))] [])) _ _ _
  refine own_go (fun τ κ => XS.iloadN X0.here hx rfl (hb hby d8_22) rfl κ) ?_
  show own_End p e below s (s₁.setTop (mkF m 23 #[.val (.int (-p0)), .val (.int (0 : Int32)), .val (.int (-10 : Int32)), .val (.int (1 : Int32))] [(.int (-p0))])) _ _ _
  refine own_go (fun τ κ => XS.iloadN X0.here hx rfl (hb hby d8_23) rfl κ) ?_
  show own_End p e below s (s₁.setTop (mkF m 24 #[.val (.int (-p0)), .val (.int (0 : Int32)), .val (.int (-10 : Int32)), .val (.int (1 : Int32))] [(.int (-10 : Int32)), (.int (-p0))])) _ _ _
  refine own_go (fun τ κ => XS.icmpNo X0.here hx rfl (hb hby d8_24) rfl (own_tlt (x := (-10 : Int32)) (y := (-p0)) (i := -10) (j := (-p0).toInt) rfl rfl (by omega)).2.2.2 κ) ?_
  show own_End p e below s (s₁.setTop (mkF m 27 #[.val (.int (-p0)), .val (.int (0 : Int32)), .val (.int (-10 : Int32)), .val (.int (1 : Int32))] [])) _ _ _
  refine own_go (fun τ κ => XS.iloadN X0.here hx rfl (hb hby d8_27) rfl κ) ?_
  show own_End p e below s (s₁.setTop (mkF m 28 #[.val (.int (-p0)), .val (.int (0 : Int32)), .val (.int (-10 : Int32)), .val (.int (1 : Int32))] [(.int (1 : Int32))])) _ _ _
  refine own_go (fun τ κ => XS.iloadN X0.here hx rfl (hb hby d8_28) rfl κ) ?_
  show own_End p e below s (s₁.setTop (mkF m 29 #[.val (.int (-p0)), .val (.int (0 : Int32)), .val (.int (-10 : Int32)), .val (.int (1 : Int32))] [(.int (0 : Int32)), (.int (1 : Int32))])) _ _ _
  refine own_go (fun τ κ => XS.iadd X0.here hx rfl (hb hby d8_29) rfl κ) ?_
  show own_End p e below s (s₁.setTop (mkF m 30 #[.val (.int (-p0)), .val (.int (0 : Int32)), .val (.int (-10 : Int32)), .val (.int (1 : Int32))] [(.int (1 : Int32))])) _ _ _
  refine own_ret X0 (v := some (.int (1 : Int32))) (fun h => by rw [Bd.returns] at h; cases h) Bd.notSynchronized (fun fs hr => retI X0 hx Bd.returns (hb hby d8_30) hr) ?_ (by decide) (by decide)
  · rw [e0]; exact ⟨rfl, N0, rfl⟩
theorem own_ef8_rmZ2 (m : MethodId) (p0 : Int32) : entryFrame m #[(.int p0)] 4 = mkF m 0 #[.val (.int p0), .unset, .unset, .unset] [] := by first | (simp [entryFrame, mkF, argsToLocals, Value.category]; done) | rfl
def Q_rmZ2 (Z : State) (p0 : Int32)  (h0 : Heap) (n0 : Nat) (v : Option Value) (h : Heap) (L : List Loc) : Prop := v = some (.int (2 : Int32)) ∧ Fr n0 L ∧ h = h0
theorem d8_31 : decode jdk_33_method_13_code 31 = .ok (.bipush 10, 2) := by decide +kernel
theorem d8_33 : decode jdk_33_method_13_code 33 = .ok (.iload_n 2, 1) := by decide +kernel
theorem d8_34 : decode jdk_33_method_13_code 34 = .ok (.imul, 1) := by decide +kernel
theorem d8_35 : decode jdk_33_method_13_code 35 = .ok (.istore_n 2, 1) := by decide +kernel
theorem d8_36 : decode jdk_33_method_13_code 36 = .ok (.iinc 3 1, 3) := by decide +kernel
theorem d8_39 : decode jdk_33_method_13_code 39 = .ok (.goto (-23), 3) := by decide +kernel
set_option maxRecDepth 65536 in
set_option maxHeartbeats 40000000 in
theorem rmZ2 (l : Launch) (Z : State) (a0 : Array Value) (hw : ∀ d ∈ tables_1, d.before a0 Z = true) (ws : List Jvm.Cond) (p0 : Int32)  (h0 : Heap) (n0 : Nat) (Z0 : n0 ≤ h0.size) (hp0 : 10 ≤ p0.toInt) (hp9 : p0.toInt < 100) :
    MetFree l (⟨"java/lang/Integer", "stringSize", "(I)I"⟩ : MethodName) (head1 (Jvm.Cond.code (⟨"java/lang/Integer", "stringSize", "(I)I"⟩ : MethodName) jdk_33_method_13_code 4 (some .int) :: ws) ({ frames := 0, cells := 0, slots := 0, locals := 0 } : Room)) (fun a U => a = #[(.int p0)] ∧ Z.Warmed39 U.vm ∧ U.heap = h0) (fun _ _ _ _ _ => True) (fun _ U o U' => ∃ v L, o = .returned v ∧ Q_rmZ2 Z p0  h0 n0 v U'.heap L ∧ FrameEnd U o U' L ({ frames := 0, cells := 0, slots := 0, locals := 0 } : Room).cells ({ frames := 0, cells := 0, slots := 0, locals := 0 } : Room).slots) := by
  refine MetFree.of_bodySF (plainFor_of_name own_pn3) hisR ?_
  intro p e s m args below meth c s₁ Bd hml0 hP hK
  obtain ⟨rfl, hZ, hh⟩ := hP
  have hx := Bd.exec
  have hby := Bd.bytes
  have hml : c.maxLocals = 4 := hml0
  have hown : s.vm.findClass "java/lang/Integer" = some m.cls := findClass_of_methodNamed Bd.named
  have hnm := (name_of_methodNamed Bd.named Bd.method).1
  have X0 : Stand p l e ({ frames := 0, cells := 0, slots := 0, locals := 0 } : Room) s m #[(.int p0)] below meth c s₁ [] 0 0 := Stand.of_body Bd
  have e0 : s₁.heap = h0 := by rw [← hh, Bd.state]; rfl
  have N0 := Fr.nil n0
  refine (show own_End p e below s (s₁.setTop (entryFrame m #[(.int p0)] 4)) (Q_rmZ2 Z p0  h0 n0) ({ frames := 0, cells := 0, slots := 0, locals := 0 } : Room).cells ({ frames := 0, cells := 0, slots := 0, locals := 0 } : Room).slots from ?_)
  refine own_go (fun τ κ => castTop (own_ef8_rmZ2 m p0) κ) ?_
  have li0 : (0 : Int32).toInt = 0 := rfl
  have li1 : (1 : Int32).toInt = 1 := rfl
  show own_End p e below s (s₁.setTop (mkF m 0 #[.val (.int p0), .unset, .unset, .unset] [])) _ _ _
  have ng := own_negneg (x := p0) (by omega)
  have lm : (-10 : Int32).toInt = -10 := rfl
  have lm2 : (-100 : Int32).toInt = -100 := rfl
  refine own_go (fun τ κ => XS.iconst X0.here hx rfl (hb hby d8_0) κ) ?_
  show own_End p e below s (s₁.setTop (mkF m 1 #[.val (.int p0), .unset, .unset, .unset] [(.int (1 : Int32))])) _ _ _
  refine own_go (fun τ κ => XS.istoreN X0.here hx rfl (hb hby d8_1) rfl (l' := #[.val (.int p0), .val (.int (1 : Int32)), .unset, .unset]) rfl κ) ?_
  show own_End p e below s (s₁.setTop (mkF m 2 #[.val (.int p0), .val (.int (1 : Int32)), .unset, .unset] [])) _ _ _
  refine own_go (fun τ κ => XS.iloadN X0.here hx rfl (hb hby d8_2) rfl κ) ?_
  show own_End p e below s (s₁.setTop (mkF m 3 #[.val (.int p0), .val (.int (1 : Int32)), .unset, .unset] [(.int p0)])) _ _ _
  refine own_go (fun τ κ => XS.ifNo X0.here hx rfl (hb hby d8_3) rfl ((if0 _ _).trans (own_flt (x := p0) (y := (0 : Int32)) (i := p0.toInt) (j := 0) rfl rfl (by omega)).1) κ) ?_
  show own_End p e below s (s₁.setTop (mkF m 6 #[.val (.int p0), .val (.int (1 : Int32)), .unset, .unset] [])) _ _ _
  refine own_go (fun τ κ => XS.iconst X0.here hx rfl (hb hby d8_6) κ) ?_
  show own_End p e below s (s₁.setTop (mkF m 7 #[.val (.int p0), .val (.int (1 : Int32)), .unset, .unset] [(.int (0 : Int32))])) _ _ _
  refine own_go (fun τ κ => XS.istoreN X0.here hx rfl (hb hby d8_7) rfl (l' := #[.val (.int p0), .val (.int (0 : Int32)), .unset, .unset]) rfl κ) ?_
  show own_End p e below s (s₁.setTop (mkF m 8 #[.val (.int p0), .val (.int (0 : Int32)), .unset, .unset] [])) _ _ _
  refine own_go (fun τ κ => XS.iloadN X0.here hx rfl (hb hby d8_8) rfl κ) ?_
  show own_End p e below s (s₁.setTop (mkF m 9 #[.val (.int p0), .val (.int (0 : Int32)), .unset, .unset] [(.int p0)])) _ _ _
  refine own_go (fun τ κ => XS.ineg X0.here hx rfl (hb hby d8_9) rfl κ) ?_
  show own_End p e below s (s₁.setTop (mkF m 10 #[.val (.int p0), .val (.int (0 : Int32)), .unset, .unset] [(.int (-p0))])) _ _ _
  refine own_go (fun τ κ => XS.istoreN X0.here hx rfl (hb hby d8_10) rfl (l' := #[.val (.int (-p0)), .val (.int (0 : Int32)), .unset, .unset]) rfl κ) ?_
  show own_End p e below s (s₁.setTop (mkF m 11 #[.val (.int (-p0)), .val (.int (0 : Int32)), .unset, .unset] [])) _ _ _
  refine own_go (fun τ κ => XS.bipush X0.here hx rfl (hb hby d8_11) κ) ?_
  show own_End p e below s (s₁.setTop (mkF m 13 #[.val (.int (-p0)), .val (.int (0 : Int32)), .unset, .unset] [(.int (-10 : Int32))])) _ _ _
  refine own_go (fun τ κ => XS.istoreN X0.here hx rfl (hb hby d8_13) rfl (l' := #[.val (.int (-p0)), .val (.int (0 : Int32)), .val (.int (-10 : Int32)), .unset]) rfl κ) ?_
  show own_End p e below s (s₁.setTop (mkF m 14 #[.val (.int (-p0)), .val (.int (0 : Int32)), .val (.int (-10 : Int32)), .unset] [])) _ _ _
  refine own_go (fun τ κ => XS.iconst X0.here hx rfl (hb hby d8_14) κ) ?_
  show own_End p e below s (s₁.setTop (mkF m 15 #[.val (.int (-p0)), .val (.int (0 : Int32)), .val (.int (-10 : Int32)), .unset] [(.int (1 : Int32))])) _ _ _
  refine own_go (fun τ κ => XS.istoreN X0.here hx rfl (hb hby d8_15) rfl (l' := #[.val (.int (-p0)), .val (.int (0 : Int32)), .val (.int (-10 : Int32)), .val (.int (1 : Int32))]) rfl κ) ?_
  show own_End p e below s (s₁.setTop (mkF m 16 #[.val (.int (-p0)), .val (.int (0 : Int32)), .val (.int (-10 : Int32)), .val (.int (1 : Int32))] [])) _ _ _
  refine own_go (fun τ κ => XS.iloadN X0.here hx rfl (hb hby d8_16) rfl κ) ?_
  show own_End p e below s (s₁.setTop (mkF m 17 #[.val (.int (-p0)), .val (.int (0 : Int32)), .val (.int (-10 : Int32)), .val (.int (1 : Int32))] [(.int (1 : Int32))])) _ _ _
  refine own_go (fun τ κ => XS.bipush X0.here hx rfl (hb hby d8_17) κ) ?_
  show own_End p e below s (s₁.setTop (mkF m 19 #[.val (.int (-p0)), .val (.int (0 : Int32)), .val (.int (-10 : Int32)), .val (.int (1 : Int32))] [(.int (10 : Int32)), (.int (1 : Int32))])) _ _ _
  refine own_go (fun τ κ => XS.icmpNo X0.here hx rfl (hb hby d8_19) rfl (own_tlt (x := (1 : Int32)) (y := (10 : Int32)) (i := 1) (j := 10) rfl rfl (by decide)).2.1 κ) ?_
  show own_End p e below s (s₁.setTop (mkF m 22 #[.val (.int (-p0)), .val (.int (0 : Int32)), .val (.int (-10 : Int32)), .val (.int (1 : Int32))] [])) _ _ _
  refine own_go (fun τ κ => XS.iloadN X0.here hx rfl (hb hby d8_22) rfl κ) ?_
  show own_End p e below s (s₁.setTop (mkF m 23 #[.val (.int (-p0)), .val (.int (0 : Int32)), .val (.int (-10 : Int32)), .val (.int (1 : Int32))] [(.int (-p0))])) _ _ _
  refine own_go (fun τ κ => XS.iloadN X0.here hx rfl (hb hby d8_23) rfl κ) ?_
  show own_End p e below s (s₁.setTop (mkF m 24 #[.val (.int (-p0)), .val (.int (0 : Int32)), .val (.int (-10 : Int32)), .val (.int (1 : Int32))] [(.int (-10 : Int32)), (.int (-p0))])) _ _ _
  refine own_go (fun τ κ => XS.icmpYes X0.here hx rfl (pc0 := 24) (pc' := 31) rfl (hb hby d8_24) rfl (own_flt (x := (-10 : Int32)) (y := (-p0)) (i := -10) (j := (-p0).toInt) rfl rfl (by omega)).2.2.2 (by decide) (by decide) κ) ?_
  show own_End p e below s (s₁.setTop (mkF m 31 #[.val (.int (-p0)), .val (.int (0 : Int32)), .val (.int (-10 : Int32)), .val (.int (1 : Int32))] [])) _ _ _
  refine own_go (fun τ κ => XS.bipush X0.here hx rfl (hb hby d8_31) κ) ?_
  show own_End p e below s (s₁.setTop (mkF m 33 #[.val (.int (-p0)), .val (.int (0 : Int32)), .val (.int (-10 : Int32)), .val (.int (1 : Int32))] [(.int (10 : Int32))])) _ _ _
  refine own_go (fun τ κ => XS.iloadN X0.here hx rfl (hb hby d8_33) rfl κ) ?_
  show own_End p e below s (s₁.setTop (mkF m 34 #[.val (.int (-p0)), .val (.int (0 : Int32)), .val (.int (-10 : Int32)), .val (.int (1 : Int32))] [(.int (-10 : Int32)), (.int (10 : Int32))])) _ _ _
  refine own_go (fun τ κ => XS.imul X0.here hx rfl (hb hby d8_34) rfl κ) ?_
  show own_End p e below s (s₁.setTop (mkF m 35 #[.val (.int (-p0)), .val (.int (0 : Int32)), .val (.int (-10 : Int32)), .val (.int (1 : Int32))] [(.int (-100 : Int32))])) _ _ _
  refine own_go (fun τ κ => XS.istoreN X0.here hx rfl (hb hby d8_35) rfl (l' := #[.val (.int (-p0)), .val (.int (0 : Int32)), .val (.int (-100 : Int32)), .val (.int (1 : Int32))]) rfl κ) ?_
  show own_End p e below s (s₁.setTop (mkF m 36 #[.val (.int (-p0)), .val (.int (0 : Int32)), .val (.int (-100 : Int32)), .val (.int (1 : Int32))] [])) _ _ _
  refine own_go (fun τ κ => XS.iinc X0.here hx rfl (hb hby d8_36) rfl (l' := #[.val (.int (-p0)), .val (.int (0 : Int32)), .val (.int (-100 : Int32)), .val (.int (2 : Int32))]) rfl κ) ?_
  show own_End p e below s (s₁.setTop (mkF m 39 #[.val (.int (-p0)), .val (.int (0 : Int32)), .val (.int (-100 : Int32)), .val (.int (2 : Int32))] [])) _ _ _
  refine own_go (fun τ κ => XS.goto X0.here hx rfl (pc0 := 39) (pc' := 16) rfl (hb hby d8_39) (by decide) (by decide) κ) ?_
  show own_End p e below s (s₁.setTop (mkF m 16 #[.val (.int (-p0)), .val (.int (0 : Int32)), .val (.int (-100 : Int32)), .val (.int (2 : Int32))] [])) _ _ _
  refine own_go (fun τ κ => XS.iloadN X0.here hx rfl (hb hby d8_16) rfl κ) ?_
  show own_End p e below s (s₁.setTop (mkF m 17 #[.val (.int (-p0)), .val (.int (0 : Int32)), .val (.int (-100 : Int32)), .val (.int (2 : Int32))] [(.int (2 : Int32))])) _ _ _
  refine own_go (fun τ κ => XS.bipush X0.here hx rfl (hb hby d8_17) κ) ?_
  show own_End p e below s (s₁.setTop (mkF m 19 #[.val (.int (-p0)), .val (.int (0 : Int32)), .val (.int (-100 : Int32)), .val (.int (2 : Int32))] [(.int (10 : Int32)), (.int (2 : Int32))])) _ _ _
  refine own_go (fun τ κ => XS.icmpNo X0.here hx rfl (hb hby d8_19) rfl (own_tlt (x := (2 : Int32)) (y := (10 : Int32)) (i := 2) (j := 10) rfl rfl (by decide)).2.1 κ) ?_
  show own_End p e below s (s₁.setTop (mkF m 22 #[.val (.int (-p0)), .val (.int (0 : Int32)), .val (.int (-100 : Int32)), .val (.int (2 : Int32))] [])) _ _ _
  refine own_go (fun τ κ => XS.iloadN X0.here hx rfl (hb hby d8_22) rfl κ) ?_
  show own_End p e below s (s₁.setTop (mkF m 23 #[.val (.int (-p0)), .val (.int (0 : Int32)), .val (.int (-100 : Int32)), .val (.int (2 : Int32))] [(.int (-p0))])) _ _ _
  refine own_go (fun τ κ => XS.iloadN X0.here hx rfl (hb hby d8_23) rfl κ) ?_
  show own_End p e below s (s₁.setTop (mkF m 24 #[.val (.int (-p0)), .val (.int (0 : Int32)), .val (.int (-100 : Int32)), .val (.int (2 : Int32))] [(.int (-100 : Int32)), (.int (-p0))])) _ _ _
  refine own_go (fun τ κ => XS.icmpNo X0.here hx rfl (hb hby d8_24) rfl (own_tlt (x := (-100 : Int32)) (y := (-p0)) (i := -100) (j := (-p0).toInt) rfl rfl (by omega)).2.2.2 κ) ?_
  show own_End p e below s (s₁.setTop (mkF m 27 #[.val (.int (-p0)), .val (.int (0 : Int32)), .val (.int (-100 : Int32)), .val (.int (2 : Int32))] [])) _ _ _
  refine own_go (fun τ κ => XS.iloadN X0.here hx rfl (hb hby d8_27) rfl κ) ?_
  show own_End p e below s (s₁.setTop (mkF m 28 #[.val (.int (-p0)), .val (.int (0 : Int32)), .val (.int (-100 : Int32)), .val (.int (2 : Int32))] [(.int (2 : Int32))])) _ _ _
  refine own_go (fun τ κ => XS.iloadN X0.here hx rfl (hb hby d8_28) rfl κ) ?_
  show own_End p e below s (s₁.setTop (mkF m 29 #[.val (.int (-p0)), .val (.int (0 : Int32)), .val (.int (-100 : Int32)), .val (.int (2 : Int32))] [(.int (0 : Int32)), (.int (2 : Int32))])) _ _ _
  refine own_go (fun τ κ => XS.iadd X0.here hx rfl (hb hby d8_29) rfl κ) ?_
  show own_End p e below s (s₁.setTop (mkF m 30 #[.val (.int (-p0)), .val (.int (0 : Int32)), .val (.int (-100 : Int32)), .val (.int (2 : Int32))] [(.int (2 : Int32))])) _ _ _
  refine own_ret X0 (v := some (.int (2 : Int32))) (fun h => by rw [Bd.returns] at h; cases h) Bd.notSynchronized (fun fs hr => retI X0 hx Bd.returns (hb hby d8_30) hr) ?_ (by decide) (by decide)
  · rw [e0]; exact ⟨rfl, N0, rfl⟩
theorem own_ef9_rmG1 (m : MethodId) (p0 : Int32) (o2 : Addr) : entryFrame m #[(.int p0), (.int (1 : Int32)), (.ref o2)] 7 = mkF m 0 #[.val (.int p0), .val (.int (1 : Int32)), .val (.ref o2), .unset, .unset, .unset, .unset] [] := by first | (simp [entryFrame, mkF, argsToLocals, Value.category]; done) | rfl
def Q_rmG1 (Z : State) (p0 : Int32) (o2 : Addr) (kb : ClassId) (t1 : Addr) (d1 : Cell) (t2 : Addr) (d2 : Cell) (h0 : Heap) (n0 : Nat) (v : Option Value) (h : Heap) (L : List Loc) : Prop := (∃ y0, Arv Z h o2 kb .byte (1 : Int32) [(.int y0)] (.int (0 : Int32)) ∧ y0.toInt = 48 + p0.toInt) ∧ Fr n0 L ∧ Keep h0 h [o2] ∧ v = some (.int (0 : Int32))
theorem d9_0 : decode jdk_33_method_12_code 0 = .ok (.iload_n 1, 1) := by decide +kernel
theorem d9_1 : decode jdk_33_method_12_code 1 = .ok (.istore 5, 2) := by decide +kernel
theorem d9_3 : decode jdk_33_method_12_code 3 = .ok (.iload_n 0, 1) := by decide +kernel
theorem d9_4 : decode jdk_33_method_12_code 4 = .ok (.ifCond .ge 7, 3) := by decide +kernel
theorem d9_11 : decode jdk_33_method_12_code 11 = .ok (.iconst 0, 1) := by decide +kernel
theorem d9_12 : decode jdk_33_method_12_code 12 = .ok (.istore 6, 2) := by decide +kernel
theorem d9_14 : decode jdk_33_method_12_code 14 = .ok (.iload 6, 2) := by decide +kernel
theorem d9_16 : decode jdk_33_method_12_code 16 = .ok (.ifCond .ne 6, 3) := by decide +kernel
theorem d9_19 : decode jdk_33_method_12_code 19 = .ok (.iload_n 0, 1) := by decide +kernel
theorem d9_20 : decode jdk_33_method_12_code 20 = .ok (.ineg, 1) := by decide +kernel
theorem d9_21 : decode jdk_33_method_12_code 21 = .ok (.istore_n 0, 1) := by decide +kernel
theorem d9_22 : decode jdk_33_method_12_code 22 = .ok (.iload_n 0, 1) := by decide +kernel
theorem d9_23 : decode jdk_33_method_12_code 23 = .ok (.bipush (-100), 2) := by decide +kernel
theorem d9_25 : decode jdk_33_method_12_code 25 = .ok (.if_icmp .gt 47, 3) := by decide +kernel
theorem d9_72 : decode jdk_33_method_12_code 72 = .ok (.aload_n 2, 1) := by decide +kernel
theorem d9_73 : decode jdk_33_method_12_code 73 = .ok (.iinc 5 (-1), 3) := by decide +kernel
theorem d9_76 : decode jdk_33_method_12_code 76 = .ok (.iload 5, 2) := by decide +kernel
theorem d9_78 : decode jdk_33_method_12_code 78 = .ok (.getstatic 83, 3) := by decide +kernel
theorem d9_81 : decode jdk_33_method_12_code 81 = .ok (.iload_n 0, 1) := by decide +kernel
theorem d9_82 : decode jdk_33_method_12_code 82 = .ok (.ineg, 1) := by decide +kernel
theorem d9_83 : decode jdk_33_method_12_code 83 = .ok (.baload, 1) := by decide +kernel
theorem d9_84 : decode jdk_33_method_12_code 84 = .ok (.bastore, 1) := by decide +kernel
theorem d9_85 : decode jdk_33_method_12_code 85 = .ok (.iload_n 0, 1) := by decide +kernel
theorem d9_86 : decode jdk_33_method_12_code 86 = .ok (.bipush (-9), 2) := by decide +kernel
theorem d9_88 : decode jdk_33_method_12_code 88 = .ok (.if_icmp .ge 16, 3) := by decide +kernel
theorem d9_104 : decode jdk_33_method_12_code 104 = .ok (.iload 6, 2) := by decide +kernel
theorem d9_106 : decode jdk_33_method_12_code 106 = .ok (.ifCond .eq 12, 3) := by decide +kernel
theorem d9_118 : decode jdk_33_method_12_code 118 = .ok (.iload 5, 2) := by decide +kernel
theorem d9_120 : decode jdk_33_method_12_code 120 = .ok (.ireturn, 1) := by decide +kernel
set_option maxRecDepth 65536 in
set_option maxHeartbeats 40000000 in
theorem rmG1 (l : Launch) (Z : State) (a0 : Array Value) (hw : ∀ d ∈ tables_1, d.before a0 Z = true) (ws : List Jvm.Cond) (p0 : Int32) (o2 : Addr) (kb : ClassId) (t1 : Addr) (d1 : Cell) (t2 : Addr) (d2 : Cell) (h0 : Heap) (n0 : Nat) (Z0 : n0 ≤ h0.size) (g_o2 : n0 ≤ o2) (Vb : Arv Z h0 o2 kb .byte (1 : Int32) [(.int (0 : Int32))] (.int (0 : Int32))) (Ol : Old Z n0 h0) (S_1 : Sta Z Z.heap "java/lang/Integer" "DigitOnes" "[B" (.ref t1)) (D1 : own_Dig Z Z.heap t1 d1 (fun x => 48 + x % 10)) (S_2 : Sta Z Z.heap "java/lang/Integer" "DigitTens" "[B" (.ref t2)) (D2 : own_Dig Z Z.heap t2 d2 (fun x => 48 + x / 10)) (hp0 : 0 ≤ p0.toInt) (hp9 : p0.toInt < 10) :
    MetFree l (⟨"java/lang/Integer", "getChars", "(II[B)I"⟩ : MethodName) (head1 (Jvm.Cond.code (⟨"java/lang/Integer", "getChars", "(II[B)I"⟩ : MethodName) jdk_33_method_12_code 7 (some .int) :: ws) ({ frames := 0, cells := 0, slots := 0, locals := 0 } : Room)) (fun a U => a = #[(.int p0), (.int (1 : Int32)), (.ref o2)] ∧ Z.Warmed39 U.vm ∧ U.heap = h0) (fun _ _ _ _ _ => True) (fun _ U o U' => ∃ v L, o = .returned v ∧ Q_rmG1 Z p0 o2 kb t1 d1 t2 d2 h0 n0 v U'.heap L ∧ FrameEnd U o U' L ({ frames := 0, cells := 0, slots := 0, locals := 0 } : Room).cells ({ frames := 0, cells := 0, slots := 0, locals := 0 } : Room).slots) := by
  refine MetFree.of_bodySF (plainFor_of_name own_pn3) hisR ?_
  intro p e s m args below meth c s₁ Bd hml0 hP hK
  obtain ⟨rfl, hZ, hh⟩ := hP
  have hx := Bd.exec
  have hby := Bd.bytes
  have hml : c.maxLocals = 7 := hml0
  have hown : s.vm.findClass "java/lang/Integer" = some m.cls := findClass_of_methodNamed Bd.named
  have hnm := (name_of_methodNamed Bd.named Bd.method).1
  have X0 : Stand p l e ({ frames := 0, cells := 0, slots := 0, locals := 0 } : Room) s m #[(.int p0), (.int (1 : Int32)), (.ref o2)] below meth c s₁ [] 0 0 := Stand.of_body Bd
  have e0 : s₁.heap = h0 := by rw [← hh, Bd.state]; rfl
  have N0 := Fr.nil n0
  refine (show own_End p e below s (s₁.setTop (entryFrame m #[(.int p0), (.int (1 : Int32)), (.ref o2)] 7)) (Q_rmG1 Z p0 o2 kb t1 d1 t2 d2 h0 n0) ({ frames := 0, cells := 0, slots := 0, locals := 0 } : Room).cells ({ frames := 0, cells := 0, slots := 0, locals := 0 } : Room).slots from ?_)
  refine own_go (fun τ κ => castTop (own_ef9_rmG1 m p0 o2) κ) ?_
  have li0 : (0 : Int32).toInt = 0 := rfl
  have li1 : (1 : Int32).toInt = 1 := rfl
  have li10 : (10 : Int32).toInt = 10 := rfl
  have li100 : (100 : Int32).toInt = 100 := rfl
  show own_End p e below s (s₁.setTop (mkF m 0 #[.val (.int p0), .val (.int (1 : Int32)), .val (.ref o2), .unset, .unset, .unset, .unset] [])) _ _ _
  have ng := own_negneg (x := p0) (by omega)
  have lm : (-100 : Int32).toInt = -100 := rfl
  have lm9 : (-9 : Int32).toInt = -9 := rfl
  refine own_go (fun τ κ => XS.iloadN X0.here hx rfl (hb hby d9_0) rfl κ) ?_
  show own_End p e below s (s₁.setTop (mkF m 1 #[.val (.int p0), .val (.int (1 : Int32)), .val (.ref o2), .unset, .unset, .unset, .unset] [(.int (1 : Int32))])) _ _ _
  refine own_go (fun τ κ => XS.istore X0.here hx rfl (hb hby d9_1) rfl (l' := #[.val (.int p0), .val (.int (1 : Int32)), .val (.ref o2), .unset, .unset, .val (.int (1 : Int32)), .unset]) rfl κ) ?_
  show own_End p e below s (s₁.setTop (mkF m 3 #[.val (.int p0), .val (.int (1 : Int32)), .val (.ref o2), .unset, .unset, .val (.int (1 : Int32)), .unset] [])) _ _ _
  refine own_go (fun τ κ => XS.iloadN X0.here hx rfl (hb hby d9_3) rfl κ) ?_
  show own_End p e below s (s₁.setTop (mkF m 4 #[.val (.int p0), .val (.int (1 : Int32)), .val (.ref o2), .unset, .unset, .val (.int (1 : Int32)), .unset] [(.int p0)])) _ _ _
  refine own_go (fun τ κ => XS.ifYes X0.here hx rfl (pc0 := 4) (pc' := 11) rfl (hb hby d9_4) rfl ((if0 _ _).trans (own_flt (x := p0) (y := (0 : Int32)) (i := p0.toInt) (j := 0) rfl rfl (by omega)).2.1) (by decide) (by decide) κ) ?_
  show own_End p e below s (s₁.setTop (mkF m 11 #[.val (.int p0), .val (.int (1 : Int32)), .val (.ref o2), .unset, .unset, .val (.int (1 : Int32)), .unset] [])) _ _ _
  refine own_go (fun τ κ => XS.iconst X0.here hx rfl (hb hby d9_11) κ) ?_
  show own_End p e below s (s₁.setTop (mkF m 12 #[.val (.int p0), .val (.int (1 : Int32)), .val (.ref o2), .unset, .unset, .val (.int (1 : Int32)), .unset] [(.int (0 : Int32))])) _ _ _
  refine own_go (fun τ κ => XS.istore X0.here hx rfl (hb hby d9_12) rfl (l' := #[.val (.int p0), .val (.int (1 : Int32)), .val (.ref o2), .unset, .unset, .val (.int (1 : Int32)), .val (.int (0 : Int32))]) rfl κ) ?_
  show own_End p e below s (s₁.setTop (mkF m 14 #[.val (.int p0), .val (.int (1 : Int32)), .val (.ref o2), .unset, .unset, .val (.int (1 : Int32)), .val (.int (0 : Int32))] [])) _ _ _
  refine own_go (fun τ κ => XS.iload X0.here hx rfl (hb hby d9_14) rfl κ) ?_
  show own_End p e below s (s₁.setTop (mkF m 16 #[.val (.int p0), .val (.int (1 : Int32)), .val (.ref o2), .unset, .unset, .val (.int (1 : Int32)), .val (.int (0 : Int32))] [(.int (0 : Int32))])) _ _ _
  refine own_go (fun τ κ => XS.ifNo X0.here hx rfl (hb hby d9_16) rfl ((if0 _ _).trans (own_eq (x := (0 : Int32)) (y := (0 : Int32)) (i := 0) (j := 0) rfl rfl (by decide)).2) κ) ?_
  show own_End p e below s (s₁.setTop (mkF m 19 #[.val (.int p0), .val (.int (1 : Int32)), .val (.ref o2), .unset, .unset, .val (.int (1 : Int32)), .val (.int (0 : Int32))] [])) _ _ _
  refine own_go (fun τ κ => XS.iloadN X0.here hx rfl (hb hby d9_19) rfl κ) ?_
  show own_End p e below s (s₁.setTop (mkF m 20 #[.val (.int p0), .val (.int (1 : Int32)), .val (.ref o2), .unset, .unset, .val (.int (1 : Int32)), .val (.int (0 : Int32))] [(.int p0)])) _ _ _
  refine own_go (fun τ κ => XS.ineg X0.here hx rfl (hb hby d9_20) rfl κ) ?_
  show own_End p e below s (s₁.setTop (mkF m 21 #[.val (.int p0), .val (.int (1 : Int32)), .val (.ref o2), .unset, .unset, .val (.int (1 : Int32)), .val (.int (0 : Int32))] [(.int (-p0))])) _ _ _
  refine own_go (fun τ κ => XS.istoreN X0.here hx rfl (hb hby d9_21) rfl (l' := #[.val (.int (-p0)), .val (.int (1 : Int32)), .val (.ref o2), .unset, .unset, .val (.int (1 : Int32)), .val (.int (0 : Int32))]) rfl κ) ?_
  show own_End p e below s (s₁.setTop (mkF m 22 #[.val (.int (-p0)), .val (.int (1 : Int32)), .val (.ref o2), .unset, .unset, .val (.int (1 : Int32)), .val (.int (0 : Int32))] [])) _ _ _
  refine own_go (fun τ κ => XS.iloadN X0.here hx rfl (hb hby d9_22) rfl κ) ?_
  show own_End p e below s (s₁.setTop (mkF m 23 #[.val (.int (-p0)), .val (.int (1 : Int32)), .val (.ref o2), .unset, .unset, .val (.int (1 : Int32)), .val (.int (0 : Int32))] [(.int (-p0))])) _ _ _
  refine own_go (fun τ κ => XS.bipush X0.here hx rfl (hb hby d9_23) κ) ?_
  show own_End p e below s (s₁.setTop (mkF m 25 #[.val (.int (-p0)), .val (.int (1 : Int32)), .val (.ref o2), .unset, .unset, .val (.int (1 : Int32)), .val (.int (0 : Int32))] [(.int (-100 : Int32)), (.int (-p0))])) _ _ _
  refine own_go (fun τ κ => XS.icmpYes X0.here hx rfl (pc0 := 25) (pc' := 72) rfl (hb hby d9_25) rfl (own_tlt (x := (-100 : Int32)) (y := (-p0)) (i := -100) (j := (-p0).toInt) rfl rfl (by omega)).2.2.1 (by decide) (by decide) κ) ?_
  show own_End p e below s (s₁.setTop (mkF m 72 #[.val (.int (-p0)), .val (.int (1 : Int32)), .val (.ref o2), .unset, .unset, .val (.int (1 : Int32)), .val (.int (0 : Int32))] [])) _ _ _
  refine own_go (fun τ κ => XS.aloadN X0.here hx rfl (hb hby d9_72) rfl rfl κ) ?_
  show own_End p e below s (s₁.setTop (mkF m 73 #[.val (.int (-p0)), .val (.int (1 : Int32)), .val (.ref o2), .unset, .unset, .val (.int (1 : Int32)), .val (.int (0 : Int32))] [(.ref o2)])) _ _ _
  refine own_go (fun τ κ => XS.iinc X0.here hx rfl (hb hby d9_73) rfl (l' := #[.val (.int (-p0)), .val (.int (1 : Int32)), .val (.ref o2), .unset, .unset, .val (.int (0 : Int32)), .val (.int (0 : Int32))]) rfl κ) ?_
  show own_End p e below s (s₁.setTop (mkF m 76 #[.val (.int (-p0)), .val (.int (1 : Int32)), .val (.ref o2), .unset, .unset, .val (.int (0 : Int32)), .val (.int (0 : Int32))] [(.ref o2)])) _ _ _
  refine own_go (fun τ κ => XS.iload X0.here hx rfl (hb hby d9_76) rfl κ) ?_
  show own_End p e below s (s₁.setTop (mkF m 78 #[.val (.int (-p0)), .val (.int (1 : Int32)), .val (.ref o2), .unset, .unset, .val (.int (0 : Int32)), .val (.int (0 : Int32))] [(.int (0 : Int32)), (.ref o2)])) _ _ _
  obtain ⟨T1, X1, e1, st1⟩ := getS2 X0 hx hZ hown (host := "") (Or.inl (hw _ (List.mem_of_getElem? (i := 42) rfl))) Via.refl e0 (S_1.ext Ol.2) (g := (mkF m 78 #[.val (.int (-p0)), .val (.int (1 : Int32)), .val (.ref o2), .unset, .unset, .val (.int (0 : Int32)), .val (.int (0 : Int32))] [(.int (0 : Int32)), (.ref o2)])) rfl (hb hby d9_78)
  refine own_go st1 ?_
  show own_End p e below s (T1.setTop (mkF m 81 #[.val (.int (-p0)), .val (.int (1 : Int32)), .val (.ref o2), .unset, .unset, .val (.int (0 : Int32)), .val (.int (0 : Int32))] [(.ref t1), (.int (0 : Int32)), (.ref o2)])) _ _ _
  refine own_go (fun τ κ => XS.iloadN X1.here hx rfl (hb hby d9_81) rfl κ) ?_
  show own_End p e below s (T1.setTop (mkF m 82 #[.val (.int (-p0)), .val (.int (1 : Int32)), .val (.ref o2), .unset, .unset, .val (.int (0 : Int32)), .val (.int (0 : Int32))] [(.int (-p0)), (.ref t1), (.int (0 : Int32)), (.ref o2)])) _ _ _
  refine own_go (fun τ κ => XS.ineg X1.here hx rfl (hb hby d9_82) rfl κ) ?_
  show own_End p e below s (T1.setTop (mkF m 83 #[.val (.int (-p0)), .val (.int (1 : Int32)), .val (.ref o2), .unset, .unset, .val (.int (0 : Int32)), .val (.int (0 : Int32))] [(.int (-(-p0))), (.ref t1), (.int (0 : Int32)), (.ref o2)])) _ _ _
  obtain ⟨w1, hw1, hv1⟩ := D1.2.2 (-(-p0)) (by omega) (by omega)
  have hv1' : w1.toInt = 48 + ((-(-p0))).toInt % 10 := hv1
  refine own_go (fun τ κ => X1.baloadBytes hx (j := (-(-p0))) (v := (.int w1)) (by rw [e1]; exact (D1.1.ext Ol.2).1) (State.isArrayOf_alike hZ.alike D1.1.2.1) D1.1.2.2 (own_digIn D1 (by omega) (by omega)) hw1 (g := (mkF m 83 #[.val (.int (-p0)), .val (.int (1 : Int32)), .val (.ref o2), .unset, .unset, .val (.int (0 : Int32)), .val (.int (0 : Int32))] [(.int (-(-p0))), (.ref t1), (.int (0 : Int32)), (.ref o2)])) rfl rfl (hb hby d9_83) _ κ) ?_
  show own_End p e below s (T1.setTop (mkF m 84 #[.val (.int (-p0)), .val (.int (1 : Int32)), .val (.ref o2), .unset, .unset, .val (.int (0 : Int32)), .val (.int (0 : Int32))] [(.int w1), (.int (0 : Int32)), (.ref o2)])) _ _ _
  obtain ⟨cl2, Ar2, qa2, Sq2, Mq2, Hh2, Gq2⟩ := id Vb
  have hin2 : ¬ ((0 : Int32) < 0 ∨ cl2.slots.size ≤ ((0 : Int32)).toNatClampNeg) := inb_of Sq2 ⟨by decide, by decide⟩
  obtain ⟨T3, h3, X3, e3, W3, st3⟩ := stB X1 hx hZ e1 Ar2 (j := (0 : Int32)) hin2 (g := (mkF m 84 #[.val (.int (-p0)), .val (.int (1 : Int32)), .val (.ref o2), .unset, .unset, .val (.int (0 : Int32)), .val (.int (0 : Int32))] [(.int w1), (.int (0 : Int32)), (.ref o2)])) rfl rfl (hb hby d9_84)
  have V_o2_3 : Arv Z h3 o2 kb .byte (1 : Int32) [(.int (w1.toInt8.toInt32))] (.int (0 : Int32)) := Arv.set Ar2 qa2 Sq2 Mq2 Hh2 Gq2 (fits_nar_byte _) W3 0 rfl (Nat.le_of_ble_eq_true rfl)
  have N3 := Fr.snoc X3 N0 g_o2
  obtain ⟨ls3, Xl3, Nl3⟩ := own_abs X3 N3
  have Z3 : n0 ≤ h3.size := Nat.le_trans Z0 (Keep.of_wr W3).1
  have KP3 := (Keep.refl h0 [o2]).wr W3 (Or.inl (List.mem_of_getElem? (i := 0) rfl))
  refine own_go st3 ?_
  show own_End p e below s (T3.setTop (mkF m 85 #[.val (.int (-p0)), .val (.int (1 : Int32)), .val (.ref o2), .unset, .unset, .val (.int (0 : Int32)), .val (.int (0 : Int32))] [])) _ _ _
  refine own_go (fun τ κ => XS.iloadN Xl3.here hx rfl (hb hby d9_85) rfl κ) ?_
  show own_End p e below s (T3.setTop (mkF m 86 #[.val (.int (-p0)), .val (.int (1 : Int32)), .val (.ref o2), .unset, .unset, .val (.int (0 : Int32)), .val (.int (0 : Int32))] [(.int (-p0))])) _ _ _
  refine own_go (fun τ κ => XS.bipush Xl3.here hx rfl (hb hby d9_86) κ) ?_
  show own_End p e below s (T3.setTop (mkF m 88 #[.val (.int (-p0)), .val (.int (1 : Int32)), .val (.ref o2), .unset, .unset, .val (.int (0 : Int32)), .val (.int (0 : Int32))] [(.int (-9 : Int32)), (.int (-p0))])) _ _ _
  refine own_go (fun τ κ => XS.icmpYes Xl3.here hx rfl (pc0 := 88) (pc' := 104) rfl (hb hby d9_88) rfl (own_flt (x := (-p0)) (y := (-9 : Int32)) (i := (-p0).toInt) (j := -9) rfl rfl (by omega)).2.1 (by decide) (by decide) κ) ?_
  show own_End p e below s (T3.setTop (mkF m 104 #[.val (.int (-p0)), .val (.int (1 : Int32)), .val (.ref o2), .unset, .unset, .val (.int (0 : Int32)), .val (.int (0 : Int32))] [])) _ _ _
  refine own_go (fun τ κ => XS.iload Xl3.here hx rfl (hb hby d9_104) rfl κ) ?_
  show own_End p e below s (T3.setTop (mkF m 106 #[.val (.int (-p0)), .val (.int (1 : Int32)), .val (.ref o2), .unset, .unset, .val (.int (0 : Int32)), .val (.int (0 : Int32))] [(.int (0 : Int32))])) _ _ _
  refine own_go (fun τ κ => XS.ifYes Xl3.here hx rfl (pc0 := 106) (pc' := 118) rfl (hb hby d9_106) rfl ((if0 _ _).trans (own_eq (x := (0 : Int32)) (y := (0 : Int32)) (i := 0) (j := 0) rfl rfl (by decide)).1) (by decide) (by decide) κ) ?_
  show own_End p e below s (T3.setTop (mkF m 118 #[.val (.int (-p0)), .val (.int (1 : Int32)), .val (.ref o2), .unset, .unset, .val (.int (0 : Int32)), .val (.int (0 : Int32))] [])) _ _ _
  refine own_go (fun τ κ => XS.iload Xl3.here hx rfl (hb hby d9_118) rfl κ) ?_
  show own_End p e below s (T3.setTop (mkF m 120 #[.val (.int (-p0)), .val (.int (1 : Int32)), .val (.ref o2), .unset, .unset, .val (.int (0 : Int32)), .val (.int (0 : Int32))] [(.int (0 : Int32))])) _ _ _
  refine own_ret Xl3 (v := some (.int (0 : Int32))) (fun h => by rw [Bd.returns] at h; cases h) Bd.notSynchronized (fun fs hr => retI Xl3 hx Bd.returns (hb hby d9_120) hr) ?_ (by decide) (by decide)
  · have hb1 := c_i2b w1
    rw [e3]; exact ⟨⟨_, V_o2_3, by omega⟩, Nl3, KP3, rfl⟩
theorem own_ef9_rmG2 (m : MethodId) (p0 : Int32) (o2 : Addr) : entryFrame m #[(.int p0), (.int (2 : Int32)), (.ref o2)] 7 = mkF m 0 #[.val (.int p0), .val (.int (2 : Int32)), .val (.ref o2), .unset, .unset, .unset, .unset] [] := by first | (simp [entryFrame, mkF, argsToLocals, Value.category]; done) | rfl
def Q_rmG2 (Z : State) (p0 : Int32) (o2 : Addr) (kb : ClassId) (t1 : Addr) (d1 : Cell) (t2 : Addr) (d2 : Cell) (h0 : Heap) (n0 : Nat) (v : Option Value) (h : Heap) (L : List Loc) : Prop := (∃ y0 y1, Arv Z h o2 kb .byte (2 : Int32) [(.int y0), (.int y1)] (.int (0 : Int32)) ∧ y0.toInt = 48 + p0.toInt / 10 ∧ y1.toInt = 48 + p0.toInt % 10) ∧ Fr n0 L ∧ Keep h0 h [o2] ∧ v = some (.int (0 : Int32))
theorem d9_91 : decode jdk_33_method_12_code 91 = .ok (.aload_n 2, 1) := by decide +kernel
theorem d9_92 : decode jdk_33_method_12_code 92 = .ok (.iinc 5 (-1), 3) := by decide +kernel
theorem d9_95 : decode jdk_33_method_12_code 95 = .ok (.iload 5, 2) := by decide +kernel
theorem d9_97 : decode jdk_33_method_12_code 97 = .ok (.getstatic 87, 3) := by decide +kernel
theorem d9_100 : decode jdk_33_method_12_code 100 = .ok (.iload_n 0, 1) := by decide +kernel
theorem d9_101 : decode jdk_33_method_12_code 101 = .ok (.ineg, 1) := by decide +kernel
theorem d9_102 : decode jdk_33_method_12_code 102 = .ok (.baload, 1) := by decide +kernel
theorem d9_103 : decode jdk_33_method_12_code 103 = .ok (.bastore, 1) := by decide +kernel
set_option maxRecDepth 65536 in
set_option maxHeartbeats 40000000 in
theorem rmG2 (l : Launch) (Z : State) (a0 : Array Value) (hw : ∀ d ∈ tables_1, d.before a0 Z = true) (ws : List Jvm.Cond) (p0 : Int32) (o2 : Addr) (kb : ClassId) (t1 : Addr) (d1 : Cell) (t2 : Addr) (d2 : Cell) (h0 : Heap) (n0 : Nat) (Z0 : n0 ≤ h0.size) (g_o2 : n0 ≤ o2) (Vb : Arv Z h0 o2 kb .byte (2 : Int32) [(.int (0 : Int32)), (.int (0 : Int32))] (.int (0 : Int32))) (Ol : Old Z n0 h0) (S_1 : Sta Z Z.heap "java/lang/Integer" "DigitOnes" "[B" (.ref t1)) (D1 : own_Dig Z Z.heap t1 d1 (fun x => 48 + x % 10)) (S_2 : Sta Z Z.heap "java/lang/Integer" "DigitTens" "[B" (.ref t2)) (D2 : own_Dig Z Z.heap t2 d2 (fun x => 48 + x / 10)) (hp0 : 10 ≤ p0.toInt) (hp9 : p0.toInt < 100) :
    MetFree l (⟨"java/lang/Integer", "getChars", "(II[B)I"⟩ : MethodName) (head1 (Jvm.Cond.code (⟨"java/lang/Integer", "getChars", "(II[B)I"⟩ : MethodName) jdk_33_method_12_code 7 (some .int) :: ws) ({ frames := 0, cells := 0, slots := 0, locals := 0 } : Room)) (fun a U => a = #[(.int p0), (.int (2 : Int32)), (.ref o2)] ∧ Z.Warmed39 U.vm ∧ U.heap = h0) (fun _ _ _ _ _ => True) (fun _ U o U' => ∃ v L, o = .returned v ∧ Q_rmG2 Z p0 o2 kb t1 d1 t2 d2 h0 n0 v U'.heap L ∧ FrameEnd U o U' L ({ frames := 0, cells := 0, slots := 0, locals := 0 } : Room).cells ({ frames := 0, cells := 0, slots := 0, locals := 0 } : Room).slots) := by
  refine MetFree.of_bodySF (plainFor_of_name own_pn3) hisR ?_
  intro p e s m args below meth c s₁ Bd hml0 hP hK
  obtain ⟨rfl, hZ, hh⟩ := hP
  have hx := Bd.exec
  have hby := Bd.bytes
  have hml : c.maxLocals = 7 := hml0
  have hown : s.vm.findClass "java/lang/Integer" = some m.cls := findClass_of_methodNamed Bd.named
  have hnm := (name_of_methodNamed Bd.named Bd.method).1
  have X0 : Stand p l e ({ frames := 0, cells := 0, slots := 0, locals := 0 } : Room) s m #[(.int p0), (.int (2 : Int32)), (.ref o2)] below meth c s₁ [] 0 0 := Stand.of_body Bd
  have e0 : s₁.heap = h0 := by rw [← hh, Bd.state]; rfl
  have N0 := Fr.nil n0
  refine (show own_End p e below s (s₁.setTop (entryFrame m #[(.int p0), (.int (2 : Int32)), (.ref o2)] 7)) (Q_rmG2 Z p0 o2 kb t1 d1 t2 d2 h0 n0) ({ frames := 0, cells := 0, slots := 0, locals := 0 } : Room).cells ({ frames := 0, cells := 0, slots := 0, locals := 0 } : Room).slots from ?_)
  refine own_go (fun τ κ => castTop (own_ef9_rmG2 m p0 o2) κ) ?_
  have li0 : (0 : Int32).toInt = 0 := rfl
  have li1 : (1 : Int32).toInt = 1 := rfl
  have li10 : (10 : Int32).toInt = 10 := rfl
  have li100 : (100 : Int32).toInt = 100 := rfl
  show own_End p e below s (s₁.setTop (mkF m 0 #[.val (.int p0), .val (.int (2 : Int32)), .val (.ref o2), .unset, .unset, .unset, .unset] [])) _ _ _
  have ng := own_negneg (x := p0) (by omega)
  have lm : (-100 : Int32).toInt = -100 := rfl
  have lm9 : (-9 : Int32).toInt = -9 := rfl
  refine own_go (fun τ κ => XS.iloadN X0.here hx rfl (hb hby d9_0) rfl κ) ?_
  show own_End p e below s (s₁.setTop (mkF m 1 #[.val (.int p0), .val (.int (2 : Int32)), .val (.ref o2), .unset, .unset, .unset, .unset] [(.int (2 : Int32))])) _ _ _
  refine own_go (fun τ κ => XS.istore X0.here hx rfl (hb hby d9_1) rfl (l' := #[.val (.int p0), .val (.int (2 : Int32)), .val (.ref o2), .unset, .unset, .val (.int (2 : Int32)), .unset]) rfl κ) ?_
  show own_End p e below s (s₁.setTop (mkF m 3 #[.val (.int p0), .val (.int (2 : Int32)), .val (.ref o2), .unset, .unset, .val (.int (2 : Int32)), .unset] [])) _ _ _
  refine own_go (fun τ κ => XS.iloadN X0.here hx rfl (hb hby d9_3) rfl κ) ?_
  show own_End p e below s (s₁.setTop (mkF m 4 #[.val (.int p0), .val (.int (2 : Int32)), .val (.ref o2), .unset, .unset, .val (.int (2 : Int32)), .unset] [(.int p0)])) _ _ _
  refine own_go (fun τ κ => XS.ifYes X0.here hx rfl (pc0 := 4) (pc' := 11) rfl (hb hby d9_4) rfl ((if0 _ _).trans (own_flt (x := p0) (y := (0 : Int32)) (i := p0.toInt) (j := 0) rfl rfl (by omega)).2.1) (by decide) (by decide) κ) ?_
  show own_End p e below s (s₁.setTop (mkF m 11 #[.val (.int p0), .val (.int (2 : Int32)), .val (.ref o2), .unset, .unset, .val (.int (2 : Int32)), .unset] [])) _ _ _
  refine own_go (fun τ κ => XS.iconst X0.here hx rfl (hb hby d9_11) κ) ?_
  show own_End p e below s (s₁.setTop (mkF m 12 #[.val (.int p0), .val (.int (2 : Int32)), .val (.ref o2), .unset, .unset, .val (.int (2 : Int32)), .unset] [(.int (0 : Int32))])) _ _ _
  refine own_go (fun τ κ => XS.istore X0.here hx rfl (hb hby d9_12) rfl (l' := #[.val (.int p0), .val (.int (2 : Int32)), .val (.ref o2), .unset, .unset, .val (.int (2 : Int32)), .val (.int (0 : Int32))]) rfl κ) ?_
  show own_End p e below s (s₁.setTop (mkF m 14 #[.val (.int p0), .val (.int (2 : Int32)), .val (.ref o2), .unset, .unset, .val (.int (2 : Int32)), .val (.int (0 : Int32))] [])) _ _ _
  refine own_go (fun τ κ => XS.iload X0.here hx rfl (hb hby d9_14) rfl κ) ?_
  show own_End p e below s (s₁.setTop (mkF m 16 #[.val (.int p0), .val (.int (2 : Int32)), .val (.ref o2), .unset, .unset, .val (.int (2 : Int32)), .val (.int (0 : Int32))] [(.int (0 : Int32))])) _ _ _
  refine own_go (fun τ κ => XS.ifNo X0.here hx rfl (hb hby d9_16) rfl ((if0 _ _).trans (own_eq (x := (0 : Int32)) (y := (0 : Int32)) (i := 0) (j := 0) rfl rfl (by decide)).2) κ) ?_
  show own_End p e below s (s₁.setTop (mkF m 19 #[.val (.int p0), .val (.int (2 : Int32)), .val (.ref o2), .unset, .unset, .val (.int (2 : Int32)), .val (.int (0 : Int32))] [])) _ _ _
  refine own_go (fun τ κ => XS.iloadN X0.here hx rfl (hb hby d9_19) rfl κ) ?_
  show own_End p e below s (s₁.setTop (mkF m 20 #[.val (.int p0), .val (.int (2 : Int32)), .val (.ref o2), .unset, .unset, .val (.int (2 : Int32)), .val (.int (0 : Int32))] [(.int p0)])) _ _ _
  refine own_go (fun τ κ => XS.ineg X0.here hx rfl (hb hby d9_20) rfl κ) ?_
  show own_End p e below s (s₁.setTop (mkF m 21 #[.val (.int p0), .val (.int (2 : Int32)), .val (.ref o2), .unset, .unset, .val (.int (2 : Int32)), .val (.int (0 : Int32))] [(.int (-p0))])) _ _ _
  refine own_go (fun τ κ => XS.istoreN X0.here hx rfl (hb hby d9_21) rfl (l' := #[.val (.int (-p0)), .val (.int (2 : Int32)), .val (.ref o2), .unset, .unset, .val (.int (2 : Int32)), .val (.int (0 : Int32))]) rfl κ) ?_
  show own_End p e below s (s₁.setTop (mkF m 22 #[.val (.int (-p0)), .val (.int (2 : Int32)), .val (.ref o2), .unset, .unset, .val (.int (2 : Int32)), .val (.int (0 : Int32))] [])) _ _ _
  refine own_go (fun τ κ => XS.iloadN X0.here hx rfl (hb hby d9_22) rfl κ) ?_
  show own_End p e below s (s₁.setTop (mkF m 23 #[.val (.int (-p0)), .val (.int (2 : Int32)), .val (.ref o2), .unset, .unset, .val (.int (2 : Int32)), .val (.int (0 : Int32))] [(.int (-p0))])) _ _ _
  refine own_go (fun τ κ => XS.bipush X0.here hx rfl (hb hby d9_23) κ) ?_
  show own_End p e below s (s₁.setTop (mkF m 25 #[.val (.int (-p0)), .val (.int (2 : Int32)), .val (.ref o2), .unset, .unset, .val (.int (2 : Int32)), .val (.int (0 : Int32))] [(.int (-100 : Int32)), (.int (-p0))])) _ _ _
  refine own_go (fun τ κ => XS.icmpYes X0.here hx rfl (pc0 := 25) (pc' := 72) rfl (hb hby d9_25) rfl (own_tlt (x := (-100 : Int32)) (y := (-p0)) (i := -100) (j := (-p0).toInt) rfl rfl (by omega)).2.2.1 (by decide) (by decide) κ) ?_
  show own_End p e below s (s₁.setTop (mkF m 72 #[.val (.int (-p0)), .val (.int (2 : Int32)), .val (.ref o2), .unset, .unset, .val (.int (2 : Int32)), .val (.int (0 : Int32))] [])) _ _ _
  refine own_go (fun τ κ => XS.aloadN X0.here hx rfl (hb hby d9_72) rfl rfl κ) ?_
  show own_End p e below s (s₁.setTop (mkF m 73 #[.val (.int (-p0)), .val (.int (2 : Int32)), .val (.ref o2), .unset, .unset, .val (.int (2 : Int32)), .val (.int (0 : Int32))] [(.ref o2)])) _ _ _
  refine own_go (fun τ κ => XS.iinc X0.here hx rfl (hb hby d9_73) rfl (l' := #[.val (.int (-p0)), .val (.int (2 : Int32)), .val (.ref o2), .unset, .unset, .val (.int (1 : Int32)), .val (.int (0 : Int32))]) rfl κ) ?_
  show own_End p e below s (s₁.setTop (mkF m 76 #[.val (.int (-p0)), .val (.int (2 : Int32)), .val (.ref o2), .unset, .unset, .val (.int (1 : Int32)), .val (.int (0 : Int32))] [(.ref o2)])) _ _ _
  refine own_go (fun τ κ => XS.iload X0.here hx rfl (hb hby d9_76) rfl κ) ?_
  show own_End p e below s (s₁.setTop (mkF m 78 #[.val (.int (-p0)), .val (.int (2 : Int32)), .val (.ref o2), .unset, .unset, .val (.int (1 : Int32)), .val (.int (0 : Int32))] [(.int (1 : Int32)), (.ref o2)])) _ _ _
  obtain ⟨T1, X1, e1, st1⟩ := getS2 X0 hx hZ hown (host := "") (Or.inl (hw _ (List.mem_of_getElem? (i := 42) rfl))) Via.refl e0 (S_1.ext Ol.2) (g := (mkF m 78 #[.val (.int (-p0)), .val (.int (2 : Int32)), .val (.ref o2), .unset, .unset, .val (.int (1 : Int32)), .val (.int (0 : Int32))] [(.int (1 : Int32)), (.ref o2)])) rfl (hb hby d9_78)
  refine own_go st1 ?_
  show own_End p e below s (T1.setTop (mkF m 81 #[.val (.int (-p0)), .val (.int (2 : Int32)), .val (.ref o2), .unset, .unset, .val (.int (1 : Int32)), .val (.int (0 : Int32))] [(.ref t1), (.int (1 : Int32)), (.ref o2)])) _ _ _
  refine own_go (fun τ κ => XS.iloadN X1.here hx rfl (hb hby d9_81) rfl κ) ?_
  show own_End p e below s (T1.setTop (mkF m 82 #[.val (.int (-p0)), .val (.int (2 : Int32)), .val (.ref o2), .unset, .unset, .val (.int (1 : Int32)), .val (.int (0 : Int32))] [(.int (-p0)), (.ref t1), (.int (1 : Int32)), (.ref o2)])) _ _ _
  refine own_go (fun τ κ => XS.ineg X1.here hx rfl (hb hby d9_82) rfl κ) ?_
  show own_End p e below s (T1.setTop (mkF m 83 #[.val (.int (-p0)), .val (.int (2 : Int32)), .val (.ref o2), .unset, .unset, .val (.int (1 : Int32)), .val (.int (0 : Int32))] [(.int (-(-p0))), (.ref t1), (.int (1 : Int32)), (.ref o2)])) _ _ _
  obtain ⟨w1, hw1, hv1⟩ := D1.2.2 (-(-p0)) (by omega) (by omega)
  have hv1' : w1.toInt = 48 + ((-(-p0))).toInt % 10 := hv1
  refine own_go (fun τ κ => X1.baloadBytes hx (j := (-(-p0))) (v := (.int w1)) (by rw [e1]; exact (D1.1.ext Ol.2).1) (State.isArrayOf_alike hZ.alike D1.1.2.1) D1.1.2.2 (own_digIn D1 (by omega) (by omega)) hw1 (g := (mkF m 83 #[.val (.int (-p0)), .val (.int (2 : Int32)), .val (.ref o2), .unset, .unset, .val (.int (1 : Int32)), .val (.int (0 : Int32))] [(.int (-(-p0))), (.ref t1), (.int (1 : Int32)), (.ref o2)])) rfl rfl (hb hby d9_83) _ κ) ?_
  show own_End p e below s (T1.setTop (mkF m 84 #[.val (.int (-p0)), .val (.int (2 : Int32)), .val (.ref o2), .unset, .unset, .val (.int (1 : Int32)), .val (.int (0 : Int32))] [(.int w1), (.int (1 : Int32)), (.ref o2)])) _ _ _
  obtain ⟨cl2, Ar2, qa2, Sq2, Mq2, Hh2, Gq2⟩ := id Vb
  have hin2 : ¬ ((1 : Int32) < 0 ∨ cl2.slots.size ≤ ((1 : Int32)).toNatClampNeg) := inb_of Sq2 ⟨by decide, by decide⟩
  obtain ⟨T3, h3, X3, e3, W3, st3⟩ := stB X1 hx hZ e1 Ar2 (j := (1 : Int32)) hin2 (g := (mkF m 84 #[.val (.int (-p0)), .val (.int (2 : Int32)), .val (.ref o2), .unset, .unset, .val (.int (1 : Int32)), .val (.int (0 : Int32))] [(.int w1), (.int (1 : Int32)), (.ref o2)])) rfl rfl (hb hby d9_84)
  have V_o2_3 : Arv Z h3 o2 kb .byte (2 : Int32) [(.int (0 : Int32)), (.int (w1.toInt8.toInt32))] (.int (0 : Int32)) := Arv.set Ar2 qa2 Sq2 Mq2 Hh2 Gq2 (fits_nar_byte _) W3 1 rfl (Nat.le_of_ble_eq_true rfl)
  have N3 := Fr.snoc X3 N0 g_o2
  obtain ⟨ls3, Xl3, Nl3⟩ := own_abs X3 N3
  have Z3 : n0 ≤ h3.size := Nat.le_trans Z0 (Keep.of_wr W3).1
  have KP3 := (Keep.refl h0 [o2]).wr W3 (Or.inl (List.mem_of_getElem? (i := 0) rfl))
  refine own_go st3 ?_
  show own_End p e below s (T3.setTop (mkF m 85 #[.val (.int (-p0)), .val (.int (2 : Int32)), .val (.ref o2), .unset, .unset, .val (.int (1 : Int32)), .val (.int (0 : Int32))] [])) _ _ _
  refine own_go (fun τ κ => XS.iloadN Xl3.here hx rfl (hb hby d9_85) rfl κ) ?_
  show own_End p e below s (T3.setTop (mkF m 86 #[.val (.int (-p0)), .val (.int (2 : Int32)), .val (.ref o2), .unset, .unset, .val (.int (1 : Int32)), .val (.int (0 : Int32))] [(.int (-p0))])) _ _ _
  refine own_go (fun τ κ => XS.bipush Xl3.here hx rfl (hb hby d9_86) κ) ?_
  show own_End p e below s (T3.setTop (mkF m 88 #[.val (.int (-p0)), .val (.int (2 : Int32)), .val (.ref o2), .unset, .unset, .val (.int (1 : Int32)), .val (.int (0 : Int32))] [(.int (-9 : Int32)), (.int (-p0))])) _ _ _
  refine own_go (fun τ κ => XS.icmpNo Xl3.here hx rfl (hb hby d9_88) rfl (own_tlt (x := (-p0)) (y := (-9 : Int32)) (i := (-p0).toInt) (j := -9) rfl rfl (by omega)).2.1 κ) ?_
  show own_End p e below s (T3.setTop (mkF m 91 #[.val (.int (-p0)), .val (.int (2 : Int32)), .val (.ref o2), .unset, .unset, .val (.int (1 : Int32)), .val (.int (0 : Int32))] [])) _ _ _
  refine own_go (fun τ κ => XS.aloadN Xl3.here hx rfl (hb hby d9_91) rfl rfl κ) ?_
  show own_End p e below s (T3.setTop (mkF m 92 #[.val (.int (-p0)), .val (.int (2 : Int32)), .val (.ref o2), .unset, .unset, .val (.int (1 : Int32)), .val (.int (0 : Int32))] [(.ref o2)])) _ _ _
  refine own_go (fun τ κ => XS.iinc Xl3.here hx rfl (hb hby d9_92) rfl (l' := #[.val (.int (-p0)), .val (.int (2 : Int32)), .val (.ref o2), .unset, .unset, .val (.int (0 : Int32)), .val (.int (0 : Int32))]) rfl κ) ?_
  show own_End p e below s (T3.setTop (mkF m 95 #[.val (.int (-p0)), .val (.int (2 : Int32)), .val (.ref o2), .unset, .unset, .val (.int (0 : Int32)), .val (.int (0 : Int32))] [(.ref o2)])) _ _ _
  refine own_go (fun τ κ => XS.iload Xl3.here hx rfl (hb hby d9_95) rfl κ) ?_
  show own_End p e below s (T3.setTop (mkF m 97 #[.val (.int (-p0)), .val (.int (2 : Int32)), .val (.ref o2), .unset, .unset, .val (.int (0 : Int32)), .val (.int (0 : Int32))] [(.int (0 : Int32)), (.ref o2)])) _ _ _
  have U4 := (Ol.wr W3 g_o2)
  obtain ⟨T5, X5, e5, st5⟩ := getS2 Xl3 hx hZ hown (host := "") (Or.inl (hw _ (List.mem_of_getElem? (i := 71) rfl))) Via.refl e3 (S_2.ext U4.2) (g := (mkF m 97 #[.val (.int (-p0)), .val (.int (2 : Int32)), .val (.ref o2), .unset, .unset, .val (.int (0 : Int32)), .val (.int (0 : Int32))] [(.int (0 : Int32)), (.ref o2)])) rfl (hb hby d9_97)
  refine own_go st5 ?_
  show own_End p e below s (T5.setTop (mkF m 100 #[.val (.int (-p0)), .val (.int (2 : Int32)), .val (.ref o2), .unset, .unset, .val (.int (0 : Int32)), .val (.int (0 : Int32))] [(.ref t2), (.int (0 : Int32)), (.ref o2)])) _ _ _
  refine own_go (fun τ κ => XS.iloadN X5.here hx rfl (hb hby d9_100) rfl κ) ?_
  show own_End p e below s (T5.setTop (mkF m 101 #[.val (.int (-p0)), .val (.int (2 : Int32)), .val (.ref o2), .unset, .unset, .val (.int (0 : Int32)), .val (.int (0 : Int32))] [(.int (-p0)), (.ref t2), (.int (0 : Int32)), (.ref o2)])) _ _ _
  refine own_go (fun τ κ => XS.ineg X5.here hx rfl (hb hby d9_101) rfl κ) ?_
  show own_End p e below s (T5.setTop (mkF m 102 #[.val (.int (-p0)), .val (.int (2 : Int32)), .val (.ref o2), .unset, .unset, .val (.int (0 : Int32)), .val (.int (0 : Int32))] [(.int (-(-p0))), (.ref t2), (.int (0 : Int32)), (.ref o2)])) _ _ _
  obtain ⟨w2, hw2, hv2⟩ := D2.2.2 (-(-p0)) (by omega) (by omega)
  have hv2' : w2.toInt = 48 + ((-(-p0))).toInt / 10 := hv2
  refine own_go (fun τ κ => X5.baloadBytes hx (j := (-(-p0))) (v := (.int w2)) (by rw [e5]; exact (D2.1.ext U4.2).1) (State.isArrayOf_alike hZ.alike D2.1.2.1) D2.1.2.2 (own_digIn D2 (by omega) (by omega)) hw2 (g := (mkF m 102 #[.val (.int (-p0)), .val (.int (2 : Int32)), .val (.ref o2), .unset, .unset, .val (.int (0 : Int32)), .val (.int (0 : Int32))] [(.int (-(-p0))), (.ref t2), (.int (0 : Int32)), (.ref o2)])) rfl rfl (hb hby d9_102) _ κ) ?_
  show own_End p e below s (T5.setTop (mkF m 103 #[.val (.int (-p0)), .val (.int (2 : Int32)), .val (.ref o2), .unset, .unset, .val (.int (0 : Int32)), .val (.int (0 : Int32))] [(.int w2), (.int (0 : Int32)), (.ref o2)])) _ _ _
  obtain ⟨cl6, Ar6, qa6, Sq6, Mq6, Hh6, Gq6⟩ := id V_o2_3
  have hin6 : ¬ ((0 : Int32) < 0 ∨ cl6.slots.size ≤ ((0 : Int32)).toNatClampNeg) := inb_of Sq6 ⟨by decide, by decide⟩
  obtain ⟨T7, h7, X7, e7, W7, st7⟩ := stB X5 hx hZ e5 Ar6 (j := (0 : Int32)) hin6 (g := (mkF m 103 #[.val (.int (-p0)), .val (.int (2 : Int32)), .val (.ref o2), .unset, .unset, .val (.int (0 : Int32)), .val (.int (0 : Int32))] [(.int w2), (.int (0 : Int32)), (.ref o2)])) rfl rfl (hb hby d9_103)
  have V_o2_7 : Arv Z h7 o2 kb .byte (2 : Int32) [(.int (w2.toInt8.toInt32)), (.int (w1.toInt8.toInt32))] (.int (0 : Int32)) := Arv.set Ar6 qa6 Sq6 Mq6 Hh6 Gq6 (fits_nar_byte _) W7 0 rfl (Nat.le_of_ble_eq_true rfl)
  have N7 := Fr.snoc X7 Nl3 g_o2
  obtain ⟨ls7, Xl7, Nl7⟩ := own_abs X7 N7
  have Z7 : n0 ≤ h7.size := Nat.le_trans Z3 (Keep.of_wr W7).1
  have KP7 := KP3.wr W7 (Or.inl (List.mem_of_getElem? (i := 0) rfl))
  refine own_go st7 ?_
  show own_End p e below s (T7.setTop (mkF m 104 #[.val (.int (-p0)), .val (.int (2 : Int32)), .val (.ref o2), .unset, .unset, .val (.int (0 : Int32)), .val (.int (0 : Int32))] [])) _ _ _
  refine own_go (fun τ κ => XS.iload Xl7.here hx rfl (hb hby d9_104) rfl κ) ?_
  show own_End p e below s (T7.setTop (mkF m 106 #[.val (.int (-p0)), .val (.int (2 : Int32)), .val (.ref o2), .unset, .unset, .val (.int (0 : Int32)), .val (.int (0 : Int32))] [(.int (0 : Int32))])) _ _ _
  refine own_go (fun τ κ => XS.ifYes Xl7.here hx rfl (pc0 := 106) (pc' := 118) rfl (hb hby d9_106) rfl ((if0 _ _).trans (own_eq (x := (0 : Int32)) (y := (0 : Int32)) (i := 0) (j := 0) rfl rfl (by decide)).1) (by decide) (by decide) κ) ?_
  show own_End p e below s (T7.setTop (mkF m 118 #[.val (.int (-p0)), .val (.int (2 : Int32)), .val (.ref o2), .unset, .unset, .val (.int (0 : Int32)), .val (.int (0 : Int32))] [])) _ _ _
  refine own_go (fun τ κ => XS.iload Xl7.here hx rfl (hb hby d9_118) rfl κ) ?_
  show own_End p e below s (T7.setTop (mkF m 120 #[.val (.int (-p0)), .val (.int (2 : Int32)), .val (.ref o2), .unset, .unset, .val (.int (0 : Int32)), .val (.int (0 : Int32))] [(.int (0 : Int32))])) _ _ _
  refine own_ret Xl7 (v := some (.int (0 : Int32))) (fun h => by rw [Bd.returns] at h; cases h) Bd.notSynchronized (fun fs hr => retI Xl7 hx Bd.returns (hb hby d9_120) hr) ?_ (by decide) (by decide)
  · have hb1 := c_i2b w1
    have hb2 := c_i2b w2
    rw [e7]; exact ⟨⟨_, _, V_o2_7, by omega, by omega⟩, Nl7, KP7, rfl⟩
theorem own_ef7_rmT1 (m : MethodId) (p0 : Int32) : entryFrame m #[(.int p0)] 3 = mkF m 0 #[.val (.int p0), .unset, .unset] [] := by first | (simp [entryFrame, mkF, argsToLocals, Value.category]; done) | rfl
def Q_rmT1 (Z : State) (p0 : Int32) (cz : Int32) (t1 : Addr) (d1 : Cell) (t2 : Addr) (d2 : Cell) (h0 : Heap) (n0 : Nat) (v : Option Value) (h : Heap) (L : List Loc) : Prop := (∃ a b kb y0, v = some (.ref a) ∧ h0.size ≤ a ∧ h0.size ≤ b ∧ own_Str Z h a b kb (1 : Int32) [(.int y0)] ∧ Keep h0 h [] ∧ y0.toInt = 48 + p0.toInt) ∧ Fr n0 L
theorem d7_0 : decode jdk_33_method_10_code 0 = .ok (.iload_n 0, 1) := by decide +kernel
theorem d7_1 : decode jdk_33_method_10_code 1 = .ok (.invokestatic 72, 3) := by decide +kernel
theorem own_pd8 : parseMethodDescriptor "(I)I" = some ⟨[.int], some .int⟩ := by decide +kernel
theorem d7_4 : decode jdk_33_method_10_code 4 = .ok (.istore_n 1, 1) := by decide +kernel
theorem d7_5 : decode jdk_33_method_10_code 5 = .ok (.getstatic 13, 3) := by decide +kernel
theorem d7_8 : decode jdk_33_method_10_code 8 = .ok (.ifCond .eq 24, 3) := by decide +kernel
theorem d7_11 : decode jdk_33_method_10_code 11 = .ok (.iload_n 1, 1) := by decide +kernel
theorem d7_12 : decode jdk_33_method_10_code 12 = .ok (.newarray .byte, 2) := by decide +kernel
theorem d7_14 : decode jdk_33_method_10_code 14 = .ok (.astore_n 2, 1) := by decide +kernel
theorem d7_15 : decode jdk_33_method_10_code 15 = .ok (.iload_n 0, 1) := by decide +kernel
theorem d7_16 : decode jdk_33_method_10_code 16 = .ok (.iload_n 1, 1) := by decide +kernel
theorem d7_17 : decode jdk_33_method_10_code 17 = .ok (.aload_n 2, 1) := by decide +kernel
theorem d7_18 : decode jdk_33_method_10_code 18 = .ok (.invokestatic 75, 3) := by decide +kernel
theorem own_pd9 : parseMethodDescriptor "(II[B)I" = some ⟨[.int, .int, (.array .byte)], some .int⟩ := by decide +kernel
theorem d7_21 : decode jdk_33_method_10_code 21 = .ok (.pop, 1) := by decide +kernel
theorem d7_22 : decode jdk_33_method_10_code 22 = .ok (.new 5, 3) := by decide +kernel
theorem d7_25 : decode jdk_33_method_10_code 25 = .ok (.dup, 1) := by decide +kernel
theorem d7_26 : decode jdk_33_method_10_code 26 = .ok (.aload_n 2, 1) := by decide +kernel
theorem d7_27 : decode jdk_33_method_10_code 27 = .ok (.iconst 0, 1) := by decide +kernel
theorem d7_28 : decode jdk_33_method_10_code 28 = .ok (.invokespecial 65, 3) := by decide +kernel
theorem d7_31 : decode jdk_33_method_10_code 31 = .ok (.areturn, 1) := by decide +kernel
set_option maxRecDepth 65536 in
set_option maxHeartbeats 40000000 in
theorem rmT1 (l : Launch) (Z : State) (a0 : Array Value) (hw : ∀ d ∈ tables_1, d.before a0 Z = true) (ws : List Jvm.Cond) (p0 : Int32) (cz : Int32) (t1 : Addr) (d1 : Cell) (t2 : Addr) (d2 : Cell) (h0 : Heap) (n0 : Nat) (Z0 : n0 ≤ h0.size) (Ol : Old Z n0 h0) (S_C : Sta Z Z.heap "java/lang/String" "COMPACT_STRINGS" "Z" (.int cz)) (hcz : ¬ cz.toInt = 0) (S_1 : Sta Z Z.heap "java/lang/Integer" "DigitOnes" "[B" (.ref t1)) (D1 : own_Dig Z Z.heap t1 d1 (fun x => 48 + x % 10)) (S_2 : Sta Z Z.heap "java/lang/Integer" "DigitTens" "[B" (.ref t2)) (D2 : own_Dig Z Z.heap t2 d2 (fun x => 48 + x / 10)) (hp0 : 0 ≤ p0.toInt) (hp9 : p0.toInt < 10) :
    MetFree l (⟨"java/lang/Integer", "toString", "(I)Ljava/lang/String;"⟩ : MethodName) (head1 (Jvm.Cond.code (⟨"java/lang/Integer", "toString", "(I)Ljava/lang/String;"⟩ : MethodName) jdk_33_method_10_code 3 (some (.object "java/lang/String")) :: ws) ({ frames := 2, cells := 2, slots := 5, locals := 28 } : Room)) (fun a U => a = #[(.int p0)] ∧ Z.Warmed39 U.vm ∧ U.heap = h0) (fun _ _ _ _ _ => True) (fun _ U o U' => ∃ v L, o = .returned v ∧ Q_rmT1 Z p0 cz t1 d1 t2 d2 h0 n0 v U'.heap L ∧ FrameEnd U o U' L ({ frames := 2, cells := 2, slots := 5, locals := 28 } : Room).cells ({ frames := 2, cells := 2, slots := 5, locals := 28 } : Room).slots) := by
  refine MetFree.of_bodySF (plainFor_of_name own_pn3) hisR ?_
  intro p e s m args below meth c s₁ Bd hml0 hP hK
  obtain ⟨rfl, hZ, hh⟩ := hP
  have hx := Bd.exec
  have hby := Bd.bytes
  have hml : c.maxLocals = 3 := hml0
  have hown : s.vm.findClass "java/lang/Integer" = some m.cls := findClass_of_methodNamed Bd.named
  have hnm := (name_of_methodNamed Bd.named Bd.method).1
  have X0 : Stand p l e ({ frames := 2, cells := 2, slots := 5, locals := 28 } : Room) s m #[(.int p0)] below meth c s₁ [] 0 0 := Stand.of_body Bd
  have e0 : s₁.heap = h0 := by rw [← hh, Bd.state]; rfl
  have N0 := Fr.nil n0
  refine (show own_End p e below s (s₁.setTop (entryFrame m #[(.int p0)] 3)) (Q_rmT1 Z p0 cz t1 d1 t2 d2 h0 n0) ({ frames := 2, cells := 2, slots := 5, locals := 28 } : Room).cells ({ frames := 2, cells := 2, slots := 5, locals := 28 } : Room).slots from ?_)
  refine own_go (fun τ κ => castTop (own_ef7_rmT1 m p0) κ) ?_
  have li0 : (0 : Int32).toInt = 0 := rfl
  have li1 : (1 : Int32).toInt = 1 := rfl
  have li2 : (2 : Int32).toInt = 2 := rfl
  show own_End p e below s (s₁.setTop (mkF m 0 #[.val (.int p0), .unset, .unset] [])) _ _ _
  refine own_go (fun τ κ => XS.iloadN X0.here hx rfl (hb hby d7_0) rfl κ) ?_
  show own_End p e below s (s₁.setTop (mkF m 1 #[.val (.int p0), .unset, .unset] [(.int p0)])) _ _ _
  obtain ⟨_, _, ⟨T1, L1, k1, n1⟩, -, X1, ⟨Lc1, hQ1, l1, y1, z1⟩, st1⟩ := Jvm.LawKit.callS X0 hx (y := (⟨"java/lang/Integer", "stringSize", "(I)I"⟩ : MethodName)) hown (mvT hZ (hw _ (List.mem_of_getElem? (i := 35) rfl))) (mvT hZ (hw _ (List.mem_of_getElem? (i := 36) rfl))) (mvT hZ (hw _ (List.mem_of_getElem? (i := 33) rfl))) (mvT hZ (hw _ (List.mem_of_getElem? (i := 37) rfl))) (by decide) (backOf (W := 0) (rmZ1 l Z a0 hw [] p0 h0 n0 Z0 hp0 hp9) hZ (hw _ (List.mem_of_getElem? (i := 37) rfl)) (hw _ (List.mem_of_getElem? (i := 33) rfl)) (by decide) (by decide)) (g := (mkF m 1 #[.val (.int p0), .unset, .unset] [(.int p0)])) rfl (by rw [hml]; rfl) (argsL := [(.int p0)]) (rest := []) (lenOf own_pd8 rfl) rfl (by show 2 * 0 + _ ≤ _; exact Nat.le_of_eq rfl) (hb hby d7_1) (fun _ _ => ⟨rfl, e0, (by decide : 0 + 0 ≤ _), (by decide : 0 + 0 ≤ _)⟩)
  dsimp only [Pt.U, Pt.locs, Pt.cells, Pt.slots] at X1 l1 y1 z1 st1 hQ1
  subst l1 y1 z1
  obtain ⟨rfl, N1q, e1⟩ := hQ1
  have N1 := Fr.app N0 N1q
  obtain ⟨ls1, Xl1, Nl1⟩ := own_abs X1 N1
  refine own_go st1 ?_
  show own_End p e below s (T1.setTop (mkF m 4 #[.val (.int p0), .unset, .unset] [(.int (1 : Int32))])) _ _ _
  refine own_go (fun τ κ => XS.istoreN Xl1.here hx rfl (hb hby d7_4) rfl (l' := #[.val (.int p0), .val (.int (1 : Int32)), .unset]) rfl κ) ?_
  show own_End p e below s (T1.setTop (mkF m 5 #[.val (.int p0), .val (.int (1 : Int32)), .unset] [])) _ _ _
  obtain ⟨T2, X2, e2, st2⟩ := getS2 Xl1 hx hZ hown (host := "") (Or.inl (hw _ (List.mem_of_getElem? (i := 38) rfl))) Via.refl e1 (S_C.ext Ol.2) (g := (mkF m 5 #[.val (.int p0), .val (.int (1 : Int32)), .unset] [])) rfl (hb hby d7_5)
  refine own_go st2 ?_
  show own_End p e below s (T2.setTop (mkF m 8 #[.val (.int p0), .val (.int (1 : Int32)), .unset] [(.int cz)])) _ _ _
  refine own_go (fun τ κ => XS.ifNo X2.here hx rfl (hb hby d7_8) rfl ((if0 _ _).trans (own_ne (x := cz) (y := (0 : Int32)) (i := cz.toInt) (j := 0) rfl rfl hcz).1) κ) ?_
  show own_End p e below s (T2.setTop (mkF m 11 #[.val (.int p0), .val (.int (1 : Int32)), .unset] [])) _ _ _
  refine own_go (fun τ κ => XS.iloadN X2.here hx rfl (hb hby d7_11) rfl κ) ?_
  show own_End p e below s (T2.setTop (mkF m 12 #[.val (.int p0), .val (.int (1 : Int32)), .unset] [(.int (1 : Int32))])) _ _ _
  obtain ⟨T3, h3, k3, X3, e3, E3, A3, st3⟩ := newP X2 hx hZ (hw _ (List.mem_of_getElem? (i := 15) rfl)) e2 (g := (mkF m 12 #[.val (.int p0), .val (.int (1 : Int32)), .unset] [(.int (1 : Int32))])) rfl (hb hby d7_12) rfl (by decide) (cap := 1) (by decide) (by decide) (by decide) (by decide)
  obtain ⟨b3, g3⟩ : ∃ z, z = h0.size := ⟨_, rfl⟩
  rw [← g3] at A3 st3
  have g_b3 : n0 ≤ b3 := Nat.le_trans Z0 (Nat.le_of_eq g3.symm)
  have Z3 : n0 ≤ h3.size := Nat.le_trans Z0 E3.1
  have KP3 := (Keep.refl h0 []).ext E3
  have sz_b3 : h0.size ≤ b3 := Nat.le_trans (Keep.refl h0 []).1 (Nat.le_of_eq g3.symm)
  have V_b3 : Arv Z h3 b3 k3 .byte (1 : Int32) [(.int (0 : Int32))] (.int (0 : Int32)) := (Arv.new A3 (by decide)).pad (pad_rep [] (.int (0 : Int32)) 1)
  refine own_go st3 ?_
  show own_End p e below s (T3.setTop (mkF m 14 #[.val (.int p0), .val (.int (1 : Int32)), .unset] [(.ref b3)])) _ _ _
  refine own_go (fun τ κ => XS.astoreN X3.here hx rfl (hb hby d7_14) rfl rfl (l' := #[.val (.int p0), .val (.int (1 : Int32)), .val (.ref b3)]) rfl κ) ?_
  show own_End p e below s (T3.setTop (mkF m 15 #[.val (.int p0), .val (.int (1 : Int32)), .val (.ref b3)] [])) _ _ _
  refine own_go (fun τ κ => XS.iloadN X3.here hx rfl (hb hby d7_15) rfl κ) ?_
  show own_End p e below s (T3.setTop (mkF m 16 #[.val (.int p0), .val (.int (1 : Int32)), .val (.ref b3)] [(.int p0)])) _ _ _
  refine own_go (fun τ κ => XS.iloadN X3.here hx rfl (hb hby d7_16) rfl κ) ?_
  show own_End p e below s (T3.setTop (mkF m 17 #[.val (.int p0), .val (.int (1 : Int32)), .val (.ref b3)] [(.int (1 : Int32)), (.int p0)])) _ _ _
  refine own_go (fun τ κ => XS.aloadN X3.here hx rfl (hb hby d7_17) rfl rfl κ) ?_
  show own_End p e below s (T3.setTop (mkF m 18 #[.val (.int p0), .val (.int (1 : Int32)), .val (.ref b3)] [(.ref b3), (.int (1 : Int32)), (.int p0)])) _ _ _
  have U4 := (Ol.ext E3)
  obtain ⟨_, _, ⟨T5, L5, k5, n5⟩, -, X5, ⟨Lc5, hQ5, l5, y5, z5⟩, st5⟩ := Jvm.LawKit.callS X3 hx (y := (⟨"java/lang/Integer", "getChars", "(II[B)I"⟩ : MethodName)) hown (mvT hZ (hw _ (List.mem_of_getElem? (i := 39) rfl))) (mvT hZ (hw _ (List.mem_of_getElem? (i := 40) rfl))) (mvT hZ (hw _ (List.mem_of_getElem? (i := 33) rfl))) (mvT hZ (hw _ (List.mem_of_getElem? (i := 41) rfl))) (by decide) (backOf (W := 0) (rmG1 l Z a0 hw [] p0 b3 k3 t1 d1 t2 d2 h3 n0 Z3 g_b3 V_b3 U4 S_1 D1 S_2 D2 hp0 hp9) hZ (hw _ (List.mem_of_getElem? (i := 41) rfl)) (hw _ (List.mem_of_getElem? (i := 33) rfl)) (by decide) (by decide)) (g := (mkF m 18 #[.val (.int p0), .val (.int (1 : Int32)), .val (.ref b3)] [(.ref b3), (.int (1 : Int32)), (.int p0)])) rfl (by rw [hml]; rfl) (argsL := [(.int p0), (.int (1 : Int32)), (.ref b3)]) (rest := []) (lenOf own_pd9 rfl) rfl (by show 2 * 0 + _ ≤ _; exact Nat.le_of_eq rfl) (hb hby d7_18) (fun _ _ => ⟨rfl, e3, (by decide : 1 + 0 ≤ _), (by decide : 1 + 0 ≤ _)⟩)
  dsimp only [Pt.U, Pt.locs, Pt.cells, Pt.slots] at X5 l5 y5 z5 st5 hQ5
  subst l5 y5 z5
  obtain ⟨⟨y0, Vy5, hy5⟩, N5q, K5, rfl⟩ := hQ5
  have N5 := Fr.app Nl1 N5q
  obtain ⟨ls5, Xl5, Nl5⟩ := own_abs X5 N5
  have Z5 : n0 ≤ T5.heap.size := Nat.le_trans Z3 K5.1
  refine own_go st5 ?_
  show own_End p e below s (T5.setTop (mkF m 21 #[.val (.int p0), .val (.int (1 : Int32)), .val (.ref b3)] [(.int (0 : Int32))])) _ _ _
  have KP5 := KP3.trans K5 (allS (Or.inr sz_b3) all0)
  refine own_go (fun τ κ => XS.pop Xl5.here hx rfl (hb hby d7_21) rfl rfl κ) ?_
  show own_End p e below s (T5.setTop (mkF m 22 #[.val (.int p0), .val (.int (1 : Int32)), .val (.ref b3)] [])) _ _ _
  obtain ⟨T6, h6, X6, e6, E6, A6, D6, -, st6⟩ := newO Xl5 hx hZ hown (hw _ (List.mem_of_getElem? (i := 43) rfl)) (hw _ (List.mem_of_getElem? (i := 11) rfl)) (hw _ (List.mem_of_getElem? (i := 3) rfl)) rfl (g := (mkF m 22 #[.val (.int p0), .val (.int (1 : Int32)), .val (.ref b3)] [])) rfl (hb hby d7_22) (by decide) (by decide)
  obtain ⟨b6, g6⟩ : ∃ z, z = T5.heap.size := ⟨_, rfl⟩
  rw [← g6] at A6 D6 st6
  have g_b6 : n0 ≤ b6 := Nat.le_trans Z5 (Nat.le_of_eq g6.symm)
  have ne_b3_b6 : b3 ≠ b6 := Nat.ne_of_lt (Nat.lt_of_lt_of_le Vy5.lt (Nat.le_of_eq g6.symm))
  have Z6 : n0 ≤ h6.size := Nat.le_trans Z5 E6.1
  have KP6 := KP5.ext E6
  have sz_b6 : h0.size ≤ b6 := Nat.le_trans KP5.1 (Nat.le_of_eq g6.symm)
  have F_value_b6 : Fld Z h6 b6 "java/lang/String" "value" "[B" .null := D6 (Or.inr (hw _ (List.mem_of_getElem? (i := 24) rfl))) (ty := (.array .byte)) (by decide)
  have F_coder_b6 : Fld Z h6 b6 "java/lang/String" "coder" "B" (.int (0 : Int32)) := D6 (Or.inr (hw _ (List.mem_of_getElem? (i := 26) rfl))) (ty := .byte) (by decide)
  refine own_go st6 ?_
  show own_End p e below s (T6.setTop (mkF m 25 #[.val (.int p0), .val (.int (1 : Int32)), .val (.ref b3)] [(.ref b6)])) _ _ _
  refine own_go (fun τ κ => XS.dup X6.here hx rfl (hb hby d7_25) rfl rfl κ) ?_
  show own_End p e below s (T6.setTop (mkF m 26 #[.val (.int p0), .val (.int (1 : Int32)), .val (.ref b3)] [(.ref b6), (.ref b6)])) _ _ _
  refine own_go (fun τ κ => XS.aloadN X6.here hx rfl (hb hby d7_26) rfl rfl κ) ?_
  show own_End p e below s (T6.setTop (mkF m 27 #[.val (.int p0), .val (.int (1 : Int32)), .val (.ref b3)] [(.ref b3), (.ref b6), (.ref b6)])) _ _ _
  refine own_go (fun τ κ => XS.iconst X6.here hx rfl (hb hby d7_27) κ) ?_
  show own_End p e below s (T6.setTop (mkF m 28 #[.val (.int p0), .val (.int (1 : Int32)), .val (.ref b3)] [(.int (0 : Int32)), (.ref b3), (.ref b6), (.ref b6)])) _ _ _
  obtain ⟨_, _, ⟨T7, L7, k7, n7⟩, -, X7, ⟨Lc7, hQ7, l7, y7, z7⟩, st7⟩ := X6.specialBack hx (y := (⟨"java/lang/String", "<init>", "([BB)V"⟩ : MethodName)) rfl hown (mvT hZ (hw _ (List.mem_of_getElem? (i := 44) rfl))) (mvT hZ (hw _ (List.mem_of_getElem? (i := 17) rfl))) (mvT hZ (hw _ (List.mem_of_getElem? (i := 19) rfl))) (by decide) (backOf (W := 1) (rmSI l Z a0 hw [] b6 b3 h6 n0 Z6 g_b6 A6 F_value_b6 F_coder_b6) hZ (hw _ (List.mem_of_getElem? (i := 19) rfl)) (hw _ (List.mem_of_getElem? (i := 3) rfl)) (by decide) (by decide)) (g := (mkF m 28 #[.val (.int p0), .val (.int (1 : Int32)), .val (.ref b3)] [(.int (0 : Int32)), (.ref b3), (.ref b6), (.ref b6)])) rfl (by rw [hml]; rfl) (Steps.refl _) (a := b6) (argsL := [(.ref b3), (.int (0 : Int32))]) (rest := [(.ref b6)]) (lenOf own_pd2 rfl) rfl (by show 2 * 0 + _ ≤ _; exact Nat.le_of_eq rfl) (hb hby d7_28) (fun _ _ => ⟨rfl, e6, (by decide : 2 + 0 ≤ _), (by decide : 5 + 0 ≤ _)⟩)
  dsimp only [Pt.U, Pt.locs, Pt.cells, Pt.slots] at X7 l7 y7 z7 st7 hQ7
  subst l7 y7 z7
  obtain ⟨rfl, N7q, K7, Ex7, Fv7, Fc7⟩ := hQ7
  have N7 := Fr.app Nl5 N7q
  obtain ⟨ls7, Xl7, Nl7⟩ := own_abs X7 N7
  have Z7 : n0 ≤ T7.heap.size := Nat.le_trans Z6 K7.1
  refine own_go (fun τ κ => st7.trans κ) ?_
  show own_End p e below s (T7.setTop (mkF m 31 #[.val (.int p0), .val (.int (1 : Int32)), .val (.ref b3)] [(.ref b6)])) _ _ _
  have KP7 := KP6.trans K7 (allS (Or.inr sz_b6) all0)
  refine own_ret Xl7 (v := some (.ref b6)) (fun h => by rw [Bd.returns] at h; cases h) Bd.notSynchronized (fun fs hr => retOut Xl7 hx (w := (.ref b6)) Bd.returns rfl (Or.inr (Or.inr (Or.inr (Or.inr ⟨rfl, rfl, rfl⟩)))) (hb hby d7_31) hr) ?_ (by decide) (by decide)
  have U8 := ((Vy5.ext E6).keep K7 (ninS ne_b3_b6 nin0))
  · exact ⟨⟨_, _, _, _, rfl, sz_b6, sz_b3, ⟨Ex7, Fv7, Fc7, U8⟩, KP7, hy5⟩, Nl7⟩
theorem own_ef7_rmT2 (m : MethodId) (p0 : Int32) : entryFrame m #[(.int p0)] 3 = mkF m 0 #[.val (.int p0), .unset, .unset] [] := by first | (simp [entryFrame, mkF, argsToLocals, Value.category]; done) | rfl
def Q_rmT2 (Z : State) (p0 : Int32) (cz : Int32) (t1 : Addr) (d1 : Cell) (t2 : Addr) (d2 : Cell) (h0 : Heap) (n0 : Nat) (v : Option Value) (h : Heap) (L : List Loc) : Prop := (∃ a b kb y0 y1, v = some (.ref a) ∧ h0.size ≤ a ∧ h0.size ≤ b ∧ own_Str Z h a b kb (2 : Int32) [(.int y0), (.int y1)] ∧ Keep h0 h [] ∧ y0.toInt = 48 + p0.toInt / 10 ∧ y1.toInt = 48 + p0.toInt % 10) ∧ Fr n0 L
set_option maxRecDepth 65536 in
set_option maxHeartbeats 40000000 in
theorem rmT2 (l : Launch) (Z : State) (a0 : Array Value) (hw : ∀ d ∈ tables_1, d.before a0 Z = true) (ws : List Jvm.Cond) (p0 : Int32) (cz : Int32) (t1 : Addr) (d1 : Cell) (t2 : Addr) (d2 : Cell) (h0 : Heap) (n0 : Nat) (Z0 : n0 ≤ h0.size) (Ol : Old Z n0 h0) (S_C : Sta Z Z.heap "java/lang/String" "COMPACT_STRINGS" "Z" (.int cz)) (hcz : ¬ cz.toInt = 0) (S_1 : Sta Z Z.heap "java/lang/Integer" "DigitOnes" "[B" (.ref t1)) (D1 : own_Dig Z Z.heap t1 d1 (fun x => 48 + x % 10)) (S_2 : Sta Z Z.heap "java/lang/Integer" "DigitTens" "[B" (.ref t2)) (D2 : own_Dig Z Z.heap t2 d2 (fun x => 48 + x / 10)) (hp0 : 10 ≤ p0.toInt) (hp9 : p0.toInt < 100) :
    MetFree l (⟨"java/lang/Integer", "toString", "(I)Ljava/lang/String;"⟩ : MethodName) (head1 (Jvm.Cond.code (⟨"java/lang/Integer", "toString", "(I)Ljava/lang/String;"⟩ : MethodName) jdk_33_method_10_code 3 (some (.object "java/lang/String")) :: ws) ({ frames := 2, cells := 2, slots := 6, locals := 28 } : Room)) (fun a U => a = #[(.int p0)] ∧ Z.Warmed39 U.vm ∧ U.heap = h0) (fun _ _ _ _ _ => True) (fun _ U o U' => ∃ v L, o = .returned v ∧ Q_rmT2 Z p0 cz t1 d1 t2 d2 h0 n0 v U'.heap L ∧ FrameEnd U o U' L ({ frames := 2, cells := 2, slots := 6, locals := 28 } : Room).cells ({ frames := 2, cells := 2, slots := 6, locals := 28 } : Room).slots) := by
  refine MetFree.of_bodySF (plainFor_of_name own_pn3) hisR ?_
  intro p e s m args below meth c s₁ Bd hml0 hP hK
  obtain ⟨rfl, hZ, hh⟩ := hP
  have hx := Bd.exec
  have hby := Bd.bytes
  have hml : c.maxLocals = 3 := hml0
  have hown : s.vm.findClass "java/lang/Integer" = some m.cls := findClass_of_methodNamed Bd.named
  have hnm := (name_of_methodNamed Bd.named Bd.method).1
  have X0 : Stand p l e ({ frames := 2, cells := 2, slots := 6, locals := 28 } : Room) s m #[(.int p0)] below meth c s₁ [] 0 0 := Stand.of_body Bd
  have e0 : s₁.heap = h0 := by rw [← hh, Bd.state]; rfl
  have N0 := Fr.nil n0
  refine (show own_End p e below s (s₁.setTop (entryFrame m #[(.int p0)] 3)) (Q_rmT2 Z p0 cz t1 d1 t2 d2 h0 n0) ({ frames := 2, cells := 2, slots := 6, locals := 28 } : Room).cells ({ frames := 2, cells := 2, slots := 6, locals := 28 } : Room).slots from ?_)
  refine own_go (fun τ κ => castTop (own_ef7_rmT2 m p0) κ) ?_
  have li0 : (0 : Int32).toInt = 0 := rfl
  have li1 : (1 : Int32).toInt = 1 := rfl
  have li2 : (2 : Int32).toInt = 2 := rfl
  show own_End p e below s (s₁.setTop (mkF m 0 #[.val (.int p0), .unset, .unset] [])) _ _ _
  refine own_go (fun τ κ => XS.iloadN X0.here hx rfl (hb hby d7_0) rfl κ) ?_
  show own_End p e below s (s₁.setTop (mkF m 1 #[.val (.int p0), .unset, .unset] [(.int p0)])) _ _ _
  obtain ⟨_, _, ⟨T1, L1, k1, n1⟩, -, X1, ⟨Lc1, hQ1, l1, y1, z1⟩, st1⟩ := Jvm.LawKit.callS X0 hx (y := (⟨"java/lang/Integer", "stringSize", "(I)I"⟩ : MethodName)) hown (mvT hZ (hw _ (List.mem_of_getElem? (i := 35) rfl))) (mvT hZ (hw _ (List.mem_of_getElem? (i := 36) rfl))) (mvT hZ (hw _ (List.mem_of_getElem? (i := 33) rfl))) (mvT hZ (hw _ (List.mem_of_getElem? (i := 37) rfl))) (by decide) (backOf (W := 0) (rmZ2 l Z a0 hw [] p0 h0 n0 Z0 hp0 hp9) hZ (hw _ (List.mem_of_getElem? (i := 37) rfl)) (hw _ (List.mem_of_getElem? (i := 33) rfl)) (by decide) (by decide)) (g := (mkF m 1 #[.val (.int p0), .unset, .unset] [(.int p0)])) rfl (by rw [hml]; rfl) (argsL := [(.int p0)]) (rest := []) (lenOf own_pd8 rfl) rfl (by show 2 * 0 + _ ≤ _; exact Nat.le_of_eq rfl) (hb hby d7_1) (fun _ _ => ⟨rfl, e0, (by decide : 0 + 0 ≤ _), (by decide : 0 + 0 ≤ _)⟩)
  dsimp only [Pt.U, Pt.locs, Pt.cells, Pt.slots] at X1 l1 y1 z1 st1 hQ1
  subst l1 y1 z1
  obtain ⟨rfl, N1q, e1⟩ := hQ1
  have N1 := Fr.app N0 N1q
  obtain ⟨ls1, Xl1, Nl1⟩ := own_abs X1 N1
  refine own_go st1 ?_
  show own_End p e below s (T1.setTop (mkF m 4 #[.val (.int p0), .unset, .unset] [(.int (2 : Int32))])) _ _ _
  refine own_go (fun τ κ => XS.istoreN Xl1.here hx rfl (hb hby d7_4) rfl (l' := #[.val (.int p0), .val (.int (2 : Int32)), .unset]) rfl κ) ?_
  show own_End p e below s (T1.setTop (mkF m 5 #[.val (.int p0), .val (.int (2 : Int32)), .unset] [])) _ _ _
  obtain ⟨T2, X2, e2, st2⟩ := getS2 Xl1 hx hZ hown (host := "") (Or.inl (hw _ (List.mem_of_getElem? (i := 38) rfl))) Via.refl e1 (S_C.ext Ol.2) (g := (mkF m 5 #[.val (.int p0), .val (.int (2 : Int32)), .unset] [])) rfl (hb hby d7_5)
  refine own_go st2 ?_
  show own_End p e below s (T2.setTop (mkF m 8 #[.val (.int p0), .val (.int (2 : Int32)), .unset] [(.int cz)])) _ _ _
  refine own_go (fun τ κ => XS.ifNo X2.here hx rfl (hb hby d7_8) rfl ((if0 _ _).trans (own_ne (x := cz) (y := (0 : Int32)) (i := cz.toInt) (j := 0) rfl rfl hcz).1) κ) ?_
  show own_End p e below s (T2.setTop (mkF m 11 #[.val (.int p0), .val (.int (2 : Int32)), .unset] [])) _ _ _
  refine own_go (fun τ κ => XS.iloadN X2.here hx rfl (hb hby d7_11) rfl κ) ?_
  show own_End p e below s (T2.setTop (mkF m 12 #[.val (.int p0), .val (.int (2 : Int32)), .unset] [(.int (2 : Int32))])) _ _ _
  obtain ⟨T3, h3, k3, X3, e3, E3, A3, st3⟩ := newP X2 hx hZ (hw _ (List.mem_of_getElem? (i := 15) rfl)) e2 (g := (mkF m 12 #[.val (.int p0), .val (.int (2 : Int32)), .unset] [(.int (2 : Int32))])) rfl (hb hby d7_12) rfl (by decide) (cap := 2) (by decide) (by decide) (by decide) (by decide)
  obtain ⟨b3, g3⟩ : ∃ z, z = h0.size := ⟨_, rfl⟩
  rw [← g3] at A3 st3
  have g_b3 : n0 ≤ b3 := Nat.le_trans Z0 (Nat.le_of_eq g3.symm)
  have Z3 : n0 ≤ h3.size := Nat.le_trans Z0 E3.1
  have KP3 := (Keep.refl h0 []).ext E3
  have sz_b3 : h0.size ≤ b3 := Nat.le_trans (Keep.refl h0 []).1 (Nat.le_of_eq g3.symm)
  have V_b3 : Arv Z h3 b3 k3 .byte (2 : Int32) [(.int (0 : Int32)), (.int (0 : Int32))] (.int (0 : Int32)) := (Arv.new A3 (by decide)).pad (pad_rep [] (.int (0 : Int32)) 2)
  refine own_go st3 ?_
  show own_End p e below s (T3.setTop (mkF m 14 #[.val (.int p0), .val (.int (2 : Int32)), .unset] [(.ref b3)])) _ _ _
  refine own_go (fun τ κ => XS.astoreN X3.here hx rfl (hb hby d7_14) rfl rfl (l' := #[.val (.int p0), .val (.int (2 : Int32)), .val (.ref b3)]) rfl κ) ?_
  show own_End p e below s (T3.setTop (mkF m 15 #[.val (.int p0), .val (.int (2 : Int32)), .val (.ref b3)] [])) _ _ _
  refine own_go (fun τ κ => XS.iloadN X3.here hx rfl (hb hby d7_15) rfl κ) ?_
  show own_End p e below s (T3.setTop (mkF m 16 #[.val (.int p0), .val (.int (2 : Int32)), .val (.ref b3)] [(.int p0)])) _ _ _
  refine own_go (fun τ κ => XS.iloadN X3.here hx rfl (hb hby d7_16) rfl κ) ?_
  show own_End p e below s (T3.setTop (mkF m 17 #[.val (.int p0), .val (.int (2 : Int32)), .val (.ref b3)] [(.int (2 : Int32)), (.int p0)])) _ _ _
  refine own_go (fun τ κ => XS.aloadN X3.here hx rfl (hb hby d7_17) rfl rfl κ) ?_
  show own_End p e below s (T3.setTop (mkF m 18 #[.val (.int p0), .val (.int (2 : Int32)), .val (.ref b3)] [(.ref b3), (.int (2 : Int32)), (.int p0)])) _ _ _
  have U4 := (Ol.ext E3)
  obtain ⟨_, _, ⟨T5, L5, k5, n5⟩, -, X5, ⟨Lc5, hQ5, l5, y5, z5⟩, st5⟩ := Jvm.LawKit.callS X3 hx (y := (⟨"java/lang/Integer", "getChars", "(II[B)I"⟩ : MethodName)) hown (mvT hZ (hw _ (List.mem_of_getElem? (i := 39) rfl))) (mvT hZ (hw _ (List.mem_of_getElem? (i := 40) rfl))) (mvT hZ (hw _ (List.mem_of_getElem? (i := 33) rfl))) (mvT hZ (hw _ (List.mem_of_getElem? (i := 41) rfl))) (by decide) (backOf (W := 0) (rmG2 l Z a0 hw [] p0 b3 k3 t1 d1 t2 d2 h3 n0 Z3 g_b3 V_b3 U4 S_1 D1 S_2 D2 hp0 hp9) hZ (hw _ (List.mem_of_getElem? (i := 41) rfl)) (hw _ (List.mem_of_getElem? (i := 33) rfl)) (by decide) (by decide)) (g := (mkF m 18 #[.val (.int p0), .val (.int (2 : Int32)), .val (.ref b3)] [(.ref b3), (.int (2 : Int32)), (.int p0)])) rfl (by rw [hml]; rfl) (argsL := [(.int p0), (.int (2 : Int32)), (.ref b3)]) (rest := []) (lenOf own_pd9 rfl) rfl (by show 2 * 0 + _ ≤ _; exact Nat.le_of_eq rfl) (hb hby d7_18) (fun _ _ => ⟨rfl, e3, (by decide : 1 + 0 ≤ _), (by decide : 2 + 0 ≤ _)⟩)
  dsimp only [Pt.U, Pt.locs, Pt.cells, Pt.slots] at X5 l5 y5 z5 st5 hQ5
  subst l5 y5 z5
  obtain ⟨⟨y0, y1, Vy5, hy5⟩, N5q, K5, rfl⟩ := hQ5
  have N5 := Fr.app Nl1 N5q
  obtain ⟨ls5, Xl5, Nl5⟩ := own_abs X5 N5
  have Z5 : n0 ≤ T5.heap.size := Nat.le_trans Z3 K5.1
  refine own_go st5 ?_
  show own_End p e below s (T5.setTop (mkF m 21 #[.val (.int p0), .val (.int (2 : Int32)), .val (.ref b3)] [(.int (0 : Int32))])) _ _ _
  have KP5 := KP3.trans K5 (allS (Or.inr sz_b3) all0)
  refine own_go (fun τ κ => XS.pop Xl5.here hx rfl (hb hby d7_21) rfl rfl κ) ?_
  show own_End p e below s (T5.setTop (mkF m 22 #[.val (.int p0), .val (.int (2 : Int32)), .val (.ref b3)] [])) _ _ _
  obtain ⟨T6, h6, X6, e6, E6, A6, D6, -, st6⟩ := newO Xl5 hx hZ hown (hw _ (List.mem_of_getElem? (i := 43) rfl)) (hw _ (List.mem_of_getElem? (i := 11) rfl)) (hw _ (List.mem_of_getElem? (i := 3) rfl)) rfl (g := (mkF m 22 #[.val (.int p0), .val (.int (2 : Int32)), .val (.ref b3)] [])) rfl (hb hby d7_22) (by decide) (by decide)
  obtain ⟨b6, g6⟩ : ∃ z, z = T5.heap.size := ⟨_, rfl⟩
  rw [← g6] at A6 D6 st6
  have g_b6 : n0 ≤ b6 := Nat.le_trans Z5 (Nat.le_of_eq g6.symm)
  have ne_b3_b6 : b3 ≠ b6 := Nat.ne_of_lt (Nat.lt_of_lt_of_le Vy5.lt (Nat.le_of_eq g6.symm))
  have Z6 : n0 ≤ h6.size := Nat.le_trans Z5 E6.1
  have KP6 := KP5.ext E6
  have sz_b6 : h0.size ≤ b6 := Nat.le_trans KP5.1 (Nat.le_of_eq g6.symm)
  have F_value_b6 : Fld Z h6 b6 "java/lang/String" "value" "[B" .null := D6 (Or.inr (hw _ (List.mem_of_getElem? (i := 24) rfl))) (ty := (.array .byte)) (by decide)
  have F_coder_b6 : Fld Z h6 b6 "java/lang/String" "coder" "B" (.int (0 : Int32)) := D6 (Or.inr (hw _ (List.mem_of_getElem? (i := 26) rfl))) (ty := .byte) (by decide)
  refine own_go st6 ?_
  show own_End p e below s (T6.setTop (mkF m 25 #[.val (.int p0), .val (.int (2 : Int32)), .val (.ref b3)] [(.ref b6)])) _ _ _
  refine own_go (fun τ κ => XS.dup X6.here hx rfl (hb hby d7_25) rfl rfl κ) ?_
  show own_End p e below s (T6.setTop (mkF m 26 #[.val (.int p0), .val (.int (2 : Int32)), .val (.ref b3)] [(.ref b6), (.ref b6)])) _ _ _
  refine own_go (fun τ κ => XS.aloadN X6.here hx rfl (hb hby d7_26) rfl rfl κ) ?_
  show own_End p e below s (T6.setTop (mkF m 27 #[.val (.int p0), .val (.int (2 : Int32)), .val (.ref b3)] [(.ref b3), (.ref b6), (.ref b6)])) _ _ _
  refine own_go (fun τ κ => XS.iconst X6.here hx rfl (hb hby d7_27) κ) ?_
  show own_End p e below s (T6.setTop (mkF m 28 #[.val (.int p0), .val (.int (2 : Int32)), .val (.ref b3)] [(.int (0 : Int32)), (.ref b3), (.ref b6), (.ref b6)])) _ _ _
  obtain ⟨_, _, ⟨T7, L7, k7, n7⟩, -, X7, ⟨Lc7, hQ7, l7, y7, z7⟩, st7⟩ := X6.specialBack hx (y := (⟨"java/lang/String", "<init>", "([BB)V"⟩ : MethodName)) rfl hown (mvT hZ (hw _ (List.mem_of_getElem? (i := 44) rfl))) (mvT hZ (hw _ (List.mem_of_getElem? (i := 17) rfl))) (mvT hZ (hw _ (List.mem_of_getElem? (i := 19) rfl))) (by decide) (backOf (W := 1) (rmSI l Z a0 hw [] b6 b3 h6 n0 Z6 g_b6 A6 F_value_b6 F_coder_b6) hZ (hw _ (List.mem_of_getElem? (i := 19) rfl)) (hw _ (List.mem_of_getElem? (i := 3) rfl)) (by decide) (by decide)) (g := (mkF m 28 #[.val (.int p0), .val (.int (2 : Int32)), .val (.ref b3)] [(.int (0 : Int32)), (.ref b3), (.ref b6), (.ref b6)])) rfl (by rw [hml]; rfl) (Steps.refl _) (a := b6) (argsL := [(.ref b3), (.int (0 : Int32))]) (rest := [(.ref b6)]) (lenOf own_pd2 rfl) rfl (by show 2 * 0 + _ ≤ _; exact Nat.le_of_eq rfl) (hb hby d7_28) (fun _ _ => ⟨rfl, e6, (by decide : 2 + 0 ≤ _), (by decide : 6 + 0 ≤ _)⟩)
  dsimp only [Pt.U, Pt.locs, Pt.cells, Pt.slots] at X7 l7 y7 z7 st7 hQ7
  subst l7 y7 z7
  obtain ⟨rfl, N7q, K7, Ex7, Fv7, Fc7⟩ := hQ7
  have N7 := Fr.app Nl5 N7q
  obtain ⟨ls7, Xl7, Nl7⟩ := own_abs X7 N7
  have Z7 : n0 ≤ T7.heap.size := Nat.le_trans Z6 K7.1
  refine own_go (fun τ κ => st7.trans κ) ?_
  show own_End p e below s (T7.setTop (mkF m 31 #[.val (.int p0), .val (.int (2 : Int32)), .val (.ref b3)] [(.ref b6)])) _ _ _
  have KP7 := KP6.trans K7 (allS (Or.inr sz_b6) all0)
  refine own_ret Xl7 (v := some (.ref b6)) (fun h => by rw [Bd.returns] at h; cases h) Bd.notSynchronized (fun fs hr => retOut Xl7 hx (w := (.ref b6)) Bd.returns rfl (Or.inr (Or.inr (Or.inr (Or.inr ⟨rfl, rfl, rfl⟩)))) (hb hby d7_31) hr) ?_ (by decide) (by decide)
  have U8 := ((Vy5.ext E6).keep K7 (ninS ne_b3_b6 nin0))
  · exact ⟨⟨_, _, _, _, _, rfl, sz_b6, sz_b3, ⟨Ex7, Fv7, Fc7, U8⟩, KP7, hy5⟩, Nl7⟩
theorem own_q1y {u y r hq i : Int} (hu : u = 48 + hq ∧ 0 ≤ hq ∧ hq < 10) (hy : y = 48 + i) (hr : r = 1 ∧ (y = u) ∨ r = 0 ∧ ¬ (y = u)) (hc : hq = i) : ¬ r = 0 := by omega
theorem own_q1n {u y r hq i : Int} (hu : u = 48 + hq ∧ 0 ≤ hq ∧ hq < 10) (hy : y = 48 + i) (hr : r = 1 ∧ (y = u) ∨ r = 0 ∧ ¬ (y = u)) (hc : ¬ hq = i) : r = 0 := by omega
theorem own_q2y {u v y w r hq i : Int} (hu : u = 48 + hq / 10 ∧ v = 48 + hq % 10 ∧ 10 ≤ hq ∧ hq < 24) (hy : y = 48 + i / 10 ∧ w = 48 + i % 10) (hr : r = 1 ∧ (y = u ∧ w = v) ∨ r = 0 ∧ ¬ (y = u ∧ w = v)) (hc : hq = i) : ¬ r = 0 := by omega
theorem own_q2n {u v y w r hq i : Int} (hu : u = 48 + hq / 10 ∧ v = 48 + hq % 10 ∧ 10 ≤ hq ∧ hq < 24) (hy : y = 48 + i / 10 ∧ w = 48 + i % 10) (hr : r = 1 ∧ (y = u ∧ w = v) ∨ r = 0 ∧ ¬ (y = u ∧ w = v)) (hc : ¬ hq = i) : r = 0 := by omega
theorem own_none1 {hq : Int} (h0 : 0 ≤ hq) (h1 : hq < 10) (n0 : ¬ hq = 0) (n1 : ¬ hq = 1) (n2 : ¬ hq = 2) (n3 : ¬ hq = 3) (n4 : ¬ hq = 4) (n5 : ¬ hq = 5) (n6 : ¬ hq = 6) (n7 : ¬ hq = 7) (n8 : ¬ hq = 8) (n9 : ¬ hq = 9) : False := by omega
theorem own_none2 {hq : Int} (h0 : 10 ≤ hq) (h1 : hq < 24) (n10 : ¬ hq = 10) (n11 : ¬ hq = 11) (n12 : ¬ hq = 12) (n13 : ¬ hq = 13) (n14 : ¬ hq = 14) (n15 : ¬ hq = 15) (n16 : ¬ hq = 16) (n17 : ¬ hq = 17) (n18 : ¬ hq = 18) (n19 : ¬ hq = 19) (n20 : ¬ hq = 20) (n21 : ¬ hq = 21) (n22 : ¬ hq = 22) (n23 : ¬ hq = 23) : False := by omega
theorem own_pn4 : plainName "com/example/pryce/pryce/rating/Rate" = true := by first | (simp [plainName, overriddenIn]; done) | decide +kernel
theorem own_ef6_rmH1 (m : MethodId) (o0 : Addr) : entryFrame m #[(.ref o0)] 2 = mkF m 0 #[.val (.ref o0), .unset] [] := by first | (simp [entryFrame, mkF, argsToLocals, Value.category]; done) | rfl
def Q_rmH1 (Z : State) (o0 : Addr) (sb : Addr) (sk : ClassId) (cz : Int32) (t1 : Addr) (d1 : Cell) (t2 : Addr) (d2 : Cell) (hq : Int32) (u0 : Int32) (h0 : Heap) (n0 : Nat) (v : Option Value) (h : Heap) (L : List Loc) : Prop := (∃ z, v = some (.int z) ∧ z.toInt = hq.toInt) ∧ Fr n0 L ∧ Keep h0 h []
theorem d6_2 : decode prog_14_method_3_code 2 = .ok (.iload_n 1, 1) := by decide +kernel
theorem d6_3 : decode prog_14_method_3_code 3 = .ok (.bipush 24, 2) := by decide +kernel
theorem d6_5 : decode prog_14_method_3_code 5 = .ok (.if_icmp .ge 22, 3) := by decide +kernel
theorem d6_8 : decode prog_14_method_3_code 8 = .ok (.iload_n 1, 1) := by decide +kernel
theorem d6_9 : decode prog_14_method_3_code 9 = .ok (.invokestatic 129, 3) := by decide +kernel
theorem own_pd10 : parseMethodDescriptor "(I)Ljava/lang/String;" = some ⟨[.int], some (.object "java/lang/String")⟩ := by decide +kernel
theorem d6_12 : decode prog_14_method_3_code 12 = .ok (.aload_n 0, 1) := by decide +kernel
theorem d6_13 : decode prog_14_method_3_code 13 = .ok (.invokevirtual 132, 3) := by decide +kernel
theorem own_pd11 : parseMethodDescriptor "(Ljava/lang/Object;)Z" = some ⟨[(.object "java/lang/Object")], some .boolean⟩ := by decide +kernel
theorem d6_16 : decode prog_14_method_3_code 16 = .ok (.ifCond .eq 5, 3) := by decide +kernel
theorem d6_19 : decode prog_14_method_3_code 19 = .ok (.iload_n 1, 1) := by decide +kernel
theorem d6_20 : decode prog_14_method_3_code 20 = .ok (.ireturn, 1) := by decide +kernel
theorem d6_21 : decode prog_14_method_3_code 21 = .ok (.iinc 1 1, 3) := by decide +kernel
theorem d6_24 : decode prog_14_method_3_code 24 = .ok (.goto (-22), 3) := by decide +kernel
theorem d6_0 : decode prog_14_method_3_code 0 = .ok (.iconst 0, 1) := by decide +kernel
theorem d6_1 : decode prog_14_method_3_code 1 = .ok (.istore_n 1, 1) := by decide +kernel
set_option maxRecDepth 65536 in
set_option maxHeartbeats 40000000 in
theorem rmH1 (l : Launch) (Z : State) (a0 : Array Value) (hw : ∀ d ∈ tables_1, d.before a0 Z = true) (ws : List Jvm.Cond) (o0 : Addr) (sb : Addr) (sk : ClassId) (cz : Int32) (t1 : Addr) (d1 : Cell) (t2 : Addr) (d2 : Cell) (hq : Int32) (u0 : Int32) (h0 : Heap) (n0 : Nat) (Z0 : n0 ≤ h0.size) (S0 : own_Str Z h0 o0 sb sk (1 : Int32) [(.int u0)]) (Ol : Old Z n0 h0) (S_C : Sta Z Z.heap "java/lang/String" "COMPACT_STRINGS" "Z" (.int cz)) (hcz : ¬ cz.toInt = 0) (S_1 : Sta Z Z.heap "java/lang/Integer" "DigitOnes" "[B" (.ref t1)) (D1 : own_Dig Z Z.heap t1 d1 (fun x => 48 + x % 10)) (S_2 : Sta Z Z.heap "java/lang/Integer" "DigitTens" "[B" (.ref t2)) (D2 : own_Dig Z Z.heap t2 d2 (fun x => 48 + x / 10)) (hu : u0.toInt = 48 + hq.toInt ∧ 0 ≤ hq.toInt ∧ hq.toInt < 10) :
    MetFree l (⟨"com/example/pryce/pryce/rating/Rate", "hour", "(Ljava/lang/String;)I"⟩ : MethodName) (head1 (Jvm.Cond.code (⟨"com/example/pryce/pryce/rating/Rate", "hour", "(Ljava/lang/String;)I"⟩ : MethodName) prog_14_method_3_code 2 (some .int) :: ws) ({ frames := 3, cells := 20, slots := 50, locals := 60 } : Room)) (fun a U => a = #[(.ref o0)] ∧ Z.Warmed39 U.vm ∧ U.heap = h0) (fun _ _ _ _ _ => True) (fun _ U o U' => ∃ v L, o = .returned v ∧ Q_rmH1 Z o0 sb sk cz t1 d1 t2 d2 hq u0 h0 n0 v U'.heap L ∧ FrameEnd U o U' L ({ frames := 3, cells := 20, slots := 50, locals := 60 } : Room).cells ({ frames := 3, cells := 20, slots := 50, locals := 60 } : Room).slots) := by
  refine MetFree.of_bodySF (plainFor_of_name own_pn4) hisR ?_
  intro p e s m args below meth c s₁ Bd hml0 hP hK
  obtain ⟨rfl, hZ, hh⟩ := hP
  have hx := Bd.exec
  have hby := Bd.bytes
  have hml : c.maxLocals = 2 := hml0
  have hown : s.vm.findClass "com/example/pryce/pryce/rating/Rate" = some m.cls := findClass_of_methodNamed Bd.named
  have hnm := (name_of_methodNamed Bd.named Bd.method).1
  have X0 : Stand p l e ({ frames := 3, cells := 20, slots := 50, locals := 60 } : Room) s m #[(.ref o0)] below meth c s₁ [] 0 0 := Stand.of_body Bd
  have e0 : s₁.heap = h0 := by rw [← hh, Bd.state]; rfl
  have N0 := Fr.nil n0
  refine (show own_End p e below s (s₁.setTop (entryFrame m #[(.ref o0)] 2)) (Q_rmH1 Z o0 sb sk cz t1 d1 t2 d2 hq u0 h0 n0) ({ frames := 3, cells := 20, slots := 50, locals := 60 } : Room).cells ({ frames := 3, cells := 20, slots := 50, locals := 60 } : Room).slots from ?_)
  refine own_go (fun τ κ => castTop (own_ef6_rmH1 m o0) κ) ?_
  have li0 : (0 : Int32).toInt = 0 := rfl
  have li1 : (1 : Int32).toInt = 1 := rfl
  show own_End p e below s (s₁.setTop (mkF m 0 #[.val (.ref o0), .unset] [])) _ _ _
  have J9 : ∀ (T1 : State) (h1 : Heap) (ls1 : List Loc) (X1 : Stand p l e ({ frames := 3, cells := 20, slots := 50, locals := 60 } : Room) s m #[(.ref o0)] below meth c T1 ls1 18 45) (e1 : T1.heap = h1) (N1 : Fr n0 ls1) (Z1 : n0 ≤ h1.size) (KP1 : Keep h0 h1 []) (Fa1_0 : own_Str Z h1 o0 sb sk (1 : Int32) [(.int u0)]) (Fa1_1 : Old Z n0 h1) (nh0 : ¬ hq.toInt = 0) (nh1 : ¬ hq.toInt = 1) (nh2 : ¬ hq.toInt = 2) (nh3 : ¬ hq.toInt = 3) (nh4 : ¬ hq.toInt = 4) (nh5 : ¬ hq.toInt = 5) (nh6 : ¬ hq.toInt = 6) (nh7 : ¬ hq.toInt = 7) (nh8 : ¬ hq.toInt = 8), own_End p e below s (T1.setTop (mkF m 2 #[.val (.ref o0), .val (.int (9 : Int32))] [])) (Q_rmH1 Z o0 sb sk cz t1 d1 t2 d2 hq u0 h0 n0) ({ frames := 3, cells := 20, slots := 50, locals := 60 } : Room).cells ({ frames := 3, cells := 20, slots := 50, locals := 60 } : Room).slots := by
    intro T1 h1 ls1 X1 e1 N1 Z1 KP1 Fa1_0 Fa1_1 nh0 nh1 nh2 nh3 nh4 nh5 nh6 nh7 nh8
    show own_End p e below s (T1.setTop (mkF m 2 #[.val (.ref o0), .val (.int (9 : Int32))] [])) _ _ _
    refine own_go (fun τ κ => XS.iloadN X1.here hx rfl (hb hby d6_2) rfl κ) ?_
    show own_End p e below s (T1.setTop (mkF m 3 #[.val (.ref o0), .val (.int (9 : Int32))] [(.int (9 : Int32))])) _ _ _
    refine own_go (fun τ κ => XS.bipush X1.here hx rfl (hb hby d6_3) κ) ?_
    show own_End p e below s (T1.setTop (mkF m 5 #[.val (.ref o0), .val (.int (9 : Int32))] [(.int (24 : Int32)), (.int (9 : Int32))])) _ _ _
    refine own_go (fun τ κ => XS.icmpNo X1.here hx rfl (hb hby d6_5) rfl (own_tlt (x := (9 : Int32)) (y := (24 : Int32)) (i := 9) (j := 24) rfl rfl (by decide)).2.1 κ) ?_
    show own_End p e below s (T1.setTop (mkF m 8 #[.val (.ref o0), .val (.int (9 : Int32))] [])) _ _ _
    refine own_go (fun τ κ => XS.iloadN X1.here hx rfl (hb hby d6_8) rfl κ) ?_
    show own_End p e below s (T1.setTop (mkF m 9 #[.val (.ref o0), .val (.int (9 : Int32))] [(.int (9 : Int32))])) _ _ _
    obtain ⟨_, _, ⟨T2, L2, k2, n2⟩, -, X2, ⟨Lc2, hQ2, l2, y2, z2⟩, st2⟩ := Jvm.LawKit.callS X1 hx (y := (⟨"java/lang/Integer", "toString", "(I)Ljava/lang/String;"⟩ : MethodName)) hown (mvT hZ (hw _ (List.mem_of_getElem? (i := 31) rfl))) (mvT hZ (hw _ (List.mem_of_getElem? (i := 32) rfl))) (mvT hZ (hw _ (List.mem_of_getElem? (i := 33) rfl))) (mvT hZ (hw _ (List.mem_of_getElem? (i := 34) rfl))) (by decide) (backOf (W := 0) (rmT1 l Z a0 hw [] (9 : Int32) cz t1 d1 t2 d2 h1 n0 Z1 Fa1_1 S_C hcz S_1 D1 S_2 D2 (by decide) (by decide)) hZ (hw _ (List.mem_of_getElem? (i := 34) rfl)) (hw _ (List.mem_of_getElem? (i := 33) rfl)) (by decide) (by decide)) (g := (mkF m 9 #[.val (.ref o0), .val (.int (9 : Int32))] [(.int (9 : Int32))])) rfl (by rw [hml]; rfl) (argsL := [(.int (9 : Int32))]) (rest := []) (lenOf own_pd10 rfl) rfl (by show 2 * 0 + _ ≤ _; exact Nat.le_of_eq rfl) (hb hby d6_9) (fun _ _ => ⟨rfl, e1, (by decide : 18 + 2 ≤ _), (by decide : 45 + 5 ≤ _)⟩)
    dsimp only [Pt.U, Pt.locs, Pt.cells, Pt.slots] at X2 l2 y2 z2 st2 hQ2
    subst l2 y2 z2
    obtain ⟨⟨sa2, sb2, sk2, y9_0, rfl, za2, zb2, Ss2, K2, hy2⟩, N2q⟩ := hQ2
    have N2 := Fr.app N1 N2q
    obtain ⟨ls2, Xl2, Nl2⟩ := own_abs X2 N2
    have Z2 : n0 ≤ T2.heap.size := Nat.le_trans Z1 K2.1
    refine own_go st2 ?_
    show own_End p e below s (T2.setTop (mkF m 12 #[.val (.ref o0), .val (.int (9 : Int32))] [(.ref sa2)])) _ _ _
    have g_sa2 : n0 ≤ sa2 := Nat.le_trans Z1 za2
    have sz_sa2 : h0.size ≤ sa2 := Nat.le_trans KP1.1 za2
    have ne_o0_sa2 : o0 ≠ sa2 := Nat.ne_of_lt (Nat.lt_of_lt_of_le Fa1_0.lt za2)
    have ne_sb_sa2 : sb ≠ sa2 := Nat.ne_of_lt (Nat.lt_of_lt_of_le Fa1_0.ltb za2)
    have g_sb2 : n0 ≤ sb2 := Nat.le_trans Z1 zb2
    have sz_sb2 : h0.size ≤ sb2 := Nat.le_trans KP1.1 zb2
    have ne_o0_sb2 : o0 ≠ sb2 := Nat.ne_of_lt (Nat.lt_of_lt_of_le Fa1_0.lt zb2)
    have ne_sb_sb2 : sb ≠ sb2 := Nat.ne_of_lt (Nat.lt_of_lt_of_le Fa1_0.ltb zb2)
    have KP2 := KP1.trans K2 all0
    refine own_go (fun τ κ => XS.aloadN Xl2.here hx rfl (hb hby d6_12) rfl rfl κ) ?_
    show own_End p e below s (T2.setTop (mkF m 13 #[.val (.ref o0), .val (.int (9 : Int32))] [(.ref o0), (.ref sa2)])) _ _ _
    have U3 := (Fa1_0.keep K2 nin0 nin0)
    have U4 := (Fa1_1.keep K2 all0)
    obtain ⟨cq5, kq5, q5a, q5b, q5c⟩ := isOf hZ rfl Ss2.1
    obtain ⟨_, _, ⟨T5, L5, k5, n5⟩, -, X5, ⟨Lc5, hQ5, l5, y5, z5⟩, st5⟩ := Xl2.virtualBack hx (y := (⟨"java/lang/String", "equals", "(Ljava/lang/Object;)Z"⟩ : MethodName)) (z := (⟨"java/lang/String", "equals", "(Ljava/lang/Object;)Z"⟩ : MethodName)) hown (mvT hZ (hw _ (List.mem_of_getElem? (i := 45) rfl))) (mvT hZ (hw _ (List.mem_of_getElem? (i := 46) rfl))) (notFace_of_selects (args := #[]) (mvT hZ (hw _ (List.mem_of_getElem? (i := 48) rfl)))) (mvT hZ (hw _ (List.mem_of_getElem? (i := 48) rfl))) (mvT hZ (hw _ (List.mem_of_getElem? (i := 47) rfl))) (by decide) (backOf (W := 0) (rmE1_1 l Z a0 hw [] sa2 o0 sb2 sk2 sb sk cz y9_0 u0 T2.heap n0 Z2 (Ne.symm ne_o0_sa2) Ss2 U3 U4 S_C hcz) hZ (hw _ (List.mem_of_getElem? (i := 49) rfl)) (hw _ (List.mem_of_getElem? (i := 3) rfl)) (by decide) (by decide)) q5a q5c (g := (mkF m 13 #[.val (.ref o0), .val (.int (9 : Int32))] [(.ref o0), (.ref sa2)])) rfl (by rw [hml]; rfl) (Steps.refl _) (argsL := [(.ref o0)]) (rest := []) (lenOf own_pd11 rfl) rfl (by show 2 * 0 + _ ≤ _; exact Nat.le_of_eq rfl) (hb hby d6_13) (fun _ _ => ⟨rfl, rfl, (by decide : 20 + 0 ≤ _), (by decide : 50 + 0 ≤ _)⟩)
    dsimp only [Pt.U, Pt.locs, Pt.cells, Pt.slots] at X5 l5 y5 z5 st5 hQ5
    subst l5 y5 z5
    obtain ⟨⟨r5, rfl, hr5⟩, N5q, e5⟩ := hQ5
    have N5 := Fr.app Nl2 N5q
    obtain ⟨ls5, Xl5, Nl5⟩ := own_abs X5 N5
    refine own_go (fun τ κ => st5.trans κ) ?_
    show own_End p e below s (T5.setTop (mkF m 16 #[.val (.ref o0), .val (.int (9 : Int32))] [(.int r5)])) _ _ _
    by_cases nh9 : hq.toInt = 9
    · skip
      refine own_go (fun τ κ => XS.ifNo Xl5.here hx rfl (hb hby d6_16) rfl ((if0 _ _).trans (own_ne (x := r5) (y := (0 : Int32)) (i := r5.toInt) (j := 0) rfl rfl (own_q1y (i := 9) hu hy2 hr5 nh9)).1) κ) ?_
      show own_End p e below s (T5.setTop (mkF m 19 #[.val (.ref o0), .val (.int (9 : Int32))] [])) _ _ _
      refine own_go (fun τ κ => XS.iloadN Xl5.here hx rfl (hb hby d6_19) rfl κ) ?_
      show own_End p e below s (T5.setTop (mkF m 20 #[.val (.ref o0), .val (.int (9 : Int32))] [(.int (9 : Int32))])) _ _ _
      refine own_ret Xl5 (v := some (.int (9 : Int32))) (fun h => by rw [Bd.returns] at h; cases h) Bd.notSynchronized (fun fs hr => retI Xl5 hx Bd.returns (hb hby d6_20) hr) ?_ (by decide) (by decide)
      · rw [e5]; exact ⟨⟨_, rfl, nh9.symm⟩, Nl5, KP2⟩
    · skip
      refine own_go (fun τ κ => XS.ifYes Xl5.here hx rfl (pc0 := 16) (pc' := 21) rfl (hb hby d6_16) rfl ((if0 _ _).trans (own_eq (x := r5) (y := (0 : Int32)) (i := r5.toInt) (j := 0) rfl rfl (own_q1n (i := 9) hu hy2 hr5 nh9)).1) (by decide) (by decide) κ) ?_
      show own_End p e below s (T5.setTop (mkF m 21 #[.val (.ref o0), .val (.int (9 : Int32))] [])) _ _ _
      exact (own_none1 hu.2.1 hu.2.2 nh0 nh1 nh2 nh3 nh4 nh5 nh6 nh7 nh8 nh9).elim
  have J8 : ∀ (T6 : State) (h6 : Heap) (ls6 : List Loc) (X6 : Stand p l e ({ frames := 3, cells := 20, slots := 50, locals := 60 } : Room) s m #[(.ref o0)] below meth c T6 ls6 16 40) (e6 : T6.heap = h6) (N6 : Fr n0 ls6) (Z6 : n0 ≤ h6.size) (KP6 : Keep h0 h6 []) (Fa6_0 : own_Str Z h6 o0 sb sk (1 : Int32) [(.int u0)]) (Fa6_1 : Old Z n0 h6) (nh0 : ¬ hq.toInt = 0) (nh1 : ¬ hq.toInt = 1) (nh2 : ¬ hq.toInt = 2) (nh3 : ¬ hq.toInt = 3) (nh4 : ¬ hq.toInt = 4) (nh5 : ¬ hq.toInt = 5) (nh6 : ¬ hq.toInt = 6) (nh7 : ¬ hq.toInt = 7), own_End p e below s (T6.setTop (mkF m 2 #[.val (.ref o0), .val (.int (8 : Int32))] [])) (Q_rmH1 Z o0 sb sk cz t1 d1 t2 d2 hq u0 h0 n0) ({ frames := 3, cells := 20, slots := 50, locals := 60 } : Room).cells ({ frames := 3, cells := 20, slots := 50, locals := 60 } : Room).slots := by
    intro T6 h6 ls6 X6 e6 N6 Z6 KP6 Fa6_0 Fa6_1 nh0 nh1 nh2 nh3 nh4 nh5 nh6 nh7
    show own_End p e below s (T6.setTop (mkF m 2 #[.val (.ref o0), .val (.int (8 : Int32))] [])) _ _ _
    refine own_go (fun τ κ => XS.iloadN X6.here hx rfl (hb hby d6_2) rfl κ) ?_
    show own_End p e below s (T6.setTop (mkF m 3 #[.val (.ref o0), .val (.int (8 : Int32))] [(.int (8 : Int32))])) _ _ _
    refine own_go (fun τ κ => XS.bipush X6.here hx rfl (hb hby d6_3) κ) ?_
    show own_End p e below s (T6.setTop (mkF m 5 #[.val (.ref o0), .val (.int (8 : Int32))] [(.int (24 : Int32)), (.int (8 : Int32))])) _ _ _
    refine own_go (fun τ κ => XS.icmpNo X6.here hx rfl (hb hby d6_5) rfl (own_tlt (x := (8 : Int32)) (y := (24 : Int32)) (i := 8) (j := 24) rfl rfl (by decide)).2.1 κ) ?_
    show own_End p e below s (T6.setTop (mkF m 8 #[.val (.ref o0), .val (.int (8 : Int32))] [])) _ _ _
    refine own_go (fun τ κ => XS.iloadN X6.here hx rfl (hb hby d6_8) rfl κ) ?_
    show own_End p e below s (T6.setTop (mkF m 9 #[.val (.ref o0), .val (.int (8 : Int32))] [(.int (8 : Int32))])) _ _ _
    obtain ⟨_, _, ⟨T7, L7, k7, n7⟩, -, X7, ⟨Lc7, hQ7, l7, y7, z7⟩, st7⟩ := Jvm.LawKit.callS X6 hx (y := (⟨"java/lang/Integer", "toString", "(I)Ljava/lang/String;"⟩ : MethodName)) hown (mvT hZ (hw _ (List.mem_of_getElem? (i := 31) rfl))) (mvT hZ (hw _ (List.mem_of_getElem? (i := 32) rfl))) (mvT hZ (hw _ (List.mem_of_getElem? (i := 33) rfl))) (mvT hZ (hw _ (List.mem_of_getElem? (i := 34) rfl))) (by decide) (backOf (W := 0) (rmT1 l Z a0 hw [] (8 : Int32) cz t1 d1 t2 d2 h6 n0 Z6 Fa6_1 S_C hcz S_1 D1 S_2 D2 (by decide) (by decide)) hZ (hw _ (List.mem_of_getElem? (i := 34) rfl)) (hw _ (List.mem_of_getElem? (i := 33) rfl)) (by decide) (by decide)) (g := (mkF m 9 #[.val (.ref o0), .val (.int (8 : Int32))] [(.int (8 : Int32))])) rfl (by rw [hml]; rfl) (argsL := [(.int (8 : Int32))]) (rest := []) (lenOf own_pd10 rfl) rfl (by show 2 * 0 + _ ≤ _; exact Nat.le_of_eq rfl) (hb hby d6_9) (fun _ _ => ⟨rfl, e6, (by decide : 16 + 2 ≤ _), (by decide : 40 + 5 ≤ _)⟩)
    dsimp only [Pt.U, Pt.locs, Pt.cells, Pt.slots] at X7 l7 y7 z7 st7 hQ7
    subst l7 y7 z7
    obtain ⟨⟨sa7, sb7, sk7, y8_0, rfl, za7, zb7, Ss7, K7, hy7⟩, N7q⟩ := hQ7
    have N7 := Fr.app N6 N7q
    obtain ⟨ls7, Xl7, Nl7⟩ := own_abs X7 N7
    have Z7 : n0 ≤ T7.heap.size := Nat.le_trans Z6 K7.1
    refine own_go st7 ?_
    show own_End p e below s (T7.setTop (mkF m 12 #[.val (.ref o0), .val (.int (8 : Int32))] [(.ref sa7)])) _ _ _
    have g_sa7 : n0 ≤ sa7 := Nat.le_trans Z6 za7
    have sz_sa7 : h0.size ≤ sa7 := Nat.le_trans KP6.1 za7
    have ne_o0_sa7 : o0 ≠ sa7 := Nat.ne_of_lt (Nat.lt_of_lt_of_le Fa6_0.lt za7)
    have ne_sb_sa7 : sb ≠ sa7 := Nat.ne_of_lt (Nat.lt_of_lt_of_le Fa6_0.ltb za7)
    have g_sb7 : n0 ≤ sb7 := Nat.le_trans Z6 zb7
    have sz_sb7 : h0.size ≤ sb7 := Nat.le_trans KP6.1 zb7
    have ne_o0_sb7 : o0 ≠ sb7 := Nat.ne_of_lt (Nat.lt_of_lt_of_le Fa6_0.lt zb7)
    have ne_sb_sb7 : sb ≠ sb7 := Nat.ne_of_lt (Nat.lt_of_lt_of_le Fa6_0.ltb zb7)
    have KP7 := KP6.trans K7 all0
    refine own_go (fun τ κ => XS.aloadN Xl7.here hx rfl (hb hby d6_12) rfl rfl κ) ?_
    show own_End p e below s (T7.setTop (mkF m 13 #[.val (.ref o0), .val (.int (8 : Int32))] [(.ref o0), (.ref sa7)])) _ _ _
    have U8 := (Fa6_0.keep K7 nin0 nin0)
    have U9 := (Fa6_1.keep K7 all0)
    obtain ⟨cq10, kq10, q10a, q10b, q10c⟩ := isOf hZ rfl Ss7.1
    obtain ⟨_, _, ⟨T10, L10, k10, n10⟩, -, X10, ⟨Lc10, hQ10, l10, y10, z10⟩, st10⟩ := Xl7.virtualBack hx (y := (⟨"java/lang/String", "equals", "(Ljava/lang/Object;)Z"⟩ : MethodName)) (z := (⟨"java/lang/String", "equals", "(Ljava/lang/Object;)Z"⟩ : MethodName)) hown (mvT hZ (hw _ (List.mem_of_getElem? (i := 45) rfl))) (mvT hZ (hw _ (List.mem_of_getElem? (i := 46) rfl))) (notFace_of_selects (args := #[]) (mvT hZ (hw _ (List.mem_of_getElem? (i := 48) rfl)))) (mvT hZ (hw _ (List.mem_of_getElem? (i := 48) rfl))) (mvT hZ (hw _ (List.mem_of_getElem? (i := 47) rfl))) (by decide) (backOf (W := 0) (rmE1_1 l Z a0 hw [] sa7 o0 sb7 sk7 sb sk cz y8_0 u0 T7.heap n0 Z7 (Ne.symm ne_o0_sa7) Ss7 U8 U9 S_C hcz) hZ (hw _ (List.mem_of_getElem? (i := 49) rfl)) (hw _ (List.mem_of_getElem? (i := 3) rfl)) (by decide) (by decide)) q10a q10c (g := (mkF m 13 #[.val (.ref o0), .val (.int (8 : Int32))] [(.ref o0), (.ref sa7)])) rfl (by rw [hml]; rfl) (Steps.refl _) (argsL := [(.ref o0)]) (rest := []) (lenOf own_pd11 rfl) rfl (by show 2 * 0 + _ ≤ _; exact Nat.le_of_eq rfl) (hb hby d6_13) (fun _ _ => ⟨rfl, rfl, (by decide : 18 + 0 ≤ _), (by decide : 45 + 0 ≤ _)⟩)
    dsimp only [Pt.U, Pt.locs, Pt.cells, Pt.slots] at X10 l10 y10 z10 st10 hQ10
    subst l10 y10 z10
    obtain ⟨⟨r10, rfl, hr10⟩, N10q, e10⟩ := hQ10
    have N10 := Fr.app Nl7 N10q
    obtain ⟨ls10, Xl10, Nl10⟩ := own_abs X10 N10
    refine own_go (fun τ κ => st10.trans κ) ?_
    show own_End p e below s (T10.setTop (mkF m 16 #[.val (.ref o0), .val (.int (8 : Int32))] [(.int r10)])) _ _ _
    by_cases nh8 : hq.toInt = 8
    · skip
      refine own_go (fun τ κ => XS.ifNo Xl10.here hx rfl (hb hby d6_16) rfl ((if0 _ _).trans (own_ne (x := r10) (y := (0 : Int32)) (i := r10.toInt) (j := 0) rfl rfl (own_q1y (i := 8) hu hy7 hr10 nh8)).1) κ) ?_
      show own_End p e below s (T10.setTop (mkF m 19 #[.val (.ref o0), .val (.int (8 : Int32))] [])) _ _ _
      refine own_go (fun τ κ => XS.iloadN Xl10.here hx rfl (hb hby d6_19) rfl κ) ?_
      show own_End p e below s (T10.setTop (mkF m 20 #[.val (.ref o0), .val (.int (8 : Int32))] [(.int (8 : Int32))])) _ _ _
      refine own_ret Xl10 (v := some (.int (8 : Int32))) (fun h => by rw [Bd.returns] at h; cases h) Bd.notSynchronized (fun fs hr => retI Xl10 hx Bd.returns (hb hby d6_20) hr) ?_ (by decide) (by decide)
      · rw [e10]; exact ⟨⟨_, rfl, nh8.symm⟩, Nl10, KP7⟩
    · skip
      refine own_go (fun τ κ => XS.ifYes Xl10.here hx rfl (pc0 := 16) (pc' := 21) rfl (hb hby d6_16) rfl ((if0 _ _).trans (own_eq (x := r10) (y := (0 : Int32)) (i := r10.toInt) (j := 0) rfl rfl (own_q1n (i := 8) hu hy7 hr10 nh8)).1) (by decide) (by decide) κ) ?_
      show own_End p e below s (T10.setTop (mkF m 21 #[.val (.ref o0), .val (.int (8 : Int32))] [])) _ _ _
      refine own_go (fun τ κ => XS.iinc Xl10.here hx rfl (hb hby d6_21) rfl (l' := #[.val (.ref o0), .val (.int (9 : Int32))]) rfl κ) ?_
      show own_End p e below s (T10.setTop (mkF m 24 #[.val (.ref o0), .val (.int (9 : Int32))] [])) _ _ _
      refine own_go (fun τ κ => XS.goto Xl10.here hx rfl (pc0 := 24) (pc' := 2) rfl (hb hby d6_24) (by decide) (by decide) κ) ?_
      show own_End p e below s (T10.setTop (mkF m 2 #[.val (.ref o0), .val (.int (9 : Int32))] [])) _ _ _
      exact J9 T10 T7.heap _ Xl10 e10 Nl10 Z7 KP7 U8 U9 nh0 nh1 nh2 nh3 nh4 nh5 nh6 nh7 nh8
  have J7 : ∀ (T11 : State) (h11 : Heap) (ls11 : List Loc) (X11 : Stand p l e ({ frames := 3, cells := 20, slots := 50, locals := 60 } : Room) s m #[(.ref o0)] below meth c T11 ls11 14 35) (e11 : T11.heap = h11) (N11 : Fr n0 ls11) (Z11 : n0 ≤ h11.size) (KP11 : Keep h0 h11 []) (Fa11_0 : own_Str Z h11 o0 sb sk (1 : Int32) [(.int u0)]) (Fa11_1 : Old Z n0 h11) (nh0 : ¬ hq.toInt = 0) (nh1 : ¬ hq.toInt = 1) (nh2 : ¬ hq.toInt = 2) (nh3 : ¬ hq.toInt = 3) (nh4 : ¬ hq.toInt = 4) (nh5 : ¬ hq.toInt = 5) (nh6 : ¬ hq.toInt = 6), own_End p e below s (T11.setTop (mkF m 2 #[.val (.ref o0), .val (.int (7 : Int32))] [])) (Q_rmH1 Z o0 sb sk cz t1 d1 t2 d2 hq u0 h0 n0) ({ frames := 3, cells := 20, slots := 50, locals := 60 } : Room).cells ({ frames := 3, cells := 20, slots := 50, locals := 60 } : Room).slots := by
    intro T11 h11 ls11 X11 e11 N11 Z11 KP11 Fa11_0 Fa11_1 nh0 nh1 nh2 nh3 nh4 nh5 nh6
    show own_End p e below s (T11.setTop (mkF m 2 #[.val (.ref o0), .val (.int (7 : Int32))] [])) _ _ _
    refine own_go (fun τ κ => XS.iloadN X11.here hx rfl (hb hby d6_2) rfl κ) ?_
    show own_End p e below s (T11.setTop (mkF m 3 #[.val (.ref o0), .val (.int (7 : Int32))] [(.int (7 : Int32))])) _ _ _
    refine own_go (fun τ κ => XS.bipush X11.here hx rfl (hb hby d6_3) κ) ?_
    show own_End p e below s (T11.setTop (mkF m 5 #[.val (.ref o0), .val (.int (7 : Int32))] [(.int (24 : Int32)), (.int (7 : Int32))])) _ _ _
    refine own_go (fun τ κ => XS.icmpNo X11.here hx rfl (hb hby d6_5) rfl (own_tlt (x := (7 : Int32)) (y := (24 : Int32)) (i := 7) (j := 24) rfl rfl (by decide)).2.1 κ) ?_
    show own_End p e below s (T11.setTop (mkF m 8 #[.val (.ref o0), .val (.int (7 : Int32))] [])) _ _ _
    refine own_go (fun τ κ => XS.iloadN X11.here hx rfl (hb hby d6_8) rfl κ) ?_
    show own_End p e below s (T11.setTop (mkF m 9 #[.val (.ref o0), .val (.int (7 : Int32))] [(.int (7 : Int32))])) _ _ _
    obtain ⟨_, _, ⟨T12, L12, k12, n12⟩, -, X12, ⟨Lc12, hQ12, l12, y12, z12⟩, st12⟩ := Jvm.LawKit.callS X11 hx (y := (⟨"java/lang/Integer", "toString", "(I)Ljava/lang/String;"⟩ : MethodName)) hown (mvT hZ (hw _ (List.mem_of_getElem? (i := 31) rfl))) (mvT hZ (hw _ (List.mem_of_getElem? (i := 32) rfl))) (mvT hZ (hw _ (List.mem_of_getElem? (i := 33) rfl))) (mvT hZ (hw _ (List.mem_of_getElem? (i := 34) rfl))) (by decide) (backOf (W := 0) (rmT1 l Z a0 hw [] (7 : Int32) cz t1 d1 t2 d2 h11 n0 Z11 Fa11_1 S_C hcz S_1 D1 S_2 D2 (by decide) (by decide)) hZ (hw _ (List.mem_of_getElem? (i := 34) rfl)) (hw _ (List.mem_of_getElem? (i := 33) rfl)) (by decide) (by decide)) (g := (mkF m 9 #[.val (.ref o0), .val (.int (7 : Int32))] [(.int (7 : Int32))])) rfl (by rw [hml]; rfl) (argsL := [(.int (7 : Int32))]) (rest := []) (lenOf own_pd10 rfl) rfl (by show 2 * 0 + _ ≤ _; exact Nat.le_of_eq rfl) (hb hby d6_9) (fun _ _ => ⟨rfl, e11, (by decide : 14 + 2 ≤ _), (by decide : 35 + 5 ≤ _)⟩)
    dsimp only [Pt.U, Pt.locs, Pt.cells, Pt.slots] at X12 l12 y12 z12 st12 hQ12
    subst l12 y12 z12
    obtain ⟨⟨sa12, sb12, sk12, y7_0, rfl, za12, zb12, Ss12, K12, hy12⟩, N12q⟩ := hQ12
    have N12 := Fr.app N11 N12q
    obtain ⟨ls12, Xl12, Nl12⟩ := own_abs X12 N12
    have Z12 : n0 ≤ T12.heap.size := Nat.le_trans Z11 K12.1
    refine own_go st12 ?_
    show own_End p e below s (T12.setTop (mkF m 12 #[.val (.ref o0), .val (.int (7 : Int32))] [(.ref sa12)])) _ _ _
    have g_sa12 : n0 ≤ sa12 := Nat.le_trans Z11 za12
    have sz_sa12 : h0.size ≤ sa12 := Nat.le_trans KP11.1 za12
    have ne_o0_sa12 : o0 ≠ sa12 := Nat.ne_of_lt (Nat.lt_of_lt_of_le Fa11_0.lt za12)
    have ne_sb_sa12 : sb ≠ sa12 := Nat.ne_of_lt (Nat.lt_of_lt_of_le Fa11_0.ltb za12)
    have g_sb12 : n0 ≤ sb12 := Nat.le_trans Z11 zb12
    have sz_sb12 : h0.size ≤ sb12 := Nat.le_trans KP11.1 zb12
    have ne_o0_sb12 : o0 ≠ sb12 := Nat.ne_of_lt (Nat.lt_of_lt_of_le Fa11_0.lt zb12)
    have ne_sb_sb12 : sb ≠ sb12 := Nat.ne_of_lt (Nat.lt_of_lt_of_le Fa11_0.ltb zb12)
    have KP12 := KP11.trans K12 all0
    refine own_go (fun τ κ => XS.aloadN Xl12.here hx rfl (hb hby d6_12) rfl rfl κ) ?_
    show own_End p e below s (T12.setTop (mkF m 13 #[.val (.ref o0), .val (.int (7 : Int32))] [(.ref o0), (.ref sa12)])) _ _ _
    have U13 := (Fa11_0.keep K12 nin0 nin0)
    have U14 := (Fa11_1.keep K12 all0)
    obtain ⟨cq15, kq15, q15a, q15b, q15c⟩ := isOf hZ rfl Ss12.1
    obtain ⟨_, _, ⟨T15, L15, k15, n15⟩, -, X15, ⟨Lc15, hQ15, l15, y15, z15⟩, st15⟩ := Xl12.virtualBack hx (y := (⟨"java/lang/String", "equals", "(Ljava/lang/Object;)Z"⟩ : MethodName)) (z := (⟨"java/lang/String", "equals", "(Ljava/lang/Object;)Z"⟩ : MethodName)) hown (mvT hZ (hw _ (List.mem_of_getElem? (i := 45) rfl))) (mvT hZ (hw _ (List.mem_of_getElem? (i := 46) rfl))) (notFace_of_selects (args := #[]) (mvT hZ (hw _ (List.mem_of_getElem? (i := 48) rfl)))) (mvT hZ (hw _ (List.mem_of_getElem? (i := 48) rfl))) (mvT hZ (hw _ (List.mem_of_getElem? (i := 47) rfl))) (by decide) (backOf (W := 0) (rmE1_1 l Z a0 hw [] sa12 o0 sb12 sk12 sb sk cz y7_0 u0 T12.heap n0 Z12 (Ne.symm ne_o0_sa12) Ss12 U13 U14 S_C hcz) hZ (hw _ (List.mem_of_getElem? (i := 49) rfl)) (hw _ (List.mem_of_getElem? (i := 3) rfl)) (by decide) (by decide)) q15a q15c (g := (mkF m 13 #[.val (.ref o0), .val (.int (7 : Int32))] [(.ref o0), (.ref sa12)])) rfl (by rw [hml]; rfl) (Steps.refl _) (argsL := [(.ref o0)]) (rest := []) (lenOf own_pd11 rfl) rfl (by show 2 * 0 + _ ≤ _; exact Nat.le_of_eq rfl) (hb hby d6_13) (fun _ _ => ⟨rfl, rfl, (by decide : 16 + 0 ≤ _), (by decide : 40 + 0 ≤ _)⟩)
    dsimp only [Pt.U, Pt.locs, Pt.cells, Pt.slots] at X15 l15 y15 z15 st15 hQ15
    subst l15 y15 z15
    obtain ⟨⟨r15, rfl, hr15⟩, N15q, e15⟩ := hQ15
    have N15 := Fr.app Nl12 N15q
    obtain ⟨ls15, Xl15, Nl15⟩ := own_abs X15 N15
    refine own_go (fun τ κ => st15.trans κ) ?_
    show own_End p e below s (T15.setTop (mkF m 16 #[.val (.ref o0), .val (.int (7 : Int32))] [(.int r15)])) _ _ _
    by_cases nh7 : hq.toInt = 7
    · skip
      refine own_go (fun τ κ => XS.ifNo Xl15.here hx rfl (hb hby d6_16) rfl ((if0 _ _).trans (own_ne (x := r15) (y := (0 : Int32)) (i := r15.toInt) (j := 0) rfl rfl (own_q1y (i := 7) hu hy12 hr15 nh7)).1) κ) ?_
      show own_End p e below s (T15.setTop (mkF m 19 #[.val (.ref o0), .val (.int (7 : Int32))] [])) _ _ _
      refine own_go (fun τ κ => XS.iloadN Xl15.here hx rfl (hb hby d6_19) rfl κ) ?_
      show own_End p e below s (T15.setTop (mkF m 20 #[.val (.ref o0), .val (.int (7 : Int32))] [(.int (7 : Int32))])) _ _ _
      refine own_ret Xl15 (v := some (.int (7 : Int32))) (fun h => by rw [Bd.returns] at h; cases h) Bd.notSynchronized (fun fs hr => retI Xl15 hx Bd.returns (hb hby d6_20) hr) ?_ (by decide) (by decide)
      · rw [e15]; exact ⟨⟨_, rfl, nh7.symm⟩, Nl15, KP12⟩
    · skip
      refine own_go (fun τ κ => XS.ifYes Xl15.here hx rfl (pc0 := 16) (pc' := 21) rfl (hb hby d6_16) rfl ((if0 _ _).trans (own_eq (x := r15) (y := (0 : Int32)) (i := r15.toInt) (j := 0) rfl rfl (own_q1n (i := 7) hu hy12 hr15 nh7)).1) (by decide) (by decide) κ) ?_
      show own_End p e below s (T15.setTop (mkF m 21 #[.val (.ref o0), .val (.int (7 : Int32))] [])) _ _ _
      refine own_go (fun τ κ => XS.iinc Xl15.here hx rfl (hb hby d6_21) rfl (l' := #[.val (.ref o0), .val (.int (8 : Int32))]) rfl κ) ?_
      show own_End p e below s (T15.setTop (mkF m 24 #[.val (.ref o0), .val (.int (8 : Int32))] [])) _ _ _
      refine own_go (fun τ κ => XS.goto Xl15.here hx rfl (pc0 := 24) (pc' := 2) rfl (hb hby d6_24) (by decide) (by decide) κ) ?_
      show own_End p e below s (T15.setTop (mkF m 2 #[.val (.ref o0), .val (.int (8 : Int32))] [])) _ _ _
      exact J8 T15 T12.heap _ Xl15 e15 Nl15 Z12 KP12 U13 U14 nh0 nh1 nh2 nh3 nh4 nh5 nh6 nh7
  have J6 : ∀ (T16 : State) (h16 : Heap) (ls16 : List Loc) (X16 : Stand p l e ({ frames := 3, cells := 20, slots := 50, locals := 60 } : Room) s m #[(.ref o0)] below meth c T16 ls16 12 30) (e16 : T16.heap = h16) (N16 : Fr n0 ls16) (Z16 : n0 ≤ h16.size) (KP16 : Keep h0 h16 []) (Fa16_0 : own_Str Z h16 o0 sb sk (1 : Int32) [(.int u0)]) (Fa16_1 : Old Z n0 h16) (nh0 : ¬ hq.toInt = 0) (nh1 : ¬ hq.toInt = 1) (nh2 : ¬ hq.toInt = 2) (nh3 : ¬ hq.toInt = 3) (nh4 : ¬ hq.toInt = 4) (nh5 : ¬ hq.toInt = 5), own_End p e below s (T16.setTop (mkF m 2 #[.val (.ref o0), .val (.int (6 : Int32))] [])) (Q_rmH1 Z o0 sb sk cz t1 d1 t2 d2 hq u0 h0 n0) ({ frames := 3, cells := 20, slots := 50, locals := 60 } : Room).cells ({ frames := 3, cells := 20, slots := 50, locals := 60 } : Room).slots := by
    intro T16 h16 ls16 X16 e16 N16 Z16 KP16 Fa16_0 Fa16_1 nh0 nh1 nh2 nh3 nh4 nh5
    show own_End p e below s (T16.setTop (mkF m 2 #[.val (.ref o0), .val (.int (6 : Int32))] [])) _ _ _
    refine own_go (fun τ κ => XS.iloadN X16.here hx rfl (hb hby d6_2) rfl κ) ?_
    show own_End p e below s (T16.setTop (mkF m 3 #[.val (.ref o0), .val (.int (6 : Int32))] [(.int (6 : Int32))])) _ _ _
    refine own_go (fun τ κ => XS.bipush X16.here hx rfl (hb hby d6_3) κ) ?_
    show own_End p e below s (T16.setTop (mkF m 5 #[.val (.ref o0), .val (.int (6 : Int32))] [(.int (24 : Int32)), (.int (6 : Int32))])) _ _ _
    refine own_go (fun τ κ => XS.icmpNo X16.here hx rfl (hb hby d6_5) rfl (own_tlt (x := (6 : Int32)) (y := (24 : Int32)) (i := 6) (j := 24) rfl rfl (by decide)).2.1 κ) ?_
    show own_End p e below s (T16.setTop (mkF m 8 #[.val (.ref o0), .val (.int (6 : Int32))] [])) _ _ _
    refine own_go (fun τ κ => XS.iloadN X16.here hx rfl (hb hby d6_8) rfl κ) ?_
    show own_End p e below s (T16.setTop (mkF m 9 #[.val (.ref o0), .val (.int (6 : Int32))] [(.int (6 : Int32))])) _ _ _
    obtain ⟨_, _, ⟨T17, L17, k17, n17⟩, -, X17, ⟨Lc17, hQ17, l17, y17, z17⟩, st17⟩ := Jvm.LawKit.callS X16 hx (y := (⟨"java/lang/Integer", "toString", "(I)Ljava/lang/String;"⟩ : MethodName)) hown (mvT hZ (hw _ (List.mem_of_getElem? (i := 31) rfl))) (mvT hZ (hw _ (List.mem_of_getElem? (i := 32) rfl))) (mvT hZ (hw _ (List.mem_of_getElem? (i := 33) rfl))) (mvT hZ (hw _ (List.mem_of_getElem? (i := 34) rfl))) (by decide) (backOf (W := 0) (rmT1 l Z a0 hw [] (6 : Int32) cz t1 d1 t2 d2 h16 n0 Z16 Fa16_1 S_C hcz S_1 D1 S_2 D2 (by decide) (by decide)) hZ (hw _ (List.mem_of_getElem? (i := 34) rfl)) (hw _ (List.mem_of_getElem? (i := 33) rfl)) (by decide) (by decide)) (g := (mkF m 9 #[.val (.ref o0), .val (.int (6 : Int32))] [(.int (6 : Int32))])) rfl (by rw [hml]; rfl) (argsL := [(.int (6 : Int32))]) (rest := []) (lenOf own_pd10 rfl) rfl (by show 2 * 0 + _ ≤ _; exact Nat.le_of_eq rfl) (hb hby d6_9) (fun _ _ => ⟨rfl, e16, (by decide : 12 + 2 ≤ _), (by decide : 30 + 5 ≤ _)⟩)
    dsimp only [Pt.U, Pt.locs, Pt.cells, Pt.slots] at X17 l17 y17 z17 st17 hQ17
    subst l17 y17 z17
    obtain ⟨⟨sa17, sb17, sk17, y6_0, rfl, za17, zb17, Ss17, K17, hy17⟩, N17q⟩ := hQ17
    have N17 := Fr.app N16 N17q
    obtain ⟨ls17, Xl17, Nl17⟩ := own_abs X17 N17
    have Z17 : n0 ≤ T17.heap.size := Nat.le_trans Z16 K17.1
    refine own_go st17 ?_
    show own_End p e below s (T17.setTop (mkF m 12 #[.val (.ref o0), .val (.int (6 : Int32))] [(.ref sa17)])) _ _ _
    have g_sa17 : n0 ≤ sa17 := Nat.le_trans Z16 za17
    have sz_sa17 : h0.size ≤ sa17 := Nat.le_trans KP16.1 za17
    have ne_o0_sa17 : o0 ≠ sa17 := Nat.ne_of_lt (Nat.lt_of_lt_of_le Fa16_0.lt za17)
    have ne_sb_sa17 : sb ≠ sa17 := Nat.ne_of_lt (Nat.lt_of_lt_of_le Fa16_0.ltb za17)
    have g_sb17 : n0 ≤ sb17 := Nat.le_trans Z16 zb17
    have sz_sb17 : h0.size ≤ sb17 := Nat.le_trans KP16.1 zb17
    have ne_o0_sb17 : o0 ≠ sb17 := Nat.ne_of_lt (Nat.lt_of_lt_of_le Fa16_0.lt zb17)
    have ne_sb_sb17 : sb ≠ sb17 := Nat.ne_of_lt (Nat.lt_of_lt_of_le Fa16_0.ltb zb17)
    have KP17 := KP16.trans K17 all0
    refine own_go (fun τ κ => XS.aloadN Xl17.here hx rfl (hb hby d6_12) rfl rfl κ) ?_
    show own_End p e below s (T17.setTop (mkF m 13 #[.val (.ref o0), .val (.int (6 : Int32))] [(.ref o0), (.ref sa17)])) _ _ _
    have U18 := (Fa16_0.keep K17 nin0 nin0)
    have U19 := (Fa16_1.keep K17 all0)
    obtain ⟨cq20, kq20, q20a, q20b, q20c⟩ := isOf hZ rfl Ss17.1
    obtain ⟨_, _, ⟨T20, L20, k20, n20⟩, -, X20, ⟨Lc20, hQ20, l20, y20, z20⟩, st20⟩ := Xl17.virtualBack hx (y := (⟨"java/lang/String", "equals", "(Ljava/lang/Object;)Z"⟩ : MethodName)) (z := (⟨"java/lang/String", "equals", "(Ljava/lang/Object;)Z"⟩ : MethodName)) hown (mvT hZ (hw _ (List.mem_of_getElem? (i := 45) rfl))) (mvT hZ (hw _ (List.mem_of_getElem? (i := 46) rfl))) (notFace_of_selects (args := #[]) (mvT hZ (hw _ (List.mem_of_getElem? (i := 48) rfl)))) (mvT hZ (hw _ (List.mem_of_getElem? (i := 48) rfl))) (mvT hZ (hw _ (List.mem_of_getElem? (i := 47) rfl))) (by decide) (backOf (W := 0) (rmE1_1 l Z a0 hw [] sa17 o0 sb17 sk17 sb sk cz y6_0 u0 T17.heap n0 Z17 (Ne.symm ne_o0_sa17) Ss17 U18 U19 S_C hcz) hZ (hw _ (List.mem_of_getElem? (i := 49) rfl)) (hw _ (List.mem_of_getElem? (i := 3) rfl)) (by decide) (by decide)) q20a q20c (g := (mkF m 13 #[.val (.ref o0), .val (.int (6 : Int32))] [(.ref o0), (.ref sa17)])) rfl (by rw [hml]; rfl) (Steps.refl _) (argsL := [(.ref o0)]) (rest := []) (lenOf own_pd11 rfl) rfl (by show 2 * 0 + _ ≤ _; exact Nat.le_of_eq rfl) (hb hby d6_13) (fun _ _ => ⟨rfl, rfl, (by decide : 14 + 0 ≤ _), (by decide : 35 + 0 ≤ _)⟩)
    dsimp only [Pt.U, Pt.locs, Pt.cells, Pt.slots] at X20 l20 y20 z20 st20 hQ20
    subst l20 y20 z20
    obtain ⟨⟨r20, rfl, hr20⟩, N20q, e20⟩ := hQ20
    have N20 := Fr.app Nl17 N20q
    obtain ⟨ls20, Xl20, Nl20⟩ := own_abs X20 N20
    refine own_go (fun τ κ => st20.trans κ) ?_
    show own_End p e below s (T20.setTop (mkF m 16 #[.val (.ref o0), .val (.int (6 : Int32))] [(.int r20)])) _ _ _
    by_cases nh6 : hq.toInt = 6
    · skip
      refine own_go (fun τ κ => XS.ifNo Xl20.here hx rfl (hb hby d6_16) rfl ((if0 _ _).trans (own_ne (x := r20) (y := (0 : Int32)) (i := r20.toInt) (j := 0) rfl rfl (own_q1y (i := 6) hu hy17 hr20 nh6)).1) κ) ?_
      show own_End p e below s (T20.setTop (mkF m 19 #[.val (.ref o0), .val (.int (6 : Int32))] [])) _ _ _
      refine own_go (fun τ κ => XS.iloadN Xl20.here hx rfl (hb hby d6_19) rfl κ) ?_
      show own_End p e below s (T20.setTop (mkF m 20 #[.val (.ref o0), .val (.int (6 : Int32))] [(.int (6 : Int32))])) _ _ _
      refine own_ret Xl20 (v := some (.int (6 : Int32))) (fun h => by rw [Bd.returns] at h; cases h) Bd.notSynchronized (fun fs hr => retI Xl20 hx Bd.returns (hb hby d6_20) hr) ?_ (by decide) (by decide)
      · rw [e20]; exact ⟨⟨_, rfl, nh6.symm⟩, Nl20, KP17⟩
    · skip
      refine own_go (fun τ κ => XS.ifYes Xl20.here hx rfl (pc0 := 16) (pc' := 21) rfl (hb hby d6_16) rfl ((if0 _ _).trans (own_eq (x := r20) (y := (0 : Int32)) (i := r20.toInt) (j := 0) rfl rfl (own_q1n (i := 6) hu hy17 hr20 nh6)).1) (by decide) (by decide) κ) ?_
      show own_End p e below s (T20.setTop (mkF m 21 #[.val (.ref o0), .val (.int (6 : Int32))] [])) _ _ _
      refine own_go (fun τ κ => XS.iinc Xl20.here hx rfl (hb hby d6_21) rfl (l' := #[.val (.ref o0), .val (.int (7 : Int32))]) rfl κ) ?_
      show own_End p e below s (T20.setTop (mkF m 24 #[.val (.ref o0), .val (.int (7 : Int32))] [])) _ _ _
      refine own_go (fun τ κ => XS.goto Xl20.here hx rfl (pc0 := 24) (pc' := 2) rfl (hb hby d6_24) (by decide) (by decide) κ) ?_
      show own_End p e below s (T20.setTop (mkF m 2 #[.val (.ref o0), .val (.int (7 : Int32))] [])) _ _ _
      exact J7 T20 T17.heap _ Xl20 e20 Nl20 Z17 KP17 U18 U19 nh0 nh1 nh2 nh3 nh4 nh5 nh6
  have J5 : ∀ (T21 : State) (h21 : Heap) (ls21 : List Loc) (X21 : Stand p l e ({ frames := 3, cells := 20, slots := 50, locals := 60 } : Room) s m #[(.ref o0)] below meth c T21 ls21 10 25) (e21 : T21.heap = h21) (N21 : Fr n0 ls21) (Z21 : n0 ≤ h21.size) (KP21 : Keep h0 h21 []) (Fa21_0 : own_Str Z h21 o0 sb sk (1 : Int32) [(.int u0)]) (Fa21_1 : Old Z n0 h21) (nh0 : ¬ hq.toInt = 0) (nh1 : ¬ hq.toInt = 1) (nh2 : ¬ hq.toInt = 2) (nh3 : ¬ hq.toInt = 3) (nh4 : ¬ hq.toInt = 4), own_End p e below s (T21.setTop (mkF m 2 #[.val (.ref o0), .val (.int (5 : Int32))] [])) (Q_rmH1 Z o0 sb sk cz t1 d1 t2 d2 hq u0 h0 n0) ({ frames := 3, cells := 20, slots := 50, locals := 60 } : Room).cells ({ frames := 3, cells := 20, slots := 50, locals := 60 } : Room).slots := by
    intro T21 h21 ls21 X21 e21 N21 Z21 KP21 Fa21_0 Fa21_1 nh0 nh1 nh2 nh3 nh4
    show own_End p e below s (T21.setTop (mkF m 2 #[.val (.ref o0), .val (.int (5 : Int32))] [])) _ _ _
    refine own_go (fun τ κ => XS.iloadN X21.here hx rfl (hb hby d6_2) rfl κ) ?_
    show own_End p e below s (T21.setTop (mkF m 3 #[.val (.ref o0), .val (.int (5 : Int32))] [(.int (5 : Int32))])) _ _ _
    refine own_go (fun τ κ => XS.bipush X21.here hx rfl (hb hby d6_3) κ) ?_
    show own_End p e below s (T21.setTop (mkF m 5 #[.val (.ref o0), .val (.int (5 : Int32))] [(.int (24 : Int32)), (.int (5 : Int32))])) _ _ _
    refine own_go (fun τ κ => XS.icmpNo X21.here hx rfl (hb hby d6_5) rfl (own_tlt (x := (5 : Int32)) (y := (24 : Int32)) (i := 5) (j := 24) rfl rfl (by decide)).2.1 κ) ?_
    show own_End p e below s (T21.setTop (mkF m 8 #[.val (.ref o0), .val (.int (5 : Int32))] [])) _ _ _
    refine own_go (fun τ κ => XS.iloadN X21.here hx rfl (hb hby d6_8) rfl κ) ?_
    show own_End p e below s (T21.setTop (mkF m 9 #[.val (.ref o0), .val (.int (5 : Int32))] [(.int (5 : Int32))])) _ _ _
    obtain ⟨_, _, ⟨T22, L22, k22, n22⟩, -, X22, ⟨Lc22, hQ22, l22, y22, z22⟩, st22⟩ := Jvm.LawKit.callS X21 hx (y := (⟨"java/lang/Integer", "toString", "(I)Ljava/lang/String;"⟩ : MethodName)) hown (mvT hZ (hw _ (List.mem_of_getElem? (i := 31) rfl))) (mvT hZ (hw _ (List.mem_of_getElem? (i := 32) rfl))) (mvT hZ (hw _ (List.mem_of_getElem? (i := 33) rfl))) (mvT hZ (hw _ (List.mem_of_getElem? (i := 34) rfl))) (by decide) (backOf (W := 0) (rmT1 l Z a0 hw [] (5 : Int32) cz t1 d1 t2 d2 h21 n0 Z21 Fa21_1 S_C hcz S_1 D1 S_2 D2 (by decide) (by decide)) hZ (hw _ (List.mem_of_getElem? (i := 34) rfl)) (hw _ (List.mem_of_getElem? (i := 33) rfl)) (by decide) (by decide)) (g := (mkF m 9 #[.val (.ref o0), .val (.int (5 : Int32))] [(.int (5 : Int32))])) rfl (by rw [hml]; rfl) (argsL := [(.int (5 : Int32))]) (rest := []) (lenOf own_pd10 rfl) rfl (by show 2 * 0 + _ ≤ _; exact Nat.le_of_eq rfl) (hb hby d6_9) (fun _ _ => ⟨rfl, e21, (by decide : 10 + 2 ≤ _), (by decide : 25 + 5 ≤ _)⟩)
    dsimp only [Pt.U, Pt.locs, Pt.cells, Pt.slots] at X22 l22 y22 z22 st22 hQ22
    subst l22 y22 z22
    obtain ⟨⟨sa22, sb22, sk22, y5_0, rfl, za22, zb22, Ss22, K22, hy22⟩, N22q⟩ := hQ22
    have N22 := Fr.app N21 N22q
    obtain ⟨ls22, Xl22, Nl22⟩ := own_abs X22 N22
    have Z22 : n0 ≤ T22.heap.size := Nat.le_trans Z21 K22.1
    refine own_go st22 ?_
    show own_End p e below s (T22.setTop (mkF m 12 #[.val (.ref o0), .val (.int (5 : Int32))] [(.ref sa22)])) _ _ _
    have g_sa22 : n0 ≤ sa22 := Nat.le_trans Z21 za22
    have sz_sa22 : h0.size ≤ sa22 := Nat.le_trans KP21.1 za22
    have ne_o0_sa22 : o0 ≠ sa22 := Nat.ne_of_lt (Nat.lt_of_lt_of_le Fa21_0.lt za22)
    have ne_sb_sa22 : sb ≠ sa22 := Nat.ne_of_lt (Nat.lt_of_lt_of_le Fa21_0.ltb za22)
    have g_sb22 : n0 ≤ sb22 := Nat.le_trans Z21 zb22
    have sz_sb22 : h0.size ≤ sb22 := Nat.le_trans KP21.1 zb22
    have ne_o0_sb22 : o0 ≠ sb22 := Nat.ne_of_lt (Nat.lt_of_lt_of_le Fa21_0.lt zb22)
    have ne_sb_sb22 : sb ≠ sb22 := Nat.ne_of_lt (Nat.lt_of_lt_of_le Fa21_0.ltb zb22)
    have KP22 := KP21.trans K22 all0
    refine own_go (fun τ κ => XS.aloadN Xl22.here hx rfl (hb hby d6_12) rfl rfl κ) ?_
    show own_End p e below s (T22.setTop (mkF m 13 #[.val (.ref o0), .val (.int (5 : Int32))] [(.ref o0), (.ref sa22)])) _ _ _
    have U23 := (Fa21_0.keep K22 nin0 nin0)
    have U24 := (Fa21_1.keep K22 all0)
    obtain ⟨cq25, kq25, q25a, q25b, q25c⟩ := isOf hZ rfl Ss22.1
    obtain ⟨_, _, ⟨T25, L25, k25, n25⟩, -, X25, ⟨Lc25, hQ25, l25, y25, z25⟩, st25⟩ := Xl22.virtualBack hx (y := (⟨"java/lang/String", "equals", "(Ljava/lang/Object;)Z"⟩ : MethodName)) (z := (⟨"java/lang/String", "equals", "(Ljava/lang/Object;)Z"⟩ : MethodName)) hown (mvT hZ (hw _ (List.mem_of_getElem? (i := 45) rfl))) (mvT hZ (hw _ (List.mem_of_getElem? (i := 46) rfl))) (notFace_of_selects (args := #[]) (mvT hZ (hw _ (List.mem_of_getElem? (i := 48) rfl)))) (mvT hZ (hw _ (List.mem_of_getElem? (i := 48) rfl))) (mvT hZ (hw _ (List.mem_of_getElem? (i := 47) rfl))) (by decide) (backOf (W := 0) (rmE1_1 l Z a0 hw [] sa22 o0 sb22 sk22 sb sk cz y5_0 u0 T22.heap n0 Z22 (Ne.symm ne_o0_sa22) Ss22 U23 U24 S_C hcz) hZ (hw _ (List.mem_of_getElem? (i := 49) rfl)) (hw _ (List.mem_of_getElem? (i := 3) rfl)) (by decide) (by decide)) q25a q25c (g := (mkF m 13 #[.val (.ref o0), .val (.int (5 : Int32))] [(.ref o0), (.ref sa22)])) rfl (by rw [hml]; rfl) (Steps.refl _) (argsL := [(.ref o0)]) (rest := []) (lenOf own_pd11 rfl) rfl (by show 2 * 0 + _ ≤ _; exact Nat.le_of_eq rfl) (hb hby d6_13) (fun _ _ => ⟨rfl, rfl, (by decide : 12 + 0 ≤ _), (by decide : 30 + 0 ≤ _)⟩)
    dsimp only [Pt.U, Pt.locs, Pt.cells, Pt.slots] at X25 l25 y25 z25 st25 hQ25
    subst l25 y25 z25
    obtain ⟨⟨r25, rfl, hr25⟩, N25q, e25⟩ := hQ25
    have N25 := Fr.app Nl22 N25q
    obtain ⟨ls25, Xl25, Nl25⟩ := own_abs X25 N25
    refine own_go (fun τ κ => st25.trans κ) ?_
    show own_End p e below s (T25.setTop (mkF m 16 #[.val (.ref o0), .val (.int (5 : Int32))] [(.int r25)])) _ _ _
    by_cases nh5 : hq.toInt = 5
    · skip
      refine own_go (fun τ κ => XS.ifNo Xl25.here hx rfl (hb hby d6_16) rfl ((if0 _ _).trans (own_ne (x := r25) (y := (0 : Int32)) (i := r25.toInt) (j := 0) rfl rfl (own_q1y (i := 5) hu hy22 hr25 nh5)).1) κ) ?_
      show own_End p e below s (T25.setTop (mkF m 19 #[.val (.ref o0), .val (.int (5 : Int32))] [])) _ _ _
      refine own_go (fun τ κ => XS.iloadN Xl25.here hx rfl (hb hby d6_19) rfl κ) ?_
      show own_End p e below s (T25.setTop (mkF m 20 #[.val (.ref o0), .val (.int (5 : Int32))] [(.int (5 : Int32))])) _ _ _
      refine own_ret Xl25 (v := some (.int (5 : Int32))) (fun h => by rw [Bd.returns] at h; cases h) Bd.notSynchronized (fun fs hr => retI Xl25 hx Bd.returns (hb hby d6_20) hr) ?_ (by decide) (by decide)
      · rw [e25]; exact ⟨⟨_, rfl, nh5.symm⟩, Nl25, KP22⟩
    · skip
      refine own_go (fun τ κ => XS.ifYes Xl25.here hx rfl (pc0 := 16) (pc' := 21) rfl (hb hby d6_16) rfl ((if0 _ _).trans (own_eq (x := r25) (y := (0 : Int32)) (i := r25.toInt) (j := 0) rfl rfl (own_q1n (i := 5) hu hy22 hr25 nh5)).1) (by decide) (by decide) κ) ?_
      show own_End p e below s (T25.setTop (mkF m 21 #[.val (.ref o0), .val (.int (5 : Int32))] [])) _ _ _
      refine own_go (fun τ κ => XS.iinc Xl25.here hx rfl (hb hby d6_21) rfl (l' := #[.val (.ref o0), .val (.int (6 : Int32))]) rfl κ) ?_
      show own_End p e below s (T25.setTop (mkF m 24 #[.val (.ref o0), .val (.int (6 : Int32))] [])) _ _ _
      refine own_go (fun τ κ => XS.goto Xl25.here hx rfl (pc0 := 24) (pc' := 2) rfl (hb hby d6_24) (by decide) (by decide) κ) ?_
      show own_End p e below s (T25.setTop (mkF m 2 #[.val (.ref o0), .val (.int (6 : Int32))] [])) _ _ _
      exact J6 T25 T22.heap _ Xl25 e25 Nl25 Z22 KP22 U23 U24 nh0 nh1 nh2 nh3 nh4 nh5
  have J4 : ∀ (T26 : State) (h26 : Heap) (ls26 : List Loc) (X26 : Stand p l e ({ frames := 3, cells := 20, slots := 50, locals := 60 } : Room) s m #[(.ref o0)] below meth c T26 ls26 8 20) (e26 : T26.heap = h26) (N26 : Fr n0 ls26) (Z26 : n0 ≤ h26.size) (KP26 : Keep h0 h26 []) (Fa26_0 : own_Str Z h26 o0 sb sk (1 : Int32) [(.int u0)]) (Fa26_1 : Old Z n0 h26) (nh0 : ¬ hq.toInt = 0) (nh1 : ¬ hq.toInt = 1) (nh2 : ¬ hq.toInt = 2) (nh3 : ¬ hq.toInt = 3), own_End p e below s (T26.setTop (mkF m 2 #[.val (.ref o0), .val (.int (4 : Int32))] [])) (Q_rmH1 Z o0 sb sk cz t1 d1 t2 d2 hq u0 h0 n0) ({ frames := 3, cells := 20, slots := 50, locals := 60 } : Room).cells ({ frames := 3, cells := 20, slots := 50, locals := 60 } : Room).slots := by
    intro T26 h26 ls26 X26 e26 N26 Z26 KP26 Fa26_0 Fa26_1 nh0 nh1 nh2 nh3
    show own_End p e below s (T26.setTop (mkF m 2 #[.val (.ref o0), .val (.int (4 : Int32))] [])) _ _ _
    refine own_go (fun τ κ => XS.iloadN X26.here hx rfl (hb hby d6_2) rfl κ) ?_
    show own_End p e below s (T26.setTop (mkF m 3 #[.val (.ref o0), .val (.int (4 : Int32))] [(.int (4 : Int32))])) _ _ _
    refine own_go (fun τ κ => XS.bipush X26.here hx rfl (hb hby d6_3) κ) ?_
    show own_End p e below s (T26.setTop (mkF m 5 #[.val (.ref o0), .val (.int (4 : Int32))] [(.int (24 : Int32)), (.int (4 : Int32))])) _ _ _
    refine own_go (fun τ κ => XS.icmpNo X26.here hx rfl (hb hby d6_5) rfl (own_tlt (x := (4 : Int32)) (y := (24 : Int32)) (i := 4) (j := 24) rfl rfl (by decide)).2.1 κ) ?_
    show own_End p e below s (T26.setTop (mkF m 8 #[.val (.ref o0), .val (.int (4 : Int32))] [])) _ _ _
    refine own_go (fun τ κ => XS.iloadN X26.here hx rfl (hb hby d6_8) rfl κ) ?_
    show own_End p e below s (T26.setTop (mkF m 9 #[.val (.ref o0), .val (.int (4 : Int32))] [(.int (4 : Int32))])) _ _ _
    obtain ⟨_, _, ⟨T27, L27, k27, n27⟩, -, X27, ⟨Lc27, hQ27, l27, y27, z27⟩, st27⟩ := Jvm.LawKit.callS X26 hx (y := (⟨"java/lang/Integer", "toString", "(I)Ljava/lang/String;"⟩ : MethodName)) hown (mvT hZ (hw _ (List.mem_of_getElem? (i := 31) rfl))) (mvT hZ (hw _ (List.mem_of_getElem? (i := 32) rfl))) (mvT hZ (hw _ (List.mem_of_getElem? (i := 33) rfl))) (mvT hZ (hw _ (List.mem_of_getElem? (i := 34) rfl))) (by decide) (backOf (W := 0) (rmT1 l Z a0 hw [] (4 : Int32) cz t1 d1 t2 d2 h26 n0 Z26 Fa26_1 S_C hcz S_1 D1 S_2 D2 (by decide) (by decide)) hZ (hw _ (List.mem_of_getElem? (i := 34) rfl)) (hw _ (List.mem_of_getElem? (i := 33) rfl)) (by decide) (by decide)) (g := (mkF m 9 #[.val (.ref o0), .val (.int (4 : Int32))] [(.int (4 : Int32))])) rfl (by rw [hml]; rfl) (argsL := [(.int (4 : Int32))]) (rest := []) (lenOf own_pd10 rfl) rfl (by show 2 * 0 + _ ≤ _; exact Nat.le_of_eq rfl) (hb hby d6_9) (fun _ _ => ⟨rfl, e26, (by decide : 8 + 2 ≤ _), (by decide : 20 + 5 ≤ _)⟩)
    dsimp only [Pt.U, Pt.locs, Pt.cells, Pt.slots] at X27 l27 y27 z27 st27 hQ27
    subst l27 y27 z27
    obtain ⟨⟨sa27, sb27, sk27, y4_0, rfl, za27, zb27, Ss27, K27, hy27⟩, N27q⟩ := hQ27
    have N27 := Fr.app N26 N27q
    obtain ⟨ls27, Xl27, Nl27⟩ := own_abs X27 N27
    have Z27 : n0 ≤ T27.heap.size := Nat.le_trans Z26 K27.1
    refine own_go st27 ?_
    show own_End p e below s (T27.setTop (mkF m 12 #[.val (.ref o0), .val (.int (4 : Int32))] [(.ref sa27)])) _ _ _
    have g_sa27 : n0 ≤ sa27 := Nat.le_trans Z26 za27
    have sz_sa27 : h0.size ≤ sa27 := Nat.le_trans KP26.1 za27
    have ne_o0_sa27 : o0 ≠ sa27 := Nat.ne_of_lt (Nat.lt_of_lt_of_le Fa26_0.lt za27)
    have ne_sb_sa27 : sb ≠ sa27 := Nat.ne_of_lt (Nat.lt_of_lt_of_le Fa26_0.ltb za27)
    have g_sb27 : n0 ≤ sb27 := Nat.le_trans Z26 zb27
    have sz_sb27 : h0.size ≤ sb27 := Nat.le_trans KP26.1 zb27
    have ne_o0_sb27 : o0 ≠ sb27 := Nat.ne_of_lt (Nat.lt_of_lt_of_le Fa26_0.lt zb27)
    have ne_sb_sb27 : sb ≠ sb27 := Nat.ne_of_lt (Nat.lt_of_lt_of_le Fa26_0.ltb zb27)
    have KP27 := KP26.trans K27 all0
    refine own_go (fun τ κ => XS.aloadN Xl27.here hx rfl (hb hby d6_12) rfl rfl κ) ?_
    show own_End p e below s (T27.setTop (mkF m 13 #[.val (.ref o0), .val (.int (4 : Int32))] [(.ref o0), (.ref sa27)])) _ _ _
    have U28 := (Fa26_0.keep K27 nin0 nin0)
    have U29 := (Fa26_1.keep K27 all0)
    obtain ⟨cq30, kq30, q30a, q30b, q30c⟩ := isOf hZ rfl Ss27.1
    obtain ⟨_, _, ⟨T30, L30, k30, n30⟩, -, X30, ⟨Lc30, hQ30, l30, y30, z30⟩, st30⟩ := Xl27.virtualBack hx (y := (⟨"java/lang/String", "equals", "(Ljava/lang/Object;)Z"⟩ : MethodName)) (z := (⟨"java/lang/String", "equals", "(Ljava/lang/Object;)Z"⟩ : MethodName)) hown (mvT hZ (hw _ (List.mem_of_getElem? (i := 45) rfl))) (mvT hZ (hw _ (List.mem_of_getElem? (i := 46) rfl))) (notFace_of_selects (args := #[]) (mvT hZ (hw _ (List.mem_of_getElem? (i := 48) rfl)))) (mvT hZ (hw _ (List.mem_of_getElem? (i := 48) rfl))) (mvT hZ (hw _ (List.mem_of_getElem? (i := 47) rfl))) (by decide) (backOf (W := 0) (rmE1_1 l Z a0 hw [] sa27 o0 sb27 sk27 sb sk cz y4_0 u0 T27.heap n0 Z27 (Ne.symm ne_o0_sa27) Ss27 U28 U29 S_C hcz) hZ (hw _ (List.mem_of_getElem? (i := 49) rfl)) (hw _ (List.mem_of_getElem? (i := 3) rfl)) (by decide) (by decide)) q30a q30c (g := (mkF m 13 #[.val (.ref o0), .val (.int (4 : Int32))] [(.ref o0), (.ref sa27)])) rfl (by rw [hml]; rfl) (Steps.refl _) (argsL := [(.ref o0)]) (rest := []) (lenOf own_pd11 rfl) rfl (by show 2 * 0 + _ ≤ _; exact Nat.le_of_eq rfl) (hb hby d6_13) (fun _ _ => ⟨rfl, rfl, (by decide : 10 + 0 ≤ _), (by decide : 25 + 0 ≤ _)⟩)
    dsimp only [Pt.U, Pt.locs, Pt.cells, Pt.slots] at X30 l30 y30 z30 st30 hQ30
    subst l30 y30 z30
    obtain ⟨⟨r30, rfl, hr30⟩, N30q, e30⟩ := hQ30
    have N30 := Fr.app Nl27 N30q
    obtain ⟨ls30, Xl30, Nl30⟩ := own_abs X30 N30
    refine own_go (fun τ κ => st30.trans κ) ?_
    show own_End p e below s (T30.setTop (mkF m 16 #[.val (.ref o0), .val (.int (4 : Int32))] [(.int r30)])) _ _ _
    by_cases nh4 : hq.toInt = 4
    · skip
      refine own_go (fun τ κ => XS.ifNo Xl30.here hx rfl (hb hby d6_16) rfl ((if0 _ _).trans (own_ne (x := r30) (y := (0 : Int32)) (i := r30.toInt) (j := 0) rfl rfl (own_q1y (i := 4) hu hy27 hr30 nh4)).1) κ) ?_
      show own_End p e below s (T30.setTop (mkF m 19 #[.val (.ref o0), .val (.int (4 : Int32))] [])) _ _ _
      refine own_go (fun τ κ => XS.iloadN Xl30.here hx rfl (hb hby d6_19) rfl κ) ?_
      show own_End p e below s (T30.setTop (mkF m 20 #[.val (.ref o0), .val (.int (4 : Int32))] [(.int (4 : Int32))])) _ _ _
      refine own_ret Xl30 (v := some (.int (4 : Int32))) (fun h => by rw [Bd.returns] at h; cases h) Bd.notSynchronized (fun fs hr => retI Xl30 hx Bd.returns (hb hby d6_20) hr) ?_ (by decide) (by decide)
      · rw [e30]; exact ⟨⟨_, rfl, nh4.symm⟩, Nl30, KP27⟩
    · skip
      refine own_go (fun τ κ => XS.ifYes Xl30.here hx rfl (pc0 := 16) (pc' := 21) rfl (hb hby d6_16) rfl ((if0 _ _).trans (own_eq (x := r30) (y := (0 : Int32)) (i := r30.toInt) (j := 0) rfl rfl (own_q1n (i := 4) hu hy27 hr30 nh4)).1) (by decide) (by decide) κ) ?_
      show own_End p e below s (T30.setTop (mkF m 21 #[.val (.ref o0), .val (.int (4 : Int32))] [])) _ _ _
      refine own_go (fun τ κ => XS.iinc Xl30.here hx rfl (hb hby d6_21) rfl (l' := #[.val (.ref o0), .val (.int (5 : Int32))]) rfl κ) ?_
      show own_End p e below s (T30.setTop (mkF m 24 #[.val (.ref o0), .val (.int (5 : Int32))] [])) _ _ _
      refine own_go (fun τ κ => XS.goto Xl30.here hx rfl (pc0 := 24) (pc' := 2) rfl (hb hby d6_24) (by decide) (by decide) κ) ?_
      show own_End p e below s (T30.setTop (mkF m 2 #[.val (.ref o0), .val (.int (5 : Int32))] [])) _ _ _
      exact J5 T30 T27.heap _ Xl30 e30 Nl30 Z27 KP27 U28 U29 nh0 nh1 nh2 nh3 nh4
  have J3 : ∀ (T31 : State) (h31 : Heap) (ls31 : List Loc) (X31 : Stand p l e ({ frames := 3, cells := 20, slots := 50, locals := 60 } : Room) s m #[(.ref o0)] below meth c T31 ls31 6 15) (e31 : T31.heap = h31) (N31 : Fr n0 ls31) (Z31 : n0 ≤ h31.size) (KP31 : Keep h0 h31 []) (Fa31_0 : own_Str Z h31 o0 sb sk (1 : Int32) [(.int u0)]) (Fa31_1 : Old Z n0 h31) (nh0 : ¬ hq.toInt = 0) (nh1 : ¬ hq.toInt = 1) (nh2 : ¬ hq.toInt = 2), own_End p e below s (T31.setTop (mkF m 2 #[.val (.ref o0), .val (.int (3 : Int32))] [])) (Q_rmH1 Z o0 sb sk cz t1 d1 t2 d2 hq u0 h0 n0) ({ frames := 3, cells := 20, slots := 50, locals := 60 } : Room).cells ({ frames := 3, cells := 20, slots := 50, locals := 60 } : Room).slots := by
    intro T31 h31 ls31 X31 e31 N31 Z31 KP31 Fa31_0 Fa31_1 nh0 nh1 nh2
    show own_End p e below s (T31.setTop (mkF m 2 #[.val (.ref o0), .val (.int (3 : Int32))] [])) _ _ _
    refine own_go (fun τ κ => XS.iloadN X31.here hx rfl (hb hby d6_2) rfl κ) ?_
    show own_End p e below s (T31.setTop (mkF m 3 #[.val (.ref o0), .val (.int (3 : Int32))] [(.int (3 : Int32))])) _ _ _
    refine own_go (fun τ κ => XS.bipush X31.here hx rfl (hb hby d6_3) κ) ?_
    show own_End p e below s (T31.setTop (mkF m 5 #[.val (.ref o0), .val (.int (3 : Int32))] [(.int (24 : Int32)), (.int (3 : Int32))])) _ _ _
    refine own_go (fun τ κ => XS.icmpNo X31.here hx rfl (hb hby d6_5) rfl (own_tlt (x := (3 : Int32)) (y := (24 : Int32)) (i := 3) (j := 24) rfl rfl (by decide)).2.1 κ) ?_
    show own_End p e below s (T31.setTop (mkF m 8 #[.val (.ref o0), .val (.int (3 : Int32))] [])) _ _ _
    refine own_go (fun τ κ => XS.iloadN X31.here hx rfl (hb hby d6_8) rfl κ) ?_
    show own_End p e below s (T31.setTop (mkF m 9 #[.val (.ref o0), .val (.int (3 : Int32))] [(.int (3 : Int32))])) _ _ _
    obtain ⟨_, _, ⟨T32, L32, k32, n32⟩, -, X32, ⟨Lc32, hQ32, l32, y32, z32⟩, st32⟩ := Jvm.LawKit.callS X31 hx (y := (⟨"java/lang/Integer", "toString", "(I)Ljava/lang/String;"⟩ : MethodName)) hown (mvT hZ (hw _ (List.mem_of_getElem? (i := 31) rfl))) (mvT hZ (hw _ (List.mem_of_getElem? (i := 32) rfl))) (mvT hZ (hw _ (List.mem_of_getElem? (i := 33) rfl))) (mvT hZ (hw _ (List.mem_of_getElem? (i := 34) rfl))) (by decide) (backOf (W := 0) (rmT1 l Z a0 hw [] (3 : Int32) cz t1 d1 t2 d2 h31 n0 Z31 Fa31_1 S_C hcz S_1 D1 S_2 D2 (by decide) (by decide)) hZ (hw _ (List.mem_of_getElem? (i := 34) rfl)) (hw _ (List.mem_of_getElem? (i := 33) rfl)) (by decide) (by decide)) (g := (mkF m 9 #[.val (.ref o0), .val (.int (3 : Int32))] [(.int (3 : Int32))])) rfl (by rw [hml]; rfl) (argsL := [(.int (3 : Int32))]) (rest := []) (lenOf own_pd10 rfl) rfl (by show 2 * 0 + _ ≤ _; exact Nat.le_of_eq rfl) (hb hby d6_9) (fun _ _ => ⟨rfl, e31, (by decide : 6 + 2 ≤ _), (by decide : 15 + 5 ≤ _)⟩)
    dsimp only [Pt.U, Pt.locs, Pt.cells, Pt.slots] at X32 l32 y32 z32 st32 hQ32
    subst l32 y32 z32
    obtain ⟨⟨sa32, sb32, sk32, y3_0, rfl, za32, zb32, Ss32, K32, hy32⟩, N32q⟩ := hQ32
    have N32 := Fr.app N31 N32q
    obtain ⟨ls32, Xl32, Nl32⟩ := own_abs X32 N32
    have Z32 : n0 ≤ T32.heap.size := Nat.le_trans Z31 K32.1
    refine own_go st32 ?_
    show own_End p e below s (T32.setTop (mkF m 12 #[.val (.ref o0), .val (.int (3 : Int32))] [(.ref sa32)])) _ _ _
    have g_sa32 : n0 ≤ sa32 := Nat.le_trans Z31 za32
    have sz_sa32 : h0.size ≤ sa32 := Nat.le_trans KP31.1 za32
    have ne_o0_sa32 : o0 ≠ sa32 := Nat.ne_of_lt (Nat.lt_of_lt_of_le Fa31_0.lt za32)
    have ne_sb_sa32 : sb ≠ sa32 := Nat.ne_of_lt (Nat.lt_of_lt_of_le Fa31_0.ltb za32)
    have g_sb32 : n0 ≤ sb32 := Nat.le_trans Z31 zb32
    have sz_sb32 : h0.size ≤ sb32 := Nat.le_trans KP31.1 zb32
    have ne_o0_sb32 : o0 ≠ sb32 := Nat.ne_of_lt (Nat.lt_of_lt_of_le Fa31_0.lt zb32)
    have ne_sb_sb32 : sb ≠ sb32 := Nat.ne_of_lt (Nat.lt_of_lt_of_le Fa31_0.ltb zb32)
    have KP32 := KP31.trans K32 all0
    refine own_go (fun τ κ => XS.aloadN Xl32.here hx rfl (hb hby d6_12) rfl rfl κ) ?_
    show own_End p e below s (T32.setTop (mkF m 13 #[.val (.ref o0), .val (.int (3 : Int32))] [(.ref o0), (.ref sa32)])) _ _ _
    have U33 := (Fa31_0.keep K32 nin0 nin0)
    have U34 := (Fa31_1.keep K32 all0)
    obtain ⟨cq35, kq35, q35a, q35b, q35c⟩ := isOf hZ rfl Ss32.1
    obtain ⟨_, _, ⟨T35, L35, k35, n35⟩, -, X35, ⟨Lc35, hQ35, l35, y35, z35⟩, st35⟩ := Xl32.virtualBack hx (y := (⟨"java/lang/String", "equals", "(Ljava/lang/Object;)Z"⟩ : MethodName)) (z := (⟨"java/lang/String", "equals", "(Ljava/lang/Object;)Z"⟩ : MethodName)) hown (mvT hZ (hw _ (List.mem_of_getElem? (i := 45) rfl))) (mvT hZ (hw _ (List.mem_of_getElem? (i := 46) rfl))) (notFace_of_selects (args := #[]) (mvT hZ (hw _ (List.mem_of_getElem? (i := 48) rfl)))) (mvT hZ (hw _ (List.mem_of_getElem? (i := 48) rfl))) (mvT hZ (hw _ (List.mem_of_getElem? (i := 47) rfl))) (by decide) (backOf (W := 0) (rmE1_1 l Z a0 hw [] sa32 o0 sb32 sk32 sb sk cz y3_0 u0 T32.heap n0 Z32 (Ne.symm ne_o0_sa32) Ss32 U33 U34 S_C hcz) hZ (hw _ (List.mem_of_getElem? (i := 49) rfl)) (hw _ (List.mem_of_getElem? (i := 3) rfl)) (by decide) (by decide)) q35a q35c (g := (mkF m 13 #[.val (.ref o0), .val (.int (3 : Int32))] [(.ref o0), (.ref sa32)])) rfl (by rw [hml]; rfl) (Steps.refl _) (argsL := [(.ref o0)]) (rest := []) (lenOf own_pd11 rfl) rfl (by show 2 * 0 + _ ≤ _; exact Nat.le_of_eq rfl) (hb hby d6_13) (fun _ _ => ⟨rfl, rfl, (by decide : 8 + 0 ≤ _), (by decide : 20 + 0 ≤ _)⟩)
    dsimp only [Pt.U, Pt.locs, Pt.cells, Pt.slots] at X35 l35 y35 z35 st35 hQ35
    subst l35 y35 z35
    obtain ⟨⟨r35, rfl, hr35⟩, N35q, e35⟩ := hQ35
    have N35 := Fr.app Nl32 N35q
    obtain ⟨ls35, Xl35, Nl35⟩ := own_abs X35 N35
    refine own_go (fun τ κ => st35.trans κ) ?_
    show own_End p e below s (T35.setTop (mkF m 16 #[.val (.ref o0), .val (.int (3 : Int32))] [(.int r35)])) _ _ _
    by_cases nh3 : hq.toInt = 3
    · skip
      refine own_go (fun τ κ => XS.ifNo Xl35.here hx rfl (hb hby d6_16) rfl ((if0 _ _).trans (own_ne (x := r35) (y := (0 : Int32)) (i := r35.toInt) (j := 0) rfl rfl (own_q1y (i := 3) hu hy32 hr35 nh3)).1) κ) ?_
      show own_End p e below s (T35.setTop (mkF m 19 #[.val (.ref o0), .val (.int (3 : Int32))] [])) _ _ _
      refine own_go (fun τ κ => XS.iloadN Xl35.here hx rfl (hb hby d6_19) rfl κ) ?_
      show own_End p e below s (T35.setTop (mkF m 20 #[.val (.ref o0), .val (.int (3 : Int32))] [(.int (3 : Int32))])) _ _ _
      refine own_ret Xl35 (v := some (.int (3 : Int32))) (fun h => by rw [Bd.returns] at h; cases h) Bd.notSynchronized (fun fs hr => retI Xl35 hx Bd.returns (hb hby d6_20) hr) ?_ (by decide) (by decide)
      · rw [e35]; exact ⟨⟨_, rfl, nh3.symm⟩, Nl35, KP32⟩
    · skip
      refine own_go (fun τ κ => XS.ifYes Xl35.here hx rfl (pc0 := 16) (pc' := 21) rfl (hb hby d6_16) rfl ((if0 _ _).trans (own_eq (x := r35) (y := (0 : Int32)) (i := r35.toInt) (j := 0) rfl rfl (own_q1n (i := 3) hu hy32 hr35 nh3)).1) (by decide) (by decide) κ) ?_
      show own_End p e below s (T35.setTop (mkF m 21 #[.val (.ref o0), .val (.int (3 : Int32))] [])) _ _ _
      refine own_go (fun τ κ => XS.iinc Xl35.here hx rfl (hb hby d6_21) rfl (l' := #[.val (.ref o0), .val (.int (4 : Int32))]) rfl κ) ?_
      show own_End p e below s (T35.setTop (mkF m 24 #[.val (.ref o0), .val (.int (4 : Int32))] [])) _ _ _
      refine own_go (fun τ κ => XS.goto Xl35.here hx rfl (pc0 := 24) (pc' := 2) rfl (hb hby d6_24) (by decide) (by decide) κ) ?_
      show own_End p e below s (T35.setTop (mkF m 2 #[.val (.ref o0), .val (.int (4 : Int32))] [])) _ _ _
      exact J4 T35 T32.heap _ Xl35 e35 Nl35 Z32 KP32 U33 U34 nh0 nh1 nh2 nh3
  have J2 : ∀ (T36 : State) (h36 : Heap) (ls36 : List Loc) (X36 : Stand p l e ({ frames := 3, cells := 20, slots := 50, locals := 60 } : Room) s m #[(.ref o0)] below meth c T36 ls36 4 10) (e36 : T36.heap = h36) (N36 : Fr n0 ls36) (Z36 : n0 ≤ h36.size) (KP36 : Keep h0 h36 []) (Fa36_0 : own_Str Z h36 o0 sb sk (1 : Int32) [(.int u0)]) (Fa36_1 : Old Z n0 h36) (nh0 : ¬ hq.toInt = 0) (nh1 : ¬ hq.toInt = 1), own_End p e below s (T36.setTop (mkF m 2 #[.val (.ref o0), .val (.int (2 : Int32))] [])) (Q_rmH1 Z o0 sb sk cz t1 d1 t2 d2 hq u0 h0 n0) ({ frames := 3, cells := 20, slots := 50, locals := 60 } : Room).cells ({ frames := 3, cells := 20, slots := 50, locals := 60 } : Room).slots := by
    intro T36 h36 ls36 X36 e36 N36 Z36 KP36 Fa36_0 Fa36_1 nh0 nh1
    show own_End p e below s (T36.setTop (mkF m 2 #[.val (.ref o0), .val (.int (2 : Int32))] [])) _ _ _
    refine own_go (fun τ κ => XS.iloadN X36.here hx rfl (hb hby d6_2) rfl κ) ?_
    show own_End p e below s (T36.setTop (mkF m 3 #[.val (.ref o0), .val (.int (2 : Int32))] [(.int (2 : Int32))])) _ _ _
    refine own_go (fun τ κ => XS.bipush X36.here hx rfl (hb hby d6_3) κ) ?_
    show own_End p e below s (T36.setTop (mkF m 5 #[.val (.ref o0), .val (.int (2 : Int32))] [(.int (24 : Int32)), (.int (2 : Int32))])) _ _ _
    refine own_go (fun τ κ => XS.icmpNo X36.here hx rfl (hb hby d6_5) rfl (own_tlt (x := (2 : Int32)) (y := (24 : Int32)) (i := 2) (j := 24) rfl rfl (by decide)).2.1 κ) ?_
    show own_End p e below s (T36.setTop (mkF m 8 #[.val (.ref o0), .val (.int (2 : Int32))] [])) _ _ _
    refine own_go (fun τ κ => XS.iloadN X36.here hx rfl (hb hby d6_8) rfl κ) ?_
    show own_End p e below s (T36.setTop (mkF m 9 #[.val (.ref o0), .val (.int (2 : Int32))] [(.int (2 : Int32))])) _ _ _
    obtain ⟨_, _, ⟨T37, L37, k37, n37⟩, -, X37, ⟨Lc37, hQ37, l37, y37, z37⟩, st37⟩ := Jvm.LawKit.callS X36 hx (y := (⟨"java/lang/Integer", "toString", "(I)Ljava/lang/String;"⟩ : MethodName)) hown (mvT hZ (hw _ (List.mem_of_getElem? (i := 31) rfl))) (mvT hZ (hw _ (List.mem_of_getElem? (i := 32) rfl))) (mvT hZ (hw _ (List.mem_of_getElem? (i := 33) rfl))) (mvT hZ (hw _ (List.mem_of_getElem? (i := 34) rfl))) (by decide) (backOf (W := 0) (rmT1 l Z a0 hw [] (2 : Int32) cz t1 d1 t2 d2 h36 n0 Z36 Fa36_1 S_C hcz S_1 D1 S_2 D2 (by decide) (by decide)) hZ (hw _ (List.mem_of_getElem? (i := 34) rfl)) (hw _ (List.mem_of_getElem? (i := 33) rfl)) (by decide) (by decide)) (g := (mkF m 9 #[.val (.ref o0), .val (.int (2 : Int32))] [(.int (2 : Int32))])) rfl (by rw [hml]; rfl) (argsL := [(.int (2 : Int32))]) (rest := []) (lenOf own_pd10 rfl) rfl (by show 2 * 0 + _ ≤ _; exact Nat.le_of_eq rfl) (hb hby d6_9) (fun _ _ => ⟨rfl, e36, (by decide : 4 + 2 ≤ _), (by decide : 10 + 5 ≤ _)⟩)
    dsimp only [Pt.U, Pt.locs, Pt.cells, Pt.slots] at X37 l37 y37 z37 st37 hQ37
    subst l37 y37 z37
    obtain ⟨⟨sa37, sb37, sk37, y2_0, rfl, za37, zb37, Ss37, K37, hy37⟩, N37q⟩ := hQ37
    have N37 := Fr.app N36 N37q
    obtain ⟨ls37, Xl37, Nl37⟩ := own_abs X37 N37
    have Z37 : n0 ≤ T37.heap.size := Nat.le_trans Z36 K37.1
    refine own_go st37 ?_
    show own_End p e below s (T37.setTop (mkF m 12 #[.val (.ref o0), .val (.int (2 : Int32))] [(.ref sa37)])) _ _ _
    have g_sa37 : n0 ≤ sa37 := Nat.le_trans Z36 za37
    have sz_sa37 : h0.size ≤ sa37 := Nat.le_trans KP36.1 za37
    have ne_o0_sa37 : o0 ≠ sa37 := Nat.ne_of_lt (Nat.lt_of_lt_of_le Fa36_0.lt za37)
    have ne_sb_sa37 : sb ≠ sa37 := Nat.ne_of_lt (Nat.lt_of_lt_of_le Fa36_0.ltb za37)
    have g_sb37 : n0 ≤ sb37 := Nat.le_trans Z36 zb37
    have sz_sb37 : h0.size ≤ sb37 := Nat.le_trans KP36.1 zb37
    have ne_o0_sb37 : o0 ≠ sb37 := Nat.ne_of_lt (Nat.lt_of_lt_of_le Fa36_0.lt zb37)
    have ne_sb_sb37 : sb ≠ sb37 := Nat.ne_of_lt (Nat.lt_of_lt_of_le Fa36_0.ltb zb37)
    have KP37 := KP36.trans K37 all0
    refine own_go (fun τ κ => XS.aloadN Xl37.here hx rfl (hb hby d6_12) rfl rfl κ) ?_
    show own_End p e below s (T37.setTop (mkF m 13 #[.val (.ref o0), .val (.int (2 : Int32))] [(.ref o0), (.ref sa37)])) _ _ _
    have U38 := (Fa36_0.keep K37 nin0 nin0)
    have U39 := (Fa36_1.keep K37 all0)
    obtain ⟨cq40, kq40, q40a, q40b, q40c⟩ := isOf hZ rfl Ss37.1
    obtain ⟨_, _, ⟨T40, L40, k40, n40⟩, -, X40, ⟨Lc40, hQ40, l40, y40, z40⟩, st40⟩ := Xl37.virtualBack hx (y := (⟨"java/lang/String", "equals", "(Ljava/lang/Object;)Z"⟩ : MethodName)) (z := (⟨"java/lang/String", "equals", "(Ljava/lang/Object;)Z"⟩ : MethodName)) hown (mvT hZ (hw _ (List.mem_of_getElem? (i := 45) rfl))) (mvT hZ (hw _ (List.mem_of_getElem? (i := 46) rfl))) (notFace_of_selects (args := #[]) (mvT hZ (hw _ (List.mem_of_getElem? (i := 48) rfl)))) (mvT hZ (hw _ (List.mem_of_getElem? (i := 48) rfl))) (mvT hZ (hw _ (List.mem_of_getElem? (i := 47) rfl))) (by decide) (backOf (W := 0) (rmE1_1 l Z a0 hw [] sa37 o0 sb37 sk37 sb sk cz y2_0 u0 T37.heap n0 Z37 (Ne.symm ne_o0_sa37) Ss37 U38 U39 S_C hcz) hZ (hw _ (List.mem_of_getElem? (i := 49) rfl)) (hw _ (List.mem_of_getElem? (i := 3) rfl)) (by decide) (by decide)) q40a q40c (g := (mkF m 13 #[.val (.ref o0), .val (.int (2 : Int32))] [(.ref o0), (.ref sa37)])) rfl (by rw [hml]; rfl) (Steps.refl _) (argsL := [(.ref o0)]) (rest := []) (lenOf own_pd11 rfl) rfl (by show 2 * 0 + _ ≤ _; exact Nat.le_of_eq rfl) (hb hby d6_13) (fun _ _ => ⟨rfl, rfl, (by decide : 6 + 0 ≤ _), (by decide : 15 + 0 ≤ _)⟩)
    dsimp only [Pt.U, Pt.locs, Pt.cells, Pt.slots] at X40 l40 y40 z40 st40 hQ40
    subst l40 y40 z40
    obtain ⟨⟨r40, rfl, hr40⟩, N40q, e40⟩ := hQ40
    have N40 := Fr.app Nl37 N40q
    obtain ⟨ls40, Xl40, Nl40⟩ := own_abs X40 N40
    refine own_go (fun τ κ => st40.trans κ) ?_
    show own_End p e below s (T40.setTop (mkF m 16 #[.val (.ref o0), .val (.int (2 : Int32))] [(.int r40)])) _ _ _
    by_cases nh2 : hq.toInt = 2
    · skip
      refine own_go (fun τ κ => XS.ifNo Xl40.here hx rfl (hb hby d6_16) rfl ((if0 _ _).trans (own_ne (x := r40) (y := (0 : Int32)) (i := r40.toInt) (j := 0) rfl rfl (own_q1y (i := 2) hu hy37 hr40 nh2)).1) κ) ?_
      show own_End p e below s (T40.setTop (mkF m 19 #[.val (.ref o0), .val (.int (2 : Int32))] [])) _ _ _
      refine own_go (fun τ κ => XS.iloadN Xl40.here hx rfl (hb hby d6_19) rfl κ) ?_
      show own_End p e below s (T40.setTop (mkF m 20 #[.val (.ref o0), .val (.int (2 : Int32))] [(.int (2 : Int32))])) _ _ _
      refine own_ret Xl40 (v := some (.int (2 : Int32))) (fun h => by rw [Bd.returns] at h; cases h) Bd.notSynchronized (fun fs hr => retI Xl40 hx Bd.returns (hb hby d6_20) hr) ?_ (by decide) (by decide)
      · rw [e40]; exact ⟨⟨_, rfl, nh2.symm⟩, Nl40, KP37⟩
    · skip
      refine own_go (fun τ κ => XS.ifYes Xl40.here hx rfl (pc0 := 16) (pc' := 21) rfl (hb hby d6_16) rfl ((if0 _ _).trans (own_eq (x := r40) (y := (0 : Int32)) (i := r40.toInt) (j := 0) rfl rfl (own_q1n (i := 2) hu hy37 hr40 nh2)).1) (by decide) (by decide) κ) ?_
      show own_End p e below s (T40.setTop (mkF m 21 #[.val (.ref o0), .val (.int (2 : Int32))] [])) _ _ _
      refine own_go (fun τ κ => XS.iinc Xl40.here hx rfl (hb hby d6_21) rfl (l' := #[.val (.ref o0), .val (.int (3 : Int32))]) rfl κ) ?_
      show own_End p e below s (T40.setTop (mkF m 24 #[.val (.ref o0), .val (.int (3 : Int32))] [])) _ _ _
      refine own_go (fun τ κ => XS.goto Xl40.here hx rfl (pc0 := 24) (pc' := 2) rfl (hb hby d6_24) (by decide) (by decide) κ) ?_
      show own_End p e below s (T40.setTop (mkF m 2 #[.val (.ref o0), .val (.int (3 : Int32))] [])) _ _ _
      exact J3 T40 T37.heap _ Xl40 e40 Nl40 Z37 KP37 U38 U39 nh0 nh1 nh2
  have J1 : ∀ (T41 : State) (h41 : Heap) (ls41 : List Loc) (X41 : Stand p l e ({ frames := 3, cells := 20, slots := 50, locals := 60 } : Room) s m #[(.ref o0)] below meth c T41 ls41 2 5) (e41 : T41.heap = h41) (N41 : Fr n0 ls41) (Z41 : n0 ≤ h41.size) (KP41 : Keep h0 h41 []) (Fa41_0 : own_Str Z h41 o0 sb sk (1 : Int32) [(.int u0)]) (Fa41_1 : Old Z n0 h41) (nh0 : ¬ hq.toInt = 0), own_End p e below s (T41.setTop (mkF m 2 #[.val (.ref o0), .val (.int (1 : Int32))] [])) (Q_rmH1 Z o0 sb sk cz t1 d1 t2 d2 hq u0 h0 n0) ({ frames := 3, cells := 20, slots := 50, locals := 60 } : Room).cells ({ frames := 3, cells := 20, slots := 50, locals := 60 } : Room).slots := by
    intro T41 h41 ls41 X41 e41 N41 Z41 KP41 Fa41_0 Fa41_1 nh0
    show own_End p e below s (T41.setTop (mkF m 2 #[.val (.ref o0), .val (.int (1 : Int32))] [])) _ _ _
    refine own_go (fun τ κ => XS.iloadN X41.here hx rfl (hb hby d6_2) rfl κ) ?_
    show own_End p e below s (T41.setTop (mkF m 3 #[.val (.ref o0), .val (.int (1 : Int32))] [(.int (1 : Int32))])) _ _ _
    refine own_go (fun τ κ => XS.bipush X41.here hx rfl (hb hby d6_3) κ) ?_
    show own_End p e below s (T41.setTop (mkF m 5 #[.val (.ref o0), .val (.int (1 : Int32))] [(.int (24 : Int32)), (.int (1 : Int32))])) _ _ _
    refine own_go (fun τ κ => XS.icmpNo X41.here hx rfl (hb hby d6_5) rfl (own_tlt (x := (1 : Int32)) (y := (24 : Int32)) (i := 1) (j := 24) rfl rfl (by decide)).2.1 κ) ?_
    show own_End p e below s (T41.setTop (mkF m 8 #[.val (.ref o0), .val (.int (1 : Int32))] [])) _ _ _
    refine own_go (fun τ κ => XS.iloadN X41.here hx rfl (hb hby d6_8) rfl κ) ?_
    show own_End p e below s (T41.setTop (mkF m 9 #[.val (.ref o0), .val (.int (1 : Int32))] [(.int (1 : Int32))])) _ _ _
    obtain ⟨_, _, ⟨T42, L42, k42, n42⟩, -, X42, ⟨Lc42, hQ42, l42, y42, z42⟩, st42⟩ := Jvm.LawKit.callS X41 hx (y := (⟨"java/lang/Integer", "toString", "(I)Ljava/lang/String;"⟩ : MethodName)) hown (mvT hZ (hw _ (List.mem_of_getElem? (i := 31) rfl))) (mvT hZ (hw _ (List.mem_of_getElem? (i := 32) rfl))) (mvT hZ (hw _ (List.mem_of_getElem? (i := 33) rfl))) (mvT hZ (hw _ (List.mem_of_getElem? (i := 34) rfl))) (by decide) (backOf (W := 0) (rmT1 l Z a0 hw [] (1 : Int32) cz t1 d1 t2 d2 h41 n0 Z41 Fa41_1 S_C hcz S_1 D1 S_2 D2 (by decide) (by decide)) hZ (hw _ (List.mem_of_getElem? (i := 34) rfl)) (hw _ (List.mem_of_getElem? (i := 33) rfl)) (by decide) (by decide)) (g := (mkF m 9 #[.val (.ref o0), .val (.int (1 : Int32))] [(.int (1 : Int32))])) rfl (by rw [hml]; rfl) (argsL := [(.int (1 : Int32))]) (rest := []) (lenOf own_pd10 rfl) rfl (by show 2 * 0 + _ ≤ _; exact Nat.le_of_eq rfl) (hb hby d6_9) (fun _ _ => ⟨rfl, e41, (by decide : 2 + 2 ≤ _), (by decide : 5 + 5 ≤ _)⟩)
    dsimp only [Pt.U, Pt.locs, Pt.cells, Pt.slots] at X42 l42 y42 z42 st42 hQ42
    subst l42 y42 z42
    obtain ⟨⟨sa42, sb42, sk42, y1_0, rfl, za42, zb42, Ss42, K42, hy42⟩, N42q⟩ := hQ42
    have N42 := Fr.app N41 N42q
    obtain ⟨ls42, Xl42, Nl42⟩ := own_abs X42 N42
    have Z42 : n0 ≤ T42.heap.size := Nat.le_trans Z41 K42.1
    refine own_go st42 ?_
    show own_End p e below s (T42.setTop (mkF m 12 #[.val (.ref o0), .val (.int (1 : Int32))] [(.ref sa42)])) _ _ _
    have g_sa42 : n0 ≤ sa42 := Nat.le_trans Z41 za42
    have sz_sa42 : h0.size ≤ sa42 := Nat.le_trans KP41.1 za42
    have ne_o0_sa42 : o0 ≠ sa42 := Nat.ne_of_lt (Nat.lt_of_lt_of_le Fa41_0.lt za42)
    have ne_sb_sa42 : sb ≠ sa42 := Nat.ne_of_lt (Nat.lt_of_lt_of_le Fa41_0.ltb za42)
    have g_sb42 : n0 ≤ sb42 := Nat.le_trans Z41 zb42
    have sz_sb42 : h0.size ≤ sb42 := Nat.le_trans KP41.1 zb42
    have ne_o0_sb42 : o0 ≠ sb42 := Nat.ne_of_lt (Nat.lt_of_lt_of_le Fa41_0.lt zb42)
    have ne_sb_sb42 : sb ≠ sb42 := Nat.ne_of_lt (Nat.lt_of_lt_of_le Fa41_0.ltb zb42)
    have KP42 := KP41.trans K42 all0
    refine own_go (fun τ κ => XS.aloadN Xl42.here hx rfl (hb hby d6_12) rfl rfl κ) ?_
    show own_End p e below s (T42.setTop (mkF m 13 #[.val (.ref o0), .val (.int (1 : Int32))] [(.ref o0), (.ref sa42)])) _ _ _
    have U43 := (Fa41_0.keep K42 nin0 nin0)
    have U44 := (Fa41_1.keep K42 all0)
    obtain ⟨cq45, kq45, q45a, q45b, q45c⟩ := isOf hZ rfl Ss42.1
    obtain ⟨_, _, ⟨T45, L45, k45, n45⟩, -, X45, ⟨Lc45, hQ45, l45, y45, z45⟩, st45⟩ := Xl42.virtualBack hx (y := (⟨"java/lang/String", "equals", "(Ljava/lang/Object;)Z"⟩ : MethodName)) (z := (⟨"java/lang/String", "equals", "(Ljava/lang/Object;)Z"⟩ : MethodName)) hown (mvT hZ (hw _ (List.mem_of_getElem? (i := 45) rfl))) (mvT hZ (hw _ (List.mem_of_getElem? (i := 46) rfl))) (notFace_of_selects (args := #[]) (mvT hZ (hw _ (List.mem_of_getElem? (i := 48) rfl)))) (mvT hZ (hw _ (List.mem_of_getElem? (i := 48) rfl))) (mvT hZ (hw _ (List.mem_of_getElem? (i := 47) rfl))) (by decide) (backOf (W := 0) (rmE1_1 l Z a0 hw [] sa42 o0 sb42 sk42 sb sk cz y1_0 u0 T42.heap n0 Z42 (Ne.symm ne_o0_sa42) Ss42 U43 U44 S_C hcz) hZ (hw _ (List.mem_of_getElem? (i := 49) rfl)) (hw _ (List.mem_of_getElem? (i := 3) rfl)) (by decide) (by decide)) q45a q45c (g := (mkF m 13 #[.val (.ref o0), .val (.int (1 : Int32))] [(.ref o0), (.ref sa42)])) rfl (by rw [hml]; rfl) (Steps.refl _) (argsL := [(.ref o0)]) (rest := []) (lenOf own_pd11 rfl) rfl (by show 2 * 0 + _ ≤ _; exact Nat.le_of_eq rfl) (hb hby d6_13) (fun _ _ => ⟨rfl, rfl, (by decide : 4 + 0 ≤ _), (by decide : 10 + 0 ≤ _)⟩)
    dsimp only [Pt.U, Pt.locs, Pt.cells, Pt.slots] at X45 l45 y45 z45 st45 hQ45
    subst l45 y45 z45
    obtain ⟨⟨r45, rfl, hr45⟩, N45q, e45⟩ := hQ45
    have N45 := Fr.app Nl42 N45q
    obtain ⟨ls45, Xl45, Nl45⟩ := own_abs X45 N45
    refine own_go (fun τ κ => st45.trans κ) ?_
    show own_End p e below s (T45.setTop (mkF m 16 #[.val (.ref o0), .val (.int (1 : Int32))] [(.int r45)])) _ _ _
    by_cases nh1 : hq.toInt = 1
    · skip
      refine own_go (fun τ κ => XS.ifNo Xl45.here hx rfl (hb hby d6_16) rfl ((if0 _ _).trans (own_ne (x := r45) (y := (0 : Int32)) (i := r45.toInt) (j := 0) rfl rfl (own_q1y (i := 1) hu hy42 hr45 nh1)).1) κ) ?_
      show own_End p e below s (T45.setTop (mkF m 19 #[.val (.ref o0), .val (.int (1 : Int32))] [])) _ _ _
      refine own_go (fun τ κ => XS.iloadN Xl45.here hx rfl (hb hby d6_19) rfl κ) ?_
      show own_End p e below s (T45.setTop (mkF m 20 #[.val (.ref o0), .val (.int (1 : Int32))] [(.int (1 : Int32))])) _ _ _
      refine own_ret Xl45 (v := some (.int (1 : Int32))) (fun h => by rw [Bd.returns] at h; cases h) Bd.notSynchronized (fun fs hr => retI Xl45 hx Bd.returns (hb hby d6_20) hr) ?_ (by decide) (by decide)
      · rw [e45]; exact ⟨⟨_, rfl, nh1.symm⟩, Nl45, KP42⟩
    · skip
      refine own_go (fun τ κ => XS.ifYes Xl45.here hx rfl (pc0 := 16) (pc' := 21) rfl (hb hby d6_16) rfl ((if0 _ _).trans (own_eq (x := r45) (y := (0 : Int32)) (i := r45.toInt) (j := 0) rfl rfl (own_q1n (i := 1) hu hy42 hr45 nh1)).1) (by decide) (by decide) κ) ?_
      show own_End p e below s (T45.setTop (mkF m 21 #[.val (.ref o0), .val (.int (1 : Int32))] [])) _ _ _
      refine own_go (fun τ κ => XS.iinc Xl45.here hx rfl (hb hby d6_21) rfl (l' := #[.val (.ref o0), .val (.int (2 : Int32))]) rfl κ) ?_
      show own_End p e below s (T45.setTop (mkF m 24 #[.val (.ref o0), .val (.int (2 : Int32))] [])) _ _ _
      refine own_go (fun τ κ => XS.goto Xl45.here hx rfl (pc0 := 24) (pc' := 2) rfl (hb hby d6_24) (by decide) (by decide) κ) ?_
      show own_End p e below s (T45.setTop (mkF m 2 #[.val (.ref o0), .val (.int (2 : Int32))] [])) _ _ _
      exact J2 T45 T42.heap _ Xl45 e45 Nl45 Z42 KP42 U43 U44 nh0 nh1
  have hl0 : (0 : Int32).toInt = 0 := rfl
  refine own_go (fun τ κ => XS.iconst X0.here hx rfl (hb hby d6_0) κ) ?_
  show own_End p e below s (s₁.setTop (mkF m 1 #[.val (.ref o0), .unset] [(.int (0 : Int32))])) _ _ _
  refine own_go (fun τ κ => XS.istoreN X0.here hx rfl (hb hby d6_1) rfl (l' := #[.val (.ref o0), .val (.int (0 : Int32))]) rfl κ) ?_
  show own_End p e below s (s₁.setTop (mkF m 2 #[.val (.ref o0), .val (.int (0 : Int32))] [])) _ _ _
  refine own_go (fun τ κ => XS.iloadN X0.here hx rfl (hb hby d6_2) rfl κ) ?_
  show own_End p e below s (s₁.setTop (mkF m 3 #[.val (.ref o0), .val (.int (0 : Int32))] [(.int (0 : Int32))])) _ _ _
  refine own_go (fun τ κ => XS.bipush X0.here hx rfl (hb hby d6_3) κ) ?_
  show own_End p e below s (s₁.setTop (mkF m 5 #[.val (.ref o0), .val (.int (0 : Int32))] [(.int (24 : Int32)), (.int (0 : Int32))])) _ _ _
  refine own_go (fun τ κ => XS.icmpNo X0.here hx rfl (hb hby d6_5) rfl (own_tlt (x := (0 : Int32)) (y := (24 : Int32)) (i := 0) (j := 24) rfl rfl (by decide)).2.1 κ) ?_
  show own_End p e below s (s₁.setTop (mkF m 8 #[.val (.ref o0), .val (.int (0 : Int32))] [])) _ _ _
  refine own_go (fun τ κ => XS.iloadN X0.here hx rfl (hb hby d6_8) rfl κ) ?_
  show own_End p e below s (s₁.setTop (mkF m 9 #[.val (.ref o0), .val (.int (0 : Int32))] [(.int (0 : Int32))])) _ _ _
  obtain ⟨_, _, ⟨T46, L46, k46, n46⟩, -, X46, ⟨Lc46, hQ46, l46, y46, z46⟩, st46⟩ := Jvm.LawKit.callS X0 hx (y := (⟨"java/lang/Integer", "toString", "(I)Ljava/lang/String;"⟩ : MethodName)) hown (mvT hZ (hw _ (List.mem_of_getElem? (i := 31) rfl))) (mvT hZ (hw _ (List.mem_of_getElem? (i := 32) rfl))) (mvT hZ (hw _ (List.mem_of_getElem? (i := 33) rfl))) (mvT hZ (hw _ (List.mem_of_getElem? (i := 34) rfl))) (by decide) (backOf (W := 0) (rmT1 l Z a0 hw [] (0 : Int32) cz t1 d1 t2 d2 h0 n0 Z0 Ol S_C hcz S_1 D1 S_2 D2 (by decide) (by decide)) hZ (hw _ (List.mem_of_getElem? (i := 34) rfl)) (hw _ (List.mem_of_getElem? (i := 33) rfl)) (by decide) (by decide)) (g := (mkF m 9 #[.val (.ref o0), .val (.int (0 : Int32))] [(.int (0 : Int32))])) rfl (by rw [hml]; rfl) (argsL := [(.int (0 : Int32))]) (rest := []) (lenOf own_pd10 rfl) rfl (by show 2 * 0 + _ ≤ _; exact Nat.le_of_eq rfl) (hb hby d6_9) (fun _ _ => ⟨rfl, e0, (by decide : 0 + 2 ≤ _), (by decide : 0 + 5 ≤ _)⟩)
  dsimp only [Pt.U, Pt.locs, Pt.cells, Pt.slots] at X46 l46 y46 z46 st46 hQ46
  subst l46 y46 z46
  obtain ⟨⟨sa46, sb46, sk46, y0_0, rfl, za46, zb46, Ss46, K46, hy46⟩, N46q⟩ := hQ46
  have N46 := Fr.app N0 N46q
  obtain ⟨ls46, Xl46, Nl46⟩ := own_abs X46 N46
  have Z46 : n0 ≤ T46.heap.size := Nat.le_trans Z0 K46.1
  refine own_go st46 ?_
  show own_End p e below s (T46.setTop (mkF m 12 #[.val (.ref o0), .val (.int (0 : Int32))] [(.ref sa46)])) _ _ _
  have g_sa46 : n0 ≤ sa46 := Nat.le_trans Z0 za46
  have sz_sa46 : h0.size ≤ sa46 := Nat.le_trans (Keep.refl h0 []).1 za46
  have ne_o0_sa46 : o0 ≠ sa46 := Nat.ne_of_lt (Nat.lt_of_lt_of_le S0.lt za46)
  have ne_sb_sa46 : sb ≠ sa46 := Nat.ne_of_lt (Nat.lt_of_lt_of_le S0.ltb za46)
  have g_sb46 : n0 ≤ sb46 := Nat.le_trans Z0 zb46
  have sz_sb46 : h0.size ≤ sb46 := Nat.le_trans (Keep.refl h0 []).1 zb46
  have ne_o0_sb46 : o0 ≠ sb46 := Nat.ne_of_lt (Nat.lt_of_lt_of_le S0.lt zb46)
  have ne_sb_sb46 : sb ≠ sb46 := Nat.ne_of_lt (Nat.lt_of_lt_of_le S0.ltb zb46)
  have KP46 := (Keep.refl h0 []).trans K46 all0
  refine own_go (fun τ κ => XS.aloadN Xl46.here hx rfl (hb hby d6_12) rfl rfl κ) ?_
  show own_End p e below s (T46.setTop (mkF m 13 #[.val (.ref o0), .val (.int (0 : Int32))] [(.ref o0), (.ref sa46)])) _ _ _
  have U47 := (S0.keep K46 nin0 nin0)
  have U48 := (Ol.keep K46 all0)
  obtain ⟨cq49, kq49, q49a, q49b, q49c⟩ := isOf hZ rfl Ss46.1
  obtain ⟨_, _, ⟨T49, L49, k49, n49⟩, -, X49, ⟨Lc49, hQ49, l49, y49, z49⟩, st49⟩ := Xl46.virtualBack hx (y := (⟨"java/lang/String", "equals", "(Ljava/lang/Object;)Z"⟩ : MethodName)) (z := (⟨"java/lang/String", "equals", "(Ljava/lang/Object;)Z"⟩ : MethodName)) hown (mvT hZ (hw _ (List.mem_of_getElem? (i := 45) rfl))) (mvT hZ (hw _ (List.mem_of_getElem? (i := 46) rfl))) (notFace_of_selects (args := #[]) (mvT hZ (hw _ (List.mem_of_getElem? (i := 48) rfl)))) (mvT hZ (hw _ (List.mem_of_getElem? (i := 48) rfl))) (mvT hZ (hw _ (List.mem_of_getElem? (i := 47) rfl))) (by decide) (backOf (W := 0) (rmE1_1 l Z a0 hw [] sa46 o0 sb46 sk46 sb sk cz y0_0 u0 T46.heap n0 Z46 (Ne.symm ne_o0_sa46) Ss46 U47 U48 S_C hcz) hZ (hw _ (List.mem_of_getElem? (i := 49) rfl)) (hw _ (List.mem_of_getElem? (i := 3) rfl)) (by decide) (by decide)) q49a q49c (g := (mkF m 13 #[.val (.ref o0), .val (.int (0 : Int32))] [(.ref o0), (.ref sa46)])) rfl (by rw [hml]; rfl) (Steps.refl _) (argsL := [(.ref o0)]) (rest := []) (lenOf own_pd11 rfl) rfl (by show 2 * 0 + _ ≤ _; exact Nat.le_of_eq rfl) (hb hby d6_13) (fun _ _ => ⟨rfl, rfl, (by decide : 2 + 0 ≤ _), (by decide : 5 + 0 ≤ _)⟩)
  dsimp only [Pt.U, Pt.locs, Pt.cells, Pt.slots] at X49 l49 y49 z49 st49 hQ49
  subst l49 y49 z49
  obtain ⟨⟨r49, rfl, hr49⟩, N49q, e49⟩ := hQ49
  have N49 := Fr.app Nl46 N49q
  obtain ⟨ls49, Xl49, Nl49⟩ := own_abs X49 N49
  refine own_go (fun τ κ => st49.trans κ) ?_
  show own_End p e below s (T49.setTop (mkF m 16 #[.val (.ref o0), .val (.int (0 : Int32))] [(.int r49)])) _ _ _
  by_cases nh0 : hq.toInt = 0
  · skip
    refine own_go (fun τ κ => XS.ifNo Xl49.here hx rfl (hb hby d6_16) rfl ((if0 _ _).trans (own_ne (x := r49) (y := (0 : Int32)) (i := r49.toInt) (j := 0) rfl rfl (own_q1y (i := 0) hu hy46 hr49 nh0)).1) κ) ?_
    show own_End p e below s (T49.setTop (mkF m 19 #[.val (.ref o0), .val (.int (0 : Int32))] [])) _ _ _
    refine own_go (fun τ κ => XS.iloadN Xl49.here hx rfl (hb hby d6_19) rfl κ) ?_
    show own_End p e below s (T49.setTop (mkF m 20 #[.val (.ref o0), .val (.int (0 : Int32))] [(.int (0 : Int32))])) _ _ _
    refine own_ret Xl49 (v := some (.int (0 : Int32))) (fun h => by rw [Bd.returns] at h; cases h) Bd.notSynchronized (fun fs hr => retI Xl49 hx Bd.returns (hb hby d6_20) hr) ?_ (by decide) (by decide)
    · rw [e49]; exact ⟨⟨_, rfl, nh0.symm⟩, Nl49, KP46⟩
  · skip
    refine own_go (fun τ κ => XS.ifYes Xl49.here hx rfl (pc0 := 16) (pc' := 21) rfl (hb hby d6_16) rfl ((if0 _ _).trans (own_eq (x := r49) (y := (0 : Int32)) (i := r49.toInt) (j := 0) rfl rfl (own_q1n (i := 0) hu hy46 hr49 nh0)).1) (by decide) (by decide) κ) ?_
    show own_End p e below s (T49.setTop (mkF m 21 #[.val (.ref o0), .val (.int (0 : Int32))] [])) _ _ _
    refine own_go (fun τ κ => XS.iinc Xl49.here hx rfl (hb hby d6_21) rfl (l' := #[.val (.ref o0), .val (.int (1 : Int32))]) rfl κ) ?_
    show own_End p e below s (T49.setTop (mkF m 24 #[.val (.ref o0), .val (.int (1 : Int32))] [])) _ _ _
    refine own_go (fun τ κ => XS.goto Xl49.here hx rfl (pc0 := 24) (pc' := 2) rfl (hb hby d6_24) (by decide) (by decide) κ) ?_
    show own_End p e below s (T49.setTop (mkF m 2 #[.val (.ref o0), .val (.int (1 : Int32))] [])) _ _ _
    exact J1 T49 T46.heap _ Xl49 e49 Nl49 Z46 KP46 U47 U48 nh0
theorem own_ef6_rmH2 (m : MethodId) (o0 : Addr) : entryFrame m #[(.ref o0)] 2 = mkF m 0 #[.val (.ref o0), .unset] [] := by first | (simp [entryFrame, mkF, argsToLocals, Value.category]; done) | rfl
def Q_rmH2 (Z : State) (o0 : Addr) (sb : Addr) (sk : ClassId) (cz : Int32) (t1 : Addr) (d1 : Cell) (t2 : Addr) (d2 : Cell) (hq : Int32) (u0 : Int32) (u1 : Int32) (h0 : Heap) (n0 : Nat) (v : Option Value) (h : Heap) (L : List Loc) : Prop := (∃ z, v = some (.int z) ∧ z.toInt = hq.toInt) ∧ Fr n0 L ∧ Keep h0 h []
set_option maxRecDepth 65536 in
set_option maxHeartbeats 40000000 in
theorem rmH2 (l : Launch) (Z : State) (a0 : Array Value) (hw : ∀ d ∈ tables_1, d.before a0 Z = true) (ws : List Jvm.Cond) (o0 : Addr) (sb : Addr) (sk : ClassId) (cz : Int32) (t1 : Addr) (d1 : Cell) (t2 : Addr) (d2 : Cell) (hq : Int32) (u0 : Int32) (u1 : Int32) (h0 : Heap) (n0 : Nat) (Z0 : n0 ≤ h0.size) (S0 : own_Str Z h0 o0 sb sk (2 : Int32) [(.int u0), (.int u1)]) (Ol : Old Z n0 h0) (S_C : Sta Z Z.heap "java/lang/String" "COMPACT_STRINGS" "Z" (.int cz)) (hcz : ¬ cz.toInt = 0) (S_1 : Sta Z Z.heap "java/lang/Integer" "DigitOnes" "[B" (.ref t1)) (D1 : own_Dig Z Z.heap t1 d1 (fun x => 48 + x % 10)) (S_2 : Sta Z Z.heap "java/lang/Integer" "DigitTens" "[B" (.ref t2)) (D2 : own_Dig Z Z.heap t2 d2 (fun x => 48 + x / 10)) (hu : u0.toInt = 48 + hq.toInt / 10 ∧ u1.toInt = 48 + hq.toInt % 10 ∧ 10 ≤ hq.toInt ∧ hq.toInt < 24) :
    MetFree l (⟨"com/example/pryce/pryce/rating/Rate", "hour", "(Ljava/lang/String;)I"⟩ : MethodName) (head1 (Jvm.Cond.code (⟨"com/example/pryce/pryce/rating/Rate", "hour", "(Ljava/lang/String;)I"⟩ : MethodName) prog_14_method_3_code 2 (some .int) :: ws) ({ frames := 3, cells := 48, slots := 134, locals := 60 } : Room)) (fun a U => a = #[(.ref o0)] ∧ Z.Warmed39 U.vm ∧ U.heap = h0) (fun _ _ _ _ _ => True) (fun _ U o U' => ∃ v L, o = .returned v ∧ Q_rmH2 Z o0 sb sk cz t1 d1 t2 d2 hq u0 u1 h0 n0 v U'.heap L ∧ FrameEnd U o U' L ({ frames := 3, cells := 48, slots := 134, locals := 60 } : Room).cells ({ frames := 3, cells := 48, slots := 134, locals := 60 } : Room).slots) := by
  refine MetFree.of_bodySF (plainFor_of_name own_pn4) hisR ?_
  intro p e s m args below meth c s₁ Bd hml0 hP hK
  obtain ⟨rfl, hZ, hh⟩ := hP
  have hx := Bd.exec
  have hby := Bd.bytes
  have hml : c.maxLocals = 2 := hml0
  have hown : s.vm.findClass "com/example/pryce/pryce/rating/Rate" = some m.cls := findClass_of_methodNamed Bd.named
  have hnm := (name_of_methodNamed Bd.named Bd.method).1
  have X0 : Stand p l e ({ frames := 3, cells := 48, slots := 134, locals := 60 } : Room) s m #[(.ref o0)] below meth c s₁ [] 0 0 := Stand.of_body Bd
  have e0 : s₁.heap = h0 := by rw [← hh, Bd.state]; rfl
  have N0 := Fr.nil n0
  refine (show own_End p e below s (s₁.setTop (entryFrame m #[(.ref o0)] 2)) (Q_rmH2 Z o0 sb sk cz t1 d1 t2 d2 hq u0 u1 h0 n0) ({ frames := 3, cells := 48, slots := 134, locals := 60 } : Room).cells ({ frames := 3, cells := 48, slots := 134, locals := 60 } : Room).slots from ?_)
  refine own_go (fun τ κ => castTop (own_ef6_rmH2 m o0) κ) ?_
  have li0 : (0 : Int32).toInt = 0 := rfl
  have li1 : (1 : Int32).toInt = 1 := rfl
  show own_End p e below s (s₁.setTop (mkF m 0 #[.val (.ref o0), .unset] [])) _ _ _
  have J23 : ∀ (T1 : State) (h1 : Heap) (ls1 : List Loc) (X1 : Stand p l e ({ frames := 3, cells := 48, slots := 134, locals := 60 } : Room) s m #[(.ref o0)] below meth c T1 ls1 46 128) (e1 : T1.heap = h1) (N1 : Fr n0 ls1) (Z1 : n0 ≤ h1.size) (KP1 : Keep h0 h1 []) (Fa1_0 : own_Str Z h1 o0 sb sk (2 : Int32) [(.int u0), (.int u1)]) (Fa1_1 : Old Z n0 h1) (nh10 : ¬ hq.toInt = 10) (nh11 : ¬ hq.toInt = 11) (nh12 : ¬ hq.toInt = 12) (nh13 : ¬ hq.toInt = 13) (nh14 : ¬ hq.toInt = 14) (nh15 : ¬ hq.toInt = 15) (nh16 : ¬ hq.toInt = 16) (nh17 : ¬ hq.toInt = 17) (nh18 : ¬ hq.toInt = 18) (nh19 : ¬ hq.toInt = 19) (nh20 : ¬ hq.toInt = 20) (nh21 : ¬ hq.toInt = 21) (nh22 : ¬ hq.toInt = 22), own_End p e below s (T1.setTop (mkF m 2 #[.val (.ref o0), .val (.int (23 : Int32))] [])) (Q_rmH2 Z o0 sb sk cz t1 d1 t2 d2 hq u0 u1 h0 n0) ({ frames := 3, cells := 48, slots := 134, locals := 60 } : Room).cells ({ frames := 3, cells := 48, slots := 134, locals := 60 } : Room).slots := by
    intro T1 h1 ls1 X1 e1 N1 Z1 KP1 Fa1_0 Fa1_1 nh10 nh11 nh12 nh13 nh14 nh15 nh16 nh17 nh18 nh19 nh20 nh21 nh22
    show own_End p e below s (T1.setTop (mkF m 2 #[.val (.ref o0), .val (.int (23 : Int32))] [])) _ _ _
    refine own_go (fun τ κ => XS.iloadN X1.here hx rfl (hb hby d6_2) rfl κ) ?_
    show own_End p e below s (T1.setTop (mkF m 3 #[.val (.ref o0), .val (.int (23 : Int32))] [(.int (23 : Int32))])) _ _ _
    refine own_go (fun τ κ => XS.bipush X1.here hx rfl (hb hby d6_3) κ) ?_
    show own_End p e below s (T1.setTop (mkF m 5 #[.val (.ref o0), .val (.int (23 : Int32))] [(.int (24 : Int32)), (.int (23 : Int32))])) _ _ _
    refine own_go (fun τ κ => XS.icmpNo X1.here hx rfl (hb hby d6_5) rfl (own_tlt (x := (23 : Int32)) (y := (24 : Int32)) (i := 23) (j := 24) rfl rfl (by decide)).2.1 κ) ?_
    show own_End p e below s (T1.setTop (mkF m 8 #[.val (.ref o0), .val (.int (23 : Int32))] [])) _ _ _
    refine own_go (fun τ κ => XS.iloadN X1.here hx rfl (hb hby d6_8) rfl κ) ?_
    show own_End p e below s (T1.setTop (mkF m 9 #[.val (.ref o0), .val (.int (23 : Int32))] [(.int (23 : Int32))])) _ _ _
    obtain ⟨_, _, ⟨T2, L2, k2, n2⟩, -, X2, ⟨Lc2, hQ2, l2, y2, z2⟩, st2⟩ := Jvm.LawKit.callS X1 hx (y := (⟨"java/lang/Integer", "toString", "(I)Ljava/lang/String;"⟩ : MethodName)) hown (mvT hZ (hw _ (List.mem_of_getElem? (i := 31) rfl))) (mvT hZ (hw _ (List.mem_of_getElem? (i := 32) rfl))) (mvT hZ (hw _ (List.mem_of_getElem? (i := 33) rfl))) (mvT hZ (hw _ (List.mem_of_getElem? (i := 34) rfl))) (by decide) (backOf (W := 0) (rmT2 l Z a0 hw [] (23 : Int32) cz t1 d1 t2 d2 h1 n0 Z1 Fa1_1 S_C hcz S_1 D1 S_2 D2 (by decide) (by decide)) hZ (hw _ (List.mem_of_getElem? (i := 34) rfl)) (hw _ (List.mem_of_getElem? (i := 33) rfl)) (by decide) (by decide)) (g := (mkF m 9 #[.val (.ref o0), .val (.int (23 : Int32))] [(.int (23 : Int32))])) rfl (by rw [hml]; rfl) (argsL := [(.int (23 : Int32))]) (rest := []) (lenOf own_pd10 rfl) rfl (by show 2 * 0 + _ ≤ _; exact Nat.le_of_eq rfl) (hb hby d6_9) (fun _ _ => ⟨rfl, e1, (by decide : 46 + 2 ≤ _), (by decide : 128 + 6 ≤ _)⟩)
    dsimp only [Pt.U, Pt.locs, Pt.cells, Pt.slots] at X2 l2 y2 z2 st2 hQ2
    subst l2 y2 z2
    obtain ⟨⟨sa2, sb2, sk2, y23_0, y23_1, rfl, za2, zb2, Ss2, K2, hy2⟩, N2q⟩ := hQ2
    have N2 := Fr.app N1 N2q
    obtain ⟨ls2, Xl2, Nl2⟩ := own_abs X2 N2
    have Z2 : n0 ≤ T2.heap.size := Nat.le_trans Z1 K2.1
    refine own_go st2 ?_
    show own_End p e below s (T2.setTop (mkF m 12 #[.val (.ref o0), .val (.int (23 : Int32))] [(.ref sa2)])) _ _ _
    have g_sa2 : n0 ≤ sa2 := Nat.le_trans Z1 za2
    have sz_sa2 : h0.size ≤ sa2 := Nat.le_trans KP1.1 za2
    have ne_o0_sa2 : o0 ≠ sa2 := Nat.ne_of_lt (Nat.lt_of_lt_of_le Fa1_0.lt za2)
    have ne_sb_sa2 : sb ≠ sa2 := Nat.ne_of_lt (Nat.lt_of_lt_of_le Fa1_0.ltb za2)
    have g_sb2 : n0 ≤ sb2 := Nat.le_trans Z1 zb2
    have sz_sb2 : h0.size ≤ sb2 := Nat.le_trans KP1.1 zb2
    have ne_o0_sb2 : o0 ≠ sb2 := Nat.ne_of_lt (Nat.lt_of_lt_of_le Fa1_0.lt zb2)
    have ne_sb_sb2 : sb ≠ sb2 := Nat.ne_of_lt (Nat.lt_of_lt_of_le Fa1_0.ltb zb2)
    have KP2 := KP1.trans K2 all0
    refine own_go (fun τ κ => XS.aloadN Xl2.here hx rfl (hb hby d6_12) rfl rfl κ) ?_
    show own_End p e below s (T2.setTop (mkF m 13 #[.val (.ref o0), .val (.int (23 : Int32))] [(.ref o0), (.ref sa2)])) _ _ _
    have U3 := (Fa1_0.keep K2 nin0 nin0)
    have U4 := (Fa1_1.keep K2 all0)
    obtain ⟨cq5, kq5, q5a, q5b, q5c⟩ := isOf hZ rfl Ss2.1
    obtain ⟨_, _, ⟨T5, L5, k5, n5⟩, -, X5, ⟨Lc5, hQ5, l5, y5, z5⟩, st5⟩ := Xl2.virtualBack hx (y := (⟨"java/lang/String", "equals", "(Ljava/lang/Object;)Z"⟩ : MethodName)) (z := (⟨"java/lang/String", "equals", "(Ljava/lang/Object;)Z"⟩ : MethodName)) hown (mvT hZ (hw _ (List.mem_of_getElem? (i := 45) rfl))) (mvT hZ (hw _ (List.mem_of_getElem? (i := 46) rfl))) (notFace_of_selects (args := #[]) (mvT hZ (hw _ (List.mem_of_getElem? (i := 48) rfl)))) (mvT hZ (hw _ (List.mem_of_getElem? (i := 48) rfl))) (mvT hZ (hw _ (List.mem_of_getElem? (i := 47) rfl))) (by decide) (backOf (W := 0) (rmE2_2 l Z a0 hw [] sa2 o0 sb2 sk2 sb sk cz y23_0 y23_1 u0 u1 T2.heap n0 Z2 (Ne.symm ne_o0_sa2) Ss2 U3 U4 S_C hcz) hZ (hw _ (List.mem_of_getElem? (i := 49) rfl)) (hw _ (List.mem_of_getElem? (i := 3) rfl)) (by decide) (by decide)) q5a q5c (g := (mkF m 13 #[.val (.ref o0), .val (.int (23 : Int32))] [(.ref o0), (.ref sa2)])) rfl (by rw [hml]; rfl) (Steps.refl _) (argsL := [(.ref o0)]) (rest := []) (lenOf own_pd11 rfl) rfl (by show 2 * 0 + _ ≤ _; exact Nat.le_of_eq rfl) (hb hby d6_13) (fun _ _ => ⟨rfl, rfl, (by decide : 48 + 0 ≤ _), (by decide : 134 + 0 ≤ _)⟩)
    dsimp only [Pt.U, Pt.locs, Pt.cells, Pt.slots] at X5 l5 y5 z5 st5 hQ5
    subst l5 y5 z5
    obtain ⟨⟨r5, rfl, hr5⟩, N5q, e5⟩ := hQ5
    have N5 := Fr.app Nl2 N5q
    obtain ⟨ls5, Xl5, Nl5⟩ := own_abs X5 N5
    refine own_go (fun τ κ => st5.trans κ) ?_
    show own_End p e below s (T5.setTop (mkF m 16 #[.val (.ref o0), .val (.int (23 : Int32))] [(.int r5)])) _ _ _
    by_cases nh23 : hq.toInt = 23
    · skip
      refine own_go (fun τ κ => XS.ifNo Xl5.here hx rfl (hb hby d6_16) rfl ((if0 _ _).trans (own_ne (x := r5) (y := (0 : Int32)) (i := r5.toInt) (j := 0) rfl rfl (own_q2y (i := 23) hu hy2 hr5 nh23)).1) κ) ?_
      show own_End p e below s (T5.setTop (mkF m 19 #[.val (.ref o0), .val (.int (23 : Int32))] [])) _ _ _
      refine own_go (fun τ κ => XS.iloadN Xl5.here hx rfl (hb hby d6_19) rfl κ) ?_
      show own_End p e below s (T5.setTop (mkF m 20 #[.val (.ref o0), .val (.int (23 : Int32))] [(.int (23 : Int32))])) _ _ _
      refine own_ret Xl5 (v := some (.int (23 : Int32))) (fun h => by rw [Bd.returns] at h; cases h) Bd.notSynchronized (fun fs hr => retI Xl5 hx Bd.returns (hb hby d6_20) hr) ?_ (by decide) (by decide)
      · rw [e5]; exact ⟨⟨_, rfl, nh23.symm⟩, Nl5, KP2⟩
    · skip
      refine own_go (fun τ κ => XS.ifYes Xl5.here hx rfl (pc0 := 16) (pc' := 21) rfl (hb hby d6_16) rfl ((if0 _ _).trans (own_eq (x := r5) (y := (0 : Int32)) (i := r5.toInt) (j := 0) rfl rfl (own_q2n (i := 23) hu hy2 hr5 nh23)).1) (by decide) (by decide) κ) ?_
      show own_End p e below s (T5.setTop (mkF m 21 #[.val (.ref o0), .val (.int (23 : Int32))] [])) _ _ _
      exact (own_none2 hu.2.2.1 hu.2.2.2 nh10 nh11 nh12 nh13 nh14 nh15 nh16 nh17 nh18 nh19 nh20 nh21 nh22 nh23).elim
  have J22 : ∀ (T6 : State) (h6 : Heap) (ls6 : List Loc) (X6 : Stand p l e ({ frames := 3, cells := 48, slots := 134, locals := 60 } : Room) s m #[(.ref o0)] below meth c T6 ls6 44 122) (e6 : T6.heap = h6) (N6 : Fr n0 ls6) (Z6 : n0 ≤ h6.size) (KP6 : Keep h0 h6 []) (Fa6_0 : own_Str Z h6 o0 sb sk (2 : Int32) [(.int u0), (.int u1)]) (Fa6_1 : Old Z n0 h6) (nh10 : ¬ hq.toInt = 10) (nh11 : ¬ hq.toInt = 11) (nh12 : ¬ hq.toInt = 12) (nh13 : ¬ hq.toInt = 13) (nh14 : ¬ hq.toInt = 14) (nh15 : ¬ hq.toInt = 15) (nh16 : ¬ hq.toInt = 16) (nh17 : ¬ hq.toInt = 17) (nh18 : ¬ hq.toInt = 18) (nh19 : ¬ hq.toInt = 19) (nh20 : ¬ hq.toInt = 20) (nh21 : ¬ hq.toInt = 21), own_End p e below s (T6.setTop (mkF m 2 #[.val (.ref o0), .val (.int (22 : Int32))] [])) (Q_rmH2 Z o0 sb sk cz t1 d1 t2 d2 hq u0 u1 h0 n0) ({ frames := 3, cells := 48, slots := 134, locals := 60 } : Room).cells ({ frames := 3, cells := 48, slots := 134, locals := 60 } : Room).slots := by
    intro T6 h6 ls6 X6 e6 N6 Z6 KP6 Fa6_0 Fa6_1 nh10 nh11 nh12 nh13 nh14 nh15 nh16 nh17 nh18 nh19 nh20 nh21
    show own_End p e below s (T6.setTop (mkF m 2 #[.val (.ref o0), .val (.int (22 : Int32))] [])) _ _ _
    refine own_go (fun τ κ => XS.iloadN X6.here hx rfl (hb hby d6_2) rfl κ) ?_
    show own_End p e below s (T6.setTop (mkF m 3 #[.val (.ref o0), .val (.int (22 : Int32))] [(.int (22 : Int32))])) _ _ _
    refine own_go (fun τ κ => XS.bipush X6.here hx rfl (hb hby d6_3) κ) ?_
    show own_End p e below s (T6.setTop (mkF m 5 #[.val (.ref o0), .val (.int (22 : Int32))] [(.int (24 : Int32)), (.int (22 : Int32))])) _ _ _
    refine own_go (fun τ κ => XS.icmpNo X6.here hx rfl (hb hby d6_5) rfl (own_tlt (x := (22 : Int32)) (y := (24 : Int32)) (i := 22) (j := 24) rfl rfl (by decide)).2.1 κ) ?_
    show own_End p e below s (T6.setTop (mkF m 8 #[.val (.ref o0), .val (.int (22 : Int32))] [])) _ _ _
    refine own_go (fun τ κ => XS.iloadN X6.here hx rfl (hb hby d6_8) rfl κ) ?_
    show own_End p e below s (T6.setTop (mkF m 9 #[.val (.ref o0), .val (.int (22 : Int32))] [(.int (22 : Int32))])) _ _ _
    obtain ⟨_, _, ⟨T7, L7, k7, n7⟩, -, X7, ⟨Lc7, hQ7, l7, y7, z7⟩, st7⟩ := Jvm.LawKit.callS X6 hx (y := (⟨"java/lang/Integer", "toString", "(I)Ljava/lang/String;"⟩ : MethodName)) hown (mvT hZ (hw _ (List.mem_of_getElem? (i := 31) rfl))) (mvT hZ (hw _ (List.mem_of_getElem? (i := 32) rfl))) (mvT hZ (hw _ (List.mem_of_getElem? (i := 33) rfl))) (mvT hZ (hw _ (List.mem_of_getElem? (i := 34) rfl))) (by decide) (backOf (W := 0) (rmT2 l Z a0 hw [] (22 : Int32) cz t1 d1 t2 d2 h6 n0 Z6 Fa6_1 S_C hcz S_1 D1 S_2 D2 (by decide) (by decide)) hZ (hw _ (List.mem_of_getElem? (i := 34) rfl)) (hw _ (List.mem_of_getElem? (i := 33) rfl)) (by decide) (by decide)) (g := (mkF m 9 #[.val (.ref o0), .val (.int (22 : Int32))] [(.int (22 : Int32))])) rfl (by rw [hml]; rfl) (argsL := [(.int (22 : Int32))]) (rest := []) (lenOf own_pd10 rfl) rfl (by show 2 * 0 + _ ≤ _; exact Nat.le_of_eq rfl) (hb hby d6_9) (fun _ _ => ⟨rfl, e6, (by decide : 44 + 2 ≤ _), (by decide : 122 + 6 ≤ _)⟩)
    dsimp only [Pt.U, Pt.locs, Pt.cells, Pt.slots] at X7 l7 y7 z7 st7 hQ7
    subst l7 y7 z7
    obtain ⟨⟨sa7, sb7, sk7, y22_0, y22_1, rfl, za7, zb7, Ss7, K7, hy7⟩, N7q⟩ := hQ7
    have N7 := Fr.app N6 N7q
    obtain ⟨ls7, Xl7, Nl7⟩ := own_abs X7 N7
    have Z7 : n0 ≤ T7.heap.size := Nat.le_trans Z6 K7.1
    refine own_go st7 ?_
    show own_End p e below s (T7.setTop (mkF m 12 #[.val (.ref o0), .val (.int (22 : Int32))] [(.ref sa7)])) _ _ _
    have g_sa7 : n0 ≤ sa7 := Nat.le_trans Z6 za7
    have sz_sa7 : h0.size ≤ sa7 := Nat.le_trans KP6.1 za7
    have ne_o0_sa7 : o0 ≠ sa7 := Nat.ne_of_lt (Nat.lt_of_lt_of_le Fa6_0.lt za7)
    have ne_sb_sa7 : sb ≠ sa7 := Nat.ne_of_lt (Nat.lt_of_lt_of_le Fa6_0.ltb za7)
    have g_sb7 : n0 ≤ sb7 := Nat.le_trans Z6 zb7
    have sz_sb7 : h0.size ≤ sb7 := Nat.le_trans KP6.1 zb7
    have ne_o0_sb7 : o0 ≠ sb7 := Nat.ne_of_lt (Nat.lt_of_lt_of_le Fa6_0.lt zb7)
    have ne_sb_sb7 : sb ≠ sb7 := Nat.ne_of_lt (Nat.lt_of_lt_of_le Fa6_0.ltb zb7)
    have KP7 := KP6.trans K7 all0
    refine own_go (fun τ κ => XS.aloadN Xl7.here hx rfl (hb hby d6_12) rfl rfl κ) ?_
    show own_End p e below s (T7.setTop (mkF m 13 #[.val (.ref o0), .val (.int (22 : Int32))] [(.ref o0), (.ref sa7)])) _ _ _
    have U8 := (Fa6_0.keep K7 nin0 nin0)
    have U9 := (Fa6_1.keep K7 all0)
    obtain ⟨cq10, kq10, q10a, q10b, q10c⟩ := isOf hZ rfl Ss7.1
    obtain ⟨_, _, ⟨T10, L10, k10, n10⟩, -, X10, ⟨Lc10, hQ10, l10, y10, z10⟩, st10⟩ := Xl7.virtualBack hx (y := (⟨"java/lang/String", "equals", "(Ljava/lang/Object;)Z"⟩ : MethodName)) (z := (⟨"java/lang/String", "equals", "(Ljava/lang/Object;)Z"⟩ : MethodName)) hown (mvT hZ (hw _ (List.mem_of_getElem? (i := 45) rfl))) (mvT hZ (hw _ (List.mem_of_getElem? (i := 46) rfl))) (notFace_of_selects (args := #[]) (mvT hZ (hw _ (List.mem_of_getElem? (i := 48) rfl)))) (mvT hZ (hw _ (List.mem_of_getElem? (i := 48) rfl))) (mvT hZ (hw _ (List.mem_of_getElem? (i := 47) rfl))) (by decide) (backOf (W := 0) (rmE2_2 l Z a0 hw [] sa7 o0 sb7 sk7 sb sk cz y22_0 y22_1 u0 u1 T7.heap n0 Z7 (Ne.symm ne_o0_sa7) Ss7 U8 U9 S_C hcz) hZ (hw _ (List.mem_of_getElem? (i := 49) rfl)) (hw _ (List.mem_of_getElem? (i := 3) rfl)) (by decide) (by decide)) q10a q10c (g := (mkF m 13 #[.val (.ref o0), .val (.int (22 : Int32))] [(.ref o0), (.ref sa7)])) rfl (by rw [hml]; rfl) (Steps.refl _) (argsL := [(.ref o0)]) (rest := []) (lenOf own_pd11 rfl) rfl (by show 2 * 0 + _ ≤ _; exact Nat.le_of_eq rfl) (hb hby d6_13) (fun _ _ => ⟨rfl, rfl, (by decide : 46 + 0 ≤ _), (by decide : 128 + 0 ≤ _)⟩)
    dsimp only [Pt.U, Pt.locs, Pt.cells, Pt.slots] at X10 l10 y10 z10 st10 hQ10
    subst l10 y10 z10
    obtain ⟨⟨r10, rfl, hr10⟩, N10q, e10⟩ := hQ10
    have N10 := Fr.app Nl7 N10q
    obtain ⟨ls10, Xl10, Nl10⟩ := own_abs X10 N10
    refine own_go (fun τ κ => st10.trans κ) ?_
    show own_End p e below s (T10.setTop (mkF m 16 #[.val (.ref o0), .val (.int (22 : Int32))] [(.int r10)])) _ _ _
    by_cases nh22 : hq.toInt = 22
    · skip
      refine own_go (fun τ κ => XS.ifNo Xl10.here hx rfl (hb hby d6_16) rfl ((if0 _ _).trans (own_ne (x := r10) (y := (0 : Int32)) (i := r10.toInt) (j := 0) rfl rfl (own_q2y (i := 22) hu hy7 hr10 nh22)).1) κ) ?_
      show own_End p e below s (T10.setTop (mkF m 19 #[.val (.ref o0), .val (.int (22 : Int32))] [])) _ _ _
      refine own_go (fun τ κ => XS.iloadN Xl10.here hx rfl (hb hby d6_19) rfl κ) ?_
      show own_End p e below s (T10.setTop (mkF m 20 #[.val (.ref o0), .val (.int (22 : Int32))] [(.int (22 : Int32))])) _ _ _
      refine own_ret Xl10 (v := some (.int (22 : Int32))) (fun h => by rw [Bd.returns] at h; cases h) Bd.notSynchronized (fun fs hr => retI Xl10 hx Bd.returns (hb hby d6_20) hr) ?_ (by decide) (by decide)
      · rw [e10]; exact ⟨⟨_, rfl, nh22.symm⟩, Nl10, KP7⟩
    · skip
      refine own_go (fun τ κ => XS.ifYes Xl10.here hx rfl (pc0 := 16) (pc' := 21) rfl (hb hby d6_16) rfl ((if0 _ _).trans (own_eq (x := r10) (y := (0 : Int32)) (i := r10.toInt) (j := 0) rfl rfl (own_q2n (i := 22) hu hy7 hr10 nh22)).1) (by decide) (by decide) κ) ?_
      show own_End p e below s (T10.setTop (mkF m 21 #[.val (.ref o0), .val (.int (22 : Int32))] [])) _ _ _
      refine own_go (fun τ κ => XS.iinc Xl10.here hx rfl (hb hby d6_21) rfl (l' := #[.val (.ref o0), .val (.int (23 : Int32))]) rfl κ) ?_
      show own_End p e below s (T10.setTop (mkF m 24 #[.val (.ref o0), .val (.int (23 : Int32))] [])) _ _ _
      refine own_go (fun τ κ => XS.goto Xl10.here hx rfl (pc0 := 24) (pc' := 2) rfl (hb hby d6_24) (by decide) (by decide) κ) ?_
      show own_End p e below s (T10.setTop (mkF m 2 #[.val (.ref o0), .val (.int (23 : Int32))] [])) _ _ _
      exact J23 T10 T7.heap _ Xl10 e10 Nl10 Z7 KP7 U8 U9 nh10 nh11 nh12 nh13 nh14 nh15 nh16 nh17 nh18 nh19 nh20 nh21 nh22
  have J21 : ∀ (T11 : State) (h11 : Heap) (ls11 : List Loc) (X11 : Stand p l e ({ frames := 3, cells := 48, slots := 134, locals := 60 } : Room) s m #[(.ref o0)] below meth c T11 ls11 42 116) (e11 : T11.heap = h11) (N11 : Fr n0 ls11) (Z11 : n0 ≤ h11.size) (KP11 : Keep h0 h11 []) (Fa11_0 : own_Str Z h11 o0 sb sk (2 : Int32) [(.int u0), (.int u1)]) (Fa11_1 : Old Z n0 h11) (nh10 : ¬ hq.toInt = 10) (nh11 : ¬ hq.toInt = 11) (nh12 : ¬ hq.toInt = 12) (nh13 : ¬ hq.toInt = 13) (nh14 : ¬ hq.toInt = 14) (nh15 : ¬ hq.toInt = 15) (nh16 : ¬ hq.toInt = 16) (nh17 : ¬ hq.toInt = 17) (nh18 : ¬ hq.toInt = 18) (nh19 : ¬ hq.toInt = 19) (nh20 : ¬ hq.toInt = 20), own_End p e below s (T11.setTop (mkF m 2 #[.val (.ref o0), .val (.int (21 : Int32))] [])) (Q_rmH2 Z o0 sb sk cz t1 d1 t2 d2 hq u0 u1 h0 n0) ({ frames := 3, cells := 48, slots := 134, locals := 60 } : Room).cells ({ frames := 3, cells := 48, slots := 134, locals := 60 } : Room).slots := by
    intro T11 h11 ls11 X11 e11 N11 Z11 KP11 Fa11_0 Fa11_1 nh10 nh11 nh12 nh13 nh14 nh15 nh16 nh17 nh18 nh19 nh20
    show own_End p e below s (T11.setTop (mkF m 2 #[.val (.ref o0), .val (.int (21 : Int32))] [])) _ _ _
    refine own_go (fun τ κ => XS.iloadN X11.here hx rfl (hb hby d6_2) rfl κ) ?_
    show own_End p e below s (T11.setTop (mkF m 3 #[.val (.ref o0), .val (.int (21 : Int32))] [(.int (21 : Int32))])) _ _ _
    refine own_go (fun τ κ => XS.bipush X11.here hx rfl (hb hby d6_3) κ) ?_
    show own_End p e below s (T11.setTop (mkF m 5 #[.val (.ref o0), .val (.int (21 : Int32))] [(.int (24 : Int32)), (.int (21 : Int32))])) _ _ _
    refine own_go (fun τ κ => XS.icmpNo X11.here hx rfl (hb hby d6_5) rfl (own_tlt (x := (21 : Int32)) (y := (24 : Int32)) (i := 21) (j := 24) rfl rfl (by decide)).2.1 κ) ?_
    show own_End p e below s (T11.setTop (mkF m 8 #[.val (.ref o0), .val (.int (21 : Int32))] [])) _ _ _
    refine own_go (fun τ κ => XS.iloadN X11.here hx rfl (hb hby d6_8) rfl κ) ?_
    show own_End p e below s (T11.setTop (mkF m 9 #[.val (.ref o0), .val (.int (21 : Int32))] [(.int (21 : Int32))])) _ _ _
    obtain ⟨_, _, ⟨T12, L12, k12, n12⟩, -, X12, ⟨Lc12, hQ12, l12, y12, z12⟩, st12⟩ := Jvm.LawKit.callS X11 hx (y := (⟨"java/lang/Integer", "toString", "(I)Ljava/lang/String;"⟩ : MethodName)) hown (mvT hZ (hw _ (List.mem_of_getElem? (i := 31) rfl))) (mvT hZ (hw _ (List.mem_of_getElem? (i := 32) rfl))) (mvT hZ (hw _ (List.mem_of_getElem? (i := 33) rfl))) (mvT hZ (hw _ (List.mem_of_getElem? (i := 34) rfl))) (by decide) (backOf (W := 0) (rmT2 l Z a0 hw [] (21 : Int32) cz t1 d1 t2 d2 h11 n0 Z11 Fa11_1 S_C hcz S_1 D1 S_2 D2 (by decide) (by decide)) hZ (hw _ (List.mem_of_getElem? (i := 34) rfl)) (hw _ (List.mem_of_getElem? (i := 33) rfl)) (by decide) (by decide)) (g := (mkF m 9 #[.val (.ref o0), .val (.int (21 : Int32))] [(.int (21 : Int32))])) rfl (by rw [hml]; rfl) (argsL := [(.int (21 : Int32))]) (rest := []) (lenOf own_pd10 rfl) rfl (by show 2 * 0 + _ ≤ _; exact Nat.le_of_eq rfl) (hb hby d6_9) (fun _ _ => ⟨rfl, e11, (by decide : 42 + 2 ≤ _), (by decide : 116 + 6 ≤ _)⟩)
    dsimp only [Pt.U, Pt.locs, Pt.cells, Pt.slots] at X12 l12 y12 z12 st12 hQ12
    subst l12 y12 z12
    obtain ⟨⟨sa12, sb12, sk12, y21_0, y21_1, rfl, za12, zb12, Ss12, K12, hy12⟩, N12q⟩ := hQ12
    have N12 := Fr.app N11 N12q
    obtain ⟨ls12, Xl12, Nl12⟩ := own_abs X12 N12
    have Z12 : n0 ≤ T12.heap.size := Nat.le_trans Z11 K12.1
    refine own_go st12 ?_
    show own_End p e below s (T12.setTop (mkF m 12 #[.val (.ref o0), .val (.int (21 : Int32))] [(.ref sa12)])) _ _ _
    have g_sa12 : n0 ≤ sa12 := Nat.le_trans Z11 za12
    have sz_sa12 : h0.size ≤ sa12 := Nat.le_trans KP11.1 za12
    have ne_o0_sa12 : o0 ≠ sa12 := Nat.ne_of_lt (Nat.lt_of_lt_of_le Fa11_0.lt za12)
    have ne_sb_sa12 : sb ≠ sa12 := Nat.ne_of_lt (Nat.lt_of_lt_of_le Fa11_0.ltb za12)
    have g_sb12 : n0 ≤ sb12 := Nat.le_trans Z11 zb12
    have sz_sb12 : h0.size ≤ sb12 := Nat.le_trans KP11.1 zb12
    have ne_o0_sb12 : o0 ≠ sb12 := Nat.ne_of_lt (Nat.lt_of_lt_of_le Fa11_0.lt zb12)
    have ne_sb_sb12 : sb ≠ sb12 := Nat.ne_of_lt (Nat.lt_of_lt_of_le Fa11_0.ltb zb12)
    have KP12 := KP11.trans K12 all0
    refine own_go (fun τ κ => XS.aloadN Xl12.here hx rfl (hb hby d6_12) rfl rfl κ) ?_
    show own_End p e below s (T12.setTop (mkF m 13 #[.val (.ref o0), .val (.int (21 : Int32))] [(.ref o0), (.ref sa12)])) _ _ _
    have U13 := (Fa11_0.keep K12 nin0 nin0)
    have U14 := (Fa11_1.keep K12 all0)
    obtain ⟨cq15, kq15, q15a, q15b, q15c⟩ := isOf hZ rfl Ss12.1
    obtain ⟨_, _, ⟨T15, L15, k15, n15⟩, -, X15, ⟨Lc15, hQ15, l15, y15, z15⟩, st15⟩ := Xl12.virtualBack hx (y := (⟨"java/lang/String", "equals", "(Ljava/lang/Object;)Z"⟩ : MethodName)) (z := (⟨"java/lang/String", "equals", "(Ljava/lang/Object;)Z"⟩ : MethodName)) hown (mvT hZ (hw _ (List.mem_of_getElem? (i := 45) rfl))) (mvT hZ (hw _ (List.mem_of_getElem? (i := 46) rfl))) (notFace_of_selects (args := #[]) (mvT hZ (hw _ (List.mem_of_getElem? (i := 48) rfl)))) (mvT hZ (hw _ (List.mem_of_getElem? (i := 48) rfl))) (mvT hZ (hw _ (List.mem_of_getElem? (i := 47) rfl))) (by decide) (backOf (W := 0) (rmE2_2 l Z a0 hw [] sa12 o0 sb12 sk12 sb sk cz y21_0 y21_1 u0 u1 T12.heap n0 Z12 (Ne.symm ne_o0_sa12) Ss12 U13 U14 S_C hcz) hZ (hw _ (List.mem_of_getElem? (i := 49) rfl)) (hw _ (List.mem_of_getElem? (i := 3) rfl)) (by decide) (by decide)) q15a q15c (g := (mkF m 13 #[.val (.ref o0), .val (.int (21 : Int32))] [(.ref o0), (.ref sa12)])) rfl (by rw [hml]; rfl) (Steps.refl _) (argsL := [(.ref o0)]) (rest := []) (lenOf own_pd11 rfl) rfl (by show 2 * 0 + _ ≤ _; exact Nat.le_of_eq rfl) (hb hby d6_13) (fun _ _ => ⟨rfl, rfl, (by decide : 44 + 0 ≤ _), (by decide : 122 + 0 ≤ _)⟩)
    dsimp only [Pt.U, Pt.locs, Pt.cells, Pt.slots] at X15 l15 y15 z15 st15 hQ15
    subst l15 y15 z15
    obtain ⟨⟨r15, rfl, hr15⟩, N15q, e15⟩ := hQ15
    have N15 := Fr.app Nl12 N15q
    obtain ⟨ls15, Xl15, Nl15⟩ := own_abs X15 N15
    refine own_go (fun τ κ => st15.trans κ) ?_
    show own_End p e below s (T15.setTop (mkF m 16 #[.val (.ref o0), .val (.int (21 : Int32))] [(.int r15)])) _ _ _
    by_cases nh21 : hq.toInt = 21
    · skip
      refine own_go (fun τ κ => XS.ifNo Xl15.here hx rfl (hb hby d6_16) rfl ((if0 _ _).trans (own_ne (x := r15) (y := (0 : Int32)) (i := r15.toInt) (j := 0) rfl rfl (own_q2y (i := 21) hu hy12 hr15 nh21)).1) κ) ?_
      show own_End p e below s (T15.setTop (mkF m 19 #[.val (.ref o0), .val (.int (21 : Int32))] [])) _ _ _
      refine own_go (fun τ κ => XS.iloadN Xl15.here hx rfl (hb hby d6_19) rfl κ) ?_
      show own_End p e below s (T15.setTop (mkF m 20 #[.val (.ref o0), .val (.int (21 : Int32))] [(.int (21 : Int32))])) _ _ _
      refine own_ret Xl15 (v := some (.int (21 : Int32))) (fun h => by rw [Bd.returns] at h; cases h) Bd.notSynchronized (fun fs hr => retI Xl15 hx Bd.returns (hb hby d6_20) hr) ?_ (by decide) (by decide)
      · rw [e15]; exact ⟨⟨_, rfl, nh21.symm⟩, Nl15, KP12⟩
    · skip
      refine own_go (fun τ κ => XS.ifYes Xl15.here hx rfl (pc0 := 16) (pc' := 21) rfl (hb hby d6_16) rfl ((if0 _ _).trans (own_eq (x := r15) (y := (0 : Int32)) (i := r15.toInt) (j := 0) rfl rfl (own_q2n (i := 21) hu hy12 hr15 nh21)).1) (by decide) (by decide) κ) ?_
      show own_End p e below s (T15.setTop (mkF m 21 #[.val (.ref o0), .val (.int (21 : Int32))] [])) _ _ _
      refine own_go (fun τ κ => XS.iinc Xl15.here hx rfl (hb hby d6_21) rfl (l' := #[.val (.ref o0), .val (.int (22 : Int32))]) rfl κ) ?_
      show own_End p e below s (T15.setTop (mkF m 24 #[.val (.ref o0), .val (.int (22 : Int32))] [])) _ _ _
      refine own_go (fun τ κ => XS.goto Xl15.here hx rfl (pc0 := 24) (pc' := 2) rfl (hb hby d6_24) (by decide) (by decide) κ) ?_
      show own_End p e below s (T15.setTop (mkF m 2 #[.val (.ref o0), .val (.int (22 : Int32))] [])) _ _ _
      exact J22 T15 T12.heap _ Xl15 e15 Nl15 Z12 KP12 U13 U14 nh10 nh11 nh12 nh13 nh14 nh15 nh16 nh17 nh18 nh19 nh20 nh21
  have J20 : ∀ (T16 : State) (h16 : Heap) (ls16 : List Loc) (X16 : Stand p l e ({ frames := 3, cells := 48, slots := 134, locals := 60 } : Room) s m #[(.ref o0)] below meth c T16 ls16 40 110) (e16 : T16.heap = h16) (N16 : Fr n0 ls16) (Z16 : n0 ≤ h16.size) (KP16 : Keep h0 h16 []) (Fa16_0 : own_Str Z h16 o0 sb sk (2 : Int32) [(.int u0), (.int u1)]) (Fa16_1 : Old Z n0 h16) (nh10 : ¬ hq.toInt = 10) (nh11 : ¬ hq.toInt = 11) (nh12 : ¬ hq.toInt = 12) (nh13 : ¬ hq.toInt = 13) (nh14 : ¬ hq.toInt = 14) (nh15 : ¬ hq.toInt = 15) (nh16 : ¬ hq.toInt = 16) (nh17 : ¬ hq.toInt = 17) (nh18 : ¬ hq.toInt = 18) (nh19 : ¬ hq.toInt = 19), own_End p e below s (T16.setTop (mkF m 2 #[.val (.ref o0), .val (.int (20 : Int32))] [])) (Q_rmH2 Z o0 sb sk cz t1 d1 t2 d2 hq u0 u1 h0 n0) ({ frames := 3, cells := 48, slots := 134, locals := 60 } : Room).cells ({ frames := 3, cells := 48, slots := 134, locals := 60 } : Room).slots := by
    intro T16 h16 ls16 X16 e16 N16 Z16 KP16 Fa16_0 Fa16_1 nh10 nh11 nh12 nh13 nh14 nh15 nh16 nh17 nh18 nh19
    show own_End p e below s (T16.setTop (mkF m 2 #[.val (.ref o0), .val (.int (20 : Int32))] [])) _ _ _
    refine own_go (fun τ κ => XS.iloadN X16.here hx rfl (hb hby d6_2) rfl κ) ?_
    show own_End p e below s (T16.setTop (mkF m 3 #[.val (.ref o0), .val (.int (20 : Int32))] [(.int (20 : Int32))])) _ _ _
    refine own_go (fun τ κ => XS.bipush X16.here hx rfl (hb hby d6_3) κ) ?_
    show own_End p e below s (T16.setTop (mkF m 5 #[.val (.ref o0), .val (.int (20 : Int32))] [(.int (24 : Int32)), (.int (20 : Int32))])) _ _ _
    refine own_go (fun τ κ => XS.icmpNo X16.here hx rfl (hb hby d6_5) rfl (own_tlt (x := (20 : Int32)) (y := (24 : Int32)) (i := 20) (j := 24) rfl rfl (by decide)).2.1 κ) ?_
    show own_End p e below s (T16.setTop (mkF m 8 #[.val (.ref o0), .val (.int (20 : Int32))] [])) _ _ _
    refine own_go (fun τ κ => XS.iloadN X16.here hx rfl (hb hby d6_8) rfl κ) ?_
    show own_End p e below s (T16.setTop (mkF m 9 #[.val (.ref o0), .val (.int (20 : Int32))] [(.int (20 : Int32))])) _ _ _
    obtain ⟨_, _, ⟨T17, L17, k17, n17⟩, -, X17, ⟨Lc17, hQ17, l17, y17, z17⟩, st17⟩ := Jvm.LawKit.callS X16 hx (y := (⟨"java/lang/Integer", "toString", "(I)Ljava/lang/String;"⟩ : MethodName)) hown (mvT hZ (hw _ (List.mem_of_getElem? (i := 31) rfl))) (mvT hZ (hw _ (List.mem_of_getElem? (i := 32) rfl))) (mvT hZ (hw _ (List.mem_of_getElem? (i := 33) rfl))) (mvT hZ (hw _ (List.mem_of_getElem? (i := 34) rfl))) (by decide) (backOf (W := 0) (rmT2 l Z a0 hw [] (20 : Int32) cz t1 d1 t2 d2 h16 n0 Z16 Fa16_1 S_C hcz S_1 D1 S_2 D2 (by decide) (by decide)) hZ (hw _ (List.mem_of_getElem? (i := 34) rfl)) (hw _ (List.mem_of_getElem? (i := 33) rfl)) (by decide) (by decide)) (g := (mkF m 9 #[.val (.ref o0), .val (.int (20 : Int32))] [(.int (20 : Int32))])) rfl (by rw [hml]; rfl) (argsL := [(.int (20 : Int32))]) (rest := []) (lenOf own_pd10 rfl) rfl (by show 2 * 0 + _ ≤ _; exact Nat.le_of_eq rfl) (hb hby d6_9) (fun _ _ => ⟨rfl, e16, (by decide : 40 + 2 ≤ _), (by decide : 110 + 6 ≤ _)⟩)
    dsimp only [Pt.U, Pt.locs, Pt.cells, Pt.slots] at X17 l17 y17 z17 st17 hQ17
    subst l17 y17 z17
    obtain ⟨⟨sa17, sb17, sk17, y20_0, y20_1, rfl, za17, zb17, Ss17, K17, hy17⟩, N17q⟩ := hQ17
    have N17 := Fr.app N16 N17q
    obtain ⟨ls17, Xl17, Nl17⟩ := own_abs X17 N17
    have Z17 : n0 ≤ T17.heap.size := Nat.le_trans Z16 K17.1
    refine own_go st17 ?_
    show own_End p e below s (T17.setTop (mkF m 12 #[.val (.ref o0), .val (.int (20 : Int32))] [(.ref sa17)])) _ _ _
    have g_sa17 : n0 ≤ sa17 := Nat.le_trans Z16 za17
    have sz_sa17 : h0.size ≤ sa17 := Nat.le_trans KP16.1 za17
    have ne_o0_sa17 : o0 ≠ sa17 := Nat.ne_of_lt (Nat.lt_of_lt_of_le Fa16_0.lt za17)
    have ne_sb_sa17 : sb ≠ sa17 := Nat.ne_of_lt (Nat.lt_of_lt_of_le Fa16_0.ltb za17)
    have g_sb17 : n0 ≤ sb17 := Nat.le_trans Z16 zb17
    have sz_sb17 : h0.size ≤ sb17 := Nat.le_trans KP16.1 zb17
    have ne_o0_sb17 : o0 ≠ sb17 := Nat.ne_of_lt (Nat.lt_of_lt_of_le Fa16_0.lt zb17)
    have ne_sb_sb17 : sb ≠ sb17 := Nat.ne_of_lt (Nat.lt_of_lt_of_le Fa16_0.ltb zb17)
    have KP17 := KP16.trans K17 all0
    refine own_go (fun τ κ => XS.aloadN Xl17.here hx rfl (hb hby d6_12) rfl rfl κ) ?_
    show own_End p e below s (T17.setTop (mkF m 13 #[.val (.ref o0), .val (.int (20 : Int32))] [(.ref o0), (.ref sa17)])) _ _ _
    have U18 := (Fa16_0.keep K17 nin0 nin0)
    have U19 := (Fa16_1.keep K17 all0)
    obtain ⟨cq20, kq20, q20a, q20b, q20c⟩ := isOf hZ rfl Ss17.1
    obtain ⟨_, _, ⟨T20, L20, k20, n20⟩, -, X20, ⟨Lc20, hQ20, l20, y20, z20⟩, st20⟩ := Xl17.virtualBack hx (y := (⟨"java/lang/String", "equals", "(Ljava/lang/Object;)Z"⟩ : MethodName)) (z := (⟨"java/lang/String", "equals", "(Ljava/lang/Object;)Z"⟩ : MethodName)) hown (mvT hZ (hw _ (List.mem_of_getElem? (i := 45) rfl))) (mvT hZ (hw _ (List.mem_of_getElem? (i := 46) rfl))) (notFace_of_selects (args := #[]) (mvT hZ (hw _ (List.mem_of_getElem? (i := 48) rfl)))) (mvT hZ (hw _ (List.mem_of_getElem? (i := 48) rfl))) (mvT hZ (hw _ (List.mem_of_getElem? (i := 47) rfl))) (by decide) (backOf (W := 0) (rmE2_2 l Z a0 hw [] sa17 o0 sb17 sk17 sb sk cz y20_0 y20_1 u0 u1 T17.heap n0 Z17 (Ne.symm ne_o0_sa17) Ss17 U18 U19 S_C hcz) hZ (hw _ (List.mem_of_getElem? (i := 49) rfl)) (hw _ (List.mem_of_getElem? (i := 3) rfl)) (by decide) (by decide)) q20a q20c (g := (mkF m 13 #[.val (.ref o0), .val (.int (20 : Int32))] [(.ref o0), (.ref sa17)])) rfl (by rw [hml]; rfl) (Steps.refl _) (argsL := [(.ref o0)]) (rest := []) (lenOf own_pd11 rfl) rfl (by show 2 * 0 + _ ≤ _; exact Nat.le_of_eq rfl) (hb hby d6_13) (fun _ _ => ⟨rfl, rfl, (by decide : 42 + 0 ≤ _), (by decide : 116 + 0 ≤ _)⟩)
    dsimp only [Pt.U, Pt.locs, Pt.cells, Pt.slots] at X20 l20 y20 z20 st20 hQ20
    subst l20 y20 z20
    obtain ⟨⟨r20, rfl, hr20⟩, N20q, e20⟩ := hQ20
    have N20 := Fr.app Nl17 N20q
    obtain ⟨ls20, Xl20, Nl20⟩ := own_abs X20 N20
    refine own_go (fun τ κ => st20.trans κ) ?_
    show own_End p e below s (T20.setTop (mkF m 16 #[.val (.ref o0), .val (.int (20 : Int32))] [(.int r20)])) _ _ _
    by_cases nh20 : hq.toInt = 20
    · skip
      refine own_go (fun τ κ => XS.ifNo Xl20.here hx rfl (hb hby d6_16) rfl ((if0 _ _).trans (own_ne (x := r20) (y := (0 : Int32)) (i := r20.toInt) (j := 0) rfl rfl (own_q2y (i := 20) hu hy17 hr20 nh20)).1) κ) ?_
      show own_End p e below s (T20.setTop (mkF m 19 #[.val (.ref o0), .val (.int (20 : Int32))] [])) _ _ _
      refine own_go (fun τ κ => XS.iloadN Xl20.here hx rfl (hb hby d6_19) rfl κ) ?_
      show own_End p e below s (T20.setTop (mkF m 20 #[.val (.ref o0), .val (.int (20 : Int32))] [(.int (20 : Int32))])) _ _ _
      refine own_ret Xl20 (v := some (.int (20 : Int32))) (fun h => by rw [Bd.returns] at h; cases h) Bd.notSynchronized (fun fs hr => retI Xl20 hx Bd.returns (hb hby d6_20) hr) ?_ (by decide) (by decide)
      · rw [e20]; exact ⟨⟨_, rfl, nh20.symm⟩, Nl20, KP17⟩
    · skip
      refine own_go (fun τ κ => XS.ifYes Xl20.here hx rfl (pc0 := 16) (pc' := 21) rfl (hb hby d6_16) rfl ((if0 _ _).trans (own_eq (x := r20) (y := (0 : Int32)) (i := r20.toInt) (j := 0) rfl rfl (own_q2n (i := 20) hu hy17 hr20 nh20)).1) (by decide) (by decide) κ) ?_
      show own_End p e below s (T20.setTop (mkF m 21 #[.val (.ref o0), .val (.int (20 : Int32))] [])) _ _ _
      refine own_go (fun τ κ => XS.iinc Xl20.here hx rfl (hb hby d6_21) rfl (l' := #[.val (.ref o0), .val (.int (21 : Int32))]) rfl κ) ?_
      show own_End p e below s (T20.setTop (mkF m 24 #[.val (.ref o0), .val (.int (21 : Int32))] [])) _ _ _
      refine own_go (fun τ κ => XS.goto Xl20.here hx rfl (pc0 := 24) (pc' := 2) rfl (hb hby d6_24) (by decide) (by decide) κ) ?_
      show own_End p e below s (T20.setTop (mkF m 2 #[.val (.ref o0), .val (.int (21 : Int32))] [])) _ _ _
      exact J21 T20 T17.heap _ Xl20 e20 Nl20 Z17 KP17 U18 U19 nh10 nh11 nh12 nh13 nh14 nh15 nh16 nh17 nh18 nh19 nh20
  have J19 : ∀ (T21 : State) (h21 : Heap) (ls21 : List Loc) (X21 : Stand p l e ({ frames := 3, cells := 48, slots := 134, locals := 60 } : Room) s m #[(.ref o0)] below meth c T21 ls21 38 104) (e21 : T21.heap = h21) (N21 : Fr n0 ls21) (Z21 : n0 ≤ h21.size) (KP21 : Keep h0 h21 []) (Fa21_0 : own_Str Z h21 o0 sb sk (2 : Int32) [(.int u0), (.int u1)]) (Fa21_1 : Old Z n0 h21) (nh10 : ¬ hq.toInt = 10) (nh11 : ¬ hq.toInt = 11) (nh12 : ¬ hq.toInt = 12) (nh13 : ¬ hq.toInt = 13) (nh14 : ¬ hq.toInt = 14) (nh15 : ¬ hq.toInt = 15) (nh16 : ¬ hq.toInt = 16) (nh17 : ¬ hq.toInt = 17) (nh18 : ¬ hq.toInt = 18), own_End p e below s (T21.setTop (mkF m 2 #[.val (.ref o0), .val (.int (19 : Int32))] [])) (Q_rmH2 Z o0 sb sk cz t1 d1 t2 d2 hq u0 u1 h0 n0) ({ frames := 3, cells := 48, slots := 134, locals := 60 } : Room).cells ({ frames := 3, cells := 48, slots := 134, locals := 60 } : Room).slots := by
    intro T21 h21 ls21 X21 e21 N21 Z21 KP21 Fa21_0 Fa21_1 nh10 nh11 nh12 nh13 nh14 nh15 nh16 nh17 nh18
    show own_End p e below s (T21.setTop (mkF m 2 #[.val (.ref o0), .val (.int (19 : Int32))] [])) _ _ _
    refine own_go (fun τ κ => XS.iloadN X21.here hx rfl (hb hby d6_2) rfl κ) ?_
    show own_End p e below s (T21.setTop (mkF m 3 #[.val (.ref o0), .val (.int (19 : Int32))] [(.int (19 : Int32))])) _ _ _
    refine own_go (fun τ κ => XS.bipush X21.here hx rfl (hb hby d6_3) κ) ?_
    show own_End p e below s (T21.setTop (mkF m 5 #[.val (.ref o0), .val (.int (19 : Int32))] [(.int (24 : Int32)), (.int (19 : Int32))])) _ _ _
    refine own_go (fun τ κ => XS.icmpNo X21.here hx rfl (hb hby d6_5) rfl (own_tlt (x := (19 : Int32)) (y := (24 : Int32)) (i := 19) (j := 24) rfl rfl (by decide)).2.1 κ) ?_
    show own_End p e below s (T21.setTop (mkF m 8 #[.val (.ref o0), .val (.int (19 : Int32))] [])) _ _ _
    refine own_go (fun τ κ => XS.iloadN X21.here hx rfl (hb hby d6_8) rfl κ) ?_
    show own_End p e below s (T21.setTop (mkF m 9 #[.val (.ref o0), .val (.int (19 : Int32))] [(.int (19 : Int32))])) _ _ _
    obtain ⟨_, _, ⟨T22, L22, k22, n22⟩, -, X22, ⟨Lc22, hQ22, l22, y22, z22⟩, st22⟩ := Jvm.LawKit.callS X21 hx (y := (⟨"java/lang/Integer", "toString", "(I)Ljava/lang/String;"⟩ : MethodName)) hown (mvT hZ (hw _ (List.mem_of_getElem? (i := 31) rfl))) (mvT hZ (hw _ (List.mem_of_getElem? (i := 32) rfl))) (mvT hZ (hw _ (List.mem_of_getElem? (i := 33) rfl))) (mvT hZ (hw _ (List.mem_of_getElem? (i := 34) rfl))) (by decide) (backOf (W := 0) (rmT2 l Z a0 hw [] (19 : Int32) cz t1 d1 t2 d2 h21 n0 Z21 Fa21_1 S_C hcz S_1 D1 S_2 D2 (by decide) (by decide)) hZ (hw _ (List.mem_of_getElem? (i := 34) rfl)) (hw _ (List.mem_of_getElem? (i := 33) rfl)) (by decide) (by decide)) (g := (mkF m 9 #[.val (.ref o0), .val (.int (19 : Int32))] [(.int (19 : Int32))])) rfl (by rw [hml]; rfl) (argsL := [(.int (19 : Int32))]) (rest := []) (lenOf own_pd10 rfl) rfl (by show 2 * 0 + _ ≤ _; exact Nat.le_of_eq rfl) (hb hby d6_9) (fun _ _ => ⟨rfl, e21, (by decide : 38 + 2 ≤ _), (by decide : 104 + 6 ≤ _)⟩)
    dsimp only [Pt.U, Pt.locs, Pt.cells, Pt.slots] at X22 l22 y22 z22 st22 hQ22
    subst l22 y22 z22
    obtain ⟨⟨sa22, sb22, sk22, y19_0, y19_1, rfl, za22, zb22, Ss22, K22, hy22⟩, N22q⟩ := hQ22
    have N22 := Fr.app N21 N22q
    obtain ⟨ls22, Xl22, Nl22⟩ := own_abs X22 N22
    have Z22 : n0 ≤ T22.heap.size := Nat.le_trans Z21 K22.1
    refine own_go st22 ?_
    show own_End p e below s (T22.setTop (mkF m 12 #[.val (.ref o0), .val (.int (19 : Int32))] [(.ref sa22)])) _ _ _
    have g_sa22 : n0 ≤ sa22 := Nat.le_trans Z21 za22
    have sz_sa22 : h0.size ≤ sa22 := Nat.le_trans KP21.1 za22
    have ne_o0_sa22 : o0 ≠ sa22 := Nat.ne_of_lt (Nat.lt_of_lt_of_le Fa21_0.lt za22)
    have ne_sb_sa22 : sb ≠ sa22 := Nat.ne_of_lt (Nat.lt_of_lt_of_le Fa21_0.ltb za22)
    have g_sb22 : n0 ≤ sb22 := Nat.le_trans Z21 zb22
    have sz_sb22 : h0.size ≤ sb22 := Nat.le_trans KP21.1 zb22
    have ne_o0_sb22 : o0 ≠ sb22 := Nat.ne_of_lt (Nat.lt_of_lt_of_le Fa21_0.lt zb22)
    have ne_sb_sb22 : sb ≠ sb22 := Nat.ne_of_lt (Nat.lt_of_lt_of_le Fa21_0.ltb zb22)
    have KP22 := KP21.trans K22 all0
    refine own_go (fun τ κ => XS.aloadN Xl22.here hx rfl (hb hby d6_12) rfl rfl κ) ?_
    show own_End p e below s (T22.setTop (mkF m 13 #[.val (.ref o0), .val (.int (19 : Int32))] [(.ref o0), (.ref sa22)])) _ _ _
    have U23 := (Fa21_0.keep K22 nin0 nin0)
    have U24 := (Fa21_1.keep K22 all0)
    obtain ⟨cq25, kq25, q25a, q25b, q25c⟩ := isOf hZ rfl Ss22.1
    obtain ⟨_, _, ⟨T25, L25, k25, n25⟩, -, X25, ⟨Lc25, hQ25, l25, y25, z25⟩, st25⟩ := Xl22.virtualBack hx (y := (⟨"java/lang/String", "equals", "(Ljava/lang/Object;)Z"⟩ : MethodName)) (z := (⟨"java/lang/String", "equals", "(Ljava/lang/Object;)Z"⟩ : MethodName)) hown (mvT hZ (hw _ (List.mem_of_getElem? (i := 45) rfl))) (mvT hZ (hw _ (List.mem_of_getElem? (i := 46) rfl))) (notFace_of_selects (args := #[]) (mvT hZ (hw _ (List.mem_of_getElem? (i := 48) rfl)))) (mvT hZ (hw _ (List.mem_of_getElem? (i := 48) rfl))) (mvT hZ (hw _ (List.mem_of_getElem? (i := 47) rfl))) (by decide) (backOf (W := 0) (rmE2_2 l Z a0 hw [] sa22 o0 sb22 sk22 sb sk cz y19_0 y19_1 u0 u1 T22.heap n0 Z22 (Ne.symm ne_o0_sa22) Ss22 U23 U24 S_C hcz) hZ (hw _ (List.mem_of_getElem? (i := 49) rfl)) (hw _ (List.mem_of_getElem? (i := 3) rfl)) (by decide) (by decide)) q25a q25c (g := (mkF m 13 #[.val (.ref o0), .val (.int (19 : Int32))] [(.ref o0), (.ref sa22)])) rfl (by rw [hml]; rfl) (Steps.refl _) (argsL := [(.ref o0)]) (rest := []) (lenOf own_pd11 rfl) rfl (by show 2 * 0 + _ ≤ _; exact Nat.le_of_eq rfl) (hb hby d6_13) (fun _ _ => ⟨rfl, rfl, (by decide : 40 + 0 ≤ _), (by decide : 110 + 0 ≤ _)⟩)
    dsimp only [Pt.U, Pt.locs, Pt.cells, Pt.slots] at X25 l25 y25 z25 st25 hQ25
    subst l25 y25 z25
    obtain ⟨⟨r25, rfl, hr25⟩, N25q, e25⟩ := hQ25
    have N25 := Fr.app Nl22 N25q
    obtain ⟨ls25, Xl25, Nl25⟩ := own_abs X25 N25
    refine own_go (fun τ κ => st25.trans κ) ?_
    show own_End p e below s (T25.setTop (mkF m 16 #[.val (.ref o0), .val (.int (19 : Int32))] [(.int r25)])) _ _ _
    by_cases nh19 : hq.toInt = 19
    · skip
      refine own_go (fun τ κ => XS.ifNo Xl25.here hx rfl (hb hby d6_16) rfl ((if0 _ _).trans (own_ne (x := r25) (y := (0 : Int32)) (i := r25.toInt) (j := 0) rfl rfl (own_q2y (i := 19) hu hy22 hr25 nh19)).1) κ) ?_
      show own_End p e below s (T25.setTop (mkF m 19 #[.val (.ref o0), .val (.int (19 : Int32))] [])) _ _ _
      refine own_go (fun τ κ => XS.iloadN Xl25.here hx rfl (hb hby d6_19) rfl κ) ?_
      show own_End p e below s (T25.setTop (mkF m 20 #[.val (.ref o0), .val (.int (19 : Int32))] [(.int (19 : Int32))])) _ _ _
      refine own_ret Xl25 (v := some (.int (19 : Int32))) (fun h => by rw [Bd.returns] at h; cases h) Bd.notSynchronized (fun fs hr => retI Xl25 hx Bd.returns (hb hby d6_20) hr) ?_ (by decide) (by decide)
      · rw [e25]; exact ⟨⟨_, rfl, nh19.symm⟩, Nl25, KP22⟩
    · skip
      refine own_go (fun τ κ => XS.ifYes Xl25.here hx rfl (pc0 := 16) (pc' := 21) rfl (hb hby d6_16) rfl ((if0 _ _).trans (own_eq (x := r25) (y := (0 : Int32)) (i := r25.toInt) (j := 0) rfl rfl (own_q2n (i := 19) hu hy22 hr25 nh19)).1) (by decide) (by decide) κ) ?_
      show own_End p e below s (T25.setTop (mkF m 21 #[.val (.ref o0), .val (.int (19 : Int32))] [])) _ _ _
      refine own_go (fun τ κ => XS.iinc Xl25.here hx rfl (hb hby d6_21) rfl (l' := #[.val (.ref o0), .val (.int (20 : Int32))]) rfl κ) ?_
      show own_End p e below s (T25.setTop (mkF m 24 #[.val (.ref o0), .val (.int (20 : Int32))] [])) _ _ _
      refine own_go (fun τ κ => XS.goto Xl25.here hx rfl (pc0 := 24) (pc' := 2) rfl (hb hby d6_24) (by decide) (by decide) κ) ?_
      show own_End p e below s (T25.setTop (mkF m 2 #[.val (.ref o0), .val (.int (20 : Int32))] [])) _ _ _
      exact J20 T25 T22.heap _ Xl25 e25 Nl25 Z22 KP22 U23 U24 nh10 nh11 nh12 nh13 nh14 nh15 nh16 nh17 nh18 nh19
  have J18 : ∀ (T26 : State) (h26 : Heap) (ls26 : List Loc) (X26 : Stand p l e ({ frames := 3, cells := 48, slots := 134, locals := 60 } : Room) s m #[(.ref o0)] below meth c T26 ls26 36 98) (e26 : T26.heap = h26) (N26 : Fr n0 ls26) (Z26 : n0 ≤ h26.size) (KP26 : Keep h0 h26 []) (Fa26_0 : own_Str Z h26 o0 sb sk (2 : Int32) [(.int u0), (.int u1)]) (Fa26_1 : Old Z n0 h26) (nh10 : ¬ hq.toInt = 10) (nh11 : ¬ hq.toInt = 11) (nh12 : ¬ hq.toInt = 12) (nh13 : ¬ hq.toInt = 13) (nh14 : ¬ hq.toInt = 14) (nh15 : ¬ hq.toInt = 15) (nh16 : ¬ hq.toInt = 16) (nh17 : ¬ hq.toInt = 17), own_End p e below s (T26.setTop (mkF m 2 #[.val (.ref o0), .val (.int (18 : Int32))] [])) (Q_rmH2 Z o0 sb sk cz t1 d1 t2 d2 hq u0 u1 h0 n0) ({ frames := 3, cells := 48, slots := 134, locals := 60 } : Room).cells ({ frames := 3, cells := 48, slots := 134, locals := 60 } : Room).slots := by
    intro T26 h26 ls26 X26 e26 N26 Z26 KP26 Fa26_0 Fa26_1 nh10 nh11 nh12 nh13 nh14 nh15 nh16 nh17
    show own_End p e below s (T26.setTop (mkF m 2 #[.val (.ref o0), .val (.int (18 : Int32))] [])) _ _ _
    refine own_go (fun τ κ => XS.iloadN X26.here hx rfl (hb hby d6_2) rfl κ) ?_
    show own_End p e below s (T26.setTop (mkF m 3 #[.val (.ref o0), .val (.int (18 : Int32))] [(.int (18 : Int32))])) _ _ _
    refine own_go (fun τ κ => XS.bipush X26.here hx rfl (hb hby d6_3) κ) ?_
    show own_End p e below s (T26.setTop (mkF m 5 #[.val (.ref o0), .val (.int (18 : Int32))] [(.int (24 : Int32)), (.int (18 : Int32))])) _ _ _
    refine own_go (fun τ κ => XS.icmpNo X26.here hx rfl (hb hby d6_5) rfl (own_tlt (x := (18 : Int32)) (y := (24 : Int32)) (i := 18) (j := 24) rfl rfl (by decide)).2.1 κ) ?_
    show own_End p e below s (T26.setTop (mkF m 8 #[.val (.ref o0), .val (.int (18 : Int32))] [])) _ _ _
    refine own_go (fun τ κ => XS.iloadN X26.here hx rfl (hb hby d6_8) rfl κ) ?_
    show own_End p e below s (T26.setTop (mkF m 9 #[.val (.ref o0), .val (.int (18 : Int32))] [(.int (18 : Int32))])) _ _ _
    obtain ⟨_, _, ⟨T27, L27, k27, n27⟩, -, X27, ⟨Lc27, hQ27, l27, y27, z27⟩, st27⟩ := Jvm.LawKit.callS X26 hx (y := (⟨"java/lang/Integer", "toString", "(I)Ljava/lang/String;"⟩ : MethodName)) hown (mvT hZ (hw _ (List.mem_of_getElem? (i := 31) rfl))) (mvT hZ (hw _ (List.mem_of_getElem? (i := 32) rfl))) (mvT hZ (hw _ (List.mem_of_getElem? (i := 33) rfl))) (mvT hZ (hw _ (List.mem_of_getElem? (i := 34) rfl))) (by decide) (backOf (W := 0) (rmT2 l Z a0 hw [] (18 : Int32) cz t1 d1 t2 d2 h26 n0 Z26 Fa26_1 S_C hcz S_1 D1 S_2 D2 (by decide) (by decide)) hZ (hw _ (List.mem_of_getElem? (i := 34) rfl)) (hw _ (List.mem_of_getElem? (i := 33) rfl)) (by decide) (by decide)) (g := (mkF m 9 #[.val (.ref o0), .val (.int (18 : Int32))] [(.int (18 : Int32))])) rfl (by rw [hml]; rfl) (argsL := [(.int (18 : Int32))]) (rest := []) (lenOf own_pd10 rfl) rfl (by show 2 * 0 + _ ≤ _; exact Nat.le_of_eq rfl) (hb hby d6_9) (fun _ _ => ⟨rfl, e26, (by decide : 36 + 2 ≤ _), (by decide : 98 + 6 ≤ _)⟩)
    dsimp only [Pt.U, Pt.locs, Pt.cells, Pt.slots] at X27 l27 y27 z27 st27 hQ27
    subst l27 y27 z27
    obtain ⟨⟨sa27, sb27, sk27, y18_0, y18_1, rfl, za27, zb27, Ss27, K27, hy27⟩, N27q⟩ := hQ27
    have N27 := Fr.app N26 N27q
    obtain ⟨ls27, Xl27, Nl27⟩ := own_abs X27 N27
    have Z27 : n0 ≤ T27.heap.size := Nat.le_trans Z26 K27.1
    refine own_go st27 ?_
    show own_End p e below s (T27.setTop (mkF m 12 #[.val (.ref o0), .val (.int (18 : Int32))] [(.ref sa27)])) _ _ _
    have g_sa27 : n0 ≤ sa27 := Nat.le_trans Z26 za27
    have sz_sa27 : h0.size ≤ sa27 := Nat.le_trans KP26.1 za27
    have ne_o0_sa27 : o0 ≠ sa27 := Nat.ne_of_lt (Nat.lt_of_lt_of_le Fa26_0.lt za27)
    have ne_sb_sa27 : sb ≠ sa27 := Nat.ne_of_lt (Nat.lt_of_lt_of_le Fa26_0.ltb za27)
    have g_sb27 : n0 ≤ sb27 := Nat.le_trans Z26 zb27
    have sz_sb27 : h0.size ≤ sb27 := Nat.le_trans KP26.1 zb27
    have ne_o0_sb27 : o0 ≠ sb27 := Nat.ne_of_lt (Nat.lt_of_lt_of_le Fa26_0.lt zb27)
    have ne_sb_sb27 : sb ≠ sb27 := Nat.ne_of_lt (Nat.lt_of_lt_of_le Fa26_0.ltb zb27)
    have KP27 := KP26.trans K27 all0
    refine own_go (fun τ κ => XS.aloadN Xl27.here hx rfl (hb hby d6_12) rfl rfl κ) ?_
    show own_End p e below s (T27.setTop (mkF m 13 #[.val (.ref o0), .val (.int (18 : Int32))] [(.ref o0), (.ref sa27)])) _ _ _
    have U28 := (Fa26_0.keep K27 nin0 nin0)
    have U29 := (Fa26_1.keep K27 all0)
    obtain ⟨cq30, kq30, q30a, q30b, q30c⟩ := isOf hZ rfl Ss27.1
    obtain ⟨_, _, ⟨T30, L30, k30, n30⟩, -, X30, ⟨Lc30, hQ30, l30, y30, z30⟩, st30⟩ := Xl27.virtualBack hx (y := (⟨"java/lang/String", "equals", "(Ljava/lang/Object;)Z"⟩ : MethodName)) (z := (⟨"java/lang/String", "equals", "(Ljava/lang/Object;)Z"⟩ : MethodName)) hown (mvT hZ (hw _ (List.mem_of_getElem? (i := 45) rfl))) (mvT hZ (hw _ (List.mem_of_getElem? (i := 46) rfl))) (notFace_of_selects (args := #[]) (mvT hZ (hw _ (List.mem_of_getElem? (i := 48) rfl)))) (mvT hZ (hw _ (List.mem_of_getElem? (i := 48) rfl))) (mvT hZ (hw _ (List.mem_of_getElem? (i := 47) rfl))) (by decide) (backOf (W := 0) (rmE2_2 l Z a0 hw [] sa27 o0 sb27 sk27 sb sk cz y18_0 y18_1 u0 u1 T27.heap n0 Z27 (Ne.symm ne_o0_sa27) Ss27 U28 U29 S_C hcz) hZ (hw _ (List.mem_of_getElem? (i := 49) rfl)) (hw _ (List.mem_of_getElem? (i := 3) rfl)) (by decide) (by decide)) q30a q30c (g := (mkF m 13 #[.val (.ref o0), .val (.int (18 : Int32))] [(.ref o0), (.ref sa27)])) rfl (by rw [hml]; rfl) (Steps.refl _) (argsL := [(.ref o0)]) (rest := []) (lenOf own_pd11 rfl) rfl (by show 2 * 0 + _ ≤ _; exact Nat.le_of_eq rfl) (hb hby d6_13) (fun _ _ => ⟨rfl, rfl, (by decide : 38 + 0 ≤ _), (by decide : 104 + 0 ≤ _)⟩)
    dsimp only [Pt.U, Pt.locs, Pt.cells, Pt.slots] at X30 l30 y30 z30 st30 hQ30
    subst l30 y30 z30
    obtain ⟨⟨r30, rfl, hr30⟩, N30q, e30⟩ := hQ30
    have N30 := Fr.app Nl27 N30q
    obtain ⟨ls30, Xl30, Nl30⟩ := own_abs X30 N30
    refine own_go (fun τ κ => st30.trans κ) ?_
    show own_End p e below s (T30.setTop (mkF m 16 #[.val (.ref o0), .val (.int (18 : Int32))] [(.int r30)])) _ _ _
    by_cases nh18 : hq.toInt = 18
    · skip
      refine own_go (fun τ κ => XS.ifNo Xl30.here hx rfl (hb hby d6_16) rfl ((if0 _ _).trans (own_ne (x := r30) (y := (0 : Int32)) (i := r30.toInt) (j := 0) rfl rfl (own_q2y (i := 18) hu hy27 hr30 nh18)).1) κ) ?_
      show own_End p e below s (T30.setTop (mkF m 19 #[.val (.ref o0), .val (.int (18 : Int32))] [])) _ _ _
      refine own_go (fun τ κ => XS.iloadN Xl30.here hx rfl (hb hby d6_19) rfl κ) ?_
      show own_End p e below s (T30.setTop (mkF m 20 #[.val (.ref o0), .val (.int (18 : Int32))] [(.int (18 : Int32))])) _ _ _
      refine own_ret Xl30 (v := some (.int (18 : Int32))) (fun h => by rw [Bd.returns] at h; cases h) Bd.notSynchronized (fun fs hr => retI Xl30 hx Bd.returns (hb hby d6_20) hr) ?_ (by decide) (by decide)
      · rw [e30]; exact ⟨⟨_, rfl, nh18.symm⟩, Nl30, KP27⟩
    · skip
      refine own_go (fun τ κ => XS.ifYes Xl30.here hx rfl (pc0 := 16) (pc' := 21) rfl (hb hby d6_16) rfl ((if0 _ _).trans (own_eq (x := r30) (y := (0 : Int32)) (i := r30.toInt) (j := 0) rfl rfl (own_q2n (i := 18) hu hy27 hr30 nh18)).1) (by decide) (by decide) κ) ?_
      show own_End p e below s (T30.setTop (mkF m 21 #[.val (.ref o0), .val (.int (18 : Int32))] [])) _ _ _
      refine own_go (fun τ κ => XS.iinc Xl30.here hx rfl (hb hby d6_21) rfl (l' := #[.val (.ref o0), .val (.int (19 : Int32))]) rfl κ) ?_
      show own_End p e below s (T30.setTop (mkF m 24 #[.val (.ref o0), .val (.int (19 : Int32))] [])) _ _ _
      refine own_go (fun τ κ => XS.goto Xl30.here hx rfl (pc0 := 24) (pc' := 2) rfl (hb hby d6_24) (by decide) (by decide) κ) ?_
      show own_End p e below s (T30.setTop (mkF m 2 #[.val (.ref o0), .val (.int (19 : Int32))] [])) _ _ _
      exact J19 T30 T27.heap _ Xl30 e30 Nl30 Z27 KP27 U28 U29 nh10 nh11 nh12 nh13 nh14 nh15 nh16 nh17 nh18
  have J17 : ∀ (T31 : State) (h31 : Heap) (ls31 : List Loc) (X31 : Stand p l e ({ frames := 3, cells := 48, slots := 134, locals := 60 } : Room) s m #[(.ref o0)] below meth c T31 ls31 34 92) (e31 : T31.heap = h31) (N31 : Fr n0 ls31) (Z31 : n0 ≤ h31.size) (KP31 : Keep h0 h31 []) (Fa31_0 : own_Str Z h31 o0 sb sk (2 : Int32) [(.int u0), (.int u1)]) (Fa31_1 : Old Z n0 h31) (nh10 : ¬ hq.toInt = 10) (nh11 : ¬ hq.toInt = 11) (nh12 : ¬ hq.toInt = 12) (nh13 : ¬ hq.toInt = 13) (nh14 : ¬ hq.toInt = 14) (nh15 : ¬ hq.toInt = 15) (nh16 : ¬ hq.toInt = 16), own_End p e below s (T31.setTop (mkF m 2 #[.val (.ref o0), .val (.int (17 : Int32))] [])) (Q_rmH2 Z o0 sb sk cz t1 d1 t2 d2 hq u0 u1 h0 n0) ({ frames := 3, cells := 48, slots := 134, locals := 60 } : Room).cells ({ frames := 3, cells := 48, slots := 134, locals := 60 } : Room).slots := by
    intro T31 h31 ls31 X31 e31 N31 Z31 KP31 Fa31_0 Fa31_1 nh10 nh11 nh12 nh13 nh14 nh15 nh16
    show own_End p e below s (T31.setTop (mkF m 2 #[.val (.ref o0), .val (.int (17 : Int32))] [])) _ _ _
    refine own_go (fun τ κ => XS.iloadN X31.here hx rfl (hb hby d6_2) rfl κ) ?_
    show own_End p e below s (T31.setTop (mkF m 3 #[.val (.ref o0), .val (.int (17 : Int32))] [(.int (17 : Int32))])) _ _ _
    refine own_go (fun τ κ => XS.bipush X31.here hx rfl (hb hby d6_3) κ) ?_
    show own_End p e below s (T31.setTop (mkF m 5 #[.val (.ref o0), .val (.int (17 : Int32))] [(.int (24 : Int32)), (.int (17 : Int32))])) _ _ _
    refine own_go (fun τ κ => XS.icmpNo X31.here hx rfl (hb hby d6_5) rfl (own_tlt (x := (17 : Int32)) (y := (24 : Int32)) (i := 17) (j := 24) rfl rfl (by decide)).2.1 κ) ?_
    show own_End p e below s (T31.setTop (mkF m 8 #[.val (.ref o0), .val (.int (17 : Int32))] [])) _ _ _
    refine own_go (fun τ κ => XS.iloadN X31.here hx rfl (hb hby d6_8) rfl κ) ?_
    show own_End p e below s (T31.setTop (mkF m 9 #[.val (.ref o0), .val (.int (17 : Int32))] [(.int (17 : Int32))])) _ _ _
    obtain ⟨_, _, ⟨T32, L32, k32, n32⟩, -, X32, ⟨Lc32, hQ32, l32, y32, z32⟩, st32⟩ := Jvm.LawKit.callS X31 hx (y := (⟨"java/lang/Integer", "toString", "(I)Ljava/lang/String;"⟩ : MethodName)) hown (mvT hZ (hw _ (List.mem_of_getElem? (i := 31) rfl))) (mvT hZ (hw _ (List.mem_of_getElem? (i := 32) rfl))) (mvT hZ (hw _ (List.mem_of_getElem? (i := 33) rfl))) (mvT hZ (hw _ (List.mem_of_getElem? (i := 34) rfl))) (by decide) (backOf (W := 0) (rmT2 l Z a0 hw [] (17 : Int32) cz t1 d1 t2 d2 h31 n0 Z31 Fa31_1 S_C hcz S_1 D1 S_2 D2 (by decide) (by decide)) hZ (hw _ (List.mem_of_getElem? (i := 34) rfl)) (hw _ (List.mem_of_getElem? (i := 33) rfl)) (by decide) (by decide)) (g := (mkF m 9 #[.val (.ref o0), .val (.int (17 : Int32))] [(.int (17 : Int32))])) rfl (by rw [hml]; rfl) (argsL := [(.int (17 : Int32))]) (rest := []) (lenOf own_pd10 rfl) rfl (by show 2 * 0 + _ ≤ _; exact Nat.le_of_eq rfl) (hb hby d6_9) (fun _ _ => ⟨rfl, e31, (by decide : 34 + 2 ≤ _), (by decide : 92 + 6 ≤ _)⟩)
    dsimp only [Pt.U, Pt.locs, Pt.cells, Pt.slots] at X32 l32 y32 z32 st32 hQ32
    subst l32 y32 z32
    obtain ⟨⟨sa32, sb32, sk32, y17_0, y17_1, rfl, za32, zb32, Ss32, K32, hy32⟩, N32q⟩ := hQ32
    have N32 := Fr.app N31 N32q
    obtain ⟨ls32, Xl32, Nl32⟩ := own_abs X32 N32
    have Z32 : n0 ≤ T32.heap.size := Nat.le_trans Z31 K32.1
    refine own_go st32 ?_
    show own_End p e below s (T32.setTop (mkF m 12 #[.val (.ref o0), .val (.int (17 : Int32))] [(.ref sa32)])) _ _ _
    have g_sa32 : n0 ≤ sa32 := Nat.le_trans Z31 za32
    have sz_sa32 : h0.size ≤ sa32 := Nat.le_trans KP31.1 za32
    have ne_o0_sa32 : o0 ≠ sa32 := Nat.ne_of_lt (Nat.lt_of_lt_of_le Fa31_0.lt za32)
    have ne_sb_sa32 : sb ≠ sa32 := Nat.ne_of_lt (Nat.lt_of_lt_of_le Fa31_0.ltb za32)
    have g_sb32 : n0 ≤ sb32 := Nat.le_trans Z31 zb32
    have sz_sb32 : h0.size ≤ sb32 := Nat.le_trans KP31.1 zb32
    have ne_o0_sb32 : o0 ≠ sb32 := Nat.ne_of_lt (Nat.lt_of_lt_of_le Fa31_0.lt zb32)
    have ne_sb_sb32 : sb ≠ sb32 := Nat.ne_of_lt (Nat.lt_of_lt_of_le Fa31_0.ltb zb32)
    have KP32 := KP31.trans K32 all0
    refine own_go (fun τ κ => XS.aloadN Xl32.here hx rfl (hb hby d6_12) rfl rfl κ) ?_
    show own_End p e below s (T32.setTop (mkF m 13 #[.val (.ref o0), .val (.int (17 : Int32))] [(.ref o0), (.ref sa32)])) _ _ _
    have U33 := (Fa31_0.keep K32 nin0 nin0)
    have U34 := (Fa31_1.keep K32 all0)
    obtain ⟨cq35, kq35, q35a, q35b, q35c⟩ := isOf hZ rfl Ss32.1
    obtain ⟨_, _, ⟨T35, L35, k35, n35⟩, -, X35, ⟨Lc35, hQ35, l35, y35, z35⟩, st35⟩ := Xl32.virtualBack hx (y := (⟨"java/lang/String", "equals", "(Ljava/lang/Object;)Z"⟩ : MethodName)) (z := (⟨"java/lang/String", "equals", "(Ljava/lang/Object;)Z"⟩ : MethodName)) hown (mvT hZ (hw _ (List.mem_of_getElem? (i := 45) rfl))) (mvT hZ (hw _ (List.mem_of_getElem? (i := 46) rfl))) (notFace_of_selects (args := #[]) (mvT hZ (hw _ (List.mem_of_getElem? (i := 48) rfl)))) (mvT hZ (hw _ (List.mem_of_getElem? (i := 48) rfl))) (mvT hZ (hw _ (List.mem_of_getElem? (i := 47) rfl))) (by decide) (backOf (W := 0) (rmE2_2 l Z a0 hw [] sa32 o0 sb32 sk32 sb sk cz y17_0 y17_1 u0 u1 T32.heap n0 Z32 (Ne.symm ne_o0_sa32) Ss32 U33 U34 S_C hcz) hZ (hw _ (List.mem_of_getElem? (i := 49) rfl)) (hw _ (List.mem_of_getElem? (i := 3) rfl)) (by decide) (by decide)) q35a q35c (g := (mkF m 13 #[.val (.ref o0), .val (.int (17 : Int32))] [(.ref o0), (.ref sa32)])) rfl (by rw [hml]; rfl) (Steps.refl _) (argsL := [(.ref o0)]) (rest := []) (lenOf own_pd11 rfl) rfl (by show 2 * 0 + _ ≤ _; exact Nat.le_of_eq rfl) (hb hby d6_13) (fun _ _ => ⟨rfl, rfl, (by decide : 36 + 0 ≤ _), (by decide : 98 + 0 ≤ _)⟩)
    dsimp only [Pt.U, Pt.locs, Pt.cells, Pt.slots] at X35 l35 y35 z35 st35 hQ35
    subst l35 y35 z35
    obtain ⟨⟨r35, rfl, hr35⟩, N35q, e35⟩ := hQ35
    have N35 := Fr.app Nl32 N35q
    obtain ⟨ls35, Xl35, Nl35⟩ := own_abs X35 N35
    refine own_go (fun τ κ => st35.trans κ) ?_
    show own_End p e below s (T35.setTop (mkF m 16 #[.val (.ref o0), .val (.int (17 : Int32))] [(.int r35)])) _ _ _
    by_cases nh17 : hq.toInt = 17
    · skip
      refine own_go (fun τ κ => XS.ifNo Xl35.here hx rfl (hb hby d6_16) rfl ((if0 _ _).trans (own_ne (x := r35) (y := (0 : Int32)) (i := r35.toInt) (j := 0) rfl rfl (own_q2y (i := 17) hu hy32 hr35 nh17)).1) κ) ?_
      show own_End p e below s (T35.setTop (mkF m 19 #[.val (.ref o0), .val (.int (17 : Int32))] [])) _ _ _
      refine own_go (fun τ κ => XS.iloadN Xl35.here hx rfl (hb hby d6_19) rfl κ) ?_
      show own_End p e below s (T35.setTop (mkF m 20 #[.val (.ref o0), .val (.int (17 : Int32))] [(.int (17 : Int32))])) _ _ _
      refine own_ret Xl35 (v := some (.int (17 : Int32))) (fun h => by rw [Bd.returns] at h; cases h) Bd.notSynchronized (fun fs hr => retI Xl35 hx Bd.returns (hb hby d6_20) hr) ?_ (by decide) (by decide)
      · rw [e35]; exact ⟨⟨_, rfl, nh17.symm⟩, Nl35, KP32⟩
    · skip
      refine own_go (fun τ κ => XS.ifYes Xl35.here hx rfl (pc0 := 16) (pc' := 21) rfl (hb hby d6_16) rfl ((if0 _ _).trans (own_eq (x := r35) (y := (0 : Int32)) (i := r35.toInt) (j := 0) rfl rfl (own_q2n (i := 17) hu hy32 hr35 nh17)).1) (by decide) (by decide) κ) ?_
      show own_End p e below s (T35.setTop (mkF m 21 #[.val (.ref o0), .val (.int (17 : Int32))] [])) _ _ _
      refine own_go (fun τ κ => XS.iinc Xl35.here hx rfl (hb hby d6_21) rfl (l' := #[.val (.ref o0), .val (.int (18 : Int32))]) rfl κ) ?_
      show own_End p e below s (T35.setTop (mkF m 24 #[.val (.ref o0), .val (.int (18 : Int32))] [])) _ _ _
      refine own_go (fun τ κ => XS.goto Xl35.here hx rfl (pc0 := 24) (pc' := 2) rfl (hb hby d6_24) (by decide) (by decide) κ) ?_
      show own_End p e below s (T35.setTop (mkF m 2 #[.val (.ref o0), .val (.int (18 : Int32))] [])) _ _ _
      exact J18 T35 T32.heap _ Xl35 e35 Nl35 Z32 KP32 U33 U34 nh10 nh11 nh12 nh13 nh14 nh15 nh16 nh17
  have J16 : ∀ (T36 : State) (h36 : Heap) (ls36 : List Loc) (X36 : Stand p l e ({ frames := 3, cells := 48, slots := 134, locals := 60 } : Room) s m #[(.ref o0)] below meth c T36 ls36 32 86) (e36 : T36.heap = h36) (N36 : Fr n0 ls36) (Z36 : n0 ≤ h36.size) (KP36 : Keep h0 h36 []) (Fa36_0 : own_Str Z h36 o0 sb sk (2 : Int32) [(.int u0), (.int u1)]) (Fa36_1 : Old Z n0 h36) (nh10 : ¬ hq.toInt = 10) (nh11 : ¬ hq.toInt = 11) (nh12 : ¬ hq.toInt = 12) (nh13 : ¬ hq.toInt = 13) (nh14 : ¬ hq.toInt = 14) (nh15 : ¬ hq.toInt = 15), own_End p e below s (T36.setTop (mkF m 2 #[.val (.ref o0), .val (.int (16 : Int32))] [])) (Q_rmH2 Z o0 sb sk cz t1 d1 t2 d2 hq u0 u1 h0 n0) ({ frames := 3, cells := 48, slots := 134, locals := 60 } : Room).cells ({ frames := 3, cells := 48, slots := 134, locals := 60 } : Room).slots := by
    intro T36 h36 ls36 X36 e36 N36 Z36 KP36 Fa36_0 Fa36_1 nh10 nh11 nh12 nh13 nh14 nh15
    show own_End p e below s (T36.setTop (mkF m 2 #[.val (.ref o0), .val (.int (16 : Int32))] [])) _ _ _
    refine own_go (fun τ κ => XS.iloadN X36.here hx rfl (hb hby d6_2) rfl κ) ?_
    show own_End p e below s (T36.setTop (mkF m 3 #[.val (.ref o0), .val (.int (16 : Int32))] [(.int (16 : Int32))])) _ _ _
    refine own_go (fun τ κ => XS.bipush X36.here hx rfl (hb hby d6_3) κ) ?_
    show own_End p e below s (T36.setTop (mkF m 5 #[.val (.ref o0), .val (.int (16 : Int32))] [(.int (24 : Int32)), (.int (16 : Int32))])) _ _ _
    refine own_go (fun τ κ => XS.icmpNo X36.here hx rfl (hb hby d6_5) rfl (own_tlt (x := (16 : Int32)) (y := (24 : Int32)) (i := 16) (j := 24) rfl rfl (by decide)).2.1 κ) ?_
    show own_End p e below s (T36.setTop (mkF m 8 #[.val (.ref o0), .val (.int (16 : Int32))] [])) _ _ _
    refine own_go (fun τ κ => XS.iloadN X36.here hx rfl (hb hby d6_8) rfl κ) ?_
    show own_End p e below s (T36.setTop (mkF m 9 #[.val (.ref o0), .val (.int (16 : Int32))] [(.int (16 : Int32))])) _ _ _
    obtain ⟨_, _, ⟨T37, L37, k37, n37⟩, -, X37, ⟨Lc37, hQ37, l37, y37, z37⟩, st37⟩ := Jvm.LawKit.callS X36 hx (y := (⟨"java/lang/Integer", "toString", "(I)Ljava/lang/String;"⟩ : MethodName)) hown (mvT hZ (hw _ (List.mem_of_getElem? (i := 31) rfl))) (mvT hZ (hw _ (List.mem_of_getElem? (i := 32) rfl))) (mvT hZ (hw _ (List.mem_of_getElem? (i := 33) rfl))) (mvT hZ (hw _ (List.mem_of_getElem? (i := 34) rfl))) (by decide) (backOf (W := 0) (rmT2 l Z a0 hw [] (16 : Int32) cz t1 d1 t2 d2 h36 n0 Z36 Fa36_1 S_C hcz S_1 D1 S_2 D2 (by decide) (by decide)) hZ (hw _ (List.mem_of_getElem? (i := 34) rfl)) (hw _ (List.mem_of_getElem? (i := 33) rfl)) (by decide) (by decide)) (g := (mkF m 9 #[.val (.ref o0), .val (.int (16 : Int32))] [(.int (16 : Int32))])) rfl (by rw [hml]; rfl) (argsL := [(.int (16 : Int32))]) (rest := []) (lenOf own_pd10 rfl) rfl (by show 2 * 0 + _ ≤ _; exact Nat.le_of_eq rfl) (hb hby d6_9) (fun _ _ => ⟨rfl, e36, (by decide : 32 + 2 ≤ _), (by decide : 86 + 6 ≤ _)⟩)
    dsimp only [Pt.U, Pt.locs, Pt.cells, Pt.slots] at X37 l37 y37 z37 st37 hQ37
    subst l37 y37 z37
    obtain ⟨⟨sa37, sb37, sk37, y16_0, y16_1, rfl, za37, zb37, Ss37, K37, hy37⟩, N37q⟩ := hQ37
    have N37 := Fr.app N36 N37q
    obtain ⟨ls37, Xl37, Nl37⟩ := own_abs X37 N37
    have Z37 : n0 ≤ T37.heap.size := Nat.le_trans Z36 K37.1
    refine own_go st37 ?_
    show own_End p e below s (T37.setTop (mkF m 12 #[.val (.ref o0), .val (.int (16 : Int32))] [(.ref sa37)])) _ _ _
    have g_sa37 : n0 ≤ sa37 := Nat.le_trans Z36 za37
    have sz_sa37 : h0.size ≤ sa37 := Nat.le_trans KP36.1 za37
    have ne_o0_sa37 : o0 ≠ sa37 := Nat.ne_of_lt (Nat.lt_of_lt_of_le Fa36_0.lt za37)
    have ne_sb_sa37 : sb ≠ sa37 := Nat.ne_of_lt (Nat.lt_of_lt_of_le Fa36_0.ltb za37)
    have g_sb37 : n0 ≤ sb37 := Nat.le_trans Z36 zb37
    have sz_sb37 : h0.size ≤ sb37 := Nat.le_trans KP36.1 zb37
    have ne_o0_sb37 : o0 ≠ sb37 := Nat.ne_of_lt (Nat.lt_of_lt_of_le Fa36_0.lt zb37)
    have ne_sb_sb37 : sb ≠ sb37 := Nat.ne_of_lt (Nat.lt_of_lt_of_le Fa36_0.ltb zb37)
    have KP37 := KP36.trans K37 all0
    refine own_go (fun τ κ => XS.aloadN Xl37.here hx rfl (hb hby d6_12) rfl rfl κ) ?_
    show own_End p e below s (T37.setTop (mkF m 13 #[.val (.ref o0), .val (.int (16 : Int32))] [(.ref o0), (.ref sa37)])) _ _ _
    have U38 := (Fa36_0.keep K37 nin0 nin0)
    have U39 := (Fa36_1.keep K37 all0)
    obtain ⟨cq40, kq40, q40a, q40b, q40c⟩ := isOf hZ rfl Ss37.1
    obtain ⟨_, _, ⟨T40, L40, k40, n40⟩, -, X40, ⟨Lc40, hQ40, l40, y40, z40⟩, st40⟩ := Xl37.virtualBack hx (y := (⟨"java/lang/String", "equals", "(Ljava/lang/Object;)Z"⟩ : MethodName)) (z := (⟨"java/lang/String", "equals", "(Ljava/lang/Object;)Z"⟩ : MethodName)) hown (mvT hZ (hw _ (List.mem_of_getElem? (i := 45) rfl))) (mvT hZ (hw _ (List.mem_of_getElem? (i := 46) rfl))) (notFace_of_selects (args := #[]) (mvT hZ (hw _ (List.mem_of_getElem? (i := 48) rfl)))) (mvT hZ (hw _ (List.mem_of_getElem? (i := 48) rfl))) (mvT hZ (hw _ (List.mem_of_getElem? (i := 47) rfl))) (by decide) (backOf (W := 0) (rmE2_2 l Z a0 hw [] sa37 o0 sb37 sk37 sb sk cz y16_0 y16_1 u0 u1 T37.heap n0 Z37 (Ne.symm ne_o0_sa37) Ss37 U38 U39 S_C hcz) hZ (hw _ (List.mem_of_getElem? (i := 49) rfl)) (hw _ (List.mem_of_getElem? (i := 3) rfl)) (by decide) (by decide)) q40a q40c (g := (mkF m 13 #[.val (.ref o0), .val (.int (16 : Int32))] [(.ref o0), (.ref sa37)])) rfl (by rw [hml]; rfl) (Steps.refl _) (argsL := [(.ref o0)]) (rest := []) (lenOf own_pd11 rfl) rfl (by show 2 * 0 + _ ≤ _; exact Nat.le_of_eq rfl) (hb hby d6_13) (fun _ _ => ⟨rfl, rfl, (by decide : 34 + 0 ≤ _), (by decide : 92 + 0 ≤ _)⟩)
    dsimp only [Pt.U, Pt.locs, Pt.cells, Pt.slots] at X40 l40 y40 z40 st40 hQ40
    subst l40 y40 z40
    obtain ⟨⟨r40, rfl, hr40⟩, N40q, e40⟩ := hQ40
    have N40 := Fr.app Nl37 N40q
    obtain ⟨ls40, Xl40, Nl40⟩ := own_abs X40 N40
    refine own_go (fun τ κ => st40.trans κ) ?_
    show own_End p e below s (T40.setTop (mkF m 16 #[.val (.ref o0), .val (.int (16 : Int32))] [(.int r40)])) _ _ _
    by_cases nh16 : hq.toInt = 16
    · skip
      refine own_go (fun τ κ => XS.ifNo Xl40.here hx rfl (hb hby d6_16) rfl ((if0 _ _).trans (own_ne (x := r40) (y := (0 : Int32)) (i := r40.toInt) (j := 0) rfl rfl (own_q2y (i := 16) hu hy37 hr40 nh16)).1) κ) ?_
      show own_End p e below s (T40.setTop (mkF m 19 #[.val (.ref o0), .val (.int (16 : Int32))] [])) _ _ _
      refine own_go (fun τ κ => XS.iloadN Xl40.here hx rfl (hb hby d6_19) rfl κ) ?_
      show own_End p e below s (T40.setTop (mkF m 20 #[.val (.ref o0), .val (.int (16 : Int32))] [(.int (16 : Int32))])) _ _ _
      refine own_ret Xl40 (v := some (.int (16 : Int32))) (fun h => by rw [Bd.returns] at h; cases h) Bd.notSynchronized (fun fs hr => retI Xl40 hx Bd.returns (hb hby d6_20) hr) ?_ (by decide) (by decide)
      · rw [e40]; exact ⟨⟨_, rfl, nh16.symm⟩, Nl40, KP37⟩
    · skip
      refine own_go (fun τ κ => XS.ifYes Xl40.here hx rfl (pc0 := 16) (pc' := 21) rfl (hb hby d6_16) rfl ((if0 _ _).trans (own_eq (x := r40) (y := (0 : Int32)) (i := r40.toInt) (j := 0) rfl rfl (own_q2n (i := 16) hu hy37 hr40 nh16)).1) (by decide) (by decide) κ) ?_
      show own_End p e below s (T40.setTop (mkF m 21 #[.val (.ref o0), .val (.int (16 : Int32))] [])) _ _ _
      refine own_go (fun τ κ => XS.iinc Xl40.here hx rfl (hb hby d6_21) rfl (l' := #[.val (.ref o0), .val (.int (17 : Int32))]) rfl κ) ?_
      show own_End p e below s (T40.setTop (mkF m 24 #[.val (.ref o0), .val (.int (17 : Int32))] [])) _ _ _
      refine own_go (fun τ κ => XS.goto Xl40.here hx rfl (pc0 := 24) (pc' := 2) rfl (hb hby d6_24) (by decide) (by decide) κ) ?_
      show own_End p e below s (T40.setTop (mkF m 2 #[.val (.ref o0), .val (.int (17 : Int32))] [])) _ _ _
      exact J17 T40 T37.heap _ Xl40 e40 Nl40 Z37 KP37 U38 U39 nh10 nh11 nh12 nh13 nh14 nh15 nh16
  have J15 : ∀ (T41 : State) (h41 : Heap) (ls41 : List Loc) (X41 : Stand p l e ({ frames := 3, cells := 48, slots := 134, locals := 60 } : Room) s m #[(.ref o0)] below meth c T41 ls41 30 80) (e41 : T41.heap = h41) (N41 : Fr n0 ls41) (Z41 : n0 ≤ h41.size) (KP41 : Keep h0 h41 []) (Fa41_0 : own_Str Z h41 o0 sb sk (2 : Int32) [(.int u0), (.int u1)]) (Fa41_1 : Old Z n0 h41) (nh10 : ¬ hq.toInt = 10) (nh11 : ¬ hq.toInt = 11) (nh12 : ¬ hq.toInt = 12) (nh13 : ¬ hq.toInt = 13) (nh14 : ¬ hq.toInt = 14), own_End p e below s (T41.setTop (mkF m 2 #[.val (.ref o0), .val (.int (15 : Int32))] [])) (Q_rmH2 Z o0 sb sk cz t1 d1 t2 d2 hq u0 u1 h0 n0) ({ frames := 3, cells := 48, slots := 134, locals := 60 } : Room).cells ({ frames := 3, cells := 48, slots := 134, locals := 60 } : Room).slots := by
    intro T41 h41 ls41 X41 e41 N41 Z41 KP41 Fa41_0 Fa41_1 nh10 nh11 nh12 nh13 nh14
    show own_End p e below s (T41.setTop (mkF m 2 #[.val (.ref o0), .val (.int (15 : Int32))] [])) _ _ _
    refine own_go (fun τ κ => XS.iloadN X41.here hx rfl (hb hby d6_2) rfl κ) ?_
    show own_End p e below s (T41.setTop (mkF m 3 #[.val (.ref o0), .val (.int (15 : Int32))] [(.int (15 : Int32))])) _ _ _
    refine own_go (fun τ κ => XS.bipush X41.here hx rfl (hb hby d6_3) κ) ?_
    show own_End p e below s (T41.setTop (mkF m 5 #[.val (.ref o0), .val (.int (15 : Int32))] [(.int (24 : Int32)), (.int (15 : Int32))])) _ _ _
    refine own_go (fun τ κ => XS.icmpNo X41.here hx rfl (hb hby d6_5) rfl (own_tlt (x := (15 : Int32)) (y := (24 : Int32)) (i := 15) (j := 24) rfl rfl (by decide)).2.1 κ) ?_
    show own_End p e below s (T41.setTop (mkF m 8 #[.val (.ref o0), .val (.int (15 : Int32))] [])) _ _ _
    refine own_go (fun τ κ => XS.iloadN X41.here hx rfl (hb hby d6_8) rfl κ) ?_
    show own_End p e below s (T41.setTop (mkF m 9 #[.val (.ref o0), .val (.int (15 : Int32))] [(.int (15 : Int32))])) _ _ _
    obtain ⟨_, _, ⟨T42, L42, k42, n42⟩, -, X42, ⟨Lc42, hQ42, l42, y42, z42⟩, st42⟩ := Jvm.LawKit.callS X41 hx (y := (⟨"java/lang/Integer", "toString", "(I)Ljava/lang/String;"⟩ : MethodName)) hown (mvT hZ (hw _ (List.mem_of_getElem? (i := 31) rfl))) (mvT hZ (hw _ (List.mem_of_getElem? (i := 32) rfl))) (mvT hZ (hw _ (List.mem_of_getElem? (i := 33) rfl))) (mvT hZ (hw _ (List.mem_of_getElem? (i := 34) rfl))) (by decide) (backOf (W := 0) (rmT2 l Z a0 hw [] (15 : Int32) cz t1 d1 t2 d2 h41 n0 Z41 Fa41_1 S_C hcz S_1 D1 S_2 D2 (by decide) (by decide)) hZ (hw _ (List.mem_of_getElem? (i := 34) rfl)) (hw _ (List.mem_of_getElem? (i := 33) rfl)) (by decide) (by decide)) (g := (mkF m 9 #[.val (.ref o0), .val (.int (15 : Int32))] [(.int (15 : Int32))])) rfl (by rw [hml]; rfl) (argsL := [(.int (15 : Int32))]) (rest := []) (lenOf own_pd10 rfl) rfl (by show 2 * 0 + _ ≤ _; exact Nat.le_of_eq rfl) (hb hby d6_9) (fun _ _ => ⟨rfl, e41, (by decide : 30 + 2 ≤ _), (by decide : 80 + 6 ≤ _)⟩)
    dsimp only [Pt.U, Pt.locs, Pt.cells, Pt.slots] at X42 l42 y42 z42 st42 hQ42
    subst l42 y42 z42
    obtain ⟨⟨sa42, sb42, sk42, y15_0, y15_1, rfl, za42, zb42, Ss42, K42, hy42⟩, N42q⟩ := hQ42
    have N42 := Fr.app N41 N42q
    obtain ⟨ls42, Xl42, Nl42⟩ := own_abs X42 N42
    have Z42 : n0 ≤ T42.heap.size := Nat.le_trans Z41 K42.1
    refine own_go st42 ?_
    show own_End p e below s (T42.setTop (mkF m 12 #[.val (.ref o0), .val (.int (15 : Int32))] [(.ref sa42)])) _ _ _
    have g_sa42 : n0 ≤ sa42 := Nat.le_trans Z41 za42
    have sz_sa42 : h0.size ≤ sa42 := Nat.le_trans KP41.1 za42
    have ne_o0_sa42 : o0 ≠ sa42 := Nat.ne_of_lt (Nat.lt_of_lt_of_le Fa41_0.lt za42)
    have ne_sb_sa42 : sb ≠ sa42 := Nat.ne_of_lt (Nat.lt_of_lt_of_le Fa41_0.ltb za42)
    have g_sb42 : n0 ≤ sb42 := Nat.le_trans Z41 zb42
    have sz_sb42 : h0.size ≤ sb42 := Nat.le_trans KP41.1 zb42
    have ne_o0_sb42 : o0 ≠ sb42 := Nat.ne_of_lt (Nat.lt_of_lt_of_le Fa41_0.lt zb42)
    have ne_sb_sb42 : sb ≠ sb42 := Nat.ne_of_lt (Nat.lt_of_lt_of_le Fa41_0.ltb zb42)
    have KP42 := KP41.trans K42 all0
    refine own_go (fun τ κ => XS.aloadN Xl42.here hx rfl (hb hby d6_12) rfl rfl κ) ?_
    show own_End p e below s (T42.setTop (mkF m 13 #[.val (.ref o0), .val (.int (15 : Int32))] [(.ref o0), (.ref sa42)])) _ _ _
    have U43 := (Fa41_0.keep K42 nin0 nin0)
    have U44 := (Fa41_1.keep K42 all0)
    obtain ⟨cq45, kq45, q45a, q45b, q45c⟩ := isOf hZ rfl Ss42.1
    obtain ⟨_, _, ⟨T45, L45, k45, n45⟩, -, X45, ⟨Lc45, hQ45, l45, y45, z45⟩, st45⟩ := Xl42.virtualBack hx (y := (⟨"java/lang/String", "equals", "(Ljava/lang/Object;)Z"⟩ : MethodName)) (z := (⟨"java/lang/String", "equals", "(Ljava/lang/Object;)Z"⟩ : MethodName)) hown (mvT hZ (hw _ (List.mem_of_getElem? (i := 45) rfl))) (mvT hZ (hw _ (List.mem_of_getElem? (i := 46) rfl))) (notFace_of_selects (args := #[]) (mvT hZ (hw _ (List.mem_of_getElem? (i := 48) rfl)))) (mvT hZ (hw _ (List.mem_of_getElem? (i := 48) rfl))) (mvT hZ (hw _ (List.mem_of_getElem? (i := 47) rfl))) (by decide) (backOf (W := 0) (rmE2_2 l Z a0 hw [] sa42 o0 sb42 sk42 sb sk cz y15_0 y15_1 u0 u1 T42.heap n0 Z42 (Ne.symm ne_o0_sa42) Ss42 U43 U44 S_C hcz) hZ (hw _ (List.mem_of_getElem? (i := 49) rfl)) (hw _ (List.mem_of_getElem? (i := 3) rfl)) (by decide) (by decide)) q45a q45c (g := (mkF m 13 #[.val (.ref o0), .val (.int (15 : Int32))] [(.ref o0), (.ref sa42)])) rfl (by rw [hml]; rfl) (Steps.refl _) (argsL := [(.ref o0)]) (rest := []) (lenOf own_pd11 rfl) rfl (by show 2 * 0 + _ ≤ _; exact Nat.le_of_eq rfl) (hb hby d6_13) (fun _ _ => ⟨rfl, rfl, (by decide : 32 + 0 ≤ _), (by decide : 86 + 0 ≤ _)⟩)
    dsimp only [Pt.U, Pt.locs, Pt.cells, Pt.slots] at X45 l45 y45 z45 st45 hQ45
    subst l45 y45 z45
    obtain ⟨⟨r45, rfl, hr45⟩, N45q, e45⟩ := hQ45
    have N45 := Fr.app Nl42 N45q
    obtain ⟨ls45, Xl45, Nl45⟩ := own_abs X45 N45
    refine own_go (fun τ κ => st45.trans κ) ?_
    show own_End p e below s (T45.setTop (mkF m 16 #[.val (.ref o0), .val (.int (15 : Int32))] [(.int r45)])) _ _ _
    by_cases nh15 : hq.toInt = 15
    · skip
      refine own_go (fun τ κ => XS.ifNo Xl45.here hx rfl (hb hby d6_16) rfl ((if0 _ _).trans (own_ne (x := r45) (y := (0 : Int32)) (i := r45.toInt) (j := 0) rfl rfl (own_q2y (i := 15) hu hy42 hr45 nh15)).1) κ) ?_
      show own_End p e below s (T45.setTop (mkF m 19 #[.val (.ref o0), .val (.int (15 : Int32))] [])) _ _ _
      refine own_go (fun τ κ => XS.iloadN Xl45.here hx rfl (hb hby d6_19) rfl κ) ?_
      show own_End p e below s (T45.setTop (mkF m 20 #[.val (.ref o0), .val (.int (15 : Int32))] [(.int (15 : Int32))])) _ _ _
      refine own_ret Xl45 (v := some (.int (15 : Int32))) (fun h => by rw [Bd.returns] at h; cases h) Bd.notSynchronized (fun fs hr => retI Xl45 hx Bd.returns (hb hby d6_20) hr) ?_ (by decide) (by decide)
      · rw [e45]; exact ⟨⟨_, rfl, nh15.symm⟩, Nl45, KP42⟩
    · skip
      refine own_go (fun τ κ => XS.ifYes Xl45.here hx rfl (pc0 := 16) (pc' := 21) rfl (hb hby d6_16) rfl ((if0 _ _).trans (own_eq (x := r45) (y := (0 : Int32)) (i := r45.toInt) (j := 0) rfl rfl (own_q2n (i := 15) hu hy42 hr45 nh15)).1) (by decide) (by decide) κ) ?_
      show own_End p e below s (T45.setTop (mkF m 21 #[.val (.ref o0), .val (.int (15 : Int32))] [])) _ _ _
      refine own_go (fun τ κ => XS.iinc Xl45.here hx rfl (hb hby d6_21) rfl (l' := #[.val (.ref o0), .val (.int (16 : Int32))]) rfl κ) ?_
      show own_End p e below s (T45.setTop (mkF m 24 #[.val (.ref o0), .val (.int (16 : Int32))] [])) _ _ _
      refine own_go (fun τ κ => XS.goto Xl45.here hx rfl (pc0 := 24) (pc' := 2) rfl (hb hby d6_24) (by decide) (by decide) κ) ?_
      show own_End p e below s (T45.setTop (mkF m 2 #[.val (.ref o0), .val (.int (16 : Int32))] [])) _ _ _
      exact J16 T45 T42.heap _ Xl45 e45 Nl45 Z42 KP42 U43 U44 nh10 nh11 nh12 nh13 nh14 nh15
  have J14 : ∀ (T46 : State) (h46 : Heap) (ls46 : List Loc) (X46 : Stand p l e ({ frames := 3, cells := 48, slots := 134, locals := 60 } : Room) s m #[(.ref o0)] below meth c T46 ls46 28 74) (e46 : T46.heap = h46) (N46 : Fr n0 ls46) (Z46 : n0 ≤ h46.size) (KP46 : Keep h0 h46 []) (Fa46_0 : own_Str Z h46 o0 sb sk (2 : Int32) [(.int u0), (.int u1)]) (Fa46_1 : Old Z n0 h46) (nh10 : ¬ hq.toInt = 10) (nh11 : ¬ hq.toInt = 11) (nh12 : ¬ hq.toInt = 12) (nh13 : ¬ hq.toInt = 13), own_End p e below s (T46.setTop (mkF m 2 #[.val (.ref o0), .val (.int (14 : Int32))] [])) (Q_rmH2 Z o0 sb sk cz t1 d1 t2 d2 hq u0 u1 h0 n0) ({ frames := 3, cells := 48, slots := 134, locals := 60 } : Room).cells ({ frames := 3, cells := 48, slots := 134, locals := 60 } : Room).slots := by
    intro T46 h46 ls46 X46 e46 N46 Z46 KP46 Fa46_0 Fa46_1 nh10 nh11 nh12 nh13
    show own_End p e below s (T46.setTop (mkF m 2 #[.val (.ref o0), .val (.int (14 : Int32))] [])) _ _ _
    refine own_go (fun τ κ => XS.iloadN X46.here hx rfl (hb hby d6_2) rfl κ) ?_
    show own_End p e below s (T46.setTop (mkF m 3 #[.val (.ref o0), .val (.int (14 : Int32))] [(.int (14 : Int32))])) _ _ _
    refine own_go (fun τ κ => XS.bipush X46.here hx rfl (hb hby d6_3) κ) ?_
    show own_End p e below s (T46.setTop (mkF m 5 #[.val (.ref o0), .val (.int (14 : Int32))] [(.int (24 : Int32)), (.int (14 : Int32))])) _ _ _
    refine own_go (fun τ κ => XS.icmpNo X46.here hx rfl (hb hby d6_5) rfl (own_tlt (x := (14 : Int32)) (y := (24 : Int32)) (i := 14) (j := 24) rfl rfl (by decide)).2.1 κ) ?_
    show own_End p e below s (T46.setTop (mkF m 8 #[.val (.ref o0), .val (.int (14 : Int32))] [])) _ _ _
    refine own_go (fun τ κ => XS.iloadN X46.here hx rfl (hb hby d6_8) rfl κ) ?_
    show own_End p e below s (T46.setTop (mkF m 9 #[.val (.ref o0), .val (.int (14 : Int32))] [(.int (14 : Int32))])) _ _ _
    obtain ⟨_, _, ⟨T47, L47, k47, n47⟩, -, X47, ⟨Lc47, hQ47, l47, y47, z47⟩, st47⟩ := Jvm.LawKit.callS X46 hx (y := (⟨"java/lang/Integer", "toString", "(I)Ljava/lang/String;"⟩ : MethodName)) hown (mvT hZ (hw _ (List.mem_of_getElem? (i := 31) rfl))) (mvT hZ (hw _ (List.mem_of_getElem? (i := 32) rfl))) (mvT hZ (hw _ (List.mem_of_getElem? (i := 33) rfl))) (mvT hZ (hw _ (List.mem_of_getElem? (i := 34) rfl))) (by decide) (backOf (W := 0) (rmT2 l Z a0 hw [] (14 : Int32) cz t1 d1 t2 d2 h46 n0 Z46 Fa46_1 S_C hcz S_1 D1 S_2 D2 (by decide) (by decide)) hZ (hw _ (List.mem_of_getElem? (i := 34) rfl)) (hw _ (List.mem_of_getElem? (i := 33) rfl)) (by decide) (by decide)) (g := (mkF m 9 #[.val (.ref o0), .val (.int (14 : Int32))] [(.int (14 : Int32))])) rfl (by rw [hml]; rfl) (argsL := [(.int (14 : Int32))]) (rest := []) (lenOf own_pd10 rfl) rfl (by show 2 * 0 + _ ≤ _; exact Nat.le_of_eq rfl) (hb hby d6_9) (fun _ _ => ⟨rfl, e46, (by decide : 28 + 2 ≤ _), (by decide : 74 + 6 ≤ _)⟩)
    dsimp only [Pt.U, Pt.locs, Pt.cells, Pt.slots] at X47 l47 y47 z47 st47 hQ47
    subst l47 y47 z47
    obtain ⟨⟨sa47, sb47, sk47, y14_0, y14_1, rfl, za47, zb47, Ss47, K47, hy47⟩, N47q⟩ := hQ47
    have N47 := Fr.app N46 N47q
    obtain ⟨ls47, Xl47, Nl47⟩ := own_abs X47 N47
    have Z47 : n0 ≤ T47.heap.size := Nat.le_trans Z46 K47.1
    refine own_go st47 ?_
    show own_End p e below s (T47.setTop (mkF m 12 #[.val (.ref o0), .val (.int (14 : Int32))] [(.ref sa47)])) _ _ _
    have g_sa47 : n0 ≤ sa47 := Nat.le_trans Z46 za47
    have sz_sa47 : h0.size ≤ sa47 := Nat.le_trans KP46.1 za47
    have ne_o0_sa47 : o0 ≠ sa47 := Nat.ne_of_lt (Nat.lt_of_lt_of_le Fa46_0.lt za47)
    have ne_sb_sa47 : sb ≠ sa47 := Nat.ne_of_lt (Nat.lt_of_lt_of_le Fa46_0.ltb za47)
    have g_sb47 : n0 ≤ sb47 := Nat.le_trans Z46 zb47
    have sz_sb47 : h0.size ≤ sb47 := Nat.le_trans KP46.1 zb47
    have ne_o0_sb47 : o0 ≠ sb47 := Nat.ne_of_lt (Nat.lt_of_lt_of_le Fa46_0.lt zb47)
    have ne_sb_sb47 : sb ≠ sb47 := Nat.ne_of_lt (Nat.lt_of_lt_of_le Fa46_0.ltb zb47)
    have KP47 := KP46.trans K47 all0
    refine own_go (fun τ κ => XS.aloadN Xl47.here hx rfl (hb hby d6_12) rfl rfl κ) ?_
    show own_End p e below s (T47.setTop (mkF m 13 #[.val (.ref o0), .val (.int (14 : Int32))] [(.ref o0), (.ref sa47)])) _ _ _
    have U48 := (Fa46_0.keep K47 nin0 nin0)
    have U49 := (Fa46_1.keep K47 all0)
    obtain ⟨cq50, kq50, q50a, q50b, q50c⟩ := isOf hZ rfl Ss47.1
    obtain ⟨_, _, ⟨T50, L50, k50, n50⟩, -, X50, ⟨Lc50, hQ50, l50, y50, z50⟩, st50⟩ := Xl47.virtualBack hx (y := (⟨"java/lang/String", "equals", "(Ljava/lang/Object;)Z"⟩ : MethodName)) (z := (⟨"java/lang/String", "equals", "(Ljava/lang/Object;)Z"⟩ : MethodName)) hown (mvT hZ (hw _ (List.mem_of_getElem? (i := 45) rfl))) (mvT hZ (hw _ (List.mem_of_getElem? (i := 46) rfl))) (notFace_of_selects (args := #[]) (mvT hZ (hw _ (List.mem_of_getElem? (i := 48) rfl)))) (mvT hZ (hw _ (List.mem_of_getElem? (i := 48) rfl))) (mvT hZ (hw _ (List.mem_of_getElem? (i := 47) rfl))) (by decide) (backOf (W := 0) (rmE2_2 l Z a0 hw [] sa47 o0 sb47 sk47 sb sk cz y14_0 y14_1 u0 u1 T47.heap n0 Z47 (Ne.symm ne_o0_sa47) Ss47 U48 U49 S_C hcz) hZ (hw _ (List.mem_of_getElem? (i := 49) rfl)) (hw _ (List.mem_of_getElem? (i := 3) rfl)) (by decide) (by decide)) q50a q50c (g := (mkF m 13 #[.val (.ref o0), .val (.int (14 : Int32))] [(.ref o0), (.ref sa47)])) rfl (by rw [hml]; rfl) (Steps.refl _) (argsL := [(.ref o0)]) (rest := []) (lenOf own_pd11 rfl) rfl (by show 2 * 0 + _ ≤ _; exact Nat.le_of_eq rfl) (hb hby d6_13) (fun _ _ => ⟨rfl, rfl, (by decide : 30 + 0 ≤ _), (by decide : 80 + 0 ≤ _)⟩)
    dsimp only [Pt.U, Pt.locs, Pt.cells, Pt.slots] at X50 l50 y50 z50 st50 hQ50
    subst l50 y50 z50
    obtain ⟨⟨r50, rfl, hr50⟩, N50q, e50⟩ := hQ50
    have N50 := Fr.app Nl47 N50q
    obtain ⟨ls50, Xl50, Nl50⟩ := own_abs X50 N50
    refine own_go (fun τ κ => st50.trans κ) ?_
    show own_End p e below s (T50.setTop (mkF m 16 #[.val (.ref o0), .val (.int (14 : Int32))] [(.int r50)])) _ _ _
    by_cases nh14 : hq.toInt = 14
    · skip
      refine own_go (fun τ κ => XS.ifNo Xl50.here hx rfl (hb hby d6_16) rfl ((if0 _ _).trans (own_ne (x := r50) (y := (0 : Int32)) (i := r50.toInt) (j := 0) rfl rfl (own_q2y (i := 14) hu hy47 hr50 nh14)).1) κ) ?_
      show own_End p e below s (T50.setTop (mkF m 19 #[.val (.ref o0), .val (.int (14 : Int32))] [])) _ _ _
      refine own_go (fun τ κ => XS.iloadN Xl50.here hx rfl (hb hby d6_19) rfl κ) ?_
      show own_End p e below s (T50.setTop (mkF m 20 #[.val (.ref o0), .val (.int (14 : Int32))] [(.int (14 : Int32))])) _ _ _
      refine own_ret Xl50 (v := some (.int (14 : Int32))) (fun h => by rw [Bd.returns] at h; cases h) Bd.notSynchronized (fun fs hr => retI Xl50 hx Bd.returns (hb hby d6_20) hr) ?_ (by decide) (by decide)
      · rw [e50]; exact ⟨⟨_, rfl, nh14.symm⟩, Nl50, KP47⟩
    · skip
      refine own_go (fun τ κ => XS.ifYes Xl50.here hx rfl (pc0 := 16) (pc' := 21) rfl (hb hby d6_16) rfl ((if0 _ _).trans (own_eq (x := r50) (y := (0 : Int32)) (i := r50.toInt) (j := 0) rfl rfl (own_q2n (i := 14) hu hy47 hr50 nh14)).1) (by decide) (by decide) κ) ?_
      show own_End p e below s (T50.setTop (mkF m 21 #[.val (.ref o0), .val (.int (14 : Int32))] [])) _ _ _
      refine own_go (fun τ κ => XS.iinc Xl50.here hx rfl (hb hby d6_21) rfl (l' := #[.val (.ref o0), .val (.int (15 : Int32))]) rfl κ) ?_
      show own_End p e below s (T50.setTop (mkF m 24 #[.val (.ref o0), .val (.int (15 : Int32))] [])) _ _ _
      refine own_go (fun τ κ => XS.goto Xl50.here hx rfl (pc0 := 24) (pc' := 2) rfl (hb hby d6_24) (by decide) (by decide) κ) ?_
      show own_End p e below s (T50.setTop (mkF m 2 #[.val (.ref o0), .val (.int (15 : Int32))] [])) _ _ _
      exact J15 T50 T47.heap _ Xl50 e50 Nl50 Z47 KP47 U48 U49 nh10 nh11 nh12 nh13 nh14
  have J13 : ∀ (T51 : State) (h51 : Heap) (ls51 : List Loc) (X51 : Stand p l e ({ frames := 3, cells := 48, slots := 134, locals := 60 } : Room) s m #[(.ref o0)] below meth c T51 ls51 26 68) (e51 : T51.heap = h51) (N51 : Fr n0 ls51) (Z51 : n0 ≤ h51.size) (KP51 : Keep h0 h51 []) (Fa51_0 : own_Str Z h51 o0 sb sk (2 : Int32) [(.int u0), (.int u1)]) (Fa51_1 : Old Z n0 h51) (nh10 : ¬ hq.toInt = 10) (nh11 : ¬ hq.toInt = 11) (nh12 : ¬ hq.toInt = 12), own_End p e below s (T51.setTop (mkF m 2 #[.val (.ref o0), .val (.int (13 : Int32))] [])) (Q_rmH2 Z o0 sb sk cz t1 d1 t2 d2 hq u0 u1 h0 n0) ({ frames := 3, cells := 48, slots := 134, locals := 60 } : Room).cells ({ frames := 3, cells := 48, slots := 134, locals := 60 } : Room).slots := by
    intro T51 h51 ls51 X51 e51 N51 Z51 KP51 Fa51_0 Fa51_1 nh10 nh11 nh12
    show own_End p e below s (T51.setTop (mkF m 2 #[.val (.ref o0), .val (.int (13 : Int32))] [])) _ _ _
    refine own_go (fun τ κ => XS.iloadN X51.here hx rfl (hb hby d6_2) rfl κ) ?_
    show own_End p e below s (T51.setTop (mkF m 3 #[.val (.ref o0), .val (.int (13 : Int32))] [(.int (13 : Int32))])) _ _ _
    refine own_go (fun τ κ => XS.bipush X51.here hx rfl (hb hby d6_3) κ) ?_
    show own_End p e below s (T51.setTop (mkF m 5 #[.val (.ref o0), .val (.int (13 : Int32))] [(.int (24 : Int32)), (.int (13 : Int32))])) _ _ _
    refine own_go (fun τ κ => XS.icmpNo X51.here hx rfl (hb hby d6_5) rfl (own_tlt (x := (13 : Int32)) (y := (24 : Int32)) (i := 13) (j := 24) rfl rfl (by decide)).2.1 κ) ?_
    show own_End p e below s (T51.setTop (mkF m 8 #[.val (.ref o0), .val (.int (13 : Int32))] [])) _ _ _
    refine own_go (fun τ κ => XS.iloadN X51.here hx rfl (hb hby d6_8) rfl κ) ?_
    show own_End p e below s (T51.setTop (mkF m 9 #[.val (.ref o0), .val (.int (13 : Int32))] [(.int (13 : Int32))])) _ _ _
    obtain ⟨_, _, ⟨T52, L52, k52, n52⟩, -, X52, ⟨Lc52, hQ52, l52, y52, z52⟩, st52⟩ := Jvm.LawKit.callS X51 hx (y := (⟨"java/lang/Integer", "toString", "(I)Ljava/lang/String;"⟩ : MethodName)) hown (mvT hZ (hw _ (List.mem_of_getElem? (i := 31) rfl))) (mvT hZ (hw _ (List.mem_of_getElem? (i := 32) rfl))) (mvT hZ (hw _ (List.mem_of_getElem? (i := 33) rfl))) (mvT hZ (hw _ (List.mem_of_getElem? (i := 34) rfl))) (by decide) (backOf (W := 0) (rmT2 l Z a0 hw [] (13 : Int32) cz t1 d1 t2 d2 h51 n0 Z51 Fa51_1 S_C hcz S_1 D1 S_2 D2 (by decide) (by decide)) hZ (hw _ (List.mem_of_getElem? (i := 34) rfl)) (hw _ (List.mem_of_getElem? (i := 33) rfl)) (by decide) (by decide)) (g := (mkF m 9 #[.val (.ref o0), .val (.int (13 : Int32))] [(.int (13 : Int32))])) rfl (by rw [hml]; rfl) (argsL := [(.int (13 : Int32))]) (rest := []) (lenOf own_pd10 rfl) rfl (by show 2 * 0 + _ ≤ _; exact Nat.le_of_eq rfl) (hb hby d6_9) (fun _ _ => ⟨rfl, e51, (by decide : 26 + 2 ≤ _), (by decide : 68 + 6 ≤ _)⟩)
    dsimp only [Pt.U, Pt.locs, Pt.cells, Pt.slots] at X52 l52 y52 z52 st52 hQ52
    subst l52 y52 z52
    obtain ⟨⟨sa52, sb52, sk52, y13_0, y13_1, rfl, za52, zb52, Ss52, K52, hy52⟩, N52q⟩ := hQ52
    have N52 := Fr.app N51 N52q
    obtain ⟨ls52, Xl52, Nl52⟩ := own_abs X52 N52
    have Z52 : n0 ≤ T52.heap.size := Nat.le_trans Z51 K52.1
    refine own_go st52 ?_
    show own_End p e below s (T52.setTop (mkF m 12 #[.val (.ref o0), .val (.int (13 : Int32))] [(.ref sa52)])) _ _ _
    have g_sa52 : n0 ≤ sa52 := Nat.le_trans Z51 za52
    have sz_sa52 : h0.size ≤ sa52 := Nat.le_trans KP51.1 za52
    have ne_o0_sa52 : o0 ≠ sa52 := Nat.ne_of_lt (Nat.lt_of_lt_of_le Fa51_0.lt za52)
    have ne_sb_sa52 : sb ≠ sa52 := Nat.ne_of_lt (Nat.lt_of_lt_of_le Fa51_0.ltb za52)
    have g_sb52 : n0 ≤ sb52 := Nat.le_trans Z51 zb52
    have sz_sb52 : h0.size ≤ sb52 := Nat.le_trans KP51.1 zb52
    have ne_o0_sb52 : o0 ≠ sb52 := Nat.ne_of_lt (Nat.lt_of_lt_of_le Fa51_0.lt zb52)
    have ne_sb_sb52 : sb ≠ sb52 := Nat.ne_of_lt (Nat.lt_of_lt_of_le Fa51_0.ltb zb52)
    have KP52 := KP51.trans K52 all0
    refine own_go (fun τ κ => XS.aloadN Xl52.here hx rfl (hb hby d6_12) rfl rfl κ) ?_
    show own_End p e below s (T52.setTop (mkF m 13 #[.val (.ref o0), .val (.int (13 : Int32))] [(.ref o0), (.ref sa52)])) _ _ _
    have U53 := (Fa51_0.keep K52 nin0 nin0)
    have U54 := (Fa51_1.keep K52 all0)
    obtain ⟨cq55, kq55, q55a, q55b, q55c⟩ := isOf hZ rfl Ss52.1
    obtain ⟨_, _, ⟨T55, L55, k55, n55⟩, -, X55, ⟨Lc55, hQ55, l55, y55, z55⟩, st55⟩ := Xl52.virtualBack hx (y := (⟨"java/lang/String", "equals", "(Ljava/lang/Object;)Z"⟩ : MethodName)) (z := (⟨"java/lang/String", "equals", "(Ljava/lang/Object;)Z"⟩ : MethodName)) hown (mvT hZ (hw _ (List.mem_of_getElem? (i := 45) rfl))) (mvT hZ (hw _ (List.mem_of_getElem? (i := 46) rfl))) (notFace_of_selects (args := #[]) (mvT hZ (hw _ (List.mem_of_getElem? (i := 48) rfl)))) (mvT hZ (hw _ (List.mem_of_getElem? (i := 48) rfl))) (mvT hZ (hw _ (List.mem_of_getElem? (i := 47) rfl))) (by decide) (backOf (W := 0) (rmE2_2 l Z a0 hw [] sa52 o0 sb52 sk52 sb sk cz y13_0 y13_1 u0 u1 T52.heap n0 Z52 (Ne.symm ne_o0_sa52) Ss52 U53 U54 S_C hcz) hZ (hw _ (List.mem_of_getElem? (i := 49) rfl)) (hw _ (List.mem_of_getElem? (i := 3) rfl)) (by decide) (by decide)) q55a q55c (g := (mkF m 13 #[.val (.ref o0), .val (.int (13 : Int32))] [(.ref o0), (.ref sa52)])) rfl (by rw [hml]; rfl) (Steps.refl _) (argsL := [(.ref o0)]) (rest := []) (lenOf own_pd11 rfl) rfl (by show 2 * 0 + _ ≤ _; exact Nat.le_of_eq rfl) (hb hby d6_13) (fun _ _ => ⟨rfl, rfl, (by decide : 28 + 0 ≤ _), (by decide : 74 + 0 ≤ _)⟩)
    dsimp only [Pt.U, Pt.locs, Pt.cells, Pt.slots] at X55 l55 y55 z55 st55 hQ55
    subst l55 y55 z55
    obtain ⟨⟨r55, rfl, hr55⟩, N55q, e55⟩ := hQ55
    have N55 := Fr.app Nl52 N55q
    obtain ⟨ls55, Xl55, Nl55⟩ := own_abs X55 N55
    refine own_go (fun τ κ => st55.trans κ) ?_
    show own_End p e below s (T55.setTop (mkF m 16 #[.val (.ref o0), .val (.int (13 : Int32))] [(.int r55)])) _ _ _
    by_cases nh13 : hq.toInt = 13
    · skip
      refine own_go (fun τ κ => XS.ifNo Xl55.here hx rfl (hb hby d6_16) rfl ((if0 _ _).trans (own_ne (x := r55) (y := (0 : Int32)) (i := r55.toInt) (j := 0) rfl rfl (own_q2y (i := 13) hu hy52 hr55 nh13)).1) κ) ?_
      show own_End p e below s (T55.setTop (mkF m 19 #[.val (.ref o0), .val (.int (13 : Int32))] [])) _ _ _
      refine own_go (fun τ κ => XS.iloadN Xl55.here hx rfl (hb hby d6_19) rfl κ) ?_
      show own_End p e below s (T55.setTop (mkF m 20 #[.val (.ref o0), .val (.int (13 : Int32))] [(.int (13 : Int32))])) _ _ _
      refine own_ret Xl55 (v := some (.int (13 : Int32))) (fun h => by rw [Bd.returns] at h; cases h) Bd.notSynchronized (fun fs hr => retI Xl55 hx Bd.returns (hb hby d6_20) hr) ?_ (by decide) (by decide)
      · rw [e55]; exact ⟨⟨_, rfl, nh13.symm⟩, Nl55, KP52⟩
    · skip
      refine own_go (fun τ κ => XS.ifYes Xl55.here hx rfl (pc0 := 16) (pc' := 21) rfl (hb hby d6_16) rfl ((if0 _ _).trans (own_eq (x := r55) (y := (0 : Int32)) (i := r55.toInt) (j := 0) rfl rfl (own_q2n (i := 13) hu hy52 hr55 nh13)).1) (by decide) (by decide) κ) ?_
      show own_End p e below s (T55.setTop (mkF m 21 #[.val (.ref o0), .val (.int (13 : Int32))] [])) _ _ _
      refine own_go (fun τ κ => XS.iinc Xl55.here hx rfl (hb hby d6_21) rfl (l' := #[.val (.ref o0), .val (.int (14 : Int32))]) rfl κ) ?_
      show own_End p e below s (T55.setTop (mkF m 24 #[.val (.ref o0), .val (.int (14 : Int32))] [])) _ _ _
      refine own_go (fun τ κ => XS.goto Xl55.here hx rfl (pc0 := 24) (pc' := 2) rfl (hb hby d6_24) (by decide) (by decide) κ) ?_
      show own_End p e below s (T55.setTop (mkF m 2 #[.val (.ref o0), .val (.int (14 : Int32))] [])) _ _ _
      exact J14 T55 T52.heap _ Xl55 e55 Nl55 Z52 KP52 U53 U54 nh10 nh11 nh12 nh13
  have J12 : ∀ (T56 : State) (h56 : Heap) (ls56 : List Loc) (X56 : Stand p l e ({ frames := 3, cells := 48, slots := 134, locals := 60 } : Room) s m #[(.ref o0)] below meth c T56 ls56 24 62) (e56 : T56.heap = h56) (N56 : Fr n0 ls56) (Z56 : n0 ≤ h56.size) (KP56 : Keep h0 h56 []) (Fa56_0 : own_Str Z h56 o0 sb sk (2 : Int32) [(.int u0), (.int u1)]) (Fa56_1 : Old Z n0 h56) (nh10 : ¬ hq.toInt = 10) (nh11 : ¬ hq.toInt = 11), own_End p e below s (T56.setTop (mkF m 2 #[.val (.ref o0), .val (.int (12 : Int32))] [])) (Q_rmH2 Z o0 sb sk cz t1 d1 t2 d2 hq u0 u1 h0 n0) ({ frames := 3, cells := 48, slots := 134, locals := 60 } : Room).cells ({ frames := 3, cells := 48, slots := 134, locals := 60 } : Room).slots := by
    intro T56 h56 ls56 X56 e56 N56 Z56 KP56 Fa56_0 Fa56_1 nh10 nh11
    show own_End p e below s (T56.setTop (mkF m 2 #[.val (.ref o0), .val (.int (12 : Int32))] [])) _ _ _
    refine own_go (fun τ κ => XS.iloadN X56.here hx rfl (hb hby d6_2) rfl κ) ?_
    show own_End p e below s (T56.setTop (mkF m 3 #[.val (.ref o0), .val (.int (12 : Int32))] [(.int (12 : Int32))])) _ _ _
    refine own_go (fun τ κ => XS.bipush X56.here hx rfl (hb hby d6_3) κ) ?_
    show own_End p e below s (T56.setTop (mkF m 5 #[.val (.ref o0), .val (.int (12 : Int32))] [(.int (24 : Int32)), (.int (12 : Int32))])) _ _ _
    refine own_go (fun τ κ => XS.icmpNo X56.here hx rfl (hb hby d6_5) rfl (own_tlt (x := (12 : Int32)) (y := (24 : Int32)) (i := 12) (j := 24) rfl rfl (by decide)).2.1 κ) ?_
    show own_End p e below s (T56.setTop (mkF m 8 #[.val (.ref o0), .val (.int (12 : Int32))] [])) _ _ _
    refine own_go (fun τ κ => XS.iloadN X56.here hx rfl (hb hby d6_8) rfl κ) ?_
    show own_End p e below s (T56.setTop (mkF m 9 #[.val (.ref o0), .val (.int (12 : Int32))] [(.int (12 : Int32))])) _ _ _
    obtain ⟨_, _, ⟨T57, L57, k57, n57⟩, -, X57, ⟨Lc57, hQ57, l57, y57, z57⟩, st57⟩ := Jvm.LawKit.callS X56 hx (y := (⟨"java/lang/Integer", "toString", "(I)Ljava/lang/String;"⟩ : MethodName)) hown (mvT hZ (hw _ (List.mem_of_getElem? (i := 31) rfl))) (mvT hZ (hw _ (List.mem_of_getElem? (i := 32) rfl))) (mvT hZ (hw _ (List.mem_of_getElem? (i := 33) rfl))) (mvT hZ (hw _ (List.mem_of_getElem? (i := 34) rfl))) (by decide) (backOf (W := 0) (rmT2 l Z a0 hw [] (12 : Int32) cz t1 d1 t2 d2 h56 n0 Z56 Fa56_1 S_C hcz S_1 D1 S_2 D2 (by decide) (by decide)) hZ (hw _ (List.mem_of_getElem? (i := 34) rfl)) (hw _ (List.mem_of_getElem? (i := 33) rfl)) (by decide) (by decide)) (g := (mkF m 9 #[.val (.ref o0), .val (.int (12 : Int32))] [(.int (12 : Int32))])) rfl (by rw [hml]; rfl) (argsL := [(.int (12 : Int32))]) (rest := []) (lenOf own_pd10 rfl) rfl (by show 2 * 0 + _ ≤ _; exact Nat.le_of_eq rfl) (hb hby d6_9) (fun _ _ => ⟨rfl, e56, (by decide : 24 + 2 ≤ _), (by decide : 62 + 6 ≤ _)⟩)
    dsimp only [Pt.U, Pt.locs, Pt.cells, Pt.slots] at X57 l57 y57 z57 st57 hQ57
    subst l57 y57 z57
    obtain ⟨⟨sa57, sb57, sk57, y12_0, y12_1, rfl, za57, zb57, Ss57, K57, hy57⟩, N57q⟩ := hQ57
    have N57 := Fr.app N56 N57q
    obtain ⟨ls57, Xl57, Nl57⟩ := own_abs X57 N57
    have Z57 : n0 ≤ T57.heap.size := Nat.le_trans Z56 K57.1
    refine own_go st57 ?_
    show own_End p e below s (T57.setTop (mkF m 12 #[.val (.ref o0), .val (.int (12 : Int32))] [(.ref sa57)])) _ _ _
    have g_sa57 : n0 ≤ sa57 := Nat.le_trans Z56 za57
    have sz_sa57 : h0.size ≤ sa57 := Nat.le_trans KP56.1 za57
    have ne_o0_sa57 : o0 ≠ sa57 := Nat.ne_of_lt (Nat.lt_of_lt_of_le Fa56_0.lt za57)
    have ne_sb_sa57 : sb ≠ sa57 := Nat.ne_of_lt (Nat.lt_of_lt_of_le Fa56_0.ltb za57)
    have g_sb57 : n0 ≤ sb57 := Nat.le_trans Z56 zb57
    have sz_sb57 : h0.size ≤ sb57 := Nat.le_trans KP56.1 zb57
    have ne_o0_sb57 : o0 ≠ sb57 := Nat.ne_of_lt (Nat.lt_of_lt_of_le Fa56_0.lt zb57)
    have ne_sb_sb57 : sb ≠ sb57 := Nat.ne_of_lt (Nat.lt_of_lt_of_le Fa56_0.ltb zb57)
    have KP57 := KP56.trans K57 all0
    refine own_go (fun τ κ => XS.aloadN Xl57.here hx rfl (hb hby d6_12) rfl rfl κ) ?_
    show own_End p e below s (T57.setTop (mkF m 13 #[.val (.ref o0), .val (.int (12 : Int32))] [(.ref o0), (.ref sa57)])) _ _ _
    have U58 := (Fa56_0.keep K57 nin0 nin0)
    have U59 := (Fa56_1.keep K57 all0)
    obtain ⟨cq60, kq60, q60a, q60b, q60c⟩ := isOf hZ rfl Ss57.1
    obtain ⟨_, _, ⟨T60, L60, k60, n60⟩, -, X60, ⟨Lc60, hQ60, l60, y60, z60⟩, st60⟩ := Xl57.virtualBack hx (y := (⟨"java/lang/String", "equals", "(Ljava/lang/Object;)Z"⟩ : MethodName)) (z := (⟨"java/lang/String", "equals", "(Ljava/lang/Object;)Z"⟩ : MethodName)) hown (mvT hZ (hw _ (List.mem_of_getElem? (i := 45) rfl))) (mvT hZ (hw _ (List.mem_of_getElem? (i := 46) rfl))) (notFace_of_selects (args := #[]) (mvT hZ (hw _ (List.mem_of_getElem? (i := 48) rfl)))) (mvT hZ (hw _ (List.mem_of_getElem? (i := 48) rfl))) (mvT hZ (hw _ (List.mem_of_getElem? (i := 47) rfl))) (by decide) (backOf (W := 0) (rmE2_2 l Z a0 hw [] sa57 o0 sb57 sk57 sb sk cz y12_0 y12_1 u0 u1 T57.heap n0 Z57 (Ne.symm ne_o0_sa57) Ss57 U58 U59 S_C hcz) hZ (hw _ (List.mem_of_getElem? (i := 49) rfl)) (hw _ (List.mem_of_getElem? (i := 3) rfl)) (by decide) (by decide)) q60a q60c (g := (mkF m 13 #[.val (.ref o0), .val (.int (12 : Int32))] [(.ref o0), (.ref sa57)])) rfl (by rw [hml]; rfl) (Steps.refl _) (argsL := [(.ref o0)]) (rest := []) (lenOf own_pd11 rfl) rfl (by show 2 * 0 + _ ≤ _; exact Nat.le_of_eq rfl) (hb hby d6_13) (fun _ _ => ⟨rfl, rfl, (by decide : 26 + 0 ≤ _), (by decide : 68 + 0 ≤ _)⟩)
    dsimp only [Pt.U, Pt.locs, Pt.cells, Pt.slots] at X60 l60 y60 z60 st60 hQ60
    subst l60 y60 z60
    obtain ⟨⟨r60, rfl, hr60⟩, N60q, e60⟩ := hQ60
    have N60 := Fr.app Nl57 N60q
    obtain ⟨ls60, Xl60, Nl60⟩ := own_abs X60 N60
    refine own_go (fun τ κ => st60.trans κ) ?_
    show own_End p e below s (T60.setTop (mkF m 16 #[.val (.ref o0), .val (.int (12 : Int32))] [(.int r60)])) _ _ _
    by_cases nh12 : hq.toInt = 12
    · skip
      refine own_go (fun τ κ => XS.ifNo Xl60.here hx rfl (hb hby d6_16) rfl ((if0 _ _).trans (own_ne (x := r60) (y := (0 : Int32)) (i := r60.toInt) (j := 0) rfl rfl (own_q2y (i := 12) hu hy57 hr60 nh12)).1) κ) ?_
      show own_End p e below s (T60.setTop (mkF m 19 #[.val (.ref o0), .val (.int (12 : Int32))] [])) _ _ _
      refine own_go (fun τ κ => XS.iloadN Xl60.here hx rfl (hb hby d6_19) rfl κ) ?_
      show own_End p e below s (T60.setTop (mkF m 20 #[.val (.ref o0), .val (.int (12 : Int32))] [(.int (12 : Int32))])) _ _ _
      refine own_ret Xl60 (v := some (.int (12 : Int32))) (fun h => by rw [Bd.returns] at h; cases h) Bd.notSynchronized (fun fs hr => retI Xl60 hx Bd.returns (hb hby d6_20) hr) ?_ (by decide) (by decide)
      · rw [e60]; exact ⟨⟨_, rfl, nh12.symm⟩, Nl60, KP57⟩
    · skip
      refine own_go (fun τ κ => XS.ifYes Xl60.here hx rfl (pc0 := 16) (pc' := 21) rfl (hb hby d6_16) rfl ((if0 _ _).trans (own_eq (x := r60) (y := (0 : Int32)) (i := r60.toInt) (j := 0) rfl rfl (own_q2n (i := 12) hu hy57 hr60 nh12)).1) (by decide) (by decide) κ) ?_
      show own_End p e below s (T60.setTop (mkF m 21 #[.val (.ref o0), .val (.int (12 : Int32))] [])) _ _ _
      refine own_go (fun τ κ => XS.iinc Xl60.here hx rfl (hb hby d6_21) rfl (l' := #[.val (.ref o0), .val (.int (13 : Int32))]) rfl κ) ?_
      show own_End p e below s (T60.setTop (mkF m 24 #[.val (.ref o0), .val (.int (13 : Int32))] [])) _ _ _
      refine own_go (fun τ κ => XS.goto Xl60.here hx rfl (pc0 := 24) (pc' := 2) rfl (hb hby d6_24) (by decide) (by decide) κ) ?_
      show own_End p e below s (T60.setTop (mkF m 2 #[.val (.ref o0), .val (.int (13 : Int32))] [])) _ _ _
      exact J13 T60 T57.heap _ Xl60 e60 Nl60 Z57 KP57 U58 U59 nh10 nh11 nh12
  have J11 : ∀ (T61 : State) (h61 : Heap) (ls61 : List Loc) (X61 : Stand p l e ({ frames := 3, cells := 48, slots := 134, locals := 60 } : Room) s m #[(.ref o0)] below meth c T61 ls61 22 56) (e61 : T61.heap = h61) (N61 : Fr n0 ls61) (Z61 : n0 ≤ h61.size) (KP61 : Keep h0 h61 []) (Fa61_0 : own_Str Z h61 o0 sb sk (2 : Int32) [(.int u0), (.int u1)]) (Fa61_1 : Old Z n0 h61) (nh10 : ¬ hq.toInt = 10), own_End p e below s (T61.setTop (mkF m 2 #[.val (.ref o0), .val (.int (11 : Int32))] [])) (Q_rmH2 Z o0 sb sk cz t1 d1 t2 d2 hq u0 u1 h0 n0) ({ frames := 3, cells := 48, slots := 134, locals := 60 } : Room).cells ({ frames := 3, cells := 48, slots := 134, locals := 60 } : Room).slots := by
    intro T61 h61 ls61 X61 e61 N61 Z61 KP61 Fa61_0 Fa61_1 nh10
    show own_End p e below s (T61.setTop (mkF m 2 #[.val (.ref o0), .val (.int (11 : Int32))] [])) _ _ _
    refine own_go (fun τ κ => XS.iloadN X61.here hx rfl (hb hby d6_2) rfl κ) ?_
    show own_End p e below s (T61.setTop (mkF m 3 #[.val (.ref o0), .val (.int (11 : Int32))] [(.int (11 : Int32))])) _ _ _
    refine own_go (fun τ κ => XS.bipush X61.here hx rfl (hb hby d6_3) κ) ?_
    show own_End p e below s (T61.setTop (mkF m 5 #[.val (.ref o0), .val (.int (11 : Int32))] [(.int (24 : Int32)), (.int (11 : Int32))])) _ _ _
    refine own_go (fun τ κ => XS.icmpNo X61.here hx rfl (hb hby d6_5) rfl (own_tlt (x := (11 : Int32)) (y := (24 : Int32)) (i := 11) (j := 24) rfl rfl (by decide)).2.1 κ) ?_
    show own_End p e below s (T61.setTop (mkF m 8 #[.val (.ref o0), .val (.int (11 : Int32))] [])) _ _ _
    refine own_go (fun τ κ => XS.iloadN X61.here hx rfl (hb hby d6_8) rfl κ) ?_
    show own_End p e below s (T61.setTop (mkF m 9 #[.val (.ref o0), .val (.int (11 : Int32))] [(.int (11 : Int32))])) _ _ _
    obtain ⟨_, _, ⟨T62, L62, k62, n62⟩, -, X62, ⟨Lc62, hQ62, l62, y62, z62⟩, st62⟩ := Jvm.LawKit.callS X61 hx (y := (⟨"java/lang/Integer", "toString", "(I)Ljava/lang/String;"⟩ : MethodName)) hown (mvT hZ (hw _ (List.mem_of_getElem? (i := 31) rfl))) (mvT hZ (hw _ (List.mem_of_getElem? (i := 32) rfl))) (mvT hZ (hw _ (List.mem_of_getElem? (i := 33) rfl))) (mvT hZ (hw _ (List.mem_of_getElem? (i := 34) rfl))) (by decide) (backOf (W := 0) (rmT2 l Z a0 hw [] (11 : Int32) cz t1 d1 t2 d2 h61 n0 Z61 Fa61_1 S_C hcz S_1 D1 S_2 D2 (by decide) (by decide)) hZ (hw _ (List.mem_of_getElem? (i := 34) rfl)) (hw _ (List.mem_of_getElem? (i := 33) rfl)) (by decide) (by decide)) (g := (mkF m 9 #[.val (.ref o0), .val (.int (11 : Int32))] [(.int (11 : Int32))])) rfl (by rw [hml]; rfl) (argsL := [(.int (11 : Int32))]) (rest := []) (lenOf own_pd10 rfl) rfl (by show 2 * 0 + _ ≤ _; exact Nat.le_of_eq rfl) (hb hby d6_9) (fun _ _ => ⟨rfl, e61, (by decide : 22 + 2 ≤ _), (by decide : 56 + 6 ≤ _)⟩)
    dsimp only [Pt.U, Pt.locs, Pt.cells, Pt.slots] at X62 l62 y62 z62 st62 hQ62
    subst l62 y62 z62
    obtain ⟨⟨sa62, sb62, sk62, y11_0, y11_1, rfl, za62, zb62, Ss62, K62, hy62⟩, N62q⟩ := hQ62
    have N62 := Fr.app N61 N62q
    obtain ⟨ls62, Xl62, Nl62⟩ := own_abs X62 N62
    have Z62 : n0 ≤ T62.heap.size := Nat.le_trans Z61 K62.1
    refine own_go st62 ?_
    show own_End p e below s (T62.setTop (mkF m 12 #[.val (.ref o0), .val (.int (11 : Int32))] [(.ref sa62)])) _ _ _
    have g_sa62 : n0 ≤ sa62 := Nat.le_trans Z61 za62
    have sz_sa62 : h0.size ≤ sa62 := Nat.le_trans KP61.1 za62
    have ne_o0_sa62 : o0 ≠ sa62 := Nat.ne_of_lt (Nat.lt_of_lt_of_le Fa61_0.lt za62)
    have ne_sb_sa62 : sb ≠ sa62 := Nat.ne_of_lt (Nat.lt_of_lt_of_le Fa61_0.ltb za62)
    have g_sb62 : n0 ≤ sb62 := Nat.le_trans Z61 zb62
    have sz_sb62 : h0.size ≤ sb62 := Nat.le_trans KP61.1 zb62
    have ne_o0_sb62 : o0 ≠ sb62 := Nat.ne_of_lt (Nat.lt_of_lt_of_le Fa61_0.lt zb62)
    have ne_sb_sb62 : sb ≠ sb62 := Nat.ne_of_lt (Nat.lt_of_lt_of_le Fa61_0.ltb zb62)
    have KP62 := KP61.trans K62 all0
    refine own_go (fun τ κ => XS.aloadN Xl62.here hx rfl (hb hby d6_12) rfl rfl κ) ?_
    show own_End p e below s (T62.setTop (mkF m 13 #[.val (.ref o0), .val (.int (11 : Int32))] [(.ref o0), (.ref sa62)])) _ _ _
    have U63 := (Fa61_0.keep K62 nin0 nin0)
    have U64 := (Fa61_1.keep K62 all0)
    obtain ⟨cq65, kq65, q65a, q65b, q65c⟩ := isOf hZ rfl Ss62.1
    obtain ⟨_, _, ⟨T65, L65, k65, n65⟩, -, X65, ⟨Lc65, hQ65, l65, y65, z65⟩, st65⟩ := Xl62.virtualBack hx (y := (⟨"java/lang/String", "equals", "(Ljava/lang/Object;)Z"⟩ : MethodName)) (z := (⟨"java/lang/String", "equals", "(Ljava/lang/Object;)Z"⟩ : MethodName)) hown (mvT hZ (hw _ (List.mem_of_getElem? (i := 45) rfl))) (mvT hZ (hw _ (List.mem_of_getElem? (i := 46) rfl))) (notFace_of_selects (args := #[]) (mvT hZ (hw _ (List.mem_of_getElem? (i := 48) rfl)))) (mvT hZ (hw _ (List.mem_of_getElem? (i := 48) rfl))) (mvT hZ (hw _ (List.mem_of_getElem? (i := 47) rfl))) (by decide) (backOf (W := 0) (rmE2_2 l Z a0 hw [] sa62 o0 sb62 sk62 sb sk cz y11_0 y11_1 u0 u1 T62.heap n0 Z62 (Ne.symm ne_o0_sa62) Ss62 U63 U64 S_C hcz) hZ (hw _ (List.mem_of_getElem? (i := 49) rfl)) (hw _ (List.mem_of_getElem? (i := 3) rfl)) (by decide) (by decide)) q65a q65c (g := (mkF m 13 #[.val (.ref o0), .val (.int (11 : Int32))] [(.ref o0), (.ref sa62)])) rfl (by rw [hml]; rfl) (Steps.refl _) (argsL := [(.ref o0)]) (rest := []) (lenOf own_pd11 rfl) rfl (by show 2 * 0 + _ ≤ _; exact Nat.le_of_eq rfl) (hb hby d6_13) (fun _ _ => ⟨rfl, rfl, (by decide : 24 + 0 ≤ _), (by decide : 62 + 0 ≤ _)⟩)
    dsimp only [Pt.U, Pt.locs, Pt.cells, Pt.slots] at X65 l65 y65 z65 st65 hQ65
    subst l65 y65 z65
    obtain ⟨⟨r65, rfl, hr65⟩, N65q, e65⟩ := hQ65
    have N65 := Fr.app Nl62 N65q
    obtain ⟨ls65, Xl65, Nl65⟩ := own_abs X65 N65
    refine own_go (fun τ κ => st65.trans κ) ?_
    show own_End p e below s (T65.setTop (mkF m 16 #[.val (.ref o0), .val (.int (11 : Int32))] [(.int r65)])) _ _ _
    by_cases nh11 : hq.toInt = 11
    · skip
      refine own_go (fun τ κ => XS.ifNo Xl65.here hx rfl (hb hby d6_16) rfl ((if0 _ _).trans (own_ne (x := r65) (y := (0 : Int32)) (i := r65.toInt) (j := 0) rfl rfl (own_q2y (i := 11) hu hy62 hr65 nh11)).1) κ) ?_
      show own_End p e below s (T65.setTop (mkF m 19 #[.val (.ref o0), .val (.int (11 : Int32))] [])) _ _ _
      refine own_go (fun τ κ => XS.iloadN Xl65.here hx rfl (hb hby d6_19) rfl κ) ?_
      show own_End p e below s (T65.setTop (mkF m 20 #[.val (.ref o0), .val (.int (11 : Int32))] [(.int (11 : Int32))])) _ _ _
      refine own_ret Xl65 (v := some (.int (11 : Int32))) (fun h => by rw [Bd.returns] at h; cases h) Bd.notSynchronized (fun fs hr => retI Xl65 hx Bd.returns (hb hby d6_20) hr) ?_ (by decide) (by decide)
      · rw [e65]; exact ⟨⟨_, rfl, nh11.symm⟩, Nl65, KP62⟩
    · skip
      refine own_go (fun τ κ => XS.ifYes Xl65.here hx rfl (pc0 := 16) (pc' := 21) rfl (hb hby d6_16) rfl ((if0 _ _).trans (own_eq (x := r65) (y := (0 : Int32)) (i := r65.toInt) (j := 0) rfl rfl (own_q2n (i := 11) hu hy62 hr65 nh11)).1) (by decide) (by decide) κ) ?_
      show own_End p e below s (T65.setTop (mkF m 21 #[.val (.ref o0), .val (.int (11 : Int32))] [])) _ _ _
      refine own_go (fun τ κ => XS.iinc Xl65.here hx rfl (hb hby d6_21) rfl (l' := #[.val (.ref o0), .val (.int (12 : Int32))]) rfl κ) ?_
      show own_End p e below s (T65.setTop (mkF m 24 #[.val (.ref o0), .val (.int (12 : Int32))] [])) _ _ _
      refine own_go (fun τ κ => XS.goto Xl65.here hx rfl (pc0 := 24) (pc' := 2) rfl (hb hby d6_24) (by decide) (by decide) κ) ?_
      show own_End p e below s (T65.setTop (mkF m 2 #[.val (.ref o0), .val (.int (12 : Int32))] [])) _ _ _
      exact J12 T65 T62.heap _ Xl65 e65 Nl65 Z62 KP62 U63 U64 nh10 nh11
  have J10 : ∀ (T66 : State) (h66 : Heap) (ls66 : List Loc) (X66 : Stand p l e ({ frames := 3, cells := 48, slots := 134, locals := 60 } : Room) s m #[(.ref o0)] below meth c T66 ls66 20 50) (e66 : T66.heap = h66) (N66 : Fr n0 ls66) (Z66 : n0 ≤ h66.size) (KP66 : Keep h0 h66 []) (Fa66_0 : own_Str Z h66 o0 sb sk (2 : Int32) [(.int u0), (.int u1)]) (Fa66_1 : Old Z n0 h66) , own_End p e below s (T66.setTop (mkF m 2 #[.val (.ref o0), .val (.int (10 : Int32))] [])) (Q_rmH2 Z o0 sb sk cz t1 d1 t2 d2 hq u0 u1 h0 n0) ({ frames := 3, cells := 48, slots := 134, locals := 60 } : Room).cells ({ frames := 3, cells := 48, slots := 134, locals := 60 } : Room).slots := by
    intro T66 h66 ls66 X66 e66 N66 Z66 KP66 Fa66_0 Fa66_1 
    show own_End p e below s (T66.setTop (mkF m 2 #[.val (.ref o0), .val (.int (10 : Int32))] [])) _ _ _
    refine own_go (fun τ κ => XS.iloadN X66.here hx rfl (hb hby d6_2) rfl κ) ?_
    show own_End p e below s (T66.setTop (mkF m 3 #[.val (.ref o0), .val (.int (10 : Int32))] [(.int (10 : Int32))])) _ _ _
    refine own_go (fun τ κ => XS.bipush X66.here hx rfl (hb hby d6_3) κ) ?_
    show own_End p e below s (T66.setTop (mkF m 5 #[.val (.ref o0), .val (.int (10 : Int32))] [(.int (24 : Int32)), (.int (10 : Int32))])) _ _ _
    refine own_go (fun τ κ => XS.icmpNo X66.here hx rfl (hb hby d6_5) rfl (own_tlt (x := (10 : Int32)) (y := (24 : Int32)) (i := 10) (j := 24) rfl rfl (by decide)).2.1 κ) ?_
    show own_End p e below s (T66.setTop (mkF m 8 #[.val (.ref o0), .val (.int (10 : Int32))] [])) _ _ _
    refine own_go (fun τ κ => XS.iloadN X66.here hx rfl (hb hby d6_8) rfl κ) ?_
    show own_End p e below s (T66.setTop (mkF m 9 #[.val (.ref o0), .val (.int (10 : Int32))] [(.int (10 : Int32))])) _ _ _
    obtain ⟨_, _, ⟨T67, L67, k67, n67⟩, -, X67, ⟨Lc67, hQ67, l67, y67, z67⟩, st67⟩ := Jvm.LawKit.callS X66 hx (y := (⟨"java/lang/Integer", "toString", "(I)Ljava/lang/String;"⟩ : MethodName)) hown (mvT hZ (hw _ (List.mem_of_getElem? (i := 31) rfl))) (mvT hZ (hw _ (List.mem_of_getElem? (i := 32) rfl))) (mvT hZ (hw _ (List.mem_of_getElem? (i := 33) rfl))) (mvT hZ (hw _ (List.mem_of_getElem? (i := 34) rfl))) (by decide) (backOf (W := 0) (rmT2 l Z a0 hw [] (10 : Int32) cz t1 d1 t2 d2 h66 n0 Z66 Fa66_1 S_C hcz S_1 D1 S_2 D2 (by decide) (by decide)) hZ (hw _ (List.mem_of_getElem? (i := 34) rfl)) (hw _ (List.mem_of_getElem? (i := 33) rfl)) (by decide) (by decide)) (g := (mkF m 9 #[.val (.ref o0), .val (.int (10 : Int32))] [(.int (10 : Int32))])) rfl (by rw [hml]; rfl) (argsL := [(.int (10 : Int32))]) (rest := []) (lenOf own_pd10 rfl) rfl (by show 2 * 0 + _ ≤ _; exact Nat.le_of_eq rfl) (hb hby d6_9) (fun _ _ => ⟨rfl, e66, (by decide : 20 + 2 ≤ _), (by decide : 50 + 6 ≤ _)⟩)
    dsimp only [Pt.U, Pt.locs, Pt.cells, Pt.slots] at X67 l67 y67 z67 st67 hQ67
    subst l67 y67 z67
    obtain ⟨⟨sa67, sb67, sk67, y10_0, y10_1, rfl, za67, zb67, Ss67, K67, hy67⟩, N67q⟩ := hQ67
    have N67 := Fr.app N66 N67q
    obtain ⟨ls67, Xl67, Nl67⟩ := own_abs X67 N67
    have Z67 : n0 ≤ T67.heap.size := Nat.le_trans Z66 K67.1
    refine own_go st67 ?_
    show own_End p e below s (T67.setTop (mkF m 12 #[.val (.ref o0), .val (.int (10 : Int32))] [(.ref sa67)])) _ _ _
    have g_sa67 : n0 ≤ sa67 := Nat.le_trans Z66 za67
    have sz_sa67 : h0.size ≤ sa67 := Nat.le_trans KP66.1 za67
    have ne_o0_sa67 : o0 ≠ sa67 := Nat.ne_of_lt (Nat.lt_of_lt_of_le Fa66_0.lt za67)
    have ne_sb_sa67 : sb ≠ sa67 := Nat.ne_of_lt (Nat.lt_of_lt_of_le Fa66_0.ltb za67)
    have g_sb67 : n0 ≤ sb67 := Nat.le_trans Z66 zb67
    have sz_sb67 : h0.size ≤ sb67 := Nat.le_trans KP66.1 zb67
    have ne_o0_sb67 : o0 ≠ sb67 := Nat.ne_of_lt (Nat.lt_of_lt_of_le Fa66_0.lt zb67)
    have ne_sb_sb67 : sb ≠ sb67 := Nat.ne_of_lt (Nat.lt_of_lt_of_le Fa66_0.ltb zb67)
    have KP67 := KP66.trans K67 all0
    refine own_go (fun τ κ => XS.aloadN Xl67.here hx rfl (hb hby d6_12) rfl rfl κ) ?_
    show own_End p e below s (T67.setTop (mkF m 13 #[.val (.ref o0), .val (.int (10 : Int32))] [(.ref o0), (.ref sa67)])) _ _ _
    have U68 := (Fa66_0.keep K67 nin0 nin0)
    have U69 := (Fa66_1.keep K67 all0)
    obtain ⟨cq70, kq70, q70a, q70b, q70c⟩ := isOf hZ rfl Ss67.1
    obtain ⟨_, _, ⟨T70, L70, k70, n70⟩, -, X70, ⟨Lc70, hQ70, l70, y70, z70⟩, st70⟩ := Xl67.virtualBack hx (y := (⟨"java/lang/String", "equals", "(Ljava/lang/Object;)Z"⟩ : MethodName)) (z := (⟨"java/lang/String", "equals", "(Ljava/lang/Object;)Z"⟩ : MethodName)) hown (mvT hZ (hw _ (List.mem_of_getElem? (i := 45) rfl))) (mvT hZ (hw _ (List.mem_of_getElem? (i := 46) rfl))) (notFace_of_selects (args := #[]) (mvT hZ (hw _ (List.mem_of_getElem? (i := 48) rfl)))) (mvT hZ (hw _ (List.mem_of_getElem? (i := 48) rfl))) (mvT hZ (hw _ (List.mem_of_getElem? (i := 47) rfl))) (by decide) (backOf (W := 0) (rmE2_2 l Z a0 hw [] sa67 o0 sb67 sk67 sb sk cz y10_0 y10_1 u0 u1 T67.heap n0 Z67 (Ne.symm ne_o0_sa67) Ss67 U68 U69 S_C hcz) hZ (hw _ (List.mem_of_getElem? (i := 49) rfl)) (hw _ (List.mem_of_getElem? (i := 3) rfl)) (by decide) (by decide)) q70a q70c (g := (mkF m 13 #[.val (.ref o0), .val (.int (10 : Int32))] [(.ref o0), (.ref sa67)])) rfl (by rw [hml]; rfl) (Steps.refl _) (argsL := [(.ref o0)]) (rest := []) (lenOf own_pd11 rfl) rfl (by show 2 * 0 + _ ≤ _; exact Nat.le_of_eq rfl) (hb hby d6_13) (fun _ _ => ⟨rfl, rfl, (by decide : 22 + 0 ≤ _), (by decide : 56 + 0 ≤ _)⟩)
    dsimp only [Pt.U, Pt.locs, Pt.cells, Pt.slots] at X70 l70 y70 z70 st70 hQ70
    subst l70 y70 z70
    obtain ⟨⟨r70, rfl, hr70⟩, N70q, e70⟩ := hQ70
    have N70 := Fr.app Nl67 N70q
    obtain ⟨ls70, Xl70, Nl70⟩ := own_abs X70 N70
    refine own_go (fun τ κ => st70.trans κ) ?_
    show own_End p e below s (T70.setTop (mkF m 16 #[.val (.ref o0), .val (.int (10 : Int32))] [(.int r70)])) _ _ _
    by_cases nh10 : hq.toInt = 10
    · skip
      refine own_go (fun τ κ => XS.ifNo Xl70.here hx rfl (hb hby d6_16) rfl ((if0 _ _).trans (own_ne (x := r70) (y := (0 : Int32)) (i := r70.toInt) (j := 0) rfl rfl (own_q2y (i := 10) hu hy67 hr70 nh10)).1) κ) ?_
      show own_End p e below s (T70.setTop (mkF m 19 #[.val (.ref o0), .val (.int (10 : Int32))] [])) _ _ _
      refine own_go (fun τ κ => XS.iloadN Xl70.here hx rfl (hb hby d6_19) rfl κ) ?_
      show own_End p e below s (T70.setTop (mkF m 20 #[.val (.ref o0), .val (.int (10 : Int32))] [(.int (10 : Int32))])) _ _ _
      refine own_ret Xl70 (v := some (.int (10 : Int32))) (fun h => by rw [Bd.returns] at h; cases h) Bd.notSynchronized (fun fs hr => retI Xl70 hx Bd.returns (hb hby d6_20) hr) ?_ (by decide) (by decide)
      · rw [e70]; exact ⟨⟨_, rfl, nh10.symm⟩, Nl70, KP67⟩
    · skip
      refine own_go (fun τ κ => XS.ifYes Xl70.here hx rfl (pc0 := 16) (pc' := 21) rfl (hb hby d6_16) rfl ((if0 _ _).trans (own_eq (x := r70) (y := (0 : Int32)) (i := r70.toInt) (j := 0) rfl rfl (own_q2n (i := 10) hu hy67 hr70 nh10)).1) (by decide) (by decide) κ) ?_
      show own_End p e below s (T70.setTop (mkF m 21 #[.val (.ref o0), .val (.int (10 : Int32))] [])) _ _ _
      refine own_go (fun τ κ => XS.iinc Xl70.here hx rfl (hb hby d6_21) rfl (l' := #[.val (.ref o0), .val (.int (11 : Int32))]) rfl κ) ?_
      show own_End p e below s (T70.setTop (mkF m 24 #[.val (.ref o0), .val (.int (11 : Int32))] [])) _ _ _
      refine own_go (fun τ κ => XS.goto Xl70.here hx rfl (pc0 := 24) (pc' := 2) rfl (hb hby d6_24) (by decide) (by decide) κ) ?_
      show own_End p e below s (T70.setTop (mkF m 2 #[.val (.ref o0), .val (.int (11 : Int32))] [])) _ _ _
      exact J11 T70 T67.heap _ Xl70 e70 Nl70 Z67 KP67 U68 U69 nh10
  have J9 : ∀ (T71 : State) (h71 : Heap) (ls71 : List Loc) (X71 : Stand p l e ({ frames := 3, cells := 48, slots := 134, locals := 60 } : Room) s m #[(.ref o0)] below meth c T71 ls71 18 45) (e71 : T71.heap = h71) (N71 : Fr n0 ls71) (Z71 : n0 ≤ h71.size) (KP71 : Keep h0 h71 []) (Fa71_0 : own_Str Z h71 o0 sb sk (2 : Int32) [(.int u0), (.int u1)]) (Fa71_1 : Old Z n0 h71) , own_End p e below s (T71.setTop (mkF m 2 #[.val (.ref o0), .val (.int (9 : Int32))] [])) (Q_rmH2 Z o0 sb sk cz t1 d1 t2 d2 hq u0 u1 h0 n0) ({ frames := 3, cells := 48, slots := 134, locals := 60 } : Room).cells ({ frames := 3, cells := 48, slots := 134, locals := 60 } : Room).slots := by
    intro T71 h71 ls71 X71 e71 N71 Z71 KP71 Fa71_0 Fa71_1 
    show own_End p e below s (T71.setTop (mkF m 2 #[.val (.ref o0), .val (.int (9 : Int32))] [])) _ _ _
    refine own_go (fun τ κ => XS.iloadN X71.here hx rfl (hb hby d6_2) rfl κ) ?_
    show own_End p e below s (T71.setTop (mkF m 3 #[.val (.ref o0), .val (.int (9 : Int32))] [(.int (9 : Int32))])) _ _ _
    refine own_go (fun τ κ => XS.bipush X71.here hx rfl (hb hby d6_3) κ) ?_
    show own_End p e below s (T71.setTop (mkF m 5 #[.val (.ref o0), .val (.int (9 : Int32))] [(.int (24 : Int32)), (.int (9 : Int32))])) _ _ _
    refine own_go (fun τ κ => XS.icmpNo X71.here hx rfl (hb hby d6_5) rfl (own_tlt (x := (9 : Int32)) (y := (24 : Int32)) (i := 9) (j := 24) rfl rfl (by decide)).2.1 κ) ?_
    show own_End p e below s (T71.setTop (mkF m 8 #[.val (.ref o0), .val (.int (9 : Int32))] [])) _ _ _
    refine own_go (fun τ κ => XS.iloadN X71.here hx rfl (hb hby d6_8) rfl κ) ?_
    show own_End p e below s (T71.setTop (mkF m 9 #[.val (.ref o0), .val (.int (9 : Int32))] [(.int (9 : Int32))])) _ _ _
    obtain ⟨_, _, ⟨T72, L72, k72, n72⟩, -, X72, ⟨Lc72, hQ72, l72, y72, z72⟩, st72⟩ := Jvm.LawKit.callS X71 hx (y := (⟨"java/lang/Integer", "toString", "(I)Ljava/lang/String;"⟩ : MethodName)) hown (mvT hZ (hw _ (List.mem_of_getElem? (i := 31) rfl))) (mvT hZ (hw _ (List.mem_of_getElem? (i := 32) rfl))) (mvT hZ (hw _ (List.mem_of_getElem? (i := 33) rfl))) (mvT hZ (hw _ (List.mem_of_getElem? (i := 34) rfl))) (by decide) (backOf (W := 0) (rmT1 l Z a0 hw [] (9 : Int32) cz t1 d1 t2 d2 h71 n0 Z71 Fa71_1 S_C hcz S_1 D1 S_2 D2 (by decide) (by decide)) hZ (hw _ (List.mem_of_getElem? (i := 34) rfl)) (hw _ (List.mem_of_getElem? (i := 33) rfl)) (by decide) (by decide)) (g := (mkF m 9 #[.val (.ref o0), .val (.int (9 : Int32))] [(.int (9 : Int32))])) rfl (by rw [hml]; rfl) (argsL := [(.int (9 : Int32))]) (rest := []) (lenOf own_pd10 rfl) rfl (by show 2 * 0 + _ ≤ _; exact Nat.le_of_eq rfl) (hb hby d6_9) (fun _ _ => ⟨rfl, e71, (by decide : 18 + 2 ≤ _), (by decide : 45 + 5 ≤ _)⟩)
    dsimp only [Pt.U, Pt.locs, Pt.cells, Pt.slots] at X72 l72 y72 z72 st72 hQ72
    subst l72 y72 z72
    obtain ⟨⟨sa72, sb72, sk72, y9_0, rfl, za72, zb72, Ss72, K72, hy72⟩, N72q⟩ := hQ72
    have N72 := Fr.app N71 N72q
    obtain ⟨ls72, Xl72, Nl72⟩ := own_abs X72 N72
    have Z72 : n0 ≤ T72.heap.size := Nat.le_trans Z71 K72.1
    refine own_go st72 ?_
    show own_End p e below s (T72.setTop (mkF m 12 #[.val (.ref o0), .val (.int (9 : Int32))] [(.ref sa72)])) _ _ _
    have g_sa72 : n0 ≤ sa72 := Nat.le_trans Z71 za72
    have sz_sa72 : h0.size ≤ sa72 := Nat.le_trans KP71.1 za72
    have ne_o0_sa72 : o0 ≠ sa72 := Nat.ne_of_lt (Nat.lt_of_lt_of_le Fa71_0.lt za72)
    have ne_sb_sa72 : sb ≠ sa72 := Nat.ne_of_lt (Nat.lt_of_lt_of_le Fa71_0.ltb za72)
    have g_sb72 : n0 ≤ sb72 := Nat.le_trans Z71 zb72
    have sz_sb72 : h0.size ≤ sb72 := Nat.le_trans KP71.1 zb72
    have ne_o0_sb72 : o0 ≠ sb72 := Nat.ne_of_lt (Nat.lt_of_lt_of_le Fa71_0.lt zb72)
    have ne_sb_sb72 : sb ≠ sb72 := Nat.ne_of_lt (Nat.lt_of_lt_of_le Fa71_0.ltb zb72)
    have KP72 := KP71.trans K72 all0
    refine own_go (fun τ κ => XS.aloadN Xl72.here hx rfl (hb hby d6_12) rfl rfl κ) ?_
    show own_End p e below s (T72.setTop (mkF m 13 #[.val (.ref o0), .val (.int (9 : Int32))] [(.ref o0), (.ref sa72)])) _ _ _
    have U73 := (Fa71_0.keep K72 nin0 nin0)
    have U74 := (Fa71_1.keep K72 all0)
    obtain ⟨cq75, kq75, q75a, q75b, q75c⟩ := isOf hZ rfl Ss72.1
    obtain ⟨_, _, ⟨T75, L75, k75, n75⟩, -, X75, ⟨Lc75, hQ75, l75, y75, z75⟩, st75⟩ := Xl72.virtualBack hx (y := (⟨"java/lang/String", "equals", "(Ljava/lang/Object;)Z"⟩ : MethodName)) (z := (⟨"java/lang/String", "equals", "(Ljava/lang/Object;)Z"⟩ : MethodName)) hown (mvT hZ (hw _ (List.mem_of_getElem? (i := 45) rfl))) (mvT hZ (hw _ (List.mem_of_getElem? (i := 46) rfl))) (notFace_of_selects (args := #[]) (mvT hZ (hw _ (List.mem_of_getElem? (i := 48) rfl)))) (mvT hZ (hw _ (List.mem_of_getElem? (i := 48) rfl))) (mvT hZ (hw _ (List.mem_of_getElem? (i := 47) rfl))) (by decide) (backOf (W := 0) (rmE1_2 l Z a0 hw [] sa72 o0 sb72 sk72 sb sk cz y9_0 u0 u1 T72.heap n0 Z72 (Ne.symm ne_o0_sa72) Ss72 U73 U74 S_C hcz) hZ (hw _ (List.mem_of_getElem? (i := 49) rfl)) (hw _ (List.mem_of_getElem? (i := 3) rfl)) (by decide) (by decide)) q75a q75c (g := (mkF m 13 #[.val (.ref o0), .val (.int (9 : Int32))] [(.ref o0), (.ref sa72)])) rfl (by rw [hml]; rfl) (Steps.refl _) (argsL := [(.ref o0)]) (rest := []) (lenOf own_pd11 rfl) rfl (by show 2 * 0 + _ ≤ _; exact Nat.le_of_eq rfl) (hb hby d6_13) (fun _ _ => ⟨rfl, rfl, (by decide : 20 + 0 ≤ _), (by decide : 50 + 0 ≤ _)⟩)
    dsimp only [Pt.U, Pt.locs, Pt.cells, Pt.slots] at X75 l75 y75 z75 st75 hQ75
    subst l75 y75 z75
    obtain ⟨rfl, N75q, e75⟩ := hQ75
    have N75 := Fr.app Nl72 N75q
    obtain ⟨ls75, Xl75, Nl75⟩ := own_abs X75 N75
    refine own_go (fun τ κ => st75.trans κ) ?_
    show own_End p e below s (T75.setTop (mkF m 16 #[.val (.ref o0), .val (.int (9 : Int32))] [(.int (0 : Int32))])) _ _ _
    refine own_go (fun τ κ => XS.ifYes Xl75.here hx rfl (pc0 := 16) (pc' := 21) rfl (hb hby d6_16) rfl ((if0 _ _).trans (own_eq (x := (0 : Int32)) (y := (0 : Int32)) (i := 0) (j := 0) rfl rfl (by decide)).1) (by decide) (by decide) κ) ?_
    show own_End p e below s (T75.setTop (mkF m 21 #[.val (.ref o0), .val (.int (9 : Int32))] [])) _ _ _
    refine own_go (fun τ κ => XS.iinc Xl75.here hx rfl (hb hby d6_21) rfl (l' := #[.val (.ref o0), .val (.int (10 : Int32))]) rfl κ) ?_
    show own_End p e below s (T75.setTop (mkF m 24 #[.val (.ref o0), .val (.int (10 : Int32))] [])) _ _ _
    refine own_go (fun τ κ => XS.goto Xl75.here hx rfl (pc0 := 24) (pc' := 2) rfl (hb hby d6_24) (by decide) (by decide) κ) ?_
    show own_End p e below s (T75.setTop (mkF m 2 #[.val (.ref o0), .val (.int (10 : Int32))] [])) _ _ _
    exact J10 T75 T72.heap _ Xl75 e75 Nl75 Z72 KP72 U73 U74 
  have J8 : ∀ (T76 : State) (h76 : Heap) (ls76 : List Loc) (X76 : Stand p l e ({ frames := 3, cells := 48, slots := 134, locals := 60 } : Room) s m #[(.ref o0)] below meth c T76 ls76 16 40) (e76 : T76.heap = h76) (N76 : Fr n0 ls76) (Z76 : n0 ≤ h76.size) (KP76 : Keep h0 h76 []) (Fa76_0 : own_Str Z h76 o0 sb sk (2 : Int32) [(.int u0), (.int u1)]) (Fa76_1 : Old Z n0 h76) , own_End p e below s (T76.setTop (mkF m 2 #[.val (.ref o0), .val (.int (8 : Int32))] [])) (Q_rmH2 Z o0 sb sk cz t1 d1 t2 d2 hq u0 u1 h0 n0) ({ frames := 3, cells := 48, slots := 134, locals := 60 } : Room).cells ({ frames := 3, cells := 48, slots := 134, locals := 60 } : Room).slots := by
    intro T76 h76 ls76 X76 e76 N76 Z76 KP76 Fa76_0 Fa76_1 
    show own_End p e below s (T76.setTop (mkF m 2 #[.val (.ref o0), .val (.int (8 : Int32))] [])) _ _ _
    refine own_go (fun τ κ => XS.iloadN X76.here hx rfl (hb hby d6_2) rfl κ) ?_
    show own_End p e below s (T76.setTop (mkF m 3 #[.val (.ref o0), .val (.int (8 : Int32))] [(.int (8 : Int32))])) _ _ _
    refine own_go (fun τ κ => XS.bipush X76.here hx rfl (hb hby d6_3) κ) ?_
    show own_End p e below s (T76.setTop (mkF m 5 #[.val (.ref o0), .val (.int (8 : Int32))] [(.int (24 : Int32)), (.int (8 : Int32))])) _ _ _
    refine own_go (fun τ κ => XS.icmpNo X76.here hx rfl (hb hby d6_5) rfl (own_tlt (x := (8 : Int32)) (y := (24 : Int32)) (i := 8) (j := 24) rfl rfl (by decide)).2.1 κ) ?_
    show own_End p e below s (T76.setTop (mkF m 8 #[.val (.ref o0), .val (.int (8 : Int32))] [])) _ _ _
    refine own_go (fun τ κ => XS.iloadN X76.here hx rfl (hb hby d6_8) rfl κ) ?_
    show own_End p e below s (T76.setTop (mkF m 9 #[.val (.ref o0), .val (.int (8 : Int32))] [(.int (8 : Int32))])) _ _ _
    obtain ⟨_, _, ⟨T77, L77, k77, n77⟩, -, X77, ⟨Lc77, hQ77, l77, y77, z77⟩, st77⟩ := Jvm.LawKit.callS X76 hx (y := (⟨"java/lang/Integer", "toString", "(I)Ljava/lang/String;"⟩ : MethodName)) hown (mvT hZ (hw _ (List.mem_of_getElem? (i := 31) rfl))) (mvT hZ (hw _ (List.mem_of_getElem? (i := 32) rfl))) (mvT hZ (hw _ (List.mem_of_getElem? (i := 33) rfl))) (mvT hZ (hw _ (List.mem_of_getElem? (i := 34) rfl))) (by decide) (backOf (W := 0) (rmT1 l Z a0 hw [] (8 : Int32) cz t1 d1 t2 d2 h76 n0 Z76 Fa76_1 S_C hcz S_1 D1 S_2 D2 (by decide) (by decide)) hZ (hw _ (List.mem_of_getElem? (i := 34) rfl)) (hw _ (List.mem_of_getElem? (i := 33) rfl)) (by decide) (by decide)) (g := (mkF m 9 #[.val (.ref o0), .val (.int (8 : Int32))] [(.int (8 : Int32))])) rfl (by rw [hml]; rfl) (argsL := [(.int (8 : Int32))]) (rest := []) (lenOf own_pd10 rfl) rfl (by show 2 * 0 + _ ≤ _; exact Nat.le_of_eq rfl) (hb hby d6_9) (fun _ _ => ⟨rfl, e76, (by decide : 16 + 2 ≤ _), (by decide : 40 + 5 ≤ _)⟩)
    dsimp only [Pt.U, Pt.locs, Pt.cells, Pt.slots] at X77 l77 y77 z77 st77 hQ77
    subst l77 y77 z77
    obtain ⟨⟨sa77, sb77, sk77, y8_0, rfl, za77, zb77, Ss77, K77, hy77⟩, N77q⟩ := hQ77
    have N77 := Fr.app N76 N77q
    obtain ⟨ls77, Xl77, Nl77⟩ := own_abs X77 N77
    have Z77 : n0 ≤ T77.heap.size := Nat.le_trans Z76 K77.1
    refine own_go st77 ?_
    show own_End p e below s (T77.setTop (mkF m 12 #[.val (.ref o0), .val (.int (8 : Int32))] [(.ref sa77)])) _ _ _
    have g_sa77 : n0 ≤ sa77 := Nat.le_trans Z76 za77
    have sz_sa77 : h0.size ≤ sa77 := Nat.le_trans KP76.1 za77
    have ne_o0_sa77 : o0 ≠ sa77 := Nat.ne_of_lt (Nat.lt_of_lt_of_le Fa76_0.lt za77)
    have ne_sb_sa77 : sb ≠ sa77 := Nat.ne_of_lt (Nat.lt_of_lt_of_le Fa76_0.ltb za77)
    have g_sb77 : n0 ≤ sb77 := Nat.le_trans Z76 zb77
    have sz_sb77 : h0.size ≤ sb77 := Nat.le_trans KP76.1 zb77
    have ne_o0_sb77 : o0 ≠ sb77 := Nat.ne_of_lt (Nat.lt_of_lt_of_le Fa76_0.lt zb77)
    have ne_sb_sb77 : sb ≠ sb77 := Nat.ne_of_lt (Nat.lt_of_lt_of_le Fa76_0.ltb zb77)
    have KP77 := KP76.trans K77 all0
    refine own_go (fun τ κ => XS.aloadN Xl77.here hx rfl (hb hby d6_12) rfl rfl κ) ?_
    show own_End p e below s (T77.setTop (mkF m 13 #[.val (.ref o0), .val (.int (8 : Int32))] [(.ref o0), (.ref sa77)])) _ _ _
    have U78 := (Fa76_0.keep K77 nin0 nin0)
    have U79 := (Fa76_1.keep K77 all0)
    obtain ⟨cq80, kq80, q80a, q80b, q80c⟩ := isOf hZ rfl Ss77.1
    obtain ⟨_, _, ⟨T80, L80, k80, n80⟩, -, X80, ⟨Lc80, hQ80, l80, y80, z80⟩, st80⟩ := Xl77.virtualBack hx (y := (⟨"java/lang/String", "equals", "(Ljava/lang/Object;)Z"⟩ : MethodName)) (z := (⟨"java/lang/String", "equals", "(Ljava/lang/Object;)Z"⟩ : MethodName)) hown (mvT hZ (hw _ (List.mem_of_getElem? (i := 45) rfl))) (mvT hZ (hw _ (List.mem_of_getElem? (i := 46) rfl))) (notFace_of_selects (args := #[]) (mvT hZ (hw _ (List.mem_of_getElem? (i := 48) rfl)))) (mvT hZ (hw _ (List.mem_of_getElem? (i := 48) rfl))) (mvT hZ (hw _ (List.mem_of_getElem? (i := 47) rfl))) (by decide) (backOf (W := 0) (rmE1_2 l Z a0 hw [] sa77 o0 sb77 sk77 sb sk cz y8_0 u0 u1 T77.heap n0 Z77 (Ne.symm ne_o0_sa77) Ss77 U78 U79 S_C hcz) hZ (hw _ (List.mem_of_getElem? (i := 49) rfl)) (hw _ (List.mem_of_getElem? (i := 3) rfl)) (by decide) (by decide)) q80a q80c (g := (mkF m 13 #[.val (.ref o0), .val (.int (8 : Int32))] [(.ref o0), (.ref sa77)])) rfl (by rw [hml]; rfl) (Steps.refl _) (argsL := [(.ref o0)]) (rest := []) (lenOf own_pd11 rfl) rfl (by show 2 * 0 + _ ≤ _; exact Nat.le_of_eq rfl) (hb hby d6_13) (fun _ _ => ⟨rfl, rfl, (by decide : 18 + 0 ≤ _), (by decide : 45 + 0 ≤ _)⟩)
    dsimp only [Pt.U, Pt.locs, Pt.cells, Pt.slots] at X80 l80 y80 z80 st80 hQ80
    subst l80 y80 z80
    obtain ⟨rfl, N80q, e80⟩ := hQ80
    have N80 := Fr.app Nl77 N80q
    obtain ⟨ls80, Xl80, Nl80⟩ := own_abs X80 N80
    refine own_go (fun τ κ => st80.trans κ) ?_
    show own_End p e below s (T80.setTop (mkF m 16 #[.val (.ref o0), .val (.int (8 : Int32))] [(.int (0 : Int32))])) _ _ _
    refine own_go (fun τ κ => XS.ifYes Xl80.here hx rfl (pc0 := 16) (pc' := 21) rfl (hb hby d6_16) rfl ((if0 _ _).trans (own_eq (x := (0 : Int32)) (y := (0 : Int32)) (i := 0) (j := 0) rfl rfl (by decide)).1) (by decide) (by decide) κ) ?_
    show own_End p e below s (T80.setTop (mkF m 21 #[.val (.ref o0), .val (.int (8 : Int32))] [])) _ _ _
    refine own_go (fun τ κ => XS.iinc Xl80.here hx rfl (hb hby d6_21) rfl (l' := #[.val (.ref o0), .val (.int (9 : Int32))]) rfl κ) ?_
    show own_End p e below s (T80.setTop (mkF m 24 #[.val (.ref o0), .val (.int (9 : Int32))] [])) _ _ _
    refine own_go (fun τ κ => XS.goto Xl80.here hx rfl (pc0 := 24) (pc' := 2) rfl (hb hby d6_24) (by decide) (by decide) κ) ?_
    show own_End p e below s (T80.setTop (mkF m 2 #[.val (.ref o0), .val (.int (9 : Int32))] [])) _ _ _
    exact J9 T80 T77.heap _ Xl80 e80 Nl80 Z77 KP77 U78 U79 
  have J7 : ∀ (T81 : State) (h81 : Heap) (ls81 : List Loc) (X81 : Stand p l e ({ frames := 3, cells := 48, slots := 134, locals := 60 } : Room) s m #[(.ref o0)] below meth c T81 ls81 14 35) (e81 : T81.heap = h81) (N81 : Fr n0 ls81) (Z81 : n0 ≤ h81.size) (KP81 : Keep h0 h81 []) (Fa81_0 : own_Str Z h81 o0 sb sk (2 : Int32) [(.int u0), (.int u1)]) (Fa81_1 : Old Z n0 h81) , own_End p e below s (T81.setTop (mkF m 2 #[.val (.ref o0), .val (.int (7 : Int32))] [])) (Q_rmH2 Z o0 sb sk cz t1 d1 t2 d2 hq u0 u1 h0 n0) ({ frames := 3, cells := 48, slots := 134, locals := 60 } : Room).cells ({ frames := 3, cells := 48, slots := 134, locals := 60 } : Room).slots := by
    intro T81 h81 ls81 X81 e81 N81 Z81 KP81 Fa81_0 Fa81_1 
    show own_End p e below s (T81.setTop (mkF m 2 #[.val (.ref o0), .val (.int (7 : Int32))] [])) _ _ _
    refine own_go (fun τ κ => XS.iloadN X81.here hx rfl (hb hby d6_2) rfl κ) ?_
    show own_End p e below s (T81.setTop (mkF m 3 #[.val (.ref o0), .val (.int (7 : Int32))] [(.int (7 : Int32))])) _ _ _
    refine own_go (fun τ κ => XS.bipush X81.here hx rfl (hb hby d6_3) κ) ?_
    show own_End p e below s (T81.setTop (mkF m 5 #[.val (.ref o0), .val (.int (7 : Int32))] [(.int (24 : Int32)), (.int (7 : Int32))])) _ _ _
    refine own_go (fun τ κ => XS.icmpNo X81.here hx rfl (hb hby d6_5) rfl (own_tlt (x := (7 : Int32)) (y := (24 : Int32)) (i := 7) (j := 24) rfl rfl (by decide)).2.1 κ) ?_
    show own_End p e below s (T81.setTop (mkF m 8 #[.val (.ref o0), .val (.int (7 : Int32))] [])) _ _ _
    refine own_go (fun τ κ => XS.iloadN X81.here hx rfl (hb hby d6_8) rfl κ) ?_
    show own_End p e below s (T81.setTop (mkF m 9 #[.val (.ref o0), .val (.int (7 : Int32))] [(.int (7 : Int32))])) _ _ _
    obtain ⟨_, _, ⟨T82, L82, k82, n82⟩, -, X82, ⟨Lc82, hQ82, l82, y82, z82⟩, st82⟩ := Jvm.LawKit.callS X81 hx (y := (⟨"java/lang/Integer", "toString", "(I)Ljava/lang/String;"⟩ : MethodName)) hown (mvT hZ (hw _ (List.mem_of_getElem? (i := 31) rfl))) (mvT hZ (hw _ (List.mem_of_getElem? (i := 32) rfl))) (mvT hZ (hw _ (List.mem_of_getElem? (i := 33) rfl))) (mvT hZ (hw _ (List.mem_of_getElem? (i := 34) rfl))) (by decide) (backOf (W := 0) (rmT1 l Z a0 hw [] (7 : Int32) cz t1 d1 t2 d2 h81 n0 Z81 Fa81_1 S_C hcz S_1 D1 S_2 D2 (by decide) (by decide)) hZ (hw _ (List.mem_of_getElem? (i := 34) rfl)) (hw _ (List.mem_of_getElem? (i := 33) rfl)) (by decide) (by decide)) (g := (mkF m 9 #[.val (.ref o0), .val (.int (7 : Int32))] [(.int (7 : Int32))])) rfl (by rw [hml]; rfl) (argsL := [(.int (7 : Int32))]) (rest := []) (lenOf own_pd10 rfl) rfl (by show 2 * 0 + _ ≤ _; exact Nat.le_of_eq rfl) (hb hby d6_9) (fun _ _ => ⟨rfl, e81, (by decide : 14 + 2 ≤ _), (by decide : 35 + 5 ≤ _)⟩)
    dsimp only [Pt.U, Pt.locs, Pt.cells, Pt.slots] at X82 l82 y82 z82 st82 hQ82
    subst l82 y82 z82
    obtain ⟨⟨sa82, sb82, sk82, y7_0, rfl, za82, zb82, Ss82, K82, hy82⟩, N82q⟩ := hQ82
    have N82 := Fr.app N81 N82q
    obtain ⟨ls82, Xl82, Nl82⟩ := own_abs X82 N82
    have Z82 : n0 ≤ T82.heap.size := Nat.le_trans Z81 K82.1
    refine own_go st82 ?_
    show own_End p e below s (T82.setTop (mkF m 12 #[.val (.ref o0), .val (.int (7 : Int32))] [(.ref sa82)])) _ _ _
    have g_sa82 : n0 ≤ sa82 := Nat.le_trans Z81 za82
    have sz_sa82 : h0.size ≤ sa82 := Nat.le_trans KP81.1 za82
    have ne_o0_sa82 : o0 ≠ sa82 := Nat.ne_of_lt (Nat.lt_of_lt_of_le Fa81_0.lt za82)
    have ne_sb_sa82 : sb ≠ sa82 := Nat.ne_of_lt (Nat.lt_of_lt_of_le Fa81_0.ltb za82)
    have g_sb82 : n0 ≤ sb82 := Nat.le_trans Z81 zb82
    have sz_sb82 : h0.size ≤ sb82 := Nat.le_trans KP81.1 zb82
    have ne_o0_sb82 : o0 ≠ sb82 := Nat.ne_of_lt (Nat.lt_of_lt_of_le Fa81_0.lt zb82)
    have ne_sb_sb82 : sb ≠ sb82 := Nat.ne_of_lt (Nat.lt_of_lt_of_le Fa81_0.ltb zb82)
    have KP82 := KP81.trans K82 all0
    refine own_go (fun τ κ => XS.aloadN Xl82.here hx rfl (hb hby d6_12) rfl rfl κ) ?_
    show own_End p e below s (T82.setTop (mkF m 13 #[.val (.ref o0), .val (.int (7 : Int32))] [(.ref o0), (.ref sa82)])) _ _ _
    have U83 := (Fa81_0.keep K82 nin0 nin0)
    have U84 := (Fa81_1.keep K82 all0)
    obtain ⟨cq85, kq85, q85a, q85b, q85c⟩ := isOf hZ rfl Ss82.1
    obtain ⟨_, _, ⟨T85, L85, k85, n85⟩, -, X85, ⟨Lc85, hQ85, l85, y85, z85⟩, st85⟩ := Xl82.virtualBack hx (y := (⟨"java/lang/String", "equals", "(Ljava/lang/Object;)Z"⟩ : MethodName)) (z := (⟨"java/lang/String", "equals", "(Ljava/lang/Object;)Z"⟩ : MethodName)) hown (mvT hZ (hw _ (List.mem_of_getElem? (i := 45) rfl))) (mvT hZ (hw _ (List.mem_of_getElem? (i := 46) rfl))) (notFace_of_selects (args := #[]) (mvT hZ (hw _ (List.mem_of_getElem? (i := 48) rfl)))) (mvT hZ (hw _ (List.mem_of_getElem? (i := 48) rfl))) (mvT hZ (hw _ (List.mem_of_getElem? (i := 47) rfl))) (by decide) (backOf (W := 0) (rmE1_2 l Z a0 hw [] sa82 o0 sb82 sk82 sb sk cz y7_0 u0 u1 T82.heap n0 Z82 (Ne.symm ne_o0_sa82) Ss82 U83 U84 S_C hcz) hZ (hw _ (List.mem_of_getElem? (i := 49) rfl)) (hw _ (List.mem_of_getElem? (i := 3) rfl)) (by decide) (by decide)) q85a q85c (g := (mkF m 13 #[.val (.ref o0), .val (.int (7 : Int32))] [(.ref o0), (.ref sa82)])) rfl (by rw [hml]; rfl) (Steps.refl _) (argsL := [(.ref o0)]) (rest := []) (lenOf own_pd11 rfl) rfl (by show 2 * 0 + _ ≤ _; exact Nat.le_of_eq rfl) (hb hby d6_13) (fun _ _ => ⟨rfl, rfl, (by decide : 16 + 0 ≤ _), (by decide : 40 + 0 ≤ _)⟩)
    dsimp only [Pt.U, Pt.locs, Pt.cells, Pt.slots] at X85 l85 y85 z85 st85 hQ85
    subst l85 y85 z85
    obtain ⟨rfl, N85q, e85⟩ := hQ85
    have N85 := Fr.app Nl82 N85q
    obtain ⟨ls85, Xl85, Nl85⟩ := own_abs X85 N85
    refine own_go (fun τ κ => st85.trans κ) ?_
    show own_End p e below s (T85.setTop (mkF m 16 #[.val (.ref o0), .val (.int (7 : Int32))] [(.int (0 : Int32))])) _ _ _
    refine own_go (fun τ κ => XS.ifYes Xl85.here hx rfl (pc0 := 16) (pc' := 21) rfl (hb hby d6_16) rfl ((if0 _ _).trans (own_eq (x := (0 : Int32)) (y := (0 : Int32)) (i := 0) (j := 0) rfl rfl (by decide)).1) (by decide) (by decide) κ) ?_
    show own_End p e below s (T85.setTop (mkF m 21 #[.val (.ref o0), .val (.int (7 : Int32))] [])) _ _ _
    refine own_go (fun τ κ => XS.iinc Xl85.here hx rfl (hb hby d6_21) rfl (l' := #[.val (.ref o0), .val (.int (8 : Int32))]) rfl κ) ?_
    show own_End p e below s (T85.setTop (mkF m 24 #[.val (.ref o0), .val (.int (8 : Int32))] [])) _ _ _
    refine own_go (fun τ κ => XS.goto Xl85.here hx rfl (pc0 := 24) (pc' := 2) rfl (hb hby d6_24) (by decide) (by decide) κ) ?_
    show own_End p e below s (T85.setTop (mkF m 2 #[.val (.ref o0), .val (.int (8 : Int32))] [])) _ _ _
    exact J8 T85 T82.heap _ Xl85 e85 Nl85 Z82 KP82 U83 U84 
  have J6 : ∀ (T86 : State) (h86 : Heap) (ls86 : List Loc) (X86 : Stand p l e ({ frames := 3, cells := 48, slots := 134, locals := 60 } : Room) s m #[(.ref o0)] below meth c T86 ls86 12 30) (e86 : T86.heap = h86) (N86 : Fr n0 ls86) (Z86 : n0 ≤ h86.size) (KP86 : Keep h0 h86 []) (Fa86_0 : own_Str Z h86 o0 sb sk (2 : Int32) [(.int u0), (.int u1)]) (Fa86_1 : Old Z n0 h86) , own_End p e below s (T86.setTop (mkF m 2 #[.val (.ref o0), .val (.int (6 : Int32))] [])) (Q_rmH2 Z o0 sb sk cz t1 d1 t2 d2 hq u0 u1 h0 n0) ({ frames := 3, cells := 48, slots := 134, locals := 60 } : Room).cells ({ frames := 3, cells := 48, slots := 134, locals := 60 } : Room).slots := by
    intro T86 h86 ls86 X86 e86 N86 Z86 KP86 Fa86_0 Fa86_1 
    show own_End p e below s (T86.setTop (mkF m 2 #[.val (.ref o0), .val (.int (6 : Int32))] [])) _ _ _
    refine own_go (fun τ κ => XS.iloadN X86.here hx rfl (hb hby d6_2) rfl κ) ?_
    show own_End p e below s (T86.setTop (mkF m 3 #[.val (.ref o0), .val (.int (6 : Int32))] [(.int (6 : Int32))])) _ _ _
    refine own_go (fun τ κ => XS.bipush X86.here hx rfl (hb hby d6_3) κ) ?_
    show own_End p e below s (T86.setTop (mkF m 5 #[.val (.ref o0), .val (.int (6 : Int32))] [(.int (24 : Int32)), (.int (6 : Int32))])) _ _ _
    refine own_go (fun τ κ => XS.icmpNo X86.here hx rfl (hb hby d6_5) rfl (own_tlt (x := (6 : Int32)) (y := (24 : Int32)) (i := 6) (j := 24) rfl rfl (by decide)).2.1 κ) ?_
    show own_End p e below s (T86.setTop (mkF m 8 #[.val (.ref o0), .val (.int (6 : Int32))] [])) _ _ _
    refine own_go (fun τ κ => XS.iloadN X86.here hx rfl (hb hby d6_8) rfl κ) ?_
    show own_End p e below s (T86.setTop (mkF m 9 #[.val (.ref o0), .val (.int (6 : Int32))] [(.int (6 : Int32))])) _ _ _
    obtain ⟨_, _, ⟨T87, L87, k87, n87⟩, -, X87, ⟨Lc87, hQ87, l87, y87, z87⟩, st87⟩ := Jvm.LawKit.callS X86 hx (y := (⟨"java/lang/Integer", "toString", "(I)Ljava/lang/String;"⟩ : MethodName)) hown (mvT hZ (hw _ (List.mem_of_getElem? (i := 31) rfl))) (mvT hZ (hw _ (List.mem_of_getElem? (i := 32) rfl))) (mvT hZ (hw _ (List.mem_of_getElem? (i := 33) rfl))) (mvT hZ (hw _ (List.mem_of_getElem? (i := 34) rfl))) (by decide) (backOf (W := 0) (rmT1 l Z a0 hw [] (6 : Int32) cz t1 d1 t2 d2 h86 n0 Z86 Fa86_1 S_C hcz S_1 D1 S_2 D2 (by decide) (by decide)) hZ (hw _ (List.mem_of_getElem? (i := 34) rfl)) (hw _ (List.mem_of_getElem? (i := 33) rfl)) (by decide) (by decide)) (g := (mkF m 9 #[.val (.ref o0), .val (.int (6 : Int32))] [(.int (6 : Int32))])) rfl (by rw [hml]; rfl) (argsL := [(.int (6 : Int32))]) (rest := []) (lenOf own_pd10 rfl) rfl (by show 2 * 0 + _ ≤ _; exact Nat.le_of_eq rfl) (hb hby d6_9) (fun _ _ => ⟨rfl, e86, (by decide : 12 + 2 ≤ _), (by decide : 30 + 5 ≤ _)⟩)
    dsimp only [Pt.U, Pt.locs, Pt.cells, Pt.slots] at X87 l87 y87 z87 st87 hQ87
    subst l87 y87 z87
    obtain ⟨⟨sa87, sb87, sk87, y6_0, rfl, za87, zb87, Ss87, K87, hy87⟩, N87q⟩ := hQ87
    have N87 := Fr.app N86 N87q
    obtain ⟨ls87, Xl87, Nl87⟩ := own_abs X87 N87
    have Z87 : n0 ≤ T87.heap.size := Nat.le_trans Z86 K87.1
    refine own_go st87 ?_
    show own_End p e below s (T87.setTop (mkF m 12 #[.val (.ref o0), .val (.int (6 : Int32))] [(.ref sa87)])) _ _ _
    have g_sa87 : n0 ≤ sa87 := Nat.le_trans Z86 za87
    have sz_sa87 : h0.size ≤ sa87 := Nat.le_trans KP86.1 za87
    have ne_o0_sa87 : o0 ≠ sa87 := Nat.ne_of_lt (Nat.lt_of_lt_of_le Fa86_0.lt za87)
    have ne_sb_sa87 : sb ≠ sa87 := Nat.ne_of_lt (Nat.lt_of_lt_of_le Fa86_0.ltb za87)
    have g_sb87 : n0 ≤ sb87 := Nat.le_trans Z86 zb87
    have sz_sb87 : h0.size ≤ sb87 := Nat.le_trans KP86.1 zb87
    have ne_o0_sb87 : o0 ≠ sb87 := Nat.ne_of_lt (Nat.lt_of_lt_of_le Fa86_0.lt zb87)
    have ne_sb_sb87 : sb ≠ sb87 := Nat.ne_of_lt (Nat.lt_of_lt_of_le Fa86_0.ltb zb87)
    have KP87 := KP86.trans K87 all0
    refine own_go (fun τ κ => XS.aloadN Xl87.here hx rfl (hb hby d6_12) rfl rfl κ) ?_
    show own_End p e below s (T87.setTop (mkF m 13 #[.val (.ref o0), .val (.int (6 : Int32))] [(.ref o0), (.ref sa87)])) _ _ _
    have U88 := (Fa86_0.keep K87 nin0 nin0)
    have U89 := (Fa86_1.keep K87 all0)
    obtain ⟨cq90, kq90, q90a, q90b, q90c⟩ := isOf hZ rfl Ss87.1
    obtain ⟨_, _, ⟨T90, L90, k90, n90⟩, -, X90, ⟨Lc90, hQ90, l90, y90, z90⟩, st90⟩ := Xl87.virtualBack hx (y := (⟨"java/lang/String", "equals", "(Ljava/lang/Object;)Z"⟩ : MethodName)) (z := (⟨"java/lang/String", "equals", "(Ljava/lang/Object;)Z"⟩ : MethodName)) hown (mvT hZ (hw _ (List.mem_of_getElem? (i := 45) rfl))) (mvT hZ (hw _ (List.mem_of_getElem? (i := 46) rfl))) (notFace_of_selects (args := #[]) (mvT hZ (hw _ (List.mem_of_getElem? (i := 48) rfl)))) (mvT hZ (hw _ (List.mem_of_getElem? (i := 48) rfl))) (mvT hZ (hw _ (List.mem_of_getElem? (i := 47) rfl))) (by decide) (backOf (W := 0) (rmE1_2 l Z a0 hw [] sa87 o0 sb87 sk87 sb sk cz y6_0 u0 u1 T87.heap n0 Z87 (Ne.symm ne_o0_sa87) Ss87 U88 U89 S_C hcz) hZ (hw _ (List.mem_of_getElem? (i := 49) rfl)) (hw _ (List.mem_of_getElem? (i := 3) rfl)) (by decide) (by decide)) q90a q90c (g := (mkF m 13 #[.val (.ref o0), .val (.int (6 : Int32))] [(.ref o0), (.ref sa87)])) rfl (by rw [hml]; rfl) (Steps.refl _) (argsL := [(.ref o0)]) (rest := []) (lenOf own_pd11 rfl) rfl (by show 2 * 0 + _ ≤ _; exact Nat.le_of_eq rfl) (hb hby d6_13) (fun _ _ => ⟨rfl, rfl, (by decide : 14 + 0 ≤ _), (by decide : 35 + 0 ≤ _)⟩)
    dsimp only [Pt.U, Pt.locs, Pt.cells, Pt.slots] at X90 l90 y90 z90 st90 hQ90
    subst l90 y90 z90
    obtain ⟨rfl, N90q, e90⟩ := hQ90
    have N90 := Fr.app Nl87 N90q
    obtain ⟨ls90, Xl90, Nl90⟩ := own_abs X90 N90
    refine own_go (fun τ κ => st90.trans κ) ?_
    show own_End p e below s (T90.setTop (mkF m 16 #[.val (.ref o0), .val (.int (6 : Int32))] [(.int (0 : Int32))])) _ _ _
    refine own_go (fun τ κ => XS.ifYes Xl90.here hx rfl (pc0 := 16) (pc' := 21) rfl (hb hby d6_16) rfl ((if0 _ _).trans (own_eq (x := (0 : Int32)) (y := (0 : Int32)) (i := 0) (j := 0) rfl rfl (by decide)).1) (by decide) (by decide) κ) ?_
    show own_End p e below s (T90.setTop (mkF m 21 #[.val (.ref o0), .val (.int (6 : Int32))] [])) _ _ _
    refine own_go (fun τ κ => XS.iinc Xl90.here hx rfl (hb hby d6_21) rfl (l' := #[.val (.ref o0), .val (.int (7 : Int32))]) rfl κ) ?_
    show own_End p e below s (T90.setTop (mkF m 24 #[.val (.ref o0), .val (.int (7 : Int32))] [])) _ _ _
    refine own_go (fun τ κ => XS.goto Xl90.here hx rfl (pc0 := 24) (pc' := 2) rfl (hb hby d6_24) (by decide) (by decide) κ) ?_
    show own_End p e below s (T90.setTop (mkF m 2 #[.val (.ref o0), .val (.int (7 : Int32))] [])) _ _ _
    exact J7 T90 T87.heap _ Xl90 e90 Nl90 Z87 KP87 U88 U89 
  have J5 : ∀ (T91 : State) (h91 : Heap) (ls91 : List Loc) (X91 : Stand p l e ({ frames := 3, cells := 48, slots := 134, locals := 60 } : Room) s m #[(.ref o0)] below meth c T91 ls91 10 25) (e91 : T91.heap = h91) (N91 : Fr n0 ls91) (Z91 : n0 ≤ h91.size) (KP91 : Keep h0 h91 []) (Fa91_0 : own_Str Z h91 o0 sb sk (2 : Int32) [(.int u0), (.int u1)]) (Fa91_1 : Old Z n0 h91) , own_End p e below s (T91.setTop (mkF m 2 #[.val (.ref o0), .val (.int (5 : Int32))] [])) (Q_rmH2 Z o0 sb sk cz t1 d1 t2 d2 hq u0 u1 h0 n0) ({ frames := 3, cells := 48, slots := 134, locals := 60 } : Room).cells ({ frames := 3, cells := 48, slots := 134, locals := 60 } : Room).slots := by
    intro T91 h91 ls91 X91 e91 N91 Z91 KP91 Fa91_0 Fa91_1 
    show own_End p e below s (T91.setTop (mkF m 2 #[.val (.ref o0), .val (.int (5 : Int32))] [])) _ _ _
    refine own_go (fun τ κ => XS.iloadN X91.here hx rfl (hb hby d6_2) rfl κ) ?_
    show own_End p e below s (T91.setTop (mkF m 3 #[.val (.ref o0), .val (.int (5 : Int32))] [(.int (5 : Int32))])) _ _ _
    refine own_go (fun τ κ => XS.bipush X91.here hx rfl (hb hby d6_3) κ) ?_
    show own_End p e below s (T91.setTop (mkF m 5 #[.val (.ref o0), .val (.int (5 : Int32))] [(.int (24 : Int32)), (.int (5 : Int32))])) _ _ _
    refine own_go (fun τ κ => XS.icmpNo X91.here hx rfl (hb hby d6_5) rfl (own_tlt (x := (5 : Int32)) (y := (24 : Int32)) (i := 5) (j := 24) rfl rfl (by decide)).2.1 κ) ?_
    show own_End p e below s (T91.setTop (mkF m 8 #[.val (.ref o0), .val (.int (5 : Int32))] [])) _ _ _
    refine own_go (fun τ κ => XS.iloadN X91.here hx rfl (hb hby d6_8) rfl κ) ?_
    show own_End p e below s (T91.setTop (mkF m 9 #[.val (.ref o0), .val (.int (5 : Int32))] [(.int (5 : Int32))])) _ _ _
    obtain ⟨_, _, ⟨T92, L92, k92, n92⟩, -, X92, ⟨Lc92, hQ92, l92, y92, z92⟩, st92⟩ := Jvm.LawKit.callS X91 hx (y := (⟨"java/lang/Integer", "toString", "(I)Ljava/lang/String;"⟩ : MethodName)) hown (mvT hZ (hw _ (List.mem_of_getElem? (i := 31) rfl))) (mvT hZ (hw _ (List.mem_of_getElem? (i := 32) rfl))) (mvT hZ (hw _ (List.mem_of_getElem? (i := 33) rfl))) (mvT hZ (hw _ (List.mem_of_getElem? (i := 34) rfl))) (by decide) (backOf (W := 0) (rmT1 l Z a0 hw [] (5 : Int32) cz t1 d1 t2 d2 h91 n0 Z91 Fa91_1 S_C hcz S_1 D1 S_2 D2 (by decide) (by decide)) hZ (hw _ (List.mem_of_getElem? (i := 34) rfl)) (hw _ (List.mem_of_getElem? (i := 33) rfl)) (by decide) (by decide)) (g := (mkF m 9 #[.val (.ref o0), .val (.int (5 : Int32))] [(.int (5 : Int32))])) rfl (by rw [hml]; rfl) (argsL := [(.int (5 : Int32))]) (rest := []) (lenOf own_pd10 rfl) rfl (by show 2 * 0 + _ ≤ _; exact Nat.le_of_eq rfl) (hb hby d6_9) (fun _ _ => ⟨rfl, e91, (by decide : 10 + 2 ≤ _), (by decide : 25 + 5 ≤ _)⟩)
    dsimp only [Pt.U, Pt.locs, Pt.cells, Pt.slots] at X92 l92 y92 z92 st92 hQ92
    subst l92 y92 z92
    obtain ⟨⟨sa92, sb92, sk92, y5_0, rfl, za92, zb92, Ss92, K92, hy92⟩, N92q⟩ := hQ92
    have N92 := Fr.app N91 N92q
    obtain ⟨ls92, Xl92, Nl92⟩ := own_abs X92 N92
    have Z92 : n0 ≤ T92.heap.size := Nat.le_trans Z91 K92.1
    refine own_go st92 ?_
    show own_End p e below s (T92.setTop (mkF m 12 #[.val (.ref o0), .val (.int (5 : Int32))] [(.ref sa92)])) _ _ _
    have g_sa92 : n0 ≤ sa92 := Nat.le_trans Z91 za92
    have sz_sa92 : h0.size ≤ sa92 := Nat.le_trans KP91.1 za92
    have ne_o0_sa92 : o0 ≠ sa92 := Nat.ne_of_lt (Nat.lt_of_lt_of_le Fa91_0.lt za92)
    have ne_sb_sa92 : sb ≠ sa92 := Nat.ne_of_lt (Nat.lt_of_lt_of_le Fa91_0.ltb za92)
    have g_sb92 : n0 ≤ sb92 := Nat.le_trans Z91 zb92
    have sz_sb92 : h0.size ≤ sb92 := Nat.le_trans KP91.1 zb92
    have ne_o0_sb92 : o0 ≠ sb92 := Nat.ne_of_lt (Nat.lt_of_lt_of_le Fa91_0.lt zb92)
    have ne_sb_sb92 : sb ≠ sb92 := Nat.ne_of_lt (Nat.lt_of_lt_of_le Fa91_0.ltb zb92)
    have KP92 := KP91.trans K92 all0
    refine own_go (fun τ κ => XS.aloadN Xl92.here hx rfl (hb hby d6_12) rfl rfl κ) ?_
    show own_End p e below s (T92.setTop (mkF m 13 #[.val (.ref o0), .val (.int (5 : Int32))] [(.ref o0), (.ref sa92)])) _ _ _
    have U93 := (Fa91_0.keep K92 nin0 nin0)
    have U94 := (Fa91_1.keep K92 all0)
    obtain ⟨cq95, kq95, q95a, q95b, q95c⟩ := isOf hZ rfl Ss92.1
    obtain ⟨_, _, ⟨T95, L95, k95, n95⟩, -, X95, ⟨Lc95, hQ95, l95, y95, z95⟩, st95⟩ := Xl92.virtualBack hx (y := (⟨"java/lang/String", "equals", "(Ljava/lang/Object;)Z"⟩ : MethodName)) (z := (⟨"java/lang/String", "equals", "(Ljava/lang/Object;)Z"⟩ : MethodName)) hown (mvT hZ (hw _ (List.mem_of_getElem? (i := 45) rfl))) (mvT hZ (hw _ (List.mem_of_getElem? (i := 46) rfl))) (notFace_of_selects (args := #[]) (mvT hZ (hw _ (List.mem_of_getElem? (i := 48) rfl)))) (mvT hZ (hw _ (List.mem_of_getElem? (i := 48) rfl))) (mvT hZ (hw _ (List.mem_of_getElem? (i := 47) rfl))) (by decide) (backOf (W := 0) (rmE1_2 l Z a0 hw [] sa92 o0 sb92 sk92 sb sk cz y5_0 u0 u1 T92.heap n0 Z92 (Ne.symm ne_o0_sa92) Ss92 U93 U94 S_C hcz) hZ (hw _ (List.mem_of_getElem? (i := 49) rfl)) (hw _ (List.mem_of_getElem? (i := 3) rfl)) (by decide) (by decide)) q95a q95c (g := (mkF m 13 #[.val (.ref o0), .val (.int (5 : Int32))] [(.ref o0), (.ref sa92)])) rfl (by rw [hml]; rfl) (Steps.refl _) (argsL := [(.ref o0)]) (rest := []) (lenOf own_pd11 rfl) rfl (by show 2 * 0 + _ ≤ _; exact Nat.le_of_eq rfl) (hb hby d6_13) (fun _ _ => ⟨rfl, rfl, (by decide : 12 + 0 ≤ _), (by decide : 30 + 0 ≤ _)⟩)
    dsimp only [Pt.U, Pt.locs, Pt.cells, Pt.slots] at X95 l95 y95 z95 st95 hQ95
    subst l95 y95 z95
    obtain ⟨rfl, N95q, e95⟩ := hQ95
    have N95 := Fr.app Nl92 N95q
    obtain ⟨ls95, Xl95, Nl95⟩ := own_abs X95 N95
    refine own_go (fun τ κ => st95.trans κ) ?_
    show own_End p e below s (T95.setTop (mkF m 16 #[.val (.ref o0), .val (.int (5 : Int32))] [(.int (0 : Int32))])) _ _ _
    refine own_go (fun τ κ => XS.ifYes Xl95.here hx rfl (pc0 := 16) (pc' := 21) rfl (hb hby d6_16) rfl ((if0 _ _).trans (own_eq (x := (0 : Int32)) (y := (0 : Int32)) (i := 0) (j := 0) rfl rfl (by decide)).1) (by decide) (by decide) κ) ?_
    show own_End p e below s (T95.setTop (mkF m 21 #[.val (.ref o0), .val (.int (5 : Int32))] [])) _ _ _
    refine own_go (fun τ κ => XS.iinc Xl95.here hx rfl (hb hby d6_21) rfl (l' := #[.val (.ref o0), .val (.int (6 : Int32))]) rfl κ) ?_
    show own_End p e below s (T95.setTop (mkF m 24 #[.val (.ref o0), .val (.int (6 : Int32))] [])) _ _ _
    refine own_go (fun τ κ => XS.goto Xl95.here hx rfl (pc0 := 24) (pc' := 2) rfl (hb hby d6_24) (by decide) (by decide) κ) ?_
    show own_End p e below s (T95.setTop (mkF m 2 #[.val (.ref o0), .val (.int (6 : Int32))] [])) _ _ _
    exact J6 T95 T92.heap _ Xl95 e95 Nl95 Z92 KP92 U93 U94 
  have J4 : ∀ (T96 : State) (h96 : Heap) (ls96 : List Loc) (X96 : Stand p l e ({ frames := 3, cells := 48, slots := 134, locals := 60 } : Room) s m #[(.ref o0)] below meth c T96 ls96 8 20) (e96 : T96.heap = h96) (N96 : Fr n0 ls96) (Z96 : n0 ≤ h96.size) (KP96 : Keep h0 h96 []) (Fa96_0 : own_Str Z h96 o0 sb sk (2 : Int32) [(.int u0), (.int u1)]) (Fa96_1 : Old Z n0 h96) , own_End p e below s (T96.setTop (mkF m 2 #[.val (.ref o0), .val (.int (4 : Int32))] [])) (Q_rmH2 Z o0 sb sk cz t1 d1 t2 d2 hq u0 u1 h0 n0) ({ frames := 3, cells := 48, slots := 134, locals := 60 } : Room).cells ({ frames := 3, cells := 48, slots := 134, locals := 60 } : Room).slots := by
    intro T96 h96 ls96 X96 e96 N96 Z96 KP96 Fa96_0 Fa96_1 
    show own_End p e below s (T96.setTop (mkF m 2 #[.val (.ref o0), .val (.int (4 : Int32))] [])) _ _ _
    refine own_go (fun τ κ => XS.iloadN X96.here hx rfl (hb hby d6_2) rfl κ) ?_
    show own_End p e below s (T96.setTop (mkF m 3 #[.val (.ref o0), .val (.int (4 : Int32))] [(.int (4 : Int32))])) _ _ _
    refine own_go (fun τ κ => XS.bipush X96.here hx rfl (hb hby d6_3) κ) ?_
    show own_End p e below s (T96.setTop (mkF m 5 #[.val (.ref o0), .val (.int (4 : Int32))] [(.int (24 : Int32)), (.int (4 : Int32))])) _ _ _
    refine own_go (fun τ κ => XS.icmpNo X96.here hx rfl (hb hby d6_5) rfl (own_tlt (x := (4 : Int32)) (y := (24 : Int32)) (i := 4) (j := 24) rfl rfl (by decide)).2.1 κ) ?_
    show own_End p e below s (T96.setTop (mkF m 8 #[.val (.ref o0), .val (.int (4 : Int32))] [])) _ _ _
    refine own_go (fun τ κ => XS.iloadN X96.here hx rfl (hb hby d6_8) rfl κ) ?_
    show own_End p e below s (T96.setTop (mkF m 9 #[.val (.ref o0), .val (.int (4 : Int32))] [(.int (4 : Int32))])) _ _ _
    obtain ⟨_, _, ⟨T97, L97, k97, n97⟩, -, X97, ⟨Lc97, hQ97, l97, y97, z97⟩, st97⟩ := Jvm.LawKit.callS X96 hx (y := (⟨"java/lang/Integer", "toString", "(I)Ljava/lang/String;"⟩ : MethodName)) hown (mvT hZ (hw _ (List.mem_of_getElem? (i := 31) rfl))) (mvT hZ (hw _ (List.mem_of_getElem? (i := 32) rfl))) (mvT hZ (hw _ (List.mem_of_getElem? (i := 33) rfl))) (mvT hZ (hw _ (List.mem_of_getElem? (i := 34) rfl))) (by decide) (backOf (W := 0) (rmT1 l Z a0 hw [] (4 : Int32) cz t1 d1 t2 d2 h96 n0 Z96 Fa96_1 S_C hcz S_1 D1 S_2 D2 (by decide) (by decide)) hZ (hw _ (List.mem_of_getElem? (i := 34) rfl)) (hw _ (List.mem_of_getElem? (i := 33) rfl)) (by decide) (by decide)) (g := (mkF m 9 #[.val (.ref o0), .val (.int (4 : Int32))] [(.int (4 : Int32))])) rfl (by rw [hml]; rfl) (argsL := [(.int (4 : Int32))]) (rest := []) (lenOf own_pd10 rfl) rfl (by show 2 * 0 + _ ≤ _; exact Nat.le_of_eq rfl) (hb hby d6_9) (fun _ _ => ⟨rfl, e96, (by decide : 8 + 2 ≤ _), (by decide : 20 + 5 ≤ _)⟩)
    dsimp only [Pt.U, Pt.locs, Pt.cells, Pt.slots] at X97 l97 y97 z97 st97 hQ97
    subst l97 y97 z97
    obtain ⟨⟨sa97, sb97, sk97, y4_0, rfl, za97, zb97, Ss97, K97, hy97⟩, N97q⟩ := hQ97
    have N97 := Fr.app N96 N97q
    obtain ⟨ls97, Xl97, Nl97⟩ := own_abs X97 N97
    have Z97 : n0 ≤ T97.heap.size := Nat.le_trans Z96 K97.1
    refine own_go st97 ?_
    show own_End p e below s (T97.setTop (mkF m 12 #[.val (.ref o0), .val (.int (4 : Int32))] [(.ref sa97)])) _ _ _
    have g_sa97 : n0 ≤ sa97 := Nat.le_trans Z96 za97
    have sz_sa97 : h0.size ≤ sa97 := Nat.le_trans KP96.1 za97
    have ne_o0_sa97 : o0 ≠ sa97 := Nat.ne_of_lt (Nat.lt_of_lt_of_le Fa96_0.lt za97)
    have ne_sb_sa97 : sb ≠ sa97 := Nat.ne_of_lt (Nat.lt_of_lt_of_le Fa96_0.ltb za97)
    have g_sb97 : n0 ≤ sb97 := Nat.le_trans Z96 zb97
    have sz_sb97 : h0.size ≤ sb97 := Nat.le_trans KP96.1 zb97
    have ne_o0_sb97 : o0 ≠ sb97 := Nat.ne_of_lt (Nat.lt_of_lt_of_le Fa96_0.lt zb97)
    have ne_sb_sb97 : sb ≠ sb97 := Nat.ne_of_lt (Nat.lt_of_lt_of_le Fa96_0.ltb zb97)
    have KP97 := KP96.trans K97 all0
    refine own_go (fun τ κ => XS.aloadN Xl97.here hx rfl (hb hby d6_12) rfl rfl κ) ?_
    show own_End p e below s (T97.setTop (mkF m 13 #[.val (.ref o0), .val (.int (4 : Int32))] [(.ref o0), (.ref sa97)])) _ _ _
    have U98 := (Fa96_0.keep K97 nin0 nin0)
    have U99 := (Fa96_1.keep K97 all0)
    obtain ⟨cq100, kq100, q100a, q100b, q100c⟩ := isOf hZ rfl Ss97.1
    obtain ⟨_, _, ⟨T100, L100, k100, n100⟩, -, X100, ⟨Lc100, hQ100, l100, y100, z100⟩, st100⟩ := Xl97.virtualBack hx (y := (⟨"java/lang/String", "equals", "(Ljava/lang/Object;)Z"⟩ : MethodName)) (z := (⟨"java/lang/String", "equals", "(Ljava/lang/Object;)Z"⟩ : MethodName)) hown (mvT hZ (hw _ (List.mem_of_getElem? (i := 45) rfl))) (mvT hZ (hw _ (List.mem_of_getElem? (i := 46) rfl))) (notFace_of_selects (args := #[]) (mvT hZ (hw _ (List.mem_of_getElem? (i := 48) rfl)))) (mvT hZ (hw _ (List.mem_of_getElem? (i := 48) rfl))) (mvT hZ (hw _ (List.mem_of_getElem? (i := 47) rfl))) (by decide) (backOf (W := 0) (rmE1_2 l Z a0 hw [] sa97 o0 sb97 sk97 sb sk cz y4_0 u0 u1 T97.heap n0 Z97 (Ne.symm ne_o0_sa97) Ss97 U98 U99 S_C hcz) hZ (hw _ (List.mem_of_getElem? (i := 49) rfl)) (hw _ (List.mem_of_getElem? (i := 3) rfl)) (by decide) (by decide)) q100a q100c (g := (mkF m 13 #[.val (.ref o0), .val (.int (4 : Int32))] [(.ref o0), (.ref sa97)])) rfl (by rw [hml]; rfl) (Steps.refl _) (argsL := [(.ref o0)]) (rest := []) (lenOf own_pd11 rfl) rfl (by show 2 * 0 + _ ≤ _; exact Nat.le_of_eq rfl) (hb hby d6_13) (fun _ _ => ⟨rfl, rfl, (by decide : 10 + 0 ≤ _), (by decide : 25 + 0 ≤ _)⟩)
    dsimp only [Pt.U, Pt.locs, Pt.cells, Pt.slots] at X100 l100 y100 z100 st100 hQ100
    subst l100 y100 z100
    obtain ⟨rfl, N100q, e100⟩ := hQ100
    have N100 := Fr.app Nl97 N100q
    obtain ⟨ls100, Xl100, Nl100⟩ := own_abs X100 N100
    refine own_go (fun τ κ => st100.trans κ) ?_
    show own_End p e below s (T100.setTop (mkF m 16 #[.val (.ref o0), .val (.int (4 : Int32))] [(.int (0 : Int32))])) _ _ _
    refine own_go (fun τ κ => XS.ifYes Xl100.here hx rfl (pc0 := 16) (pc' := 21) rfl (hb hby d6_16) rfl ((if0 _ _).trans (own_eq (x := (0 : Int32)) (y := (0 : Int32)) (i := 0) (j := 0) rfl rfl (by decide)).1) (by decide) (by decide) κ) ?_
    show own_End p e below s (T100.setTop (mkF m 21 #[.val (.ref o0), .val (.int (4 : Int32))] [])) _ _ _
    refine own_go (fun τ κ => XS.iinc Xl100.here hx rfl (hb hby d6_21) rfl (l' := #[.val (.ref o0), .val (.int (5 : Int32))]) rfl κ) ?_
    show own_End p e below s (T100.setTop (mkF m 24 #[.val (.ref o0), .val (.int (5 : Int32))] [])) _ _ _
    refine own_go (fun τ κ => XS.goto Xl100.here hx rfl (pc0 := 24) (pc' := 2) rfl (hb hby d6_24) (by decide) (by decide) κ) ?_
    show own_End p e below s (T100.setTop (mkF m 2 #[.val (.ref o0), .val (.int (5 : Int32))] [])) _ _ _
    exact J5 T100 T97.heap _ Xl100 e100 Nl100 Z97 KP97 U98 U99 
  have J3 : ∀ (T101 : State) (h101 : Heap) (ls101 : List Loc) (X101 : Stand p l e ({ frames := 3, cells := 48, slots := 134, locals := 60 } : Room) s m #[(.ref o0)] below meth c T101 ls101 6 15) (e101 : T101.heap = h101) (N101 : Fr n0 ls101) (Z101 : n0 ≤ h101.size) (KP101 : Keep h0 h101 []) (Fa101_0 : own_Str Z h101 o0 sb sk (2 : Int32) [(.int u0), (.int u1)]) (Fa101_1 : Old Z n0 h101) , own_End p e below s (T101.setTop (mkF m 2 #[.val (.ref o0), .val (.int (3 : Int32))] [])) (Q_rmH2 Z o0 sb sk cz t1 d1 t2 d2 hq u0 u1 h0 n0) ({ frames := 3, cells := 48, slots := 134, locals := 60 } : Room).cells ({ frames := 3, cells := 48, slots := 134, locals := 60 } : Room).slots := by
    intro T101 h101 ls101 X101 e101 N101 Z101 KP101 Fa101_0 Fa101_1 
    show own_End p e below s (T101.setTop (mkF m 2 #[.val (.ref o0), .val (.int (3 : Int32))] [])) _ _ _
    refine own_go (fun τ κ => XS.iloadN X101.here hx rfl (hb hby d6_2) rfl κ) ?_
    show own_End p e below s (T101.setTop (mkF m 3 #[.val (.ref o0), .val (.int (3 : Int32))] [(.int (3 : Int32))])) _ _ _
    refine own_go (fun τ κ => XS.bipush X101.here hx rfl (hb hby d6_3) κ) ?_
    show own_End p e below s (T101.setTop (mkF m 5 #[.val (.ref o0), .val (.int (3 : Int32))] [(.int (24 : Int32)), (.int (3 : Int32))])) _ _ _
    refine own_go (fun τ κ => XS.icmpNo X101.here hx rfl (hb hby d6_5) rfl (own_tlt (x := (3 : Int32)) (y := (24 : Int32)) (i := 3) (j := 24) rfl rfl (by decide)).2.1 κ) ?_
    show own_End p e below s (T101.setTop (mkF m 8 #[.val (.ref o0), .val (.int (3 : Int32))] [])) _ _ _
    refine own_go (fun τ κ => XS.iloadN X101.here hx rfl (hb hby d6_8) rfl κ) ?_
    show own_End p e below s (T101.setTop (mkF m 9 #[.val (.ref o0), .val (.int (3 : Int32))] [(.int (3 : Int32))])) _ _ _
    obtain ⟨_, _, ⟨T102, L102, k102, n102⟩, -, X102, ⟨Lc102, hQ102, l102, y102, z102⟩, st102⟩ := Jvm.LawKit.callS X101 hx (y := (⟨"java/lang/Integer", "toString", "(I)Ljava/lang/String;"⟩ : MethodName)) hown (mvT hZ (hw _ (List.mem_of_getElem? (i := 31) rfl))) (mvT hZ (hw _ (List.mem_of_getElem? (i := 32) rfl))) (mvT hZ (hw _ (List.mem_of_getElem? (i := 33) rfl))) (mvT hZ (hw _ (List.mem_of_getElem? (i := 34) rfl))) (by decide) (backOf (W := 0) (rmT1 l Z a0 hw [] (3 : Int32) cz t1 d1 t2 d2 h101 n0 Z101 Fa101_1 S_C hcz S_1 D1 S_2 D2 (by decide) (by decide)) hZ (hw _ (List.mem_of_getElem? (i := 34) rfl)) (hw _ (List.mem_of_getElem? (i := 33) rfl)) (by decide) (by decide)) (g := (mkF m 9 #[.val (.ref o0), .val (.int (3 : Int32))] [(.int (3 : Int32))])) rfl (by rw [hml]; rfl) (argsL := [(.int (3 : Int32))]) (rest := []) (lenOf own_pd10 rfl) rfl (by show 2 * 0 + _ ≤ _; exact Nat.le_of_eq rfl) (hb hby d6_9) (fun _ _ => ⟨rfl, e101, (by decide : 6 + 2 ≤ _), (by decide : 15 + 5 ≤ _)⟩)
    dsimp only [Pt.U, Pt.locs, Pt.cells, Pt.slots] at X102 l102 y102 z102 st102 hQ102
    subst l102 y102 z102
    obtain ⟨⟨sa102, sb102, sk102, y3_0, rfl, za102, zb102, Ss102, K102, hy102⟩, N102q⟩ := hQ102
    have N102 := Fr.app N101 N102q
    obtain ⟨ls102, Xl102, Nl102⟩ := own_abs X102 N102
    have Z102 : n0 ≤ T102.heap.size := Nat.le_trans Z101 K102.1
    refine own_go st102 ?_
    show own_End p e below s (T102.setTop (mkF m 12 #[.val (.ref o0), .val (.int (3 : Int32))] [(.ref sa102)])) _ _ _
    have g_sa102 : n0 ≤ sa102 := Nat.le_trans Z101 za102
    have sz_sa102 : h0.size ≤ sa102 := Nat.le_trans KP101.1 za102
    have ne_o0_sa102 : o0 ≠ sa102 := Nat.ne_of_lt (Nat.lt_of_lt_of_le Fa101_0.lt za102)
    have ne_sb_sa102 : sb ≠ sa102 := Nat.ne_of_lt (Nat.lt_of_lt_of_le Fa101_0.ltb za102)
    have g_sb102 : n0 ≤ sb102 := Nat.le_trans Z101 zb102
    have sz_sb102 : h0.size ≤ sb102 := Nat.le_trans KP101.1 zb102
    have ne_o0_sb102 : o0 ≠ sb102 := Nat.ne_of_lt (Nat.lt_of_lt_of_le Fa101_0.lt zb102)
    have ne_sb_sb102 : sb ≠ sb102 := Nat.ne_of_lt (Nat.lt_of_lt_of_le Fa101_0.ltb zb102)
    have KP102 := KP101.trans K102 all0
    refine own_go (fun τ κ => XS.aloadN Xl102.here hx rfl (hb hby d6_12) rfl rfl κ) ?_
    show own_End p e below s (T102.setTop (mkF m 13 #[.val (.ref o0), .val (.int (3 : Int32))] [(.ref o0), (.ref sa102)])) _ _ _
    have U103 := (Fa101_0.keep K102 nin0 nin0)
    have U104 := (Fa101_1.keep K102 all0)
    obtain ⟨cq105, kq105, q105a, q105b, q105c⟩ := isOf hZ rfl Ss102.1
    obtain ⟨_, _, ⟨T105, L105, k105, n105⟩, -, X105, ⟨Lc105, hQ105, l105, y105, z105⟩, st105⟩ := Xl102.virtualBack hx (y := (⟨"java/lang/String", "equals", "(Ljava/lang/Object;)Z"⟩ : MethodName)) (z := (⟨"java/lang/String", "equals", "(Ljava/lang/Object;)Z"⟩ : MethodName)) hown (mvT hZ (hw _ (List.mem_of_getElem? (i := 45) rfl))) (mvT hZ (hw _ (List.mem_of_getElem? (i := 46) rfl))) (notFace_of_selects (args := #[]) (mvT hZ (hw _ (List.mem_of_getElem? (i := 48) rfl)))) (mvT hZ (hw _ (List.mem_of_getElem? (i := 48) rfl))) (mvT hZ (hw _ (List.mem_of_getElem? (i := 47) rfl))) (by decide) (backOf (W := 0) (rmE1_2 l Z a0 hw [] sa102 o0 sb102 sk102 sb sk cz y3_0 u0 u1 T102.heap n0 Z102 (Ne.symm ne_o0_sa102) Ss102 U103 U104 S_C hcz) hZ (hw _ (List.mem_of_getElem? (i := 49) rfl)) (hw _ (List.mem_of_getElem? (i := 3) rfl)) (by decide) (by decide)) q105a q105c (g := (mkF m 13 #[.val (.ref o0), .val (.int (3 : Int32))] [(.ref o0), (.ref sa102)])) rfl (by rw [hml]; rfl) (Steps.refl _) (argsL := [(.ref o0)]) (rest := []) (lenOf own_pd11 rfl) rfl (by show 2 * 0 + _ ≤ _; exact Nat.le_of_eq rfl) (hb hby d6_13) (fun _ _ => ⟨rfl, rfl, (by decide : 8 + 0 ≤ _), (by decide : 20 + 0 ≤ _)⟩)
    dsimp only [Pt.U, Pt.locs, Pt.cells, Pt.slots] at X105 l105 y105 z105 st105 hQ105
    subst l105 y105 z105
    obtain ⟨rfl, N105q, e105⟩ := hQ105
    have N105 := Fr.app Nl102 N105q
    obtain ⟨ls105, Xl105, Nl105⟩ := own_abs X105 N105
    refine own_go (fun τ κ => st105.trans κ) ?_
    show own_End p e below s (T105.setTop (mkF m 16 #[.val (.ref o0), .val (.int (3 : Int32))] [(.int (0 : Int32))])) _ _ _
    refine own_go (fun τ κ => XS.ifYes Xl105.here hx rfl (pc0 := 16) (pc' := 21) rfl (hb hby d6_16) rfl ((if0 _ _).trans (own_eq (x := (0 : Int32)) (y := (0 : Int32)) (i := 0) (j := 0) rfl rfl (by decide)).1) (by decide) (by decide) κ) ?_
    show own_End p e below s (T105.setTop (mkF m 21 #[.val (.ref o0), .val (.int (3 : Int32))] [])) _ _ _
    refine own_go (fun τ κ => XS.iinc Xl105.here hx rfl (hb hby d6_21) rfl (l' := #[.val (.ref o0), .val (.int (4 : Int32))]) rfl κ) ?_
    show own_End p e below s (T105.setTop (mkF m 24 #[.val (.ref o0), .val (.int (4 : Int32))] [])) _ _ _
    refine own_go (fun τ κ => XS.goto Xl105.here hx rfl (pc0 := 24) (pc' := 2) rfl (hb hby d6_24) (by decide) (by decide) κ) ?_
    show own_End p e below s (T105.setTop (mkF m 2 #[.val (.ref o0), .val (.int (4 : Int32))] [])) _ _ _
    exact J4 T105 T102.heap _ Xl105 e105 Nl105 Z102 KP102 U103 U104 
  have J2 : ∀ (T106 : State) (h106 : Heap) (ls106 : List Loc) (X106 : Stand p l e ({ frames := 3, cells := 48, slots := 134, locals := 60 } : Room) s m #[(.ref o0)] below meth c T106 ls106 4 10) (e106 : T106.heap = h106) (N106 : Fr n0 ls106) (Z106 : n0 ≤ h106.size) (KP106 : Keep h0 h106 []) (Fa106_0 : own_Str Z h106 o0 sb sk (2 : Int32) [(.int u0), (.int u1)]) (Fa106_1 : Old Z n0 h106) , own_End p e below s (T106.setTop (mkF m 2 #[.val (.ref o0), .val (.int (2 : Int32))] [])) (Q_rmH2 Z o0 sb sk cz t1 d1 t2 d2 hq u0 u1 h0 n0) ({ frames := 3, cells := 48, slots := 134, locals := 60 } : Room).cells ({ frames := 3, cells := 48, slots := 134, locals := 60 } : Room).slots := by
    intro T106 h106 ls106 X106 e106 N106 Z106 KP106 Fa106_0 Fa106_1 
    show own_End p e below s (T106.setTop (mkF m 2 #[.val (.ref o0), .val (.int (2 : Int32))] [])) _ _ _
    refine own_go (fun τ κ => XS.iloadN X106.here hx rfl (hb hby d6_2) rfl κ) ?_
    show own_End p e below s (T106.setTop (mkF m 3 #[.val (.ref o0), .val (.int (2 : Int32))] [(.int (2 : Int32))])) _ _ _
    refine own_go (fun τ κ => XS.bipush X106.here hx rfl (hb hby d6_3) κ) ?_
    show own_End p e below s (T106.setTop (mkF m 5 #[.val (.ref o0), .val (.int (2 : Int32))] [(.int (24 : Int32)), (.int (2 : Int32))])) _ _ _
    refine own_go (fun τ κ => XS.icmpNo X106.here hx rfl (hb hby d6_5) rfl (own_tlt (x := (2 : Int32)) (y := (24 : Int32)) (i := 2) (j := 24) rfl rfl (by decide)).2.1 κ) ?_
    show own_End p e below s (T106.setTop (mkF m 8 #[.val (.ref o0), .val (.int (2 : Int32))] [])) _ _ _
    refine own_go (fun τ κ => XS.iloadN X106.here hx rfl (hb hby d6_8) rfl κ) ?_
    show own_End p e below s (T106.setTop (mkF m 9 #[.val (.ref o0), .val (.int (2 : Int32))] [(.int (2 : Int32))])) _ _ _
    obtain ⟨_, _, ⟨T107, L107, k107, n107⟩, -, X107, ⟨Lc107, hQ107, l107, y107, z107⟩, st107⟩ := Jvm.LawKit.callS X106 hx (y := (⟨"java/lang/Integer", "toString", "(I)Ljava/lang/String;"⟩ : MethodName)) hown (mvT hZ (hw _ (List.mem_of_getElem? (i := 31) rfl))) (mvT hZ (hw _ (List.mem_of_getElem? (i := 32) rfl))) (mvT hZ (hw _ (List.mem_of_getElem? (i := 33) rfl))) (mvT hZ (hw _ (List.mem_of_getElem? (i := 34) rfl))) (by decide) (backOf (W := 0) (rmT1 l Z a0 hw [] (2 : Int32) cz t1 d1 t2 d2 h106 n0 Z106 Fa106_1 S_C hcz S_1 D1 S_2 D2 (by decide) (by decide)) hZ (hw _ (List.mem_of_getElem? (i := 34) rfl)) (hw _ (List.mem_of_getElem? (i := 33) rfl)) (by decide) (by decide)) (g := (mkF m 9 #[.val (.ref o0), .val (.int (2 : Int32))] [(.int (2 : Int32))])) rfl (by rw [hml]; rfl) (argsL := [(.int (2 : Int32))]) (rest := []) (lenOf own_pd10 rfl) rfl (by show 2 * 0 + _ ≤ _; exact Nat.le_of_eq rfl) (hb hby d6_9) (fun _ _ => ⟨rfl, e106, (by decide : 4 + 2 ≤ _), (by decide : 10 + 5 ≤ _)⟩)
    dsimp only [Pt.U, Pt.locs, Pt.cells, Pt.slots] at X107 l107 y107 z107 st107 hQ107
    subst l107 y107 z107
    obtain ⟨⟨sa107, sb107, sk107, y2_0, rfl, za107, zb107, Ss107, K107, hy107⟩, N107q⟩ := hQ107
    have N107 := Fr.app N106 N107q
    obtain ⟨ls107, Xl107, Nl107⟩ := own_abs X107 N107
    have Z107 : n0 ≤ T107.heap.size := Nat.le_trans Z106 K107.1
    refine own_go st107 ?_
    show own_End p e below s (T107.setTop (mkF m 12 #[.val (.ref o0), .val (.int (2 : Int32))] [(.ref sa107)])) _ _ _
    have g_sa107 : n0 ≤ sa107 := Nat.le_trans Z106 za107
    have sz_sa107 : h0.size ≤ sa107 := Nat.le_trans KP106.1 za107
    have ne_o0_sa107 : o0 ≠ sa107 := Nat.ne_of_lt (Nat.lt_of_lt_of_le Fa106_0.lt za107)
    have ne_sb_sa107 : sb ≠ sa107 := Nat.ne_of_lt (Nat.lt_of_lt_of_le Fa106_0.ltb za107)
    have g_sb107 : n0 ≤ sb107 := Nat.le_trans Z106 zb107
    have sz_sb107 : h0.size ≤ sb107 := Nat.le_trans KP106.1 zb107
    have ne_o0_sb107 : o0 ≠ sb107 := Nat.ne_of_lt (Nat.lt_of_lt_of_le Fa106_0.lt zb107)
    have ne_sb_sb107 : sb ≠ sb107 := Nat.ne_of_lt (Nat.lt_of_lt_of_le Fa106_0.ltb zb107)
    have KP107 := KP106.trans K107 all0
    refine own_go (fun τ κ => XS.aloadN Xl107.here hx rfl (hb hby d6_12) rfl rfl κ) ?_
    show own_End p e below s (T107.setTop (mkF m 13 #[.val (.ref o0), .val (.int (2 : Int32))] [(.ref o0), (.ref sa107)])) _ _ _
    have U108 := (Fa106_0.keep K107 nin0 nin0)
    have U109 := (Fa106_1.keep K107 all0)
    obtain ⟨cq110, kq110, q110a, q110b, q110c⟩ := isOf hZ rfl Ss107.1
    obtain ⟨_, _, ⟨T110, L110, k110, n110⟩, -, X110, ⟨Lc110, hQ110, l110, y110, z110⟩, st110⟩ := Xl107.virtualBack hx (y := (⟨"java/lang/String", "equals", "(Ljava/lang/Object;)Z"⟩ : MethodName)) (z := (⟨"java/lang/String", "equals", "(Ljava/lang/Object;)Z"⟩ : MethodName)) hown (mvT hZ (hw _ (List.mem_of_getElem? (i := 45) rfl))) (mvT hZ (hw _ (List.mem_of_getElem? (i := 46) rfl))) (notFace_of_selects (args := #[]) (mvT hZ (hw _ (List.mem_of_getElem? (i := 48) rfl)))) (mvT hZ (hw _ (List.mem_of_getElem? (i := 48) rfl))) (mvT hZ (hw _ (List.mem_of_getElem? (i := 47) rfl))) (by decide) (backOf (W := 0) (rmE1_2 l Z a0 hw [] sa107 o0 sb107 sk107 sb sk cz y2_0 u0 u1 T107.heap n0 Z107 (Ne.symm ne_o0_sa107) Ss107 U108 U109 S_C hcz) hZ (hw _ (List.mem_of_getElem? (i := 49) rfl)) (hw _ (List.mem_of_getElem? (i := 3) rfl)) (by decide) (by decide)) q110a q110c (g := (mkF m 13 #[.val (.ref o0), .val (.int (2 : Int32))] [(.ref o0), (.ref sa107)])) rfl (by rw [hml]; rfl) (Steps.refl _) (argsL := [(.ref o0)]) (rest := []) (lenOf own_pd11 rfl) rfl (by show 2 * 0 + _ ≤ _; exact Nat.le_of_eq rfl) (hb hby d6_13) (fun _ _ => ⟨rfl, rfl, (by decide : 6 + 0 ≤ _), (by decide : 15 + 0 ≤ _)⟩)
    dsimp only [Pt.U, Pt.locs, Pt.cells, Pt.slots] at X110 l110 y110 z110 st110 hQ110
    subst l110 y110 z110
    obtain ⟨rfl, N110q, e110⟩ := hQ110
    have N110 := Fr.app Nl107 N110q
    obtain ⟨ls110, Xl110, Nl110⟩ := own_abs X110 N110
    refine own_go (fun τ κ => st110.trans κ) ?_
    show own_End p e below s (T110.setTop (mkF m 16 #[.val (.ref o0), .val (.int (2 : Int32))] [(.int (0 : Int32))])) _ _ _
    refine own_go (fun τ κ => XS.ifYes Xl110.here hx rfl (pc0 := 16) (pc' := 21) rfl (hb hby d6_16) rfl ((if0 _ _).trans (own_eq (x := (0 : Int32)) (y := (0 : Int32)) (i := 0) (j := 0) rfl rfl (by decide)).1) (by decide) (by decide) κ) ?_
    show own_End p e below s (T110.setTop (mkF m 21 #[.val (.ref o0), .val (.int (2 : Int32))] [])) _ _ _
    refine own_go (fun τ κ => XS.iinc Xl110.here hx rfl (hb hby d6_21) rfl (l' := #[.val (.ref o0), .val (.int (3 : Int32))]) rfl κ) ?_
    show own_End p e below s (T110.setTop (mkF m 24 #[.val (.ref o0), .val (.int (3 : Int32))] [])) _ _ _
    refine own_go (fun τ κ => XS.goto Xl110.here hx rfl (pc0 := 24) (pc' := 2) rfl (hb hby d6_24) (by decide) (by decide) κ) ?_
    show own_End p e below s (T110.setTop (mkF m 2 #[.val (.ref o0), .val (.int (3 : Int32))] [])) _ _ _
    exact J3 T110 T107.heap _ Xl110 e110 Nl110 Z107 KP107 U108 U109 
  have J1 : ∀ (T111 : State) (h111 : Heap) (ls111 : List Loc) (X111 : Stand p l e ({ frames := 3, cells := 48, slots := 134, locals := 60 } : Room) s m #[(.ref o0)] below meth c T111 ls111 2 5) (e111 : T111.heap = h111) (N111 : Fr n0 ls111) (Z111 : n0 ≤ h111.size) (KP111 : Keep h0 h111 []) (Fa111_0 : own_Str Z h111 o0 sb sk (2 : Int32) [(.int u0), (.int u1)]) (Fa111_1 : Old Z n0 h111) , own_End p e below s (T111.setTop (mkF m 2 #[.val (.ref o0), .val (.int (1 : Int32))] [])) (Q_rmH2 Z o0 sb sk cz t1 d1 t2 d2 hq u0 u1 h0 n0) ({ frames := 3, cells := 48, slots := 134, locals := 60 } : Room).cells ({ frames := 3, cells := 48, slots := 134, locals := 60 } : Room).slots := by
    intro T111 h111 ls111 X111 e111 N111 Z111 KP111 Fa111_0 Fa111_1 
    show own_End p e below s (T111.setTop (mkF m 2 #[.val (.ref o0), .val (.int (1 : Int32))] [])) _ _ _
    refine own_go (fun τ κ => XS.iloadN X111.here hx rfl (hb hby d6_2) rfl κ) ?_
    show own_End p e below s (T111.setTop (mkF m 3 #[.val (.ref o0), .val (.int (1 : Int32))] [(.int (1 : Int32))])) _ _ _
    refine own_go (fun τ κ => XS.bipush X111.here hx rfl (hb hby d6_3) κ) ?_
    show own_End p e below s (T111.setTop (mkF m 5 #[.val (.ref o0), .val (.int (1 : Int32))] [(.int (24 : Int32)), (.int (1 : Int32))])) _ _ _
    refine own_go (fun τ κ => XS.icmpNo X111.here hx rfl (hb hby d6_5) rfl (own_tlt (x := (1 : Int32)) (y := (24 : Int32)) (i := 1) (j := 24) rfl rfl (by decide)).2.1 κ) ?_
    show own_End p e below s (T111.setTop (mkF m 8 #[.val (.ref o0), .val (.int (1 : Int32))] [])) _ _ _
    refine own_go (fun τ κ => XS.iloadN X111.here hx rfl (hb hby d6_8) rfl κ) ?_
    show own_End p e below s (T111.setTop (mkF m 9 #[.val (.ref o0), .val (.int (1 : Int32))] [(.int (1 : Int32))])) _ _ _
    obtain ⟨_, _, ⟨T112, L112, k112, n112⟩, -, X112, ⟨Lc112, hQ112, l112, y112, z112⟩, st112⟩ := Jvm.LawKit.callS X111 hx (y := (⟨"java/lang/Integer", "toString", "(I)Ljava/lang/String;"⟩ : MethodName)) hown (mvT hZ (hw _ (List.mem_of_getElem? (i := 31) rfl))) (mvT hZ (hw _ (List.mem_of_getElem? (i := 32) rfl))) (mvT hZ (hw _ (List.mem_of_getElem? (i := 33) rfl))) (mvT hZ (hw _ (List.mem_of_getElem? (i := 34) rfl))) (by decide) (backOf (W := 0) (rmT1 l Z a0 hw [] (1 : Int32) cz t1 d1 t2 d2 h111 n0 Z111 Fa111_1 S_C hcz S_1 D1 S_2 D2 (by decide) (by decide)) hZ (hw _ (List.mem_of_getElem? (i := 34) rfl)) (hw _ (List.mem_of_getElem? (i := 33) rfl)) (by decide) (by decide)) (g := (mkF m 9 #[.val (.ref o0), .val (.int (1 : Int32))] [(.int (1 : Int32))])) rfl (by rw [hml]; rfl) (argsL := [(.int (1 : Int32))]) (rest := []) (lenOf own_pd10 rfl) rfl (by show 2 * 0 + _ ≤ _; exact Nat.le_of_eq rfl) (hb hby d6_9) (fun _ _ => ⟨rfl, e111, (by decide : 2 + 2 ≤ _), (by decide : 5 + 5 ≤ _)⟩)
    dsimp only [Pt.U, Pt.locs, Pt.cells, Pt.slots] at X112 l112 y112 z112 st112 hQ112
    subst l112 y112 z112
    obtain ⟨⟨sa112, sb112, sk112, y1_0, rfl, za112, zb112, Ss112, K112, hy112⟩, N112q⟩ := hQ112
    have N112 := Fr.app N111 N112q
    obtain ⟨ls112, Xl112, Nl112⟩ := own_abs X112 N112
    have Z112 : n0 ≤ T112.heap.size := Nat.le_trans Z111 K112.1
    refine own_go st112 ?_
    show own_End p e below s (T112.setTop (mkF m 12 #[.val (.ref o0), .val (.int (1 : Int32))] [(.ref sa112)])) _ _ _
    have g_sa112 : n0 ≤ sa112 := Nat.le_trans Z111 za112
    have sz_sa112 : h0.size ≤ sa112 := Nat.le_trans KP111.1 za112
    have ne_o0_sa112 : o0 ≠ sa112 := Nat.ne_of_lt (Nat.lt_of_lt_of_le Fa111_0.lt za112)
    have ne_sb_sa112 : sb ≠ sa112 := Nat.ne_of_lt (Nat.lt_of_lt_of_le Fa111_0.ltb za112)
    have g_sb112 : n0 ≤ sb112 := Nat.le_trans Z111 zb112
    have sz_sb112 : h0.size ≤ sb112 := Nat.le_trans KP111.1 zb112
    have ne_o0_sb112 : o0 ≠ sb112 := Nat.ne_of_lt (Nat.lt_of_lt_of_le Fa111_0.lt zb112)
    have ne_sb_sb112 : sb ≠ sb112 := Nat.ne_of_lt (Nat.lt_of_lt_of_le Fa111_0.ltb zb112)
    have KP112 := KP111.trans K112 all0
    refine own_go (fun τ κ => XS.aloadN Xl112.here hx rfl (hb hby d6_12) rfl rfl κ) ?_
    show own_End p e below s (T112.setTop (mkF m 13 #[.val (.ref o0), .val (.int (1 : Int32))] [(.ref o0), (.ref sa112)])) _ _ _
    have U113 := (Fa111_0.keep K112 nin0 nin0)
    have U114 := (Fa111_1.keep K112 all0)
    obtain ⟨cq115, kq115, q115a, q115b, q115c⟩ := isOf hZ rfl Ss112.1
    obtain ⟨_, _, ⟨T115, L115, k115, n115⟩, -, X115, ⟨Lc115, hQ115, l115, y115, z115⟩, st115⟩ := Xl112.virtualBack hx (y := (⟨"java/lang/String", "equals", "(Ljava/lang/Object;)Z"⟩ : MethodName)) (z := (⟨"java/lang/String", "equals", "(Ljava/lang/Object;)Z"⟩ : MethodName)) hown (mvT hZ (hw _ (List.mem_of_getElem? (i := 45) rfl))) (mvT hZ (hw _ (List.mem_of_getElem? (i := 46) rfl))) (notFace_of_selects (args := #[]) (mvT hZ (hw _ (List.mem_of_getElem? (i := 48) rfl)))) (mvT hZ (hw _ (List.mem_of_getElem? (i := 48) rfl))) (mvT hZ (hw _ (List.mem_of_getElem? (i := 47) rfl))) (by decide) (backOf (W := 0) (rmE1_2 l Z a0 hw [] sa112 o0 sb112 sk112 sb sk cz y1_0 u0 u1 T112.heap n0 Z112 (Ne.symm ne_o0_sa112) Ss112 U113 U114 S_C hcz) hZ (hw _ (List.mem_of_getElem? (i := 49) rfl)) (hw _ (List.mem_of_getElem? (i := 3) rfl)) (by decide) (by decide)) q115a q115c (g := (mkF m 13 #[.val (.ref o0), .val (.int (1 : Int32))] [(.ref o0), (.ref sa112)])) rfl (by rw [hml]; rfl) (Steps.refl _) (argsL := [(.ref o0)]) (rest := []) (lenOf own_pd11 rfl) rfl (by show 2 * 0 + _ ≤ _; exact Nat.le_of_eq rfl) (hb hby d6_13) (fun _ _ => ⟨rfl, rfl, (by decide : 4 + 0 ≤ _), (by decide : 10 + 0 ≤ _)⟩)
    dsimp only [Pt.U, Pt.locs, Pt.cells, Pt.slots] at X115 l115 y115 z115 st115 hQ115
    subst l115 y115 z115
    obtain ⟨rfl, N115q, e115⟩ := hQ115
    have N115 := Fr.app Nl112 N115q
    obtain ⟨ls115, Xl115, Nl115⟩ := own_abs X115 N115
    refine own_go (fun τ κ => st115.trans κ) ?_
    show own_End p e below s (T115.setTop (mkF m 16 #[.val (.ref o0), .val (.int (1 : Int32))] [(.int (0 : Int32))])) _ _ _
    refine own_go (fun τ κ => XS.ifYes Xl115.here hx rfl (pc0 := 16) (pc' := 21) rfl (hb hby d6_16) rfl ((if0 _ _).trans (own_eq (x := (0 : Int32)) (y := (0 : Int32)) (i := 0) (j := 0) rfl rfl (by decide)).1) (by decide) (by decide) κ) ?_
    show own_End p e below s (T115.setTop (mkF m 21 #[.val (.ref o0), .val (.int (1 : Int32))] [])) _ _ _
    refine own_go (fun τ κ => XS.iinc Xl115.here hx rfl (hb hby d6_21) rfl (l' := #[.val (.ref o0), .val (.int (2 : Int32))]) rfl κ) ?_
    show own_End p e below s (T115.setTop (mkF m 24 #[.val (.ref o0), .val (.int (2 : Int32))] [])) _ _ _
    refine own_go (fun τ κ => XS.goto Xl115.here hx rfl (pc0 := 24) (pc' := 2) rfl (hb hby d6_24) (by decide) (by decide) κ) ?_
    show own_End p e below s (T115.setTop (mkF m 2 #[.val (.ref o0), .val (.int (2 : Int32))] [])) _ _ _
    exact J2 T115 T112.heap _ Xl115 e115 Nl115 Z112 KP112 U113 U114 
  have hl0 : (0 : Int32).toInt = 0 := rfl
  refine own_go (fun τ κ => XS.iconst X0.here hx rfl (hb hby d6_0) κ) ?_
  show own_End p e below s (s₁.setTop (mkF m 1 #[.val (.ref o0), .unset] [(.int (0 : Int32))])) _ _ _
  refine own_go (fun τ κ => XS.istoreN X0.here hx rfl (hb hby d6_1) rfl (l' := #[.val (.ref o0), .val (.int (0 : Int32))]) rfl κ) ?_
  show own_End p e below s (s₁.setTop (mkF m 2 #[.val (.ref o0), .val (.int (0 : Int32))] [])) _ _ _
  refine own_go (fun τ κ => XS.iloadN X0.here hx rfl (hb hby d6_2) rfl κ) ?_
  show own_End p e below s (s₁.setTop (mkF m 3 #[.val (.ref o0), .val (.int (0 : Int32))] [(.int (0 : Int32))])) _ _ _
  refine own_go (fun τ κ => XS.bipush X0.here hx rfl (hb hby d6_3) κ) ?_
  show own_End p e below s (s₁.setTop (mkF m 5 #[.val (.ref o0), .val (.int (0 : Int32))] [(.int (24 : Int32)), (.int (0 : Int32))])) _ _ _
  refine own_go (fun τ κ => XS.icmpNo X0.here hx rfl (hb hby d6_5) rfl (own_tlt (x := (0 : Int32)) (y := (24 : Int32)) (i := 0) (j := 24) rfl rfl (by decide)).2.1 κ) ?_
  show own_End p e below s (s₁.setTop (mkF m 8 #[.val (.ref o0), .val (.int (0 : Int32))] [])) _ _ _
  refine own_go (fun τ κ => XS.iloadN X0.here hx rfl (hb hby d6_8) rfl κ) ?_
  show own_End p e below s (s₁.setTop (mkF m 9 #[.val (.ref o0), .val (.int (0 : Int32))] [(.int (0 : Int32))])) _ _ _
  obtain ⟨_, _, ⟨T116, L116, k116, n116⟩, -, X116, ⟨Lc116, hQ116, l116, y116, z116⟩, st116⟩ := Jvm.LawKit.callS X0 hx (y := (⟨"java/lang/Integer", "toString", "(I)Ljava/lang/String;"⟩ : MethodName)) hown (mvT hZ (hw _ (List.mem_of_getElem? (i := 31) rfl))) (mvT hZ (hw _ (List.mem_of_getElem? (i := 32) rfl))) (mvT hZ (hw _ (List.mem_of_getElem? (i := 33) rfl))) (mvT hZ (hw _ (List.mem_of_getElem? (i := 34) rfl))) (by decide) (backOf (W := 0) (rmT1 l Z a0 hw [] (0 : Int32) cz t1 d1 t2 d2 h0 n0 Z0 Ol S_C hcz S_1 D1 S_2 D2 (by decide) (by decide)) hZ (hw _ (List.mem_of_getElem? (i := 34) rfl)) (hw _ (List.mem_of_getElem? (i := 33) rfl)) (by decide) (by decide)) (g := (mkF m 9 #[.val (.ref o0), .val (.int (0 : Int32))] [(.int (0 : Int32))])) rfl (by rw [hml]; rfl) (argsL := [(.int (0 : Int32))]) (rest := []) (lenOf own_pd10 rfl) rfl (by show 2 * 0 + _ ≤ _; exact Nat.le_of_eq rfl) (hb hby d6_9) (fun _ _ => ⟨rfl, e0, (by decide : 0 + 2 ≤ _), (by decide : 0 + 5 ≤ _)⟩)
  dsimp only [Pt.U, Pt.locs, Pt.cells, Pt.slots] at X116 l116 y116 z116 st116 hQ116
  subst l116 y116 z116
  obtain ⟨⟨sa116, sb116, sk116, y0_0, rfl, za116, zb116, Ss116, K116, hy116⟩, N116q⟩ := hQ116
  have N116 := Fr.app N0 N116q
  obtain ⟨ls116, Xl116, Nl116⟩ := own_abs X116 N116
  have Z116 : n0 ≤ T116.heap.size := Nat.le_trans Z0 K116.1
  refine own_go st116 ?_
  show own_End p e below s (T116.setTop (mkF m 12 #[.val (.ref o0), .val (.int (0 : Int32))] [(.ref sa116)])) _ _ _
  have g_sa116 : n0 ≤ sa116 := Nat.le_trans Z0 za116
  have sz_sa116 : h0.size ≤ sa116 := Nat.le_trans (Keep.refl h0 []).1 za116
  have ne_o0_sa116 : o0 ≠ sa116 := Nat.ne_of_lt (Nat.lt_of_lt_of_le S0.lt za116)
  have ne_sb_sa116 : sb ≠ sa116 := Nat.ne_of_lt (Nat.lt_of_lt_of_le S0.ltb za116)
  have g_sb116 : n0 ≤ sb116 := Nat.le_trans Z0 zb116
  have sz_sb116 : h0.size ≤ sb116 := Nat.le_trans (Keep.refl h0 []).1 zb116
  have ne_o0_sb116 : o0 ≠ sb116 := Nat.ne_of_lt (Nat.lt_of_lt_of_le S0.lt zb116)
  have ne_sb_sb116 : sb ≠ sb116 := Nat.ne_of_lt (Nat.lt_of_lt_of_le S0.ltb zb116)
  have KP116 := (Keep.refl h0 []).trans K116 all0
  refine own_go (fun τ κ => XS.aloadN Xl116.here hx rfl (hb hby d6_12) rfl rfl κ) ?_
  show own_End p e below s (T116.setTop (mkF m 13 #[.val (.ref o0), .val (.int (0 : Int32))] [(.ref o0), (.ref sa116)])) _ _ _
  have U117 := (S0.keep K116 nin0 nin0)
  have U118 := (Ol.keep K116 all0)
  obtain ⟨cq119, kq119, q119a, q119b, q119c⟩ := isOf hZ rfl Ss116.1
  obtain ⟨_, _, ⟨T119, L119, k119, n119⟩, -, X119, ⟨Lc119, hQ119, l119, y119, z119⟩, st119⟩ := Xl116.virtualBack hx (y := (⟨"java/lang/String", "equals", "(Ljava/lang/Object;)Z"⟩ : MethodName)) (z := (⟨"java/lang/String", "equals", "(Ljava/lang/Object;)Z"⟩ : MethodName)) hown (mvT hZ (hw _ (List.mem_of_getElem? (i := 45) rfl))) (mvT hZ (hw _ (List.mem_of_getElem? (i := 46) rfl))) (notFace_of_selects (args := #[]) (mvT hZ (hw _ (List.mem_of_getElem? (i := 48) rfl)))) (mvT hZ (hw _ (List.mem_of_getElem? (i := 48) rfl))) (mvT hZ (hw _ (List.mem_of_getElem? (i := 47) rfl))) (by decide) (backOf (W := 0) (rmE1_2 l Z a0 hw [] sa116 o0 sb116 sk116 sb sk cz y0_0 u0 u1 T116.heap n0 Z116 (Ne.symm ne_o0_sa116) Ss116 U117 U118 S_C hcz) hZ (hw _ (List.mem_of_getElem? (i := 49) rfl)) (hw _ (List.mem_of_getElem? (i := 3) rfl)) (by decide) (by decide)) q119a q119c (g := (mkF m 13 #[.val (.ref o0), .val (.int (0 : Int32))] [(.ref o0), (.ref sa116)])) rfl (by rw [hml]; rfl) (Steps.refl _) (argsL := [(.ref o0)]) (rest := []) (lenOf own_pd11 rfl) rfl (by show 2 * 0 + _ ≤ _; exact Nat.le_of_eq rfl) (hb hby d6_13) (fun _ _ => ⟨rfl, rfl, (by decide : 2 + 0 ≤ _), (by decide : 5 + 0 ≤ _)⟩)
  dsimp only [Pt.U, Pt.locs, Pt.cells, Pt.slots] at X119 l119 y119 z119 st119 hQ119
  subst l119 y119 z119
  obtain ⟨rfl, N119q, e119⟩ := hQ119
  have N119 := Fr.app Nl116 N119q
  obtain ⟨ls119, Xl119, Nl119⟩ := own_abs X119 N119
  refine own_go (fun τ κ => st119.trans κ) ?_
  show own_End p e below s (T119.setTop (mkF m 16 #[.val (.ref o0), .val (.int (0 : Int32))] [(.int (0 : Int32))])) _ _ _
  refine own_go (fun τ κ => XS.ifYes Xl119.here hx rfl (pc0 := 16) (pc' := 21) rfl (hb hby d6_16) rfl ((if0 _ _).trans (own_eq (x := (0 : Int32)) (y := (0 : Int32)) (i := 0) (j := 0) rfl rfl (by decide)).1) (by decide) (by decide) κ) ?_
  show own_End p e below s (T119.setTop (mkF m 21 #[.val (.ref o0), .val (.int (0 : Int32))] [])) _ _ _
  refine own_go (fun τ κ => XS.iinc Xl119.here hx rfl (hb hby d6_21) rfl (l' := #[.val (.ref o0), .val (.int (1 : Int32))]) rfl κ) ?_
  show own_End p e below s (T119.setTop (mkF m 24 #[.val (.ref o0), .val (.int (1 : Int32))] [])) _ _ _
  refine own_go (fun τ κ => XS.goto Xl119.here hx rfl (pc0 := 24) (pc' := 2) rfl (hb hby d6_24) (by decide) (by decide) κ) ?_
  show own_End p e below s (T119.setTop (mkF m 2 #[.val (.ref o0), .val (.int (1 : Int32))] [])) _ _ _
  exact J1 T119 T116.heap _ Xl119 e119 Nl119 Z116 KP116 U117 U118 
theorem own_pn5 : plainName "com/example/pryce/pryce/rating/RateHourPinLaw" = true := by first | (simp [plainName, overriddenIn]; done) | decide +kernel
theorem own_ef0_rm0 (m : MethodId) (p0 : Int32) : entryFrame m #[(.int p0)] maxLocals = mkF m 0 #[.val (.int p0), .unset, .unset, .unset] [] := by first | (simp [entryFrame, mkF, argsToLocals, Value.category, maxLocals]; done) | rfl
def Q_rm0 (Z : State) (p0 : Int32) (cz : Int32) (t1 : Addr) (d1 : Cell) (t2 : Addr) (d2 : Cell) (h0 : Heap) (n0 : Nat) (v : Option Value) (h : Heap) (L : List Loc) : Prop := v = some (.int 1) ∧ Fr n0 L
theorem own_pd12 : parseMethodDescriptor "(C)Ljava/lang/String;" = some ⟨[.char], some (.object "java/lang/String")⟩ := by decide +kernel
theorem own_pd13 : parseMethodDescriptor "(Ljava/lang/String;)I" = some ⟨[(.object "java/lang/String")], some .int⟩ := by decide +kernel
theorem own_pd14 : parseMethodDescriptor "([C)V" = some ⟨[(.array .char)], none⟩ := by decide +kernel
set_option maxRecDepth 65536 in
set_option maxHeartbeats 40000000 in
theorem rm0 (l : Launch) (Z : State) (a0 : Array Value) (hw : ∀ d ∈ tables_1, d.before a0 Z = true) (ws : List Jvm.Cond) (p0 : Int32) (cz : Int32) (t1 : Addr) (d1 : Cell) (t2 : Addr) (d2 : Cell) (h0 : Heap) (n0 : Nat) (Z0 : n0 ≤ h0.size) (Ol : Old Z n0 h0) (S_C : Sta Z Z.heap "java/lang/String" "COMPACT_STRINGS" "Z" (.int cz)) (hcz : ¬ cz.toInt = 0) (S_1 : Sta Z Z.heap "java/lang/Integer" "DigitOnes" "[B" (.ref t1)) (D1 : own_Dig Z Z.heap t1 d1 (fun x => 48 + x % 10)) (S_2 : Sta Z Z.heap "java/lang/Integer" "DigitTens" "[B" (.ref t2)) (D2 : own_Dig Z Z.heap t2 d2 (fun x => 48 + x / 10)) :
    MetFree l x (head1 (Jvm.Cond.code x code maxLocals ret :: ws) room_1) (fun a U => a = #[(.int p0)] ∧ Z.Warmed39 U.vm ∧ U.heap = h0) (fun _ _ _ _ _ => True) (fun _ U o U' => ∃ v L, o = .returned v ∧ Q_rm0 Z p0 cz t1 d1 t2 d2 h0 n0 v U'.heap L ∧ FrameEnd U o U' L room_1.cells room_1.slots) := by
  refine MetFree.of_bodySF (plainFor_of_name own_pn5) hisR ?_
  intro p e s m args below meth c s₁ Bd hml0 hP hK
  obtain ⟨rfl, hZ, hh⟩ := hP
  have hx := Bd.exec
  have hby := Bd.bytes
  have hml : c.maxLocals = 4 := hml0
  have hown : s.vm.findClass "com/example/pryce/pryce/rating/RateHourPinLaw" = some m.cls := findClass_of_methodNamed Bd.named
  have hnm := (name_of_methodNamed Bd.named Bd.method).1
  have X0 : Stand p l e room_1 s m #[(.int p0)] below meth c s₁ [] 0 0 := Stand.of_body Bd
  have e0 : s₁.heap = h0 := by rw [← hh, Bd.state]; rfl
  have N0 := Fr.nil n0
  refine (show own_End p e below s (s₁.setTop (entryFrame m #[(.int p0)] maxLocals)) (Q_rm0 Z p0 cz t1 d1 t2 d2 h0 n0) room_1.cells room_1.slots from ?_)
  refine own_go (fun τ κ => castTop (own_ef0_rm0 m p0) κ) ?_
  have li0 : (0 : Int32).toInt = 0 := rfl
  have li1 : (1 : Int32).toInt = 1 := rfl
  have li10 : (10 : Int32).toInt = 10 := rfl
  show own_End p e below s (s₁.setTop (mkF m 0 #[.val (.int p0), .unset, .unset, .unset] [])) _ _ _
  refine own_go (fun τ κ => XS.iloadN X0.here hx rfl (hb hby at_0) rfl κ) ?_
  show own_End p e below s (s₁.setTop (mkF m 1 #[.val (.int p0), .unset, .unset, .unset] [(.int p0)])) _ _ _
  refine own_go (fun τ κ => X0.ldcInt hx hown (mvT hZ (hw _ (List.mem_of_getElem? (i := 0) rfl))) (g := (mkF m 1 #[.val (.int p0), .unset, .unset, .unset] [(.int p0)])) rfl (hb hby at_1) _ κ) ?_
  show own_End p e below s (s₁.setTop (mkF m 3 #[.val (.int p0), .unset, .unset, .unset] [(.int (2147483647 : Int32)), (.int p0)])) _ _ _
  refine own_go (fun τ κ => XS.iand X0.here hx rfl (hb hby at_3) rfl κ) ?_
  show own_End p e below s (s₁.setTop (mkF m 4 #[.val (.int p0), .unset, .unset, .unset] [(.int (p0 &&& (2147483647 : Int32)))])) _ _ _
  refine own_go (fun τ κ => XS.bipush X0.here hx rfl (hb hby at_4) κ) ?_
  show own_End p e below s (s₁.setTop (mkF m 6 #[.val (.int p0), .unset, .unset, .unset] [(.int (24 : Int32)), (.int (p0 &&& (2147483647 : Int32)))])) _ _ _
  refine own_go (fun τ κ => XS.irem X0.here hx rfl (hb hby at_6) rfl (by decide) (by rw [irem_eq_mod]; exact κ)) ?_
  show own_End p e below s (s₁.setTop (mkF m 7 #[.val (.int p0), .unset, .unset, .unset] [(.int ((p0 &&& (2147483647 : Int32)) % (24 : Int32)))])) _ _ _
  have y1 := c_mask p0 (2147483647 : Int32) 31 (by decide) (by decide)
  have y2 := (c_irem (p0 &&& (2147483647 : Int32)) (24 : Int32) 24 rfl).1 (by omega)
  have hq24 : 0 ≤ ((p0 &&& (2147483647 : Int32)) % (24 : Int32)).toInt ∧ ((p0 &&& (2147483647 : Int32)) % (24 : Int32)).toInt < 24 := by omega
  generalize ((p0 &&& (2147483647 : Int32)) % (24 : Int32)) = hq at hq24 ⊢
  show own_End p e below s (s₁.setTop (mkF m 7 #[.val (.int p0), .unset, .unset, .unset] [(.int hq)])) _ _ _
  clear y1 y2
  refine own_go (fun τ κ => XS.istoreN X0.here hx rfl (hb hby at_7) rfl (l' := #[.val (.int p0), .val (.int hq), .unset, .unset]) rfl κ) ?_
  show own_End p e below s (s₁.setTop (mkF m 8 #[.val (.int p0), .val (.int hq), .unset, .unset] [])) _ _ _
  refine own_go (fun τ κ => XS.iloadN X0.here hx rfl (hb hby at_8) rfl κ) ?_
  show own_End p e below s (s₁.setTop (mkF m 9 #[.val (.int p0), .val (.int hq), .unset, .unset] [(.int hq)])) _ _ _
  refine own_go (fun τ κ => XS.bipush X0.here hx rfl (hb hby at_9) κ) ?_
  show own_End p e below s (s₁.setTop (mkF m 11 #[.val (.int p0), .val (.int hq), .unset, .unset] [(.int (10 : Int32)), (.int hq)])) _ _ _
  by_cases c11_1 : hq.toInt < 10
  · skip
    refine own_go (fun τ κ => XS.icmpNo X0.here hx rfl (hb hby at_11) rfl (own_tlt (x := hq) (y := (10 : Int32)) (i := hq.toInt) (j := 10) rfl rfl c11_1).2.1 κ) ?_
    show own_End p e below s (s₁.setTop (mkF m 14 #[.val (.int p0), .val (.int hq), .unset, .unset] [])) _ _ _
    refine own_go (fun τ κ => XS.bipush X0.here hx rfl (hb hby at_14) κ) ?_
    show own_End p e below s (s₁.setTop (mkF m 16 #[.val (.int p0), .val (.int hq), .unset, .unset] [(.int (48 : Int32))])) _ _ _
    refine own_go (fun τ κ => XS.iloadN X0.here hx rfl (hb hby at_16) rfl κ) ?_
    show own_End p e below s (s₁.setTop (mkF m 17 #[.val (.int p0), .val (.int hq), .unset, .unset] [(.int hq), (.int (48 : Int32))])) _ _ _
    refine own_go (fun τ κ => XS.iadd X0.here hx rfl (hb hby at_17) rfl κ) ?_
    show own_End p e below s (s₁.setTop (mkF m 18 #[.val (.int p0), .val (.int hq), .unset, .unset] [(.int ((48 : Int32) + hq))])) _ _ _
    refine own_go (fun τ κ => XS.i2c X0.here hx rfl (hb hby at_18) rfl κ) ?_
    show own_End p e below s (s₁.setTop (mkF m 19 #[.val (.int p0), .val (.int hq), .unset, .unset] [(.int (((48 : Int32) + hq).toUInt32.toUInt16.toUInt32.toInt32))])) _ _ _
    have q1 := c_iadd (48 : Int32) hq
    have q2 := rng32 ((48 : Int32) + hq)
    have l48 : (48 : Int32).toInt = 48 := rfl
    have q3 := c_i2c ((48 : Int32) + hq)
    have q4 := c_i2b (((48 : Int32) + hq).toUInt32.toUInt16.toUInt32.toInt32)
    have q5 := c_i2b (((((48 : Int32) + hq).toUInt32.toUInt16.toUInt32.toInt32).toInt8.toInt32))
    obtain ⟨_, _, ⟨T2, L2, k2, n2⟩, -, X2, ⟨Lc2, hQ2, l2, y2, z2⟩, st2⟩ := Jvm.LawKit.callS X0 hx (y := (⟨"java/lang/String", "valueOf", "(C)Ljava/lang/String;"⟩ : MethodName)) hown (mvT hZ (hw _ (List.mem_of_getElem? (i := 1) rfl))) (mvT hZ (hw _ (List.mem_of_getElem? (i := 2) rfl))) (mvT hZ (hw _ (List.mem_of_getElem? (i := 3) rfl))) (mvT hZ (hw _ (List.mem_of_getElem? (i := 4) rfl))) (by decide) (backOf (W := 0) (rmVC l Z a0 hw [] (((48 : Int32) + hq).toUInt32.toUInt16.toUInt32.toInt32) cz h0 n0 Z0 Ol S_C hcz (by omega)) hZ (hw _ (List.mem_of_getElem? (i := 4) rfl)) (hw _ (List.mem_of_getElem? (i := 3) rfl)) (by decide) (by decide)) (g := (mkF m 19 #[.val (.int p0), .val (.int hq), .unset, .unset] [(.int (((48 : Int32) + hq).toUInt32.toUInt16.toUInt32.toInt32))])) rfl (by rw [hml]; rfl) (argsL := [(.int (((48 : Int32) + hq).toUInt32.toUInt16.toUInt32.toInt32))]) (rest := []) (lenOf own_pd12 rfl) rfl (by show 2 * 0 + _ ≤ _; exact Nat.le_of_eq rfl) (hb hby at_19) (fun _ _ => ⟨rfl, e0, (by decide : 0 + 2 ≤ _), (by decide : 0 + 5 ≤ _)⟩)
    dsimp only [Pt.U, Pt.locs, Pt.cells, Pt.slots] at X2 l2 y2 z2 st2 hQ2
    subst l2 y2 z2
    obtain ⟨⟨sa2, sb2, sk2, rfl, za2, zb2, Ss2, K2⟩, N2q⟩ := hQ2
    have N2 := Fr.app N0 N2q
    obtain ⟨ls2, Xl2, Nl2⟩ := own_abs X2 N2
    have Z2 : n0 ≤ T2.heap.size := Nat.le_trans Z0 K2.1
    refine own_go st2 ?_
    show own_End p e below s (T2.setTop (mkF m 22 #[.val (.int p0), .val (.int hq), .unset, .unset] [(.ref sa2)])) _ _ _
    have g_sa2 : n0 ≤ sa2 := Nat.le_trans Z0 za2
    have g_sb2 : n0 ≤ sb2 := Nat.le_trans Z0 zb2
    refine own_go (fun τ κ => XS.astoreN Xl2.here hx rfl (hb hby at_22) rfl rfl (l' := #[.val (.int p0), .val (.int hq), .val (.ref sa2), .unset]) rfl κ) ?_
    show own_End p e below s (T2.setTop (mkF m 23 #[.val (.int p0), .val (.int hq), .val (.ref sa2), .unset] [])) _ _ _
    refine own_go (fun τ κ => XS.goto Xl2.here hx rfl (pc0 := 23) (pc' := 61) rfl (hb hby at_23) (by decide) (by decide) κ) ?_
    show own_End p e below s (T2.setTop (mkF m 61 #[.val (.int p0), .val (.int hq), .val (.ref sa2), .unset] [])) _ _ _
    refine own_go (fun τ κ => XS.aloadN Xl2.here hx rfl (hb hby at_61) rfl rfl κ) ?_
    show own_End p e below s (T2.setTop (mkF m 62 #[.val (.int p0), .val (.int hq), .val (.ref sa2), .unset] [(.ref sa2)])) _ _ _
    have U3 := (Ol.keep K2 all0)
    obtain ⟨_, _, ⟨T4, L4, k4, n4⟩, -, X4, ⟨Lc4, hQ4, l4, y4, z4⟩, st4⟩ := Jvm.LawKit.callS Xl2 hx (y := (⟨"com/example/pryce/pryce/rating/Rate", "hour", "(Ljava/lang/String;)I"⟩ : MethodName)) hown (mvT hZ (hw _ (List.mem_of_getElem? (i := 27) rfl))) (mvT hZ (hw _ (List.mem_of_getElem? (i := 28) rfl))) (mvT hZ (hw _ (List.mem_of_getElem? (i := 29) rfl))) (mvT hZ (hw _ (List.mem_of_getElem? (i := 30) rfl))) (by decide) (backOf (W := 0) (rmH1 l Z a0 hw [] sa2 sb2 sk2 cz t1 d1 t2 d2 hq (((((48 : Int32) + hq).toUInt32.toUInt16.toUInt32.toInt32).toInt8.toInt32).toInt8.toInt32) T2.heap n0 Z2 Ss2 U3 S_C hcz S_1 D1 S_2 D2 (by omega)) hZ (hw _ (List.mem_of_getElem? (i := 30) rfl)) (hw _ (List.mem_of_getElem? (i := 29) rfl)) (by decide) (by decide)) (g := (mkF m 62 #[.val (.int p0), .val (.int hq), .val (.ref sa2), .unset] [(.ref sa2)])) rfl (by rw [hml]; rfl) (argsL := [(.ref sa2)]) (rest := []) (lenOf own_pd13 rfl) rfl (by show 2 * 0 + _ ≤ _; exact Nat.le_of_eq rfl) (hb hby at_62) (fun _ _ => ⟨rfl, rfl, (by decide : 2 + 20 ≤ _), (by decide : 5 + 50 ≤ _)⟩)
    dsimp only [Pt.U, Pt.locs, Pt.cells, Pt.slots] at X4 l4 y4 z4 st4 hQ4
    subst l4 y4 z4
    obtain ⟨⟨r4, rfl, hr4⟩, N4q, K4⟩ := hQ4
    have N4 := Fr.app Nl2 N4q
    obtain ⟨ls4, Xl4, Nl4⟩ := own_abs X4 N4
    have Z4 : n0 ≤ T4.heap.size := Nat.le_trans Z2 K4.1
    refine own_go st4 ?_
    show own_End p e below s (T4.setTop (mkF m 65 #[.val (.int p0), .val (.int hq), .val (.ref sa2), .unset] [(.int r4)])) _ _ _
    refine own_go (fun τ κ => XS.iloadN Xl4.here hx rfl (hb hby at_65) rfl κ) ?_
    show own_End p e below s (T4.setTop (mkF m 66 #[.val (.int p0), .val (.int hq), .val (.ref sa2), .unset] [(.int hq), (.int r4)])) _ _ _
    refine own_go (fun τ κ => XS.icmpNo Xl4.here hx rfl (hb hby at_66) rfl (own_eq (x := r4) (y := hq) (i := r4.toInt) (j := hq.toInt) rfl rfl (by omega)).2 κ) ?_
    show own_End p e below s (T4.setTop (mkF m 69 #[.val (.int p0), .val (.int hq), .val (.ref sa2), .unset] [])) _ _ _
    refine own_go (fun τ κ => XS.iconst Xl4.here hx rfl (hb hby at_69) κ) ?_
    show own_End p e below s (T4.setTop (mkF m 70 #[.val (.int p0), .val (.int hq), .val (.ref sa2), .unset] [(.int (1 : Int32))])) _ _ _
    refine own_go (fun τ κ => XS.goto Xl4.here hx rfl (pc0 := 70) (pc' := 74) rfl (hb hby at_70) (by decide) (by decide) κ) ?_
    show own_End p e below s (T4.setTop (mkF m 74 #[.val (.int p0), .val (.int hq), .val (.ref sa2), .unset] [(.int (1 : Int32))])) _ _ _
    refine own_ret Xl4 (v := some (.int (1 : Int32))) (fun h => by rw [Bd.returns] at h; cases h) Bd.notSynchronized (fun fs hr => retN Xl4 hx (t := .boolean) Bd.returns (by simp) (hb hby at_74) hr) ?_ (by decide) (by decide)
    · exact ⟨rfl, Nl4⟩
  · skip
    refine own_go (fun τ κ => XS.icmpYes X0.here hx rfl (pc0 := 11) (pc' := 26) rfl (hb hby at_11) rfl (own_flt (x := hq) (y := (10 : Int32)) (i := hq.toInt) (j := 10) rfl rfl c11_1).2.1 (by decide) (by decide) κ) ?_
    show own_End p e below s (s₁.setTop (mkF m 26 #[.val (.int p0), .val (.int hq), .unset, .unset] [])) _ _ _
    refine own_go (fun τ κ => XS.iconst X0.here hx rfl (hb hby at_26) κ) ?_
    show own_End p e below s (s₁.setTop (mkF m 27 #[.val (.int p0), .val (.int hq), .unset, .unset] [(.int (2 : Int32))])) _ _ _
    obtain ⟨T5, h5, k5, X5, e5, E5, A5, st5⟩ := newP X0 hx hZ (hw _ (List.mem_of_getElem? (i := 53) rfl)) e0 (g := (mkF m 27 #[.val (.int p0), .val (.int hq), .unset, .unset] [(.int (2 : Int32))])) rfl (hb hby at_27) rfl (by decide) (cap := 2) (by decide) (by decide) (by decide) (by decide)
    obtain ⟨b5, g5⟩ : ∃ z, z = h0.size := ⟨_, rfl⟩
    rw [← g5] at A5 st5
    have g_b5 : n0 ≤ b5 := Nat.le_trans Z0 (Nat.le_of_eq g5.symm)
    have Z5 : n0 ≤ h5.size := Nat.le_trans Z0 E5.1
    have V_b5 : Arv Z h5 b5 k5 .char (2 : Int32) [(.int (0 : Int32)), (.int (0 : Int32))] (.int (0 : Int32)) := (Arv.new A5 (by decide)).pad (pad_rep [] (.int (0 : Int32)) 2)
    refine own_go st5 ?_
    show own_End p e below s (T5.setTop (mkF m 29 #[.val (.int p0), .val (.int hq), .unset, .unset] [(.ref b5)])) _ _ _
    refine own_go (fun τ κ => XS.astoreN X5.here hx rfl (hb hby at_29) rfl rfl (l' := #[.val (.int p0), .val (.int hq), .unset, .val (.ref b5)]) rfl κ) ?_
    show own_End p e below s (T5.setTop (mkF m 30 #[.val (.int p0), .val (.int hq), .unset, .val (.ref b5)] [])) _ _ _
    refine own_go (fun τ κ => XS.aloadN X5.here hx rfl (hb hby at_30) rfl rfl κ) ?_
    show own_End p e below s (T5.setTop (mkF m 31 #[.val (.int p0), .val (.int hq), .unset, .val (.ref b5)] [(.ref b5)])) _ _ _
    refine own_go (fun τ κ => XS.iconst X5.here hx rfl (hb hby at_31) κ) ?_
    show own_End p e below s (T5.setTop (mkF m 32 #[.val (.int p0), .val (.int hq), .unset, .val (.ref b5)] [(.int (0 : Int32)), (.ref b5)])) _ _ _
    refine own_go (fun τ κ => XS.bipush X5.here hx rfl (hb hby at_32) κ) ?_
    show own_End p e below s (T5.setTop (mkF m 34 #[.val (.int p0), .val (.int hq), .unset, .val (.ref b5)] [(.int (48 : Int32)), (.int (0 : Int32)), (.ref b5)])) _ _ _
    refine own_go (fun τ κ => XS.iloadN X5.here hx rfl (hb hby at_34) rfl κ) ?_
    show own_End p e below s (T5.setTop (mkF m 35 #[.val (.int p0), .val (.int hq), .unset, .val (.ref b5)] [(.int hq), (.int (48 : Int32)), (.int (0 : Int32)), (.ref b5)])) _ _ _
    refine own_go (fun τ κ => XS.bipush X5.here hx rfl (hb hby at_35) κ) ?_
    show own_End p e below s (T5.setTop (mkF m 37 #[.val (.int p0), .val (.int hq), .unset, .val (.ref b5)] [(.int (10 : Int32)), (.int hq), (.int (48 : Int32)), (.int (0 : Int32)), (.ref b5)])) _ _ _
    refine own_go (fun τ κ => XS.idiv X5.here hx rfl (hb hby at_37) rfl (by decide) κ) ?_
    show own_End p e below s (T5.setTop (mkF m 38 #[.val (.int p0), .val (.int hq), .unset, .val (.ref b5)] [(.int (hq / (10 : Int32))), (.int (48 : Int32)), (.int (0 : Int32)), (.ref b5)])) _ _ _
    refine own_go (fun τ κ => XS.iadd X5.here hx rfl (hb hby at_38) rfl κ) ?_
    show own_End p e below s (T5.setTop (mkF m 39 #[.val (.int p0), .val (.int hq), .unset, .val (.ref b5)] [(.int ((48 : Int32) + (hq / (10 : Int32)))), (.int (0 : Int32)), (.ref b5)])) _ _ _
    refine own_go (fun τ κ => XS.i2c X5.here hx rfl (hb hby at_39) rfl κ) ?_
    show own_End p e below s (T5.setTop (mkF m 40 #[.val (.int p0), .val (.int hq), .unset, .val (.ref b5)] [(.int (((48 : Int32) + (hq / (10 : Int32))).toUInt32.toUInt16.toUInt32.toInt32)), (.int (0 : Int32)), (.ref b5)])) _ _ _
    have l48 : (48 : Int32).toInt = 48 := rfl
    have dq := (c_idiv hq (10 : Int32) 10 rfl (by decide)).1 (by omega)
    have qA0 := c_iadd (48 : Int32) (hq / (10 : Int32))
    have qR0 := rng32 ((48 : Int32) + (hq / (10 : Int32)))
    have qB0 := c_i2c ((48 : Int32) + (hq / (10 : Int32)))
    have qX0 := c_i2c (((48 : Int32) + (hq / (10 : Int32))).toUInt32.toUInt16.toUInt32.toInt32)
    have qV0 := c_i2b ((((48 : Int32) + (hq / (10 : Int32))).toUInt32.toUInt16.toUInt32.toInt32).toUInt32.toUInt16.toUInt32.toInt32)
    have qW0 := c_i2b (((((48 : Int32) + (hq / (10 : Int32))).toUInt32.toUInt16.toUInt32.toInt32).toUInt32.toUInt16.toUInt32.toInt32).toInt8.toInt32)
    obtain ⟨cl6, Ar6, qa6, Sq6, Mq6, Hh6, Gq6⟩ := id V_b5
    have hin6 : ¬ ((0 : Int32) < 0 ∨ cl6.slots.size ≤ ((0 : Int32)).toNatClampNeg) := inb_of Sq6 ⟨by decide, by decide⟩
    obtain ⟨T7, h7, X7, e7, W7, st7⟩ := stC X5 hx hZ e5 Ar6 (j := (0 : Int32)) hin6 (g := (mkF m 40 #[.val (.int p0), .val (.int hq), .unset, .val (.ref b5)] [(.int (((48 : Int32) + (hq / (10 : Int32))).toUInt32.toUInt16.toUInt32.toInt32)), (.int (0 : Int32)), (.ref b5)])) rfl rfl (hb hby at_40)
    have V_b5_7 : Arv Z h7 b5 k5 .char (2 : Int32) [(.int ((((48 : Int32) + (hq / (10 : Int32))).toUInt32.toUInt16.toUInt32.toInt32).toUInt32.toUInt16.toUInt32.toInt32)), (.int (0 : Int32))] (.int (0 : Int32)) := Arv.set Ar6 qa6 Sq6 Mq6 Hh6 Gq6 (fits_nar_char _) W7 0 rfl (Nat.le_of_ble_eq_true rfl)
    have N7 := Fr.snoc X7 N0 g_b5
    obtain ⟨ls7, Xl7, Nl7⟩ := own_abs X7 N7
    have Z7 : n0 ≤ h7.size := Nat.le_trans Z5 (Keep.of_wr W7).1
    refine own_go st7 ?_
    show own_End p e below s (T7.setTop (mkF m 41 #[.val (.int p0), .val (.int hq), .unset, .val (.ref b5)] [])) _ _ _
    refine own_go (fun τ κ => XS.aloadN Xl7.here hx rfl (hb hby at_41) rfl rfl κ) ?_
    show own_End p e below s (T7.setTop (mkF m 42 #[.val (.int p0), .val (.int hq), .unset, .val (.ref b5)] [(.ref b5)])) _ _ _
    refine own_go (fun τ κ => XS.iconst Xl7.here hx rfl (hb hby at_42) κ) ?_
    show own_End p e below s (T7.setTop (mkF m 43 #[.val (.int p0), .val (.int hq), .unset, .val (.ref b5)] [(.int (1 : Int32)), (.ref b5)])) _ _ _
    refine own_go (fun τ κ => XS.bipush Xl7.here hx rfl (hb hby at_43) κ) ?_
    show own_End p e below s (T7.setTop (mkF m 45 #[.val (.int p0), .val (.int hq), .unset, .val (.ref b5)] [(.int (48 : Int32)), (.int (1 : Int32)), (.ref b5)])) _ _ _
    refine own_go (fun τ κ => XS.iloadN Xl7.here hx rfl (hb hby at_45) rfl κ) ?_
    show own_End p e below s (T7.setTop (mkF m 46 #[.val (.int p0), .val (.int hq), .unset, .val (.ref b5)] [(.int hq), (.int (48 : Int32)), (.int (1 : Int32)), (.ref b5)])) _ _ _
    refine own_go (fun τ κ => XS.bipush Xl7.here hx rfl (hb hby at_46) κ) ?_
    show own_End p e below s (T7.setTop (mkF m 48 #[.val (.int p0), .val (.int hq), .unset, .val (.ref b5)] [(.int (10 : Int32)), (.int hq), (.int (48 : Int32)), (.int (1 : Int32)), (.ref b5)])) _ _ _
    refine own_go (fun τ κ => XS.irem Xl7.here hx rfl (hb hby at_48) rfl (by decide) (by rw [irem_eq_mod]; exact κ)) ?_
    show own_End p e below s (T7.setTop (mkF m 49 #[.val (.int p0), .val (.int hq), .unset, .val (.ref b5)] [(.int (hq % (10 : Int32))), (.int (48 : Int32)), (.int (1 : Int32)), (.ref b5)])) _ _ _
    refine own_go (fun τ κ => XS.iadd Xl7.here hx rfl (hb hby at_49) rfl κ) ?_
    show own_End p e below s (T7.setTop (mkF m 50 #[.val (.int p0), .val (.int hq), .unset, .val (.ref b5)] [(.int ((48 : Int32) + (hq % (10 : Int32)))), (.int (1 : Int32)), (.ref b5)])) _ _ _
    refine own_go (fun τ κ => XS.i2c Xl7.here hx rfl (hb hby at_50) rfl κ) ?_
    show own_End p e below s (T7.setTop (mkF m 51 #[.val (.int p0), .val (.int hq), .unset, .val (.ref b5)] [(.int (((48 : Int32) + (hq % (10 : Int32))).toUInt32.toUInt16.toUInt32.toInt32)), (.int (1 : Int32)), (.ref b5)])) _ _ _
    have dr := (c_irem hq (10 : Int32) 10 rfl).1 (by omega)
    have qA1 := c_iadd (48 : Int32) (hq % (10 : Int32))
    have qR1 := rng32 ((48 : Int32) + (hq % (10 : Int32)))
    have qB1 := c_i2c ((48 : Int32) + (hq % (10 : Int32)))
    have qX1 := c_i2c (((48 : Int32) + (hq % (10 : Int32))).toUInt32.toUInt16.toUInt32.toInt32)
    have qV1 := c_i2b ((((48 : Int32) + (hq % (10 : Int32))).toUInt32.toUInt16.toUInt32.toInt32).toUInt32.toUInt16.toUInt32.toInt32)
    have qW1 := c_i2b (((((48 : Int32) + (hq % (10 : Int32))).toUInt32.toUInt16.toUInt32.toInt32).toUInt32.toUInt16.toUInt32.toInt32).toInt8.toInt32)
    obtain ⟨cl8, Ar8, qa8, Sq8, Mq8, Hh8, Gq8⟩ := id V_b5_7
    have hin8 : ¬ ((1 : Int32) < 0 ∨ cl8.slots.size ≤ ((1 : Int32)).toNatClampNeg) := inb_of Sq8 ⟨by decide, by decide⟩
    obtain ⟨T9, h9, X9, e9, W9, st9⟩ := stC Xl7 hx hZ e7 Ar8 (j := (1 : Int32)) hin8 (g := (mkF m 51 #[.val (.int p0), .val (.int hq), .unset, .val (.ref b5)] [(.int (((48 : Int32) + (hq % (10 : Int32))).toUInt32.toUInt16.toUInt32.toInt32)), (.int (1 : Int32)), (.ref b5)])) rfl rfl (hb hby at_51)
    have V_b5_9 : Arv Z h9 b5 k5 .char (2 : Int32) [(.int ((((48 : Int32) + (hq / (10 : Int32))).toUInt32.toUInt16.toUInt32.toInt32).toUInt32.toUInt16.toUInt32.toInt32)), (.int ((((48 : Int32) + (hq % (10 : Int32))).toUInt32.toUInt16.toUInt32.toInt32).toUInt32.toUInt16.toUInt32.toInt32))] (.int (0 : Int32)) := Arv.set Ar8 qa8 Sq8 Mq8 Hh8 Gq8 (fits_nar_char _) W9 1 rfl (Nat.le_of_ble_eq_true rfl)
    have N9 := Fr.snoc X9 Nl7 g_b5
    obtain ⟨ls9, Xl9, Nl9⟩ := own_abs X9 N9
    have Z9 : n0 ≤ h9.size := Nat.le_trans Z7 (Keep.of_wr W9).1
    refine own_go st9 ?_
    show own_End p e below s (T9.setTop (mkF m 52 #[.val (.int p0), .val (.int hq), .unset, .val (.ref b5)] [])) _ _ _
    obtain ⟨T10, h10, X10, e10, E10, A10, D10, -, st10⟩ := newO Xl9 hx hZ hown (hw _ (List.mem_of_getElem? (i := 54) rfl)) (hw _ (List.mem_of_getElem? (i := 11) rfl)) (hw _ (List.mem_of_getElem? (i := 3) rfl)) e9 (g := (mkF m 52 #[.val (.int p0), .val (.int hq), .unset, .val (.ref b5)] [])) rfl (hb hby at_52) (by decide) (by decide)
    obtain ⟨b10, g10⟩ : ∃ z, z = h9.size := ⟨_, rfl⟩
    rw [← g10] at A10 D10 st10
    have g_b10 : n0 ≤ b10 := Nat.le_trans Z9 (Nat.le_of_eq g10.symm)
    have ne_b5_b10 : b5 ≠ b10 := Nat.ne_of_lt (Nat.lt_of_lt_of_le V_b5_9.lt (Nat.le_of_eq g10.symm))
    have Z10 : n0 ≤ h10.size := Nat.le_trans Z9 E10.1
    have F_value_b10 : Fld Z h10 b10 "java/lang/String" "value" "[B" .null := D10 (Or.inr (hw _ (List.mem_of_getElem? (i := 24) rfl))) (ty := (.array .byte)) (by decide)
    have F_coder_b10 : Fld Z h10 b10 "java/lang/String" "coder" "B" (.int (0 : Int32)) := D10 (Or.inr (hw _ (List.mem_of_getElem? (i := 26) rfl))) (ty := .byte) (by decide)
    refine own_go st10 ?_
    show own_End p e below s (T10.setTop (mkF m 55 #[.val (.int p0), .val (.int hq), .unset, .val (.ref b5)] [(.ref b10)])) _ _ _
    refine own_go (fun τ κ => XS.dup X10.here hx rfl (hb hby at_55) rfl rfl κ) ?_
    show own_End p e below s (T10.setTop (mkF m 56 #[.val (.int p0), .val (.int hq), .unset, .val (.ref b5)] [(.ref b10), (.ref b10)])) _ _ _
    refine own_go (fun τ κ => XS.aloadN X10.here hx rfl (hb hby at_56) rfl rfl κ) ?_
    show own_End p e below s (T10.setTop (mkF m 57 #[.val (.int p0), .val (.int hq), .unset, .val (.ref b5)] [(.ref b5), (.ref b10), (.ref b10)])) _ _ _
    have U11 := (V_b5_9.ext E10)
    have U12 := ((((Ol.ext E5).wr W7 g_b5).wr W9 g_b5).ext E10)
    obtain ⟨_, _, ⟨T13, L13, k13, n13⟩, -, X13, ⟨Lc13, hQ13, l13, y13, z13⟩, st13⟩ := X10.specialBack hx (y := (⟨"java/lang/String", "<init>", "([C)V"⟩ : MethodName)) rfl hown (mvT hZ (hw _ (List.mem_of_getElem? (i := 55) rfl))) (mvT hZ (hw _ (List.mem_of_getElem? (i := 56) rfl))) (mvT hZ (hw _ (List.mem_of_getElem? (i := 57) rfl))) (by decide) (backOf (W := 1) (rmC2 l Z a0 hw [] b10 b5 k5 cz ((((48 : Int32) + (hq / (10 : Int32))).toUInt32.toUInt16.toUInt32.toInt32).toUInt32.toUInt16.toUInt32.toInt32) ((((48 : Int32) + (hq % (10 : Int32))).toUInt32.toUInt16.toUInt32.toInt32).toUInt32.toUInt16.toUInt32.toInt32) h10 n0 Z10 g_b10 A10 F_value_b10 F_coder_b10 (Ne.symm ne_b5_b10) U11 U12 S_C hcz (by omega) (by omega)) hZ (hw _ (List.mem_of_getElem? (i := 57) rfl)) (hw _ (List.mem_of_getElem? (i := 3) rfl)) (by decide) (by decide)) (g := (mkF m 57 #[.val (.int p0), .val (.int hq), .unset, .val (.ref b5)] [(.ref b5), (.ref b10), (.ref b10)])) rfl (by rw [hml]; rfl) (Steps.refl _) (a := b10) (argsL := [(.ref b5)]) (rest := [(.ref b10)]) (lenOf own_pd14 rfl) rfl (by show 2 * 0 + _ ≤ _; exact Nat.le_of_eq rfl) (hb hby at_57) (fun _ _ => ⟨rfl, e10, (by decide : 2 + 1 ≤ _), (by decide : 6 + 2 ≤ _)⟩)
    dsimp only [Pt.U, Pt.locs, Pt.cells, Pt.slots] at X13 l13 y13 z13 st13 hQ13
    subst l13 y13 z13
    obtain ⟨⟨sb13, sk13, zb13, Ss13⟩, N13q, K13, rfl⟩ := hQ13
    have N13 := Fr.app Nl9 N13q
    obtain ⟨ls13, Xl13, Nl13⟩ := own_abs X13 N13
    have Z13 : n0 ≤ T13.heap.size := Nat.le_trans Z10 K13.1
    refine own_go (fun τ κ => st13.trans κ) ?_
    show own_End p e below s (T13.setTop (mkF m 60 #[.val (.int p0), .val (.int hq), .unset, .val (.ref b5)] [(.ref b10)])) _ _ _
    have g_sb13 : n0 ≤ sb13 := Nat.le_trans Z10 zb13
    have ne_b5_sb13 : b5 ≠ sb13 := Nat.ne_of_lt (Nat.lt_of_lt_of_le U11.lt zb13)
    have ne_b10_sb13 : b10 ≠ sb13 := Nat.ne_of_lt (Nat.lt_of_lt_of_le A10.lt zb13)
    refine own_go (fun τ κ => XS.astoreN Xl13.here hx rfl (hb hby at_60) rfl rfl (l' := #[.val (.int p0), .val (.int hq), .val (.ref b10), .val (.ref b5)]) rfl κ) ?_
    show own_End p e below s (T13.setTop (mkF m 61 #[.val (.int p0), .val (.int hq), .val (.ref b10), .val (.ref b5)] [])) _ _ _
    refine own_go (fun τ κ => XS.aloadN Xl13.here hx rfl (hb hby at_61) rfl rfl κ) ?_
    show own_End p e below s (T13.setTop (mkF m 62 #[.val (.int p0), .val (.int hq), .val (.ref b10), .val (.ref b5)] [(.ref b10)])) _ _ _
    have U14 := (U12.keep K13 (allS g_b10 all0))
    obtain ⟨_, _, ⟨T15, L15, k15, n15⟩, -, X15, ⟨Lc15, hQ15, l15, y15, z15⟩, st15⟩ := Jvm.LawKit.callS Xl13 hx (y := (⟨"com/example/pryce/pryce/rating/Rate", "hour", "(Ljava/lang/String;)I"⟩ : MethodName)) hown (mvT hZ (hw _ (List.mem_of_getElem? (i := 27) rfl))) (mvT hZ (hw _ (List.mem_of_getElem? (i := 28) rfl))) (mvT hZ (hw _ (List.mem_of_getElem? (i := 29) rfl))) (mvT hZ (hw _ (List.mem_of_getElem? (i := 30) rfl))) (by decide) (backOf (W := 0) (rmH2 l Z a0 hw [] b10 sb13 sk13 cz t1 d1 t2 d2 hq ((((((48 : Int32) + (hq / (10 : Int32))).toUInt32.toUInt16.toUInt32.toInt32).toUInt32.toUInt16.toUInt32.toInt32).toInt8.toInt32).toInt8.toInt32) ((((((48 : Int32) + (hq % (10 : Int32))).toUInt32.toUInt16.toUInt32.toInt32).toUInt32.toUInt16.toUInt32.toInt32).toInt8.toInt32).toInt8.toInt32) T13.heap n0 Z13 Ss13 U14 S_C hcz S_1 D1 S_2 D2 (by omega)) hZ (hw _ (List.mem_of_getElem? (i := 30) rfl)) (hw _ (List.mem_of_getElem? (i := 29) rfl)) (by decide) (by decide)) (g := (mkF m 62 #[.val (.int p0), .val (.int hq), .val (.ref b10), .val (.ref b5)] [(.ref b10)])) rfl (by rw [hml]; rfl) (argsL := [(.ref b10)]) (rest := []) (lenOf own_pd13 rfl) rfl (by show 2 * 0 + _ ≤ _; exact Nat.le_of_eq rfl) (hb hby at_62) (fun _ _ => ⟨rfl, rfl, (by decide : 3 + 48 ≤ _), (by decide : 8 + 134 ≤ _)⟩)
    dsimp only [Pt.U, Pt.locs, Pt.cells, Pt.slots] at X15 l15 y15 z15 st15 hQ15
    subst l15 y15 z15
    obtain ⟨⟨r15, rfl, hr15⟩, N15q, K15⟩ := hQ15
    have N15 := Fr.app Nl13 N15q
    obtain ⟨ls15, Xl15, Nl15⟩ := own_abs X15 N15
    have Z15 : n0 ≤ T15.heap.size := Nat.le_trans Z13 K15.1
    refine own_go st15 ?_
    show own_End p e below s (T15.setTop (mkF m 65 #[.val (.int p0), .val (.int hq), .val (.ref b10), .val (.ref b5)] [(.int r15)])) _ _ _
    refine own_go (fun τ κ => XS.iloadN Xl15.here hx rfl (hb hby at_65) rfl κ) ?_
    show own_End p e below s (T15.setTop (mkF m 66 #[.val (.int p0), .val (.int hq), .val (.ref b10), .val (.ref b5)] [(.int hq), (.int r15)])) _ _ _
    refine own_go (fun τ κ => XS.icmpNo Xl15.here hx rfl (hb hby at_66) rfl (own_eq (x := r15) (y := hq) (i := r15.toInt) (j := hq.toInt) rfl rfl (by omega)).2 κ) ?_
    show own_End p e below s (T15.setTop (mkF m 69 #[.val (.int p0), .val (.int hq), .val (.ref b10), .val (.ref b5)] [])) _ _ _
    refine own_go (fun τ κ => XS.iconst Xl15.here hx rfl (hb hby at_69) κ) ?_
    show own_End p e below s (T15.setTop (mkF m 70 #[.val (.int p0), .val (.int hq), .val (.ref b10), .val (.ref b5)] [(.int (1 : Int32))])) _ _ _
    refine own_go (fun τ κ => XS.goto Xl15.here hx rfl (pc0 := 70) (pc' := 74) rfl (hb hby at_70) (by decide) (by decide) κ) ?_
    show own_End p e below s (T15.setTop (mkF m 74 #[.val (.int p0), .val (.int hq), .val (.ref b10), .val (.ref b5)] [(.int (1 : Int32))])) _ _ _
    refine own_ret Xl15 (v := some (.int (1 : Int32))) (fun h => by rw [Bd.returns] at h; cases h) Bd.notSynchronized (fun fs hr => retN Xl15 hx (t := .boolean) Bd.returns (by simp) (hb hby at_74) hr) ?_ (by decide) (by decide)
    · exact ⟨rfl, Nl15⟩
theorem own_digStart {args : Array Value} {s : State} {n : String} {F : Term} {f : Int → Int} (wa : (Cond.arrayClass .byte).before args s = true)
    (x : (Cond.exactly (.static "java/lang/Integer" n "[B") "[B").value args s none s [] = some true) (y : (Cond.eq (.length (.static "java/lang/Integer" n "[B")) (.int 100)).value args s none s [] = some true)
    (z : (Cond.all (.static "java/lang/Integer" n "[B") (.eq (.elem (.static "java/lang/Integer" n "[B") (.index 0)) F)).value args s none s [] = some true)
    (hF : ∀ j : Int32, 0 ≤ j.toInt → j.toInt < 100 → ∃ w : Int32, F.eval args s none [j.toNatClampNeg] s = some (.int w) ∧ w.toInt = f j.toInt) :
    ∃ t c, (Term.static "java/lang/Integer" n "[B").eval args s none [] s = some (.ref t) ∧ own_Dig s s.heap t c f := by
  obtain ⟨t, ev⟩ := exa_v x
  obtain ⟨c, k, h1, h2, h3, h4, -⟩ := Exa.start ev x
  obtain ⟨cA, kA, comp, a1, a2, a3⟩ := Cond.arrayClass_spec (args := args) (first := s) (o := none) (idx := []) (show (Cond.arrayClass .byte).holds args s none s [] = true from wa)
  have e1 : cA = c.cls := Option.some.inj ((show s.vm.findClass "[B" = some cA from a1).symm.trans h2)
  subst e1
  have e2 : k = kA := Option.some.inj (h3.symm.trans a2)
  subst e2
  have l1 := eqv_i (y := 100) rfl y
  obtain ⟨a', cl, b1, b2, b3⟩ := Term.length_spec l1
  have e3 : t = a' := by rw [ev] at b1; injection b1 with b1; injection b1
  subst e3
  have b4 := Jvm.Joins.arrayAt_spec b2
  have e4 : c = cl := Option.some.inj (h1.symm.trans b4.1)
  subst e4
  have small := Jvm.Free.SBG.length_lt ev b2 l1
  have A : Arr s s.heap t c .byte := ⟨h1, ⟨(fun q hq => by rw [hq] at h4; cases h4), k, h3, comp, a3⟩, b4.2.1⟩
  have hs : c.slots.size = 100 := by
    injection b3 with b3
    have := len_toInt small
    rw [← b3] at this
    have q : (100 : Int32).toInt = 100 := rfl
    omega
  refine ⟨t, c, ev, A, hs, fun j h0 h100 => ?_⟩
  have nn : ¬ j < 0 := fun q => by rw [Int32.lt_iff_toInt_lt, show (0 : Int32).toInt = 0 from rfl] at q; omega
  have hj : j.toNatClampNeg < c.slots.size := by have := nat_of nn; omega
  have u := Cond.all_elim ev b2 z j.toNatClampNeg hj
  obtain ⟨w, hw, hv⟩ := hF j h0 h100
  have ee := eqv_i hw u
  exact ⟨w, (elem_f (show (Term.static "java/lang/Integer" n "[B").eval args s none [j.toNatClampNeg] s = some (.ref t) from ev) (idx_at nn) b2 nn).symm.trans ee, hv⟩
theorem own_ones (args : Array Value) (s : State) : ∀ j : Int32, 0 ≤ j.toInt → j.toInt < 100 → ∃ w : Int32, (Term.add (.int 48) (.rem (.index 0) (.int 10))).eval args s none [j.toNatClampNeg] s = some (.int w) ∧ w.toInt = (fun x : Int => 48 + x % 10) j.toInt := fun j h0 h1 => by
  have nn : ¬ j < 0 := fun q => by rw [Int32.lt_iff_toInt_lt, show (0 : Int32).toInt = 0 from rfl] at q; omega
  have e1 := rem_f (args := args) (first := s) (o := none) (s := s) (idx_at nn) (Term.int_eval (10)) (by decide)
  refine ⟨48 + j % 10, Term.add_int (Term.int_eval (48)) e1, ?_⟩
  have h2 := (c_irem j (10 : Int32) 10 rfl).1 h0
  have h3 := c_iadd (48 : Int32) (j % 10)
  have h4 := rng32 ((48 : Int32) + j % 10)
  have h5 : (48 : Int32).toInt = 48 := rfl
  show _ = 48 + j.toInt % 10
  omega
theorem own_tens (args : Array Value) (s : State) : ∀ j : Int32, 0 ≤ j.toInt → j.toInt < 100 → ∃ w : Int32, (Term.add (.int 48) (.div (.index 0) (.int 10))).eval args s none [j.toNatClampNeg] s = some (.int w) ∧ w.toInt = (fun x : Int => 48 + x / 10) j.toInt := fun j h0 h1 => by
  have nn : ¬ j < 0 := fun q => by rw [Int32.lt_iff_toInt_lt, show (0 : Int32).toInt = 0 from rfl] at q; omega
  have e1 := div_f (args := args) (first := s) (o := none) (s := s) (idx_at nn) (Term.int_eval (10)) (by decide)
  refine ⟨48 + j / 10, Term.add_int (Term.int_eval (48)) e1, ?_⟩
  have h2 := (c_idiv j (10 : Int32) 10 rfl (by decide)).1 h0
  have h3 := c_iadd (48 : Int32) (j / 10)
  have h4 := rng32 ((48 : Int32) + j / 10)
  have h5 : (48 : Int32).toInt = 48 := rfl
  show _ = 48 + j.toInt / 10
  omega
set_option maxRecDepth 65536 in
set_option maxHeartbeats 40000000 in
theorem comes_1 {Post : Tables → Env → Array Value → State → Outcome → State → Prop} (hpost : ∀ tb e args s v u, (limb_1_1.after args s (.returned v) u = true ∧ limb_1_2.after args s (.returned v) u = true ∧ True) → FrameEnd s (.returned v) u (Jvm.fieldLocs frame_1_writes args s ++ Jvm.arrayLocs frame_1_arrays args s ++ Jvm.staticLocs frame_1_statics s) 112 384 → Post tb e args s (.returned v) u) :
    ArmFor flags0 classFile x code maxLocals ret World_1 tables_1 room_1 Calls_1 rest_1 Pre_1 Post := by
  intro l hfl _ _ p e ha hc hk s m args below hf hA hF happ hP
  obtain ⟨hcalls, hrest, hpre⟩ := hP
  obtain ⟨-, -, -, hnamed, -, -, -, hat⟩ := (Spec.applies_iff hf).mp happ
  obtain ⟨hg, hn⟩ := and_e (Cond.before_iff.mp (show (Jvm.Cond.and given_1 narrow_1).before args s = true from hpre))
  obtain ⟨gc, gr0⟩ := and_e hg
  have ga0 := gr0
  obtain ⟨w0, rfl⟩ : ∃ w0 : Value, args = #[w0] := by
    have hs : args.size = 1 := by simpa [Cond.value, given_1] using gc
    obtain ⟨L⟩ := args
    match L, hs with
    | [w0], _ => exact ⟨w0, rfl⟩
  have hw := fun d (hd : d ∈ tables_1) => atoms_spec (ws := Jvm.Cond.code x code maxLocals ret :: tables_1) hat d (List.mem_cons_of_mem _ hd)
  obtain ⟨i0, ei0⟩ := is_v ga0
  obtain rfl : w0 = (.int i0) := Option.some.inj ei0
  obtain ⟨hsets, hown0⟩ := atoms_of _ (rest_1_c_eq ▸ (show rest_1_c.before _ s = true from hrest))
  have n3 := not_v (Cond.before_iff.mp (hsets _ (List.mem_of_getElem? (i := 2) rfl)))
  obtain ⟨cz, ez⟩ := is_v (Cond.before_iff.mp (hsets _ (List.mem_of_getElem? (i := 1) rfl)))
  have SC : Sta s s.heap "java/lang/String" "COMPACT_STRINGS" "Z" (.int cz) := Sta.start ez (Or.inl (hsets _ (List.mem_of_getElem? (i := 0) rfl)))
  have hcz : ¬ cz.toInt = 0 := fun q => gotF (Cond.eq_ints ez (Term.int_eval (0))) n3 (Int32.toInt_inj.mp q)
  obtain ⟨t1, d1, v1, D1⟩ := own_digStart (f := (fun x => 48 + x % 10)) (hw _ (List.mem_of_getElem? (i := 15) rfl)) (Cond.before_iff.mp (hsets _ (List.mem_of_getElem? (i := 12) rfl))) (Cond.before_iff.mp (hsets _ (List.mem_of_getElem? (i := 13) rfl))) (Cond.before_iff.mp (hsets _ (List.mem_of_getElem? (i := 14) rfl))) (own_ones _ _)
  obtain ⟨t2, d2, v2, D2⟩ := own_digStart (f := (fun x => 48 + x / 10)) (hw _ (List.mem_of_getElem? (i := 15) rfl)) (Cond.before_iff.mp (hsets _ (List.mem_of_getElem? (i := 17) rfl))) (Cond.before_iff.mp (hsets _ (List.mem_of_getElem? (i := 18) rfl))) (Cond.before_iff.mp (hsets _ (List.mem_of_getElem? (i := 19) rfl))) (own_tens _ _)
  have S1 := Sta.start v1 (Or.inl (hsets _ (List.mem_of_getElem? (i := 11) rfl)))
  have S2 := Sta.start v2 (Or.inl (hsets _ (List.mem_of_getElem? (i := 16) rfl)))
  obtain ⟨n, o, h1, h2, h3, _, L, rfl, ⟨rfl, N⟩, hq⟩ := rm0 l s _ hw tables_1 i0 cz t1 d1 t2 d2 s.heap s.heap.size (Nat.le_refl _) (Old.start s) SC hcz S1 D1 S2 D2 p e ha hc hk s m _ below hf ((Spec.applies_iff_loose hf).mp happ).1 ⟨rfl, State.Warmed39.refl s, rfl⟩ trivial
  refine ⟨n, _, h1, h2, h3, hpost _ _ _ _ _ _ ⟨Cond.after_iff.mpr rfl, Cond.after_iff.mpr (eq_i res_at (Term.int_eval (1)) rfl), trivial⟩ ⟨hq.1, hq.2.1, (hq.2.2.sift fun y hy => Or.inr (N y hy)).mono (by decide) (by decide)⟩⟩
theorem main_1_1 : Claimed_1_1 := comes_1 fun _ _ _ _ _ _ h hF => ⟨h.1, hF⟩
theorem main_1_2 : Claimed_1_2 := comes_1 fun _ _ _ _ _ _ h hF => ⟨h.2.1, hF⟩
end Jvm.Pilot.@@N@@
namespace Jvm.Pilot.@@N@@
open Jvm Jvm.ClassFile Sem Op Lib Jvm.Free Jvm.Stand Jvm.Pilot.@@N@@.Jvm.D
/-! MADE BY PROGRAM (witnessworld.py) out of the Statement's table words and the real class files: 23 classes; the members and pool entries that the words name. The judged class is class 1, her method 1. -/
namespace start1
open Jvm.ClassFile
def u (s : String) : CpInfo := .utf8 (stringToUtf16 s)
/-- a pool by its gaps: so many unusable entries, then the entry; so many at the end -/
def gap : Nat → List CpInfo → List CpInfo
  | 0, r => r
  | n + 1, r => .unusable :: gap n r
def poolList (es : List (Nat × CpInfo)) (last : Nat) : List CpInfo := es.foldr (fun e r => gap e.1 (e.2 :: r)) (gap last [])
def pool (es : List (Nat × CpInfo)) (last : Nat) : Array CpInfo := ⟨poolList es last⟩
def fileOf (pool : Array CpInfo) (this : Nat) (attrs : Array Attribute := #[]) (ms : Array MethodInfo := #[]) (fl : Nat := 33) (sup : Nat := 0) (ifs : Array Nat := #[]) (fds : Array FieldInfo := #[]) : ClassFile where
  minorVersion := 0
  majorVersion := 65
  constantPool := pool
  accessFlags := fl
  thisClass := this
  superClass := sup
  interfaces := ifs
  fields := fds
  methods := ms
  attributes := attrs
def plain (name : String) (sup : Option ClassId) : Class where
  name := name
  kind := .ordinary
  loader := none
  accessFlags := 33
  super := sup
  interfaces := #[]
  cf := none
  fields := #[]
  methods := #[]
  instanceTypes := #[]
  staticTypes := #[]
  resolved := #[]
  callSites := []
  init := .initialized
  statics := none
  mirror := none

def pool0 : Array CpInfo := pool [(5, u "<init>"), (0, u "()V"), (1, .class_ 10), (1, u "java/lang/Object")] 113

def k0c0 : Code := { maxStack := 0, maxLocals := 1, code := object_method_1_code, exceptionTable := #[], attributes := #[] }
def k0m0 : Method := { name := "<init>", desc := "()V", sig := { parameters := [], returnType := none }, accessFlags := 1, code := some k0c0 }
/-- java/lang/Object -/
def k0 : Class := { plain "java/lang/Object" none with
  accessFlags := 33
  interfaces := #[]
  cf := some (fileOf pool0 8 #[] #[{ accessFlags := 1, nameIndex := 5, descriptorIndex := 6, attributes := #[] }] 33 0 #[] #[])
  fields := #[]
  methods := #[k0m0]
  instanceTypes := #[]
  staticTypes := #[]
  resolved := Array.replicate 124 none
  statics := none }

def pool1 : Array CpInfo := pool [(2, .class_ 4), (1, u "java/lang/Object"), (0, u "<init>"), (0, u "()V"), (0, .integer 2147483647), (0, .methodref 9 10), (0, .class_ 11), (0, .nameAndType 12 13), (0, u "java/lang/String"), (0, u "valueOf"), (0, u "(C)Ljava/lang/String;"), (0, .methodref 9 15), (0, .nameAndType 5 16), (0, u "([C)V"), (0, .methodref 18 19), (0, .class_ 20), (0, .nameAndType 21 22), (0, u "com/example/pryce/pryce/rating/Rate"), (0, u "hour"), (0, u "(Ljava/lang/String;)I"), (0, .class_ 24), (0, u "com/example/pryce/pryce/rating/RateHourPinLaw"), (2, u "law"), (0, u "(I)Z")] 3

def k1m0 : Method := { name := "<init>", desc := "()V", sig := { parameters := [], returnType := none }, accessFlags := 1, code := none }
def k1c1 : Code := { maxStack := 5, maxLocals := 4, code := code, exceptionTable := #[], attributes := #[] }
def k1m1 : Method := { name := "law", desc := "(I)Z", sig := { parameters := [.int], returnType := some .boolean }, accessFlags := 9, code := some k1c1 }
/-- com/example/pryce/pryce/rating/RateHourPinLaw -/
def k1 : Class := { plain "com/example/pryce/pryce/rating/RateHourPinLaw" (some 0) with
  accessFlags := 49
  interfaces := #[]
  cf := some (fileOf pool1 23 #[] #[{ accessFlags := 1, nameIndex := 5, descriptorIndex := 6, attributes := #[] }, { accessFlags := 9, nameIndex := 27, descriptorIndex := 28, attributes := #[] }] 49 2 #[] #[])
  fields := #[]
  methods := #[k1m0, k1m1]
  instanceTypes := #[]
  staticTypes := #[]
  resolved := Array.replicate 32 none
  statics := none }

def pool2 : Array CpInfo := pool [(1, .class_ 2), (0, u "java/io/Serializable"), (0, .class_ 4), (0, u "java/lang/Object")] 2

/-- java/io/Serializable -/
def k2 : Class := { plain "java/io/Serializable" (some 0) with
  accessFlags := 1537
  interfaces := #[]
  cf := some (fileOf pool2 1 #[] #[] 1537 3 #[] #[])
  fields := #[]
  methods := #[]
  instanceTypes := #[]
  staticTypes := #[]
  resolved := Array.replicate 7 none
  statics := none }

def pool3 : Array CpInfo := pool [(1, .class_ 2), (0, u "java/lang/Comparable"), (0, .class_ 4), (0, u "java/lang/Object")] 7

/-- java/lang/Comparable -/
def k3 : Class := { plain "java/lang/Comparable" (some 0) with
  accessFlags := 1537
  interfaces := #[]
  cf := some (fileOf pool3 1 #[] #[] 1537 3 #[] #[])
  fields := #[]
  methods := #[]
  instanceTypes := #[]
  staticTypes := #[]
  resolved := Array.replicate 12 none
  statics := none }

def pool4 : Array CpInfo := pool [(2, .class_ 4), (1, u "java/lang/CharSequence"), (42, .class_ 48), (0, u "java/lang/CharSequence$1CodePointIterator"), (10, .class_ 60), (0, u "java/lang/CharSequence$1CharIterator"), (5, .class_ 67), (0, u "java/lang/Object")] 63

/-- java/lang/CharSequence -/
def k4 : Class := { plain "java/lang/CharSequence" (some 0) with
  accessFlags := 1537
  interfaces := #[]
  cf := some (fileOf pool4 2 #[.nestMembers #[47, 59]] #[] 1537 66 #[] #[])
  fields := #[]
  methods := #[]
  instanceTypes := #[]
  staticTypes := #[]
  resolved := Array.replicate 131 none
  statics := none }

def pool5 : Array CpInfo := pool [(1, .class_ 2), (0, u "java/lang/constant/Constable"), (0, .class_ 4), (0, u "java/lang/Object")] 6

/-- java/lang/constant/Constable -/
def k5 : Class := { plain "java/lang/constant/Constable" (some 0) with
  accessFlags := 1537
  interfaces := #[]
  cf := some (fileOf pool5 1 #[] #[] 1537 3 #[] #[])
  fields := #[]
  methods := #[]
  instanceTypes := #[]
  staticTypes := #[]
  resolved := Array.replicate 11 none
  statics := none }

def pool6 : Array CpInfo := pool [(1, .class_ 2), (0, u "java/lang/constant/ConstantDesc"), (0, .class_ 4), (0, u "java/lang/Object")] 32

/-- java/lang/constant/ConstantDesc -/
def k6 : Class := { plain "java/lang/constant/ConstantDesc" (some 0) with
  accessFlags := 1537
  interfaces := #[]
  cf := some (fileOf pool6 1 #[] #[] 1537 3 #[] #[])
  fields := #[]
  methods := #[]
  instanceTypes := #[]
  staticTypes := #[]
  resolved := Array.replicate 37 none
  statics := none }

def pool7 : Array CpInfo := pool [(1, .methodref 2 3), (0, .class_ 4), (0, .nameAndType 5 6), (0, u "java/lang/Object"), (0, u "<init>"), (0, u "()V"), (2, .fieldref 10 11), (0, .class_ 12), (0, .nameAndType 13 14), (0, u "java/lang/String"), (0, u "value"), (0, u "[B"), (0, .fieldref 10 16), (0, .nameAndType 17 18), (0, u "coder"), (0, u "B"), (2, u "hash"), (0, u "I"), (2, u "hashIsZero"), (0, u "Z"), (0, .methodref 10 28), (0, .nameAndType 5 29), (0, u "([CIILjava/lang/Void;)V"), (8, .fieldref 10 39), (0, .nameAndType 40 26), (0, u "COMPACT_STRINGS"), (1, .class_ 44), (1, u "java/lang/StringUTF16"), (0, u "compress"), (1, .methodref 42 48), (0, .nameAndType 49 50), (0, u "coderFromArrayLen"), (0, u "([BI)B"), (2, u "toBytes"), (53, .class_ 109), (1, u "java/lang/StringLatin1"), (67, .methodref 42 178), (0, .nameAndType 45 179), (0, u "([CII)[B"), (29, .methodref 10 210), (0, .nameAndType 5 211), (0, u "([BB)V"), (157, u "(C)Z"), (171, .methodref 107 542), (0, .nameAndType 543 544), (0, u "equals"), (0, u "([B[B)Z"), (28, u "(Ljava/lang/Object;)Z"), (1, .class_ 576), (0, u "java/lang/CharSequence"), (22, u "CASE_INSENSITIVE_ORDER"), (0, u "Ljava/util/Comparator;"), (181, u "valueOf"), (0, u "(C)Ljava/lang/String;"), (226, u "([C)V"), (4, .methodref 107 1016), (0, .nameAndType 1017 369), (0, u "canEncode"), (0, .methodref 107 1019), (0, .nameAndType 53 1020), (0, u "(C)[B"), (80, u "serialPersistentFields"), (0, u "[Ljava/io/ObjectStreamField;"), (0, .class_ 1104), (0, u "java/lang/String$CaseInsensitiveComparator"), (1, .class_ 1107), (0, u "java/io/Serializable"), (0, .class_ 1109), (0, u "java/lang/Comparable"), (0, .class_ 1111), (0, u "java/lang/constant/Constable"), (0, .class_ 1113), (0, u "java/lang/constant/ConstantDesc"), (2, u "serialVersionUID"), (0, u "J"), (3, u "REPL"), (0, u "C"), (2, u "LATIN1"), (1, u "UTF16")] 323

def k7m0 : Method := { name := "<init>", desc := "()V", sig := { parameters := [], returnType := none }, accessFlags := 1, code := none }
def k7c1 : Code := { maxStack := 5, maxLocals := 2, code := jdk_42_method_3_code, exceptionTable := #[], attributes := #[] }
def k7m1 : Method := { name := "<init>", desc := "([C)V", sig := { parameters := [(.array .char)], returnType := none }, accessFlags := 1, code := some k7c1 }
def k7c2 : Code := { maxStack := 2, maxLocals := 3, code := jdk_42_method_66_code, exceptionTable := #[], attributes := #[] }
def k7m2 : Method := { name := "equals", desc := "(Ljava/lang/Object;)Z", sig := { parameters := [(.object "java/lang/Object")], returnType := some .boolean }, accessFlags := 1, code := some k7c2 }
def k7c3 : Code := { maxStack := 4, maxLocals := 1, code := jdk_42_method_139_code, exceptionTable := #[], attributes := #[] }
def k7m3 : Method := { name := "valueOf", desc := "(C)Ljava/lang/String;", sig := { parameters := [.char], returnType := some (.object "java/lang/String") }, accessFlags := 9, code := some k7c3 }
def k7c4 : Code := { maxStack := 4, maxLocals := 6, code := jdk_42_method_149_code, exceptionTable := #[], attributes := #[] }
def k7m4 : Method := { name := "<init>", desc := "([CIILjava/lang/Void;)V", sig := { parameters := [(.array .char), .int, .int, (.object "java/lang/Void")], returnType := none }, accessFlags := 2, code := some k7c4 }
def k7c5 : Code := { maxStack := 2, maxLocals := 3, code := jdk_42_method_151_code, exceptionTable := #[], attributes := #[] }
def k7m5 : Method := { name := "<init>", desc := "([BB)V", sig := { parameters := [(.array .byte), .byte], returnType := none }, accessFlags := 0, code := some k7c5 }
/-- java/lang/String -/
def k7 : Class := { plain "java/lang/String" (some 0) with
  accessFlags := 49
  interfaces := #[2, 3, 4, 5, 6]
  cf := some (fileOf pool7 10 #[.nestMembers #[1103]] #[{ accessFlags := 1, nameIndex := 5, descriptorIndex := 6, attributes := #[] }, { accessFlags := 1, nameIndex := 5, descriptorIndex := 1010, attributes := #[] }, { accessFlags := 1, nameIndex := 543, descriptorIndex := 573, attributes := #[] }, { accessFlags := 9, nameIndex := 782, descriptorIndex := 783, attributes := #[] }, { accessFlags := 2, nameIndex := 5, descriptorIndex := 29, attributes := #[] }, { accessFlags := 0, nameIndex := 5, descriptorIndex := 211, attributes := #[] }] 49 2 #[1106, 1108, 575, 1110, 1112] #[{ accessFlags := 18, nameIndex := 13, descriptorIndex := 14, attributes := #[] }, { accessFlags := 18, nameIndex := 17, descriptorIndex := 18, attributes := #[] }, { accessFlags := 2, nameIndex := 21, descriptorIndex := 22, attributes := #[] }, { accessFlags := 2, nameIndex := 25, descriptorIndex := 26, attributes := #[] }, { accessFlags := 26, nameIndex := 1116, descriptorIndex := 1117, attributes := #[] }, { accessFlags := 24, nameIndex := 40, descriptorIndex := 26, attributes := #[] }, { accessFlags := 26, nameIndex := 1101, descriptorIndex := 1102, attributes := #[] }, { accessFlags := 26, nameIndex := 1121, descriptorIndex := 1122, attributes := #[] }, { accessFlags := 25, nameIndex := 599, descriptorIndex := 600, attributes := #[] }, { accessFlags := 24, nameIndex := 1125, descriptorIndex := 18, attributes := #[] }, { accessFlags := 24, nameIndex := 1127, descriptorIndex := 18, attributes := #[] }])
  fields := #[{ name := "value", type := (.array .byte), accessFlags := 18, slot := 0, constantValue := 0 }, { name := "coder", type := .byte, accessFlags := 18, slot := 1, constantValue := 0 }, { name := "hash", type := .int, accessFlags := 2, slot := 2, constantValue := 0 }, { name := "hashIsZero", type := .boolean, accessFlags := 2, slot := 3, constantValue := 0 }, { name := "serialVersionUID", type := .long, accessFlags := 26, slot := 0, constantValue := 0 }, { name := "COMPACT_STRINGS", type := .boolean, accessFlags := 24, slot := 1, constantValue := 0 }, { name := "serialPersistentFields", type := (.array (.object "java/io/ObjectStreamField")), accessFlags := 26, slot := 2, constantValue := 0 }, { name := "REPL", type := .char, accessFlags := 26, slot := 3, constantValue := 0 }, { name := "CASE_INSENSITIVE_ORDER", type := (.object "java/util/Comparator"), accessFlags := 25, slot := 4, constantValue := 0 }, { name := "LATIN1", type := .byte, accessFlags := 24, slot := 5, constantValue := 0 }, { name := "UTF16", type := .byte, accessFlags := 24, slot := 6, constantValue := 0 }]
  methods := #[k7m0, k7m1, k7m2, k7m3, k7m4, k7m5]
  instanceTypes := #[(.array .byte), .byte, .int, .boolean]
  staticTypes := #[.long, .boolean, (.array (.object "java/io/ObjectStreamField")), .char, (.object "java/util/Comparator"), .byte, .byte]
  resolved := Array.replicate 1451 none
  statics := some 0 }

def pool8 : Array CpInfo := pool [(4, .class_ 6), (1, u "java/lang/Object"), (0, u "<init>"), (0, u "()V"), (5, .class_ 16), (1, u "java/lang/StringLatin1"), (73, u "canEncode"), (14, u "(C)Z"), (15, u "$assertionsDisabled"), (0, u "Z"), (98, .class_ 223), (1, u "java/lang/StringLatin1$LinesSpliterator"), (57, u "equals"), (0, u "([B[B)Z"), (97, u "toBytes"), (1, u "(C)[B"), (7, .class_ 391), (0, u "java/lang/StringLatin1$CharsSpliterator")] 3

def k8m0 : Method := { name := "<init>", desc := "()V", sig := { parameters := [], returnType := none }, accessFlags := 0, code := none }
def k8c1 : Code := { maxStack := 2, maxLocals := 1, code := jdk_43_method_3_code, exceptionTable := #[], attributes := #[] }
def k8m1 : Method := { name := "canEncode", desc := "(C)Z", sig := { parameters := [.char], returnType := some .boolean }, accessFlags := 9, code := some k8c1 }
def k8c2 : Code := { maxStack := 3, maxLocals := 3, code := jdk_43_method_13_code, exceptionTable := #[], attributes := #[] }
def k8m2 : Method := { name := "equals", desc := "([B[B)Z", sig := { parameters := [(.array .byte), (.array .byte)], returnType := some .boolean }, accessFlags := 9, code := some k8c2 }
def k8c3 : Code := { maxStack := 4, maxLocals := 1, code := jdk_43_method_46_code, exceptionTable := #[], attributes := #[] }
def k8m3 : Method := { name := "toBytes", desc := "(C)[B", sig := { parameters := [.char], returnType := some (.array .byte) }, accessFlags := 9, code := some k8c3 }
/-- java/lang/StringLatin1 -/
def k8 : Class := { plain "java/lang/StringLatin1" (some 0) with
  accessFlags := 48
  interfaces := #[]
  cf := some (fileOf pool8 14 #[.nestMembers #[390, 221]] #[{ accessFlags := 0, nameIndex := 7, descriptorIndex := 8, attributes := #[] }, { accessFlags := 9, nameIndex := 90, descriptorIndex := 105, attributes := #[] }, { accessFlags := 9, nameIndex := 281, descriptorIndex := 282, attributes := #[] }, { accessFlags := 9, nameIndex := 380, descriptorIndex := 382, attributes := #[] }] 48 4 #[] #[{ accessFlags := 4120, nameIndex := 121, descriptorIndex := 122, attributes := #[] }])
  fields := #[{ name := "$assertionsDisabled", type := .boolean, accessFlags := 4120, slot := 0, constantValue := 0 }]
  methods := #[k8m0, k8m1, k8m2, k8m3]
  instanceTypes := #[]
  staticTypes := #[.boolean]
  resolved := Array.replicate 395 none
  statics := none }

def pool9 : Array CpInfo := pool [(1, .class_ 2), (0, u "com/example/pryce/pryce/rating/Price"), (0, .class_ 4), (0, u "java/lang/Object")] 9

/-- com/example/pryce/pryce/rating/Price -/
def k9 : Class := { plain "com/example/pryce/pryce/rating/Price" (some 0) with
  accessFlags := 1537
  interfaces := #[]
  cf := some (fileOf pool9 1 #[] #[] 1537 3 #[] #[])
  fields := #[]
  methods := #[]
  instanceTypes := #[]
  staticTypes := #[]
  resolved := Array.replicate 14 none
  statics := none }

def pool10 : Array CpInfo := pool [(13, .class_ 15), (1, u "com/example/pryce/pryce/rating/Rate"), (3, .class_ 21), (1, u "java/lang/Object"), (5, u "amountsByHour"), (0, u "[Ljava/math/BigDecimal;"), (8, u "amount"), (0, u "Ljava/math/BigDecimal;"), (1, u "period"), (10, u "Lcom/example/pryce/pryce/rating/Period;"), (6, u "restrictions"), (0, u "Ljava/util/List;"), (28, .class_ 89), (0, u "java/lang/Integer"), (9, u "(I)Ljava/lang/String;"), (24, u "hourlyAmounts"), (0, u "Ljava/util/SortedMap;"), (3, .methodref 88 130), (0, .nameAndType 131 99), (0, u "toString"), (0, .methodref 133 134), (0, .class_ 135), (0, .nameAndType 136 137), (0, u "java/lang/String"), (0, u "equals"), (0, u "(Ljava/lang/Object;)Z"), (27, .class_ 166), (0, u "com/example/pryce/pryce/rating/Price"), (0, u "HOURS_OF_DAY"), (0, u "I"), (10, u "hour"), (0, u "(Ljava/lang/String;)I")] 31

def k10c0 : Code := { maxStack := 3, maxLocals := 2, code := prog_14_method_3_code, exceptionTable := #[], attributes := #[] }
def k10m0 : Method := { name := "hour", desc := "(Ljava/lang/String;)I", sig := { parameters := [(.object "java/lang/String")], returnType := some .int }, accessFlags := 9, code := some k10c0 }
/-- com/example/pryce/pryce/rating/Rate -/
def k10 : Class := { plain "com/example/pryce/pryce/rating/Rate" (some 0) with
  accessFlags := 49
  interfaces := #[9]
  cf := some (fileOf pool10 13 #[] #[{ accessFlags := 9, nameIndex := 179, descriptorIndex := 180, attributes := #[] }] 49 19 #[165] #[{ accessFlags := 25, nameIndex := 167, descriptorIndex := 168, attributes := #[] }, { accessFlags := 18, nameIndex := 37, descriptorIndex := 38, attributes := #[] }, { accessFlags := 18, nameIndex := 40, descriptorIndex := 51, attributes := #[] }, { accessFlags := 18, nameIndex := 124, descriptorIndex := 125, attributes := #[] }, { accessFlags := 18, nameIndex := 27, descriptorIndex := 28, attributes := #[] }, { accessFlags := 18, nameIndex := 58, descriptorIndex := 59, attributes := #[] }])
  fields := #[{ name := "HOURS_OF_DAY", type := .int, accessFlags := 25, slot := 0, constantValue := 0 }, { name := "amount", type := (.object "java/math/BigDecimal"), accessFlags := 18, slot := 0, constantValue := 0 }, { name := "period", type := (.object "com/example/pryce/pryce/rating/Period"), accessFlags := 18, slot := 1, constantValue := 0 }, { name := "hourlyAmounts", type := (.object "java/util/SortedMap"), accessFlags := 18, slot := 2, constantValue := 0 }, { name := "amountsByHour", type := (.array (.object "java/math/BigDecimal")), accessFlags := 18, slot := 3, constantValue := 0 }, { name := "restrictions", type := (.object "java/util/List"), accessFlags := 18, slot := 4, constantValue := 0 }]
  methods := #[k10m0]
  instanceTypes := #[(.object "java/math/BigDecimal"), (.object "com/example/pryce/pryce/rating/Period"), (.object "java/util/SortedMap"), (.array (.object "java/math/BigDecimal")), (.object "java/util/List")]
  staticTypes := #[.int]
  resolved := Array.replicate 212 none
  statics := none }

def pool11 : Array CpInfo := pool [(2, .class_ 4), (1, u "java/lang/Object"), (0, u "<init>"), (0, u "()V"), (1, .class_ 10), (1, u "java/lang/Number"), (2, .class_ 14), (0, u "java/io/Serializable"), (0, u "serialVersionUID"), (0, u "J")] 20

def k11m0 : Method := { name := "<init>", desc := "()V", sig := { parameters := [], returnType := none }, accessFlags := 1, code := none }
/-- java/lang/Number -/
def k11 : Class := { plain "java/lang/Number" (some 0) with
  accessFlags := 1057
  interfaces := #[2]
  cf := some (fileOf pool11 8 #[] #[{ accessFlags := 1, nameIndex := 5, descriptorIndex := 6, attributes := #[] }] 1057 2 #[13] #[{ accessFlags := 26, nameIndex := 15, descriptorIndex := 16, attributes := #[] }])
  fields := #[{ name := "serialVersionUID", type := .long, accessFlags := 26, slot := 0, constantValue := 0 }]
  methods := #[k11m0]
  instanceTypes := #[]
  staticTypes := #[.long]
  resolved := Array.replicate 37 none
  statics := none }

def pool12 : Array CpInfo := pool [(1, .class_ 2), (0, u "java/lang/Integer"), (2, .class_ 6), (0, u "java/lang/String"), (4, u "toString"), (0, u "(I)Ljava/lang/String;"), (0, .fieldref 5 14), (0, .nameAndType 15 16), (0, u "COMPACT_STRINGS"), (0, u "Z"), (2, u "digits"), (0, u "[C"), (33, u "(I)I"), (10, .methodref 5 66), (0, .nameAndType 67 68), (0, u "<init>"), (0, u "([BB)V"), (3, .methodref 1 73), (0, .nameAndType 74 54), (0, u "stringSize"), (0, .methodref 1 76), (0, .nameAndType 77 78), (0, u "getChars"), (0, u "(II[B)I"), (4, .fieldref 1 84), (0, .nameAndType 85 86), (0, u "DigitOnes"), (0, u "[B"), (0, .fieldref 1 88), (0, .nameAndType 89 86), (0, u "DigitTens"), (99, .class_ 190), (0, u "java/lang/Integer$IntegerCache"), (3, u "I"), (8, .class_ 204), (0, u "java/lang/Number"), (2, u "value"), (94, u "TYPE"), (0, u "Ljava/lang/Class;"), (0, .class_ 305), (0, u "java/lang/Comparable"), (0, .class_ 307), (0, u "java/lang/constant/Constable"), (0, .class_ 309), (0, u "java/lang/constant/ConstantDesc"), (0, u "MIN_VALUE"), (1, u "MAX_VALUE"), (3, u "SIZE"), (1, u "BYTES"), (1, u "serialVersionUID"), (0, u "J")] 131

def k12c0 : Code := { maxStack := 4, maxLocals := 3, code := jdk_33_method_10_code, exceptionTable := #[], attributes := #[] }
def k12m0 : Method := { name := "toString", desc := "(I)Ljava/lang/String;", sig := { parameters := [.int], returnType := some (.object "java/lang/String") }, accessFlags := 9, code := some k12c0 }
def k12c1 : Code := { maxStack := 4, maxLocals := 7, code := jdk_33_method_12_code, exceptionTable := #[], attributes := #[] }
def k12m1 : Method := { name := "getChars", desc := "(II[B)I", sig := { parameters := [.int, .int, (.array .byte)], returnType := some .int }, accessFlags := 8, code := some k12c1 }
def k12c2 : Code := { maxStack := 2, maxLocals := 4, code := jdk_33_method_13_code, exceptionTable := #[], attributes := #[] }
def k12m2 : Method := { name := "stringSize", desc := "(I)I", sig := { parameters := [.int], returnType := some .int }, accessFlags := 8, code := some k12c2 }
/-- java/lang/Integer -/
def k12 : Class := { plain "java/lang/Integer" (some 11) with
  accessFlags := 49
  interfaces := #[3, 5, 6]
  cf := some (fileOf pool12 1 #[.nestMembers #[189]] #[{ accessFlags := 9, nameIndex := 11, descriptorIndex := 12, attributes := #[] }, { accessFlags := 8, nameIndex := 77, descriptorIndex := 78, attributes := #[] }, { accessFlags := 8, nameIndex := 74, descriptorIndex := 54, attributes := #[] }] 49 203 #[304, 306, 308] #[{ accessFlags := 25, nameIndex := 310, descriptorIndex := 194, attributes := #[] }, { accessFlags := 25, nameIndex := 312, descriptorIndex := 194, attributes := #[] }, { accessFlags := 25, nameIndex := 302, descriptorIndex := 303, attributes := #[] }, { accessFlags := 24, nameIndex := 19, descriptorIndex := 20, attributes := #[] }, { accessFlags := 24, nameIndex := 89, descriptorIndex := 86, attributes := #[] }, { accessFlags := 24, nameIndex := 85, descriptorIndex := 86, attributes := #[] }, { accessFlags := 18, nameIndex := 207, descriptorIndex := 194, attributes := #[] }, { accessFlags := 25, nameIndex := 316, descriptorIndex := 194, attributes := #[] }, { accessFlags := 25, nameIndex := 318, descriptorIndex := 194, attributes := #[] }, { accessFlags := 26, nameIndex := 320, descriptorIndex := 321, attributes := #[] }])
  fields := #[{ name := "MIN_VALUE", type := .int, accessFlags := 25, slot := 0, constantValue := 0 }, { name := "MAX_VALUE", type := .int, accessFlags := 25, slot := 1, constantValue := 0 }, { name := "TYPE", type := (.object "java/lang/Class"), accessFlags := 25, slot := 2, constantValue := 0 }, { name := "digits", type := (.array .char), accessFlags := 24, slot := 3, constantValue := 0 }, { name := "DigitTens", type := (.array .byte), accessFlags := 24, slot := 4, constantValue := 0 }, { name := "DigitOnes", type := (.array .byte), accessFlags := 24, slot := 5, constantValue := 0 }, { name := "value", type := .int, accessFlags := 18, slot := 0, constantValue := 0 }, { name := "SIZE", type := .int, accessFlags := 25, slot := 6, constantValue := 0 }, { name := "BYTES", type := .int, accessFlags := 25, slot := 7, constantValue := 0 }, { name := "serialVersionUID", type := .long, accessFlags := 26, slot := 8, constantValue := 0 }]
  methods := #[k12m0, k12m1, k12m2]
  instanceTypes := #[.int]
  staticTypes := #[.int, .int, (.object "java/lang/Class"), (.array .char), (.array .byte), (.array .byte), .int, .int, .long]
  resolved := Array.replicate 453 none
  statics := some 1 }

def pool13 : Array CpInfo := pool [(6, .class_ 8), (1, u "java/lang/Object"), (0, u "<init>"), (0, u "()V"), (1, .class_ 14), (1, u "java/lang/StringUTF16"), (31, u "$assertionsDisabled"), (0, u "Z"), (13, u "HI_BYTE_SHIFT"), (0, u "I"), (2, u "LO_BYTE_SHIFT"), (49, .methodref 12 116), (0, .nameAndType 117 118), (0, u "compress"), (0, u "([CI[BII)I"), (3, u "([CII)[B"), (138, u "coderFromArrayLen"), (0, u "([BI)B"), (106, .class_ 371), (1, u "java/lang/StringUTF16$LinesSpliterator"), (58, u "MAX_LENGTH"), (196, .class_ 628), (0, u "java/lang/StringUTF16$CodePointsSpliterator"), (0, .class_ 630), (0, u "java/lang/StringUTF16$CharsSpliterator")] 4

def k13m0 : Method := { name := "<init>", desc := "()V", sig := { parameters := [], returnType := none }, accessFlags := 0, code := none }
def k13c1 : Code := { maxStack := 2, maxLocals := 2, code := jdk_52_method_15_code, exceptionTable := #[], attributes := #[] }
def k13m1 : Method := { name := "coderFromArrayLen", desc := "([BI)B", sig := { parameters := [(.array .byte), .int], returnType := some .byte }, accessFlags := 8, code := some k13c1 }
def k13c2 : Code := { maxStack := 5, maxLocals := 6, code := jdk_52_method_16_code, exceptionTable := #[], attributes := #[] }
def k13m2 : Method := { name := "compress", desc := "([CII)[B", sig := { parameters := [(.array .char), .int, .int], returnType := some (.array .byte) }, accessFlags := 9, code := some k13c2 }
def k13c3 : Code := { maxStack := 3, maxLocals := 7, code := jdk_52_method_21_code, exceptionTable := #[], attributes := #[] }
def k13m3 : Method := { name := "compress", desc := "([CI[BII)I", sig := { parameters := [(.array .char), .int, (.array .byte), .int, .int], returnType := some .int }, accessFlags := 9, code := some k13c3 }
/-- java/lang/StringUTF16 -/
def k13 : Class := { plain "java/lang/StringUTF16" (some 0) with
  accessFlags := 48
  interfaces := #[]
  cf := some (fileOf pool13 12 #[.nestMembers #[627, 629, 369]] #[{ accessFlags := 0, nameIndex := 9, descriptorIndex := 10, attributes := #[] }, { accessFlags := 8, nameIndex := 261, descriptorIndex := 262, attributes := #[] }, { accessFlags := 9, nameIndex := 117, descriptorIndex := 122, attributes := #[] }, { accessFlags := 9, nameIndex := 117, descriptorIndex := 118, attributes := #[] }] 48 6 #[] #[{ accessFlags := 26, nameIndex := 61, descriptorIndex := 62, attributes := #[] }, { accessFlags := 26, nameIndex := 65, descriptorIndex := 62, attributes := #[] }, { accessFlags := 24, nameIndex := 430, descriptorIndex := 62, attributes := #[] }, { accessFlags := 4120, nameIndex := 46, descriptorIndex := 47, attributes := #[] }])
  fields := #[{ name := "HI_BYTE_SHIFT", type := .int, accessFlags := 26, slot := 0, constantValue := 0 }, { name := "LO_BYTE_SHIFT", type := .int, accessFlags := 26, slot := 1, constantValue := 0 }, { name := "MAX_LENGTH", type := .int, accessFlags := 24, slot := 2, constantValue := 0 }, { name := "$assertionsDisabled", type := .boolean, accessFlags := 4120, slot := 3, constantValue := 0 }]
  methods := #[k13m0, k13m1, k13m2, k13m3]
  instanceTypes := #[]
  staticTypes := #[.int, .int, .int, .boolean]
  resolved := Array.replicate 635 none
  statics := none }

def pool14 : Array CpInfo := pool [(2, .class_ 4), (1, u "java/lang/Object"), (0, u "<init>"), (0, u "()V"), (17, .class_ 26), (1, u "jdk/internal/util/Preconditions"), (28, .class_ 56), (0, u "jdk/internal/util/Preconditions$4"), (57, .class_ 115), (0, u "jdk/internal/util/Preconditions$1"), (7, u "SIOOBE_FORMATTER"), (0, u "Ljava/util/function/BiFunction;"), (0, .class_ 126), (0, u "jdk/internal/util/Preconditions$2"), (3, u "AIOOBE_FORMATTER"), (0, .class_ 132), (0, u "jdk/internal/util/Preconditions$3"), (3, u "IOOBE_FORMATTER")] 57

def k14m0 : Method := { name := "<init>", desc := "()V", sig := { parameters := [], returnType := none }, accessFlags := 1, code := none }
/-- jdk/internal/util/Preconditions -/
def k14 : Class := { plain "jdk/internal/util/Preconditions" (some 0) with
  accessFlags := 33
  interfaces := #[]
  cf := some (fileOf pool14 24 #[.nestMembers #[55, 131, 125, 114]] #[{ accessFlags := 1, nameIndex := 5, descriptorIndex := 6, attributes := #[] }] 33 2 #[] #[{ accessFlags := 25, nameIndex := 123, descriptorIndex := 124, attributes := #[] }, { accessFlags := 25, nameIndex := 130, descriptorIndex := 124, attributes := #[] }, { accessFlags := 25, nameIndex := 136, descriptorIndex := 124, attributes := #[] }])
  fields := #[{ name := "SIOOBE_FORMATTER", type := (.object "java/util/function/BiFunction"), accessFlags := 25, slot := 0, constantValue := 0 }, { name := "AIOOBE_FORMATTER", type := (.object "java/util/function/BiFunction"), accessFlags := 25, slot := 1, constantValue := 0 }, { name := "IOOBE_FORMATTER", type := (.object "java/util/function/BiFunction"), accessFlags := 25, slot := 2, constantValue := 0 }]
  methods := #[k14m0]
  instanceTypes := #[]
  staticTypes := #[(.object "java/util/function/BiFunction"), (.object "java/util/function/BiFunction"), (.object "java/util/function/BiFunction")]
  resolved := Array.replicate 194 none
  statics := some 2 }

def pool15 : Array CpInfo := pool [(9, u "<init>"), (6, .class_ 18), (1, u "java/lang/Object"), (0, u "()V"), (1, .class_ 23), (1, u "jdk/internal/util/ArraysSupport"), (0, u "LOG2_ARRAY_LONG_INDEX_SCALE"), (0, u "I"), (2, u "U"), (0, u "Ljdk/internal/misc/Unsafe;"), (8, u "BIG_ENDIAN"), (0, u "Z"), (8, u "LOG2_BYTE_BIT_SIZE"), (4, u "LOG2_ARRAY_INT_INDEX_SCALE"), (54, u "JLA"), (0, u "Ljdk/internal/access/JavaLangAccess;"), (11, u "LOG2_ARRAY_BOOLEAN_INDEX_SCALE"), (9, u "LOG2_ARRAY_BYTE_INDEX_SCALE"), (5, u "LOG2_ARRAY_CHAR_INDEX_SCALE"), (5, u "LOG2_ARRAY_SHORT_INDEX_SCALE"), (18, u "LOG2_ARRAY_FLOAT_INDEX_SCALE"), (24, u "LOG2_ARRAY_DOUBLE_INDEX_SCALE"), (89, u "T_BOOLEAN"), (2, u "T_CHAR"), (1, u "T_FLOAT"), (1, u "T_DOUBLE"), (1, u "T_BYTE"), (1, u "T_SHORT"), (1, u "T_INT"), (1, u "T_LONG"), (1, u "SOFT_MAX_ARRAY_LENGTH")] 83

def k15m0 : Method := { name := "<init>", desc := "()V", sig := { parameters := [], returnType := none }, accessFlags := 2, code := none }
/-- jdk/internal/util/ArraysSupport -/
def k15 : Class := { plain "jdk/internal/util/ArraysSupport" (some 0) with
  accessFlags := 33
  interfaces := #[]
  cf := some (fileOf pool15 21 #[] #[{ accessFlags := 2, nameIndex := 9, descriptorIndex := 19, attributes := #[] }] 33 16 #[] #[{ accessFlags := 24, nameIndex := 28, descriptorIndex := 29, attributes := #[] }, { accessFlags := 26, nameIndex := 38, descriptorIndex := 39, attributes := #[] }, { accessFlags := 25, nameIndex := 121, descriptorIndex := 25, attributes := #[] }, { accessFlags := 25, nameIndex := 131, descriptorIndex := 25, attributes := #[] }, { accessFlags := 25, nameIndex := 137, descriptorIndex := 25, attributes := #[] }, { accessFlags := 25, nameIndex := 143, descriptorIndex := 25, attributes := #[] }, { accessFlags := 25, nameIndex := 53, descriptorIndex := 25, attributes := #[] }, { accessFlags := 25, nameIndex := 24, descriptorIndex := 25, attributes := #[] }, { accessFlags := 25, nameIndex := 162, descriptorIndex := 25, attributes := #[] }, { accessFlags := 25, nameIndex := 187, descriptorIndex := 25, attributes := #[] }, { accessFlags := 26, nameIndex := 48, descriptorIndex := 25, attributes := #[] }, { accessFlags := 25, nameIndex := 277, descriptorIndex := 25, attributes := #[] }, { accessFlags := 25, nameIndex := 280, descriptorIndex := 25, attributes := #[] }, { accessFlags := 25, nameIndex := 282, descriptorIndex := 25, attributes := #[] }, { accessFlags := 25, nameIndex := 284, descriptorIndex := 25, attributes := #[] }, { accessFlags := 25, nameIndex := 286, descriptorIndex := 25, attributes := #[] }, { accessFlags := 25, nameIndex := 288, descriptorIndex := 25, attributes := #[] }, { accessFlags := 25, nameIndex := 290, descriptorIndex := 25, attributes := #[] }, { accessFlags := 25, nameIndex := 292, descriptorIndex := 25, attributes := #[] }, { accessFlags := 26, nameIndex := 108, descriptorIndex := 109, attributes := #[] }, { accessFlags := 25, nameIndex := 294, descriptorIndex := 25, attributes := #[] }])
  fields := #[{ name := "U", type := (.object "jdk/internal/misc/Unsafe"), accessFlags := 24, slot := 0, constantValue := 0 }, { name := "BIG_ENDIAN", type := .boolean, accessFlags := 26, slot := 1, constantValue := 0 }, { name := "LOG2_ARRAY_BOOLEAN_INDEX_SCALE", type := .int, accessFlags := 25, slot := 2, constantValue := 0 }, { name := "LOG2_ARRAY_BYTE_INDEX_SCALE", type := .int, accessFlags := 25, slot := 3, constantValue := 0 }, { name := "LOG2_ARRAY_CHAR_INDEX_SCALE", type := .int, accessFlags := 25, slot := 4, constantValue := 0 }, { name := "LOG2_ARRAY_SHORT_INDEX_SCALE", type := .int, accessFlags := 25, slot := 5, constantValue := 0 }, { name := "LOG2_ARRAY_INT_INDEX_SCALE", type := .int, accessFlags := 25, slot := 6, constantValue := 0 }, { name := "LOG2_ARRAY_LONG_INDEX_SCALE", type := .int, accessFlags := 25, slot := 7, constantValue := 0 }, { name := "LOG2_ARRAY_FLOAT_INDEX_SCALE", type := .int, accessFlags := 25, slot := 8, constantValue := 0 }, { name := "LOG2_ARRAY_DOUBLE_INDEX_SCALE", type := .int, accessFlags := 25, slot := 9, constantValue := 0 }, { name := "LOG2_BYTE_BIT_SIZE", type := .int, accessFlags := 26, slot := 10, constantValue := 0 }, { name := "T_BOOLEAN", type := .int, accessFlags := 25, slot := 11, constantValue := 0 }, { name := "T_CHAR", type := .int, accessFlags := 25, slot := 12, constantValue := 0 }, { name := "T_FLOAT", type := .int, accessFlags := 25, slot := 13, constantValue := 0 }, { name := "T_DOUBLE", type := .int, accessFlags := 25, slot := 14, constantValue := 0 }, { name := "T_BYTE", type := .int, accessFlags := 25, slot := 15, constantValue := 0 }, { name := "T_SHORT", type := .int, accessFlags := 25, slot := 16, constantValue := 0 }, { name := "T_INT", type := .int, accessFlags := 25, slot := 17, constantValue := 0 }, { name := "T_LONG", type := .int, accessFlags := 25, slot := 18, constantValue := 0 }, { name := "JLA", type := (.object "jdk/internal/access/JavaLangAccess"), accessFlags := 26, slot := 19, constantValue := 0 }, { name := "SOFT_MAX_ARRAY_LENGTH", type := .int, accessFlags := 25, slot := 20, constantValue := 0 }]
  methods := #[k15m0]
  instanceTypes := #[]
  staticTypes := #[(.object "jdk/internal/misc/Unsafe"), .boolean, .int, .int, .int, .int, .int, .int, .int, .int, .int, .int, .int, .int, .int, .int, .int, .int, .int, (.object "jdk/internal/access/JavaLangAccess"), .int]
  resolved := Array.replicate 378 none
  statics := none }

def pool16 : Array CpInfo := pool [(1, u "java/lang/Cloneable"), (0, .class_ 1), (0, u "java/lang/Object"), (0, .class_ 3)] 3

/-- java/lang/Cloneable -/
def k16 : Class := { plain "java/lang/Cloneable" (some 0) with
  accessFlags := 1537
  interfaces := #[]
  cf := some (fileOf pool16 2 #[] #[] 1537 4 #[] #[])
  fields := #[]
  methods := #[]
  instanceTypes := #[]
  staticTypes := #[]
  resolved := Array.replicate 8 none
  statics := none }

/-- the primitive byte -/
def k17 : Class := { plain "byte" none with kind := .primitive 'B', accessFlags := 0x411 }
/-- [B -/
def k18 : Class := { plain "[B" (some 0) with kind := .array 17 .byte, interfaces := #[16, 2], accessFlags := 1041 }

/-- the primitive char -/
def k19 : Class := { plain "char" none with kind := .primitive 'C', accessFlags := 0x411 }
/-- [C -/
def k20 : Class := { plain "[C" (some 0) with kind := .array 19 .char, interfaces := #[16, 2], accessFlags := 1041 }

/-- the primitive int -/
def k21 : Class := { plain "int" none with kind := .primitive 'I', accessFlags := 0x411 }
/-- [I -/
def k22 : Class := { plain "[I" (some 0) with kind := .array 21 .int, interfaces := #[16, 2], accessFlags := 1041 }

def heap : Heap := #[{ cls := 7, slots := #[.long 0, .int 1, .null, .int 0, .null, .int 0, .int 0], vm := .statics 7 },
  { cls := 12, slots := #[.int 0, .int 0, .null, .null, .ref 4, .ref 3, .int 0, .int 0, .long 0], vm := .statics 12 },
  { cls := 14, slots := #[.null, .null, .null], vm := .statics 14 },
  { cls := 18, slots := #[.int 48, .int 49, .int 50, .int 51, .int 52, .int 53, .int 54, .int 55, .int 56, .int 57, .int 48, .int 49, .int 50, .int 51, .int 52, .int 53, .int 54, .int 55, .int 56, .int 57, .int 48, .int 49, .int 50, .int 51, .int 52, .int 53, .int 54, .int 55, .int 56, .int 57, .int 48, .int 49, .int 50, .int 51, .int 52, .int 53, .int 54, .int 55, .int 56, .int 57, .int 48, .int 49, .int 50, .int 51, .int 52, .int 53, .int 54, .int 55, .int 56, .int 57, .int 48, .int 49, .int 50, .int 51, .int 52, .int 53, .int 54, .int 55, .int 56, .int 57, .int 48, .int 49, .int 50, .int 51, .int 52, .int 53, .int 54, .int 55, .int 56, .int 57, .int 48, .int 49, .int 50, .int 51, .int 52, .int 53, .int 54, .int 55, .int 56, .int 57, .int 48, .int 49, .int 50, .int 51, .int 52, .int 53, .int 54, .int 55, .int 56, .int 57, .int 48, .int 49, .int 50, .int 51, .int 52, .int 53, .int 54, .int 55, .int 56, .int 57], vm := .none },
  { cls := 18, slots := #[.int 48, .int 48, .int 48, .int 48, .int 48, .int 48, .int 48, .int 48, .int 48, .int 48, .int 49, .int 49, .int 49, .int 49, .int 49, .int 49, .int 49, .int 49, .int 49, .int 49, .int 50, .int 50, .int 50, .int 50, .int 50, .int 50, .int 50, .int 50, .int 50, .int 50, .int 51, .int 51, .int 51, .int 51, .int 51, .int 51, .int 51, .int 51, .int 51, .int 51, .int 52, .int 52, .int 52, .int 52, .int 52, .int 52, .int 52, .int 52, .int 52, .int 52, .int 53, .int 53, .int 53, .int 53, .int 53, .int 53, .int 53, .int 53, .int 53, .int 53, .int 54, .int 54, .int 54, .int 54, .int 54, .int 54, .int 54, .int 54, .int 54, .int 54, .int 55, .int 55, .int 55, .int 55, .int 55, .int 55, .int 55, .int 55, .int 55, .int 55, .int 56, .int 56, .int 56, .int 56, .int 56, .int 56, .int 56, .int 56, .int 56, .int 56, .int 57, .int 57, .int 57, .int 57, .int 57, .int 57, .int 57, .int 57, .int 57, .int 57], vm := .none }]
def classes : Array Class := #[k0, k1, k2, k3, k4, k5, k6, k7, k8, k9, k10, k11, k12, k13, k14, k15, k16, k17, k18, k19, k20, k21, k22]
def interned : List (Array UInt16 × Addr) := []
def slotsUsed : Nat := 219
def theMethod : MethodId := ⟨1, 1⟩
def args0 : Array Value := #[.int 5]
def aboutOver (below : List Frame) : State where
  vm := { classes := classes, interned := interned.toArray }
  heap := heap
  slotsUsed := slotsUsed
  threads := #[{ frames := .invoking theMethod args0 :: below }]
def below0 : List Frame := [.native { method := ⟨0, 0⟩, args := #[] }]
def about1 : State := aboutOver below0
def p0 : Program := .bare "" "" ""
def e0 : Env := launch0.env 0 0 0
theorem w_frames : about1.frames = Frame.invoking theMethod args0 :: below0 := rfl
set_option maxRecDepth 65536 in
theorem w_args : argsFit about1.vm theMethod args0 = true := by decide +kernel
set_option maxRecDepth 65536 in
theorem w_heap : heapFits about1 = true := by decide +kernel
set_option maxRecDepth 65536 in
theorem w_runnable : about1.curStatus? = some .runnable := by decide +kernel
set_option maxRecDepth 65536 in
theorem w_alone : about1.alone = true := by decide +kernel
set_option maxRecDepth 65536 in
theorem w_named : about1.methodNamed? x = some theMethod := by decide +kernel
set_option maxRecDepth 65536 in
theorem w_hears : about1.hears theMethod below0 = true := by decide +kernel
set_option maxRecDepth 65536 in
theorem w_ripe : about1.ripe theMethod args0 below0 = true := by decide +kernel
theorem w_running : about1.status = .running := rfl
set_option maxRecDepth 65536 in
theorem w_room : about1.hasRoom e0.platform room_1 = true :=
  launch0.hasRoom_least _ room_1 (by decide +kernel) (by decide +kernel) (by decide +kernel) (by decide +kernel) (by decide +kernel) (by decide +kernel)
theorem allAtoms_all (ts : List Jvm.Cond) (a : Array Jvm.Value) (st : Jvm.State) : (allAtoms ts).before a st = ts.all (fun c => c.before a st) := by
  induction ts with
  | nil => rfl
  | cons c t ih =>
    show (Jvm.Cond.and c (allAtoms t)).before a st = _
    rw [Jvm.Cond.before_and, ih, List.all_cons]
def words1 : List Jvm.Cond := Jvm.Cond.code x code maxLocals ret :: tables_1
/-- a 'code' word, met by the world's own term for the bytes: nothing is compared byte by byte -/
theorem code_word {y : MethodName} {bytes : ByteArray} {mx : Nat} {rt : Option FieldType} {a : Array Value} {s : State} {m : MethodId} {meth : Method} {c : Code} (h1 : s.methodNamed? y = some m) (h2 : s.vm.method? m = some meth) (h3 : meth.code = some c) (h4 : c.code = bytes)
    (h5 : (c.maxLocals == mx && c.exceptionTable.isEmpty && decide (c.maxStack ≤ mostOperands) && decide (meth.sig.returnType = rt) && !meth.locks && decide (parseMethodDescriptor y.desc = some meth.sig)) = true) : (Jvm.Cond.code y bytes mx rt).before a s = true := by
  simp only [Bool.and_eq_true, beq_iff_eq, Bool.not_eq_true', decide_eq_true_eq] at h5
  obtain ⟨⟨⟨⟨⟨g1, g2⟩, g3⟩, g4⟩, g5⟩, g6⟩ := h5
  simp [Cond.before, Cond.holds, Cond.value, h1, h2, h3, h4, g1, g2, g3, g4, g5, g6]
def isCode : Jvm.Cond → Bool
  | .code _ _ _ _ => true
  | _ => false
theorem all_split {L : List Jvm.Cond} {P : Jvm.Cond → Bool} (h1 : L.all (fun c => isCode c || P c) = true) (h2 : ∀ c ∈ L.filter isCode, P c = true) : L.all P = true := by
  refine List.all_eq_true.mpr fun c hc => ?_
  have h := List.all_eq_true.mp h1 c hc
  rcases Bool.eq_false_or_eq_true (isCode c) with hi | hi
  · exact h2 c (List.mem_filter.mpr ⟨hc, hi⟩)
  · simpa [hi] using h
set_option maxRecDepth 65536 in
theorem w_c0 : (Jvm.Cond.code x code maxLocals ret).before args0 about1 = true := code_word (m := ⟨1, 1⟩) (meth := k1m1) (c := k1c1) (by decide +kernel) rfl rfl rfl (by decide +kernel)
set_option maxRecDepth 65536 in
theorem w_c1 : (Jvm.Cond.code ({ cls := "java/lang/String", name := "valueOf", desc := "(C)Ljava/lang/String;" } : Jvm.MethodName) jdk_42_method_139_code (1 : Nat) (Option.some (Jvm.ClassFile.FieldType.object "java/lang/String"))).before args0 about1 = true := code_word (m := ⟨7, 3⟩) (meth := k7m3) (c := k7c3) (by decide +kernel) rfl rfl rfl (by decide +kernel)
set_option maxRecDepth 65536 in
theorem w_c2 : (Jvm.Cond.code ({ cls := "java/lang/StringLatin1", name := "canEncode", desc := "(C)Z" } : Jvm.MethodName) jdk_43_method_3_code (1 : Nat) (Option.some Jvm.ClassFile.FieldType.boolean)).before args0 about1 = true := code_word (m := ⟨8, 1⟩) (meth := k8m1) (c := k8c1) (by decide +kernel) rfl rfl rfl (by decide +kernel)
set_option maxRecDepth 65536 in
theorem w_c3 : (Jvm.Cond.code ({ cls := "java/lang/StringLatin1", name := "toBytes", desc := "(C)[B" } : Jvm.MethodName) jdk_43_method_46_code (1 : Nat) (Option.some (Jvm.ClassFile.FieldType.array Jvm.ClassFile.FieldType.byte))).before args0 about1 = true := code_word (m := ⟨8, 3⟩) (meth := k8m3) (c := k8c3) (by decide +kernel) rfl rfl rfl (by decide +kernel)
set_option maxRecDepth 65536 in
theorem w_c4 : (Jvm.Cond.code ({ cls := "java/lang/String", name := "<init>", desc := "([BB)V" } : Jvm.MethodName) jdk_42_method_151_code (3 : Nat) (Option.none : Option Jvm.ClassFile.FieldType)).before args0 about1 = true := code_word (m := ⟨7, 5⟩) (meth := k7m5) (c := k7c5) (by decide +kernel) rfl rfl rfl (by decide +kernel)
set_option maxRecDepth 65536 in
theorem w_c5 : (Jvm.Cond.code ({ cls := "java/lang/Object", name := "<init>", desc := "()V" } : Jvm.MethodName) object_method_1_code (1 : Nat) (Option.none : Option Jvm.ClassFile.FieldType)).before args0 about1 = true := code_word (m := ⟨0, 0⟩) (meth := k0m0) (c := k0c0) (by decide +kernel) rfl rfl rfl (by decide +kernel)
set_option maxRecDepth 65536 in
theorem w_c6 : (Jvm.Cond.code ({ cls := "com/example/pryce/pryce/rating/Rate", name := "hour", desc := "(Ljava/lang/String;)I" } : Jvm.MethodName) prog_14_method_3_code (2 : Nat) (Option.some Jvm.ClassFile.FieldType.int)).before args0 about1 = true := code_word (m := ⟨10, 0⟩) (meth := k10m0) (c := k10c0) (by decide +kernel) rfl rfl rfl (by decide +kernel)
set_option maxRecDepth 65536 in
theorem w_c7 : (Jvm.Cond.code ({ cls := "java/lang/Integer", name := "toString", desc := "(I)Ljava/lang/String;" } : Jvm.MethodName) jdk_33_method_10_code (3 : Nat) (Option.some (Jvm.ClassFile.FieldType.object "java/lang/String"))).before args0 about1 = true := code_word (m := ⟨12, 0⟩) (meth := k12m0) (c := k12c0) (by decide +kernel) rfl rfl rfl (by decide +kernel)
set_option maxRecDepth 65536 in
theorem w_c8 : (Jvm.Cond.code ({ cls := "java/lang/Integer", name := "stringSize", desc := "(I)I" } : Jvm.MethodName) jdk_33_method_13_code (4 : Nat) (Option.some Jvm.ClassFile.FieldType.int)).before args0 about1 = true := code_word (m := ⟨12, 2⟩) (meth := k12m2) (c := k12c2) (by decide +kernel) rfl rfl rfl (by decide +kernel)
set_option maxRecDepth 65536 in
theorem w_c9 : (Jvm.Cond.code ({ cls := "java/lang/Integer", name := "getChars", desc := "(II[B)I" } : Jvm.MethodName) jdk_33_method_12_code (7 : Nat) (Option.some Jvm.ClassFile.FieldType.int)).before args0 about1 = true := code_word (m := ⟨12, 1⟩) (meth := k12m1) (c := k12c1) (by decide +kernel) rfl rfl rfl (by decide +kernel)
set_option maxRecDepth 65536 in
theorem w_c10 : (Jvm.Cond.code ({ cls := "java/lang/String", name := "equals", desc := "(Ljava/lang/Object;)Z" } : Jvm.MethodName) jdk_42_method_66_code (3 : Nat) (Option.some Jvm.ClassFile.FieldType.boolean)).before args0 about1 = true := code_word (m := ⟨7, 2⟩) (meth := k7m2) (c := k7c2) (by decide +kernel) rfl rfl rfl (by decide +kernel)
set_option maxRecDepth 65536 in
theorem w_c11 : (Jvm.Cond.code ({ cls := "java/lang/StringLatin1", name := "equals", desc := "([B[B)Z" } : Jvm.MethodName) jdk_43_method_13_code (3 : Nat) (Option.some Jvm.ClassFile.FieldType.boolean)).before args0 about1 = true := code_word (m := ⟨8, 2⟩) (meth := k8m2) (c := k8c2) (by decide +kernel) rfl rfl rfl (by decide +kernel)
set_option maxRecDepth 65536 in
theorem w_c12 : (Jvm.Cond.code ({ cls := "java/lang/String", name := "<init>", desc := "([C)V" } : Jvm.MethodName) jdk_42_method_3_code (2 : Nat) (Option.none : Option Jvm.ClassFile.FieldType)).before args0 about1 = true := code_word (m := ⟨7, 1⟩) (meth := k7m1) (c := k7c1) (by decide +kernel) rfl rfl rfl (by decide +kernel)
set_option maxRecDepth 65536 in
theorem w_c13 : (Jvm.Cond.code ({ cls := "java/lang/String", name := "<init>", desc := "([CIILjava/lang/Void;)V" } : Jvm.MethodName) jdk_42_method_149_code (6 : Nat) (Option.none : Option Jvm.ClassFile.FieldType)).before args0 about1 = true := code_word (m := ⟨7, 4⟩) (meth := k7m4) (c := k7c4) (by decide +kernel) rfl rfl rfl (by decide +kernel)
set_option maxRecDepth 65536 in
theorem w_c14 : (Jvm.Cond.code ({ cls := "java/lang/StringUTF16", name := "compress", desc := "([CII)[B" } : Jvm.MethodName) jdk_52_method_16_code (6 : Nat) (Option.some (Jvm.ClassFile.FieldType.array Jvm.ClassFile.FieldType.byte))).before args0 about1 = true := code_word (m := ⟨13, 2⟩) (meth := k13m2) (c := k13c2) (by decide +kernel) rfl rfl rfl (by decide +kernel)
set_option maxRecDepth 65536 in
theorem w_c15 : (Jvm.Cond.code ({ cls := "java/lang/StringUTF16", name := "compress", desc := "([CI[BII)I" } : Jvm.MethodName) jdk_52_method_21_code (7 : Nat) (Option.some Jvm.ClassFile.FieldType.int)).before args0 about1 = true := code_word (m := ⟨13, 3⟩) (meth := k13m3) (c := k13c3) (by decide +kernel) rfl rfl rfl (by decide +kernel)
set_option maxRecDepth 65536 in
theorem w_c16 : (Jvm.Cond.code ({ cls := "java/lang/StringUTF16", name := "coderFromArrayLen", desc := "([BI)B" } : Jvm.MethodName) jdk_52_method_15_code (2 : Nat) (Option.some Jvm.ClassFile.FieldType.byte)).before args0 about1 = true := code_word (m := ⟨13, 1⟩) (meth := k13m1) (c := k13c1) (by decide +kernel) rfl rfl rfl (by decide +kernel)
def codes1 : List Jvm.Cond := [Jvm.Cond.code x code maxLocals ret, Jvm.Cond.code ({ cls := "java/lang/String", name := "valueOf", desc := "(C)Ljava/lang/String;" } : Jvm.MethodName) jdk_42_method_139_code (1 : Nat) (Option.some (Jvm.ClassFile.FieldType.object "java/lang/String")), Jvm.Cond.code ({ cls := "java/lang/StringLatin1", name := "canEncode", desc := "(C)Z" } : Jvm.MethodName) jdk_43_method_3_code (1 : Nat) (Option.some Jvm.ClassFile.FieldType.boolean), Jvm.Cond.code ({ cls := "java/lang/StringLatin1", name := "toBytes", desc := "(C)[B" } : Jvm.MethodName) jdk_43_method_46_code (1 : Nat) (Option.some (Jvm.ClassFile.FieldType.array Jvm.ClassFile.FieldType.byte)), Jvm.Cond.code ({ cls := "java/lang/String", name := "<init>", desc := "([BB)V" } : Jvm.MethodName) jdk_42_method_151_code (3 : Nat) (Option.none : Option Jvm.ClassFile.FieldType), Jvm.Cond.code ({ cls := "java/lang/Object", name := "<init>", desc := "()V" } : Jvm.MethodName) object_method_1_code (1 : Nat) (Option.none : Option Jvm.ClassFile.FieldType), Jvm.Cond.code ({ cls := "com/example/pryce/pryce/rating/Rate", name := "hour", desc := "(Ljava/lang/String;)I" } : Jvm.MethodName) prog_14_method_3_code (2 : Nat) (Option.some Jvm.ClassFile.FieldType.int), Jvm.Cond.code ({ cls := "java/lang/Integer", name := "toString", desc := "(I)Ljava/lang/String;" } : Jvm.MethodName) jdk_33_method_10_code (3 : Nat) (Option.some (Jvm.ClassFile.FieldType.object "java/lang/String")), Jvm.Cond.code ({ cls := "java/lang/Integer", name := "stringSize", desc := "(I)I" } : Jvm.MethodName) jdk_33_method_13_code (4 : Nat) (Option.some Jvm.ClassFile.FieldType.int), Jvm.Cond.code ({ cls := "java/lang/Integer", name := "getChars", desc := "(II[B)I" } : Jvm.MethodName) jdk_33_method_12_code (7 : Nat) (Option.some Jvm.ClassFile.FieldType.int), Jvm.Cond.code ({ cls := "java/lang/String", name := "equals", desc := "(Ljava/lang/Object;)Z" } : Jvm.MethodName) jdk_42_method_66_code (3 : Nat) (Option.some Jvm.ClassFile.FieldType.boolean), Jvm.Cond.code ({ cls := "java/lang/StringLatin1", name := "equals", desc := "([B[B)Z" } : Jvm.MethodName) jdk_43_method_13_code (3 : Nat) (Option.some Jvm.ClassFile.FieldType.boolean), Jvm.Cond.code ({ cls := "java/lang/String", name := "<init>", desc := "([C)V" } : Jvm.MethodName) jdk_42_method_3_code (2 : Nat) (Option.none : Option Jvm.ClassFile.FieldType), Jvm.Cond.code ({ cls := "java/lang/String", name := "<init>", desc := "([CIILjava/lang/Void;)V" } : Jvm.MethodName) jdk_42_method_149_code (6 : Nat) (Option.none : Option Jvm.ClassFile.FieldType), Jvm.Cond.code ({ cls := "java/lang/StringUTF16", name := "compress", desc := "([CII)[B" } : Jvm.MethodName) jdk_52_method_16_code (6 : Nat) (Option.some (Jvm.ClassFile.FieldType.array Jvm.ClassFile.FieldType.byte)), Jvm.Cond.code ({ cls := "java/lang/StringUTF16", name := "compress", desc := "([CI[BII)I" } : Jvm.MethodName) jdk_52_method_21_code (7 : Nat) (Option.some Jvm.ClassFile.FieldType.int), Jvm.Cond.code ({ cls := "java/lang/StringUTF16", name := "coderFromArrayLen", desc := "([BI)B" } : Jvm.MethodName) jdk_52_method_15_code (2 : Nat) (Option.some Jvm.ClassFile.FieldType.byte)]
set_option maxRecDepth 65536 in
theorem codes_eq : words1.filter isCode = codes1 := rfl
theorem w_codes : ∀ c ∈ words1.filter isCode, c.before args0 about1 = true := by
  rw [codes_eq]
  intro c hc
  simp only [codes1, List.mem_cons, List.not_mem_nil, or_false] at hc
  rcases hc with rfl | rfl | rfl | rfl | rfl | rfl | rfl | rfl | rfl | rfl | rfl | rfl | rfl | rfl | rfl | rfl | rfl
  · exact w_c0
  · exact w_c1
  · exact w_c2
  · exact w_c3
  · exact w_c4
  · exact w_c5
  · exact w_c6
  · exact w_c7
  · exact w_c8
  · exact w_c9
  · exact w_c10
  · exact w_c11
  · exact w_c12
  · exact w_c13
  · exact w_c14
  · exact w_c15
  · exact w_c16
set_option maxRecDepth 65536 in
theorem w_t1 : (words1.take 24).all (fun c => isCode c || c.before args0 about1) = true := by decide +kernel
set_option maxRecDepth 65536 in
theorem w_t2 : ((words1.drop 24).take 24).all (fun c => isCode c || c.before args0 about1) = true := by decide +kernel
set_option maxRecDepth 65536 in
theorem w_t3 : (((words1.drop 24).drop 24).take 24).all (fun c => isCode c || c.before args0 about1) = true := by decide +kernel
set_option maxRecDepth 65536 in
theorem w_t4 : (((words1.drop 24).drop 24).drop 24).all (fun c => isCode c || c.before args0 about1) = true := by decide +kernel
theorem w_tables : (allAtoms (Jvm.Cond.code x code maxLocals ret :: tables_1)).before args0 about1 = true := by
  rw [allAtoms_all]
  show words1.all (fun c => c.before args0 about1) = true
  refine all_split ?_ w_codes
  rw [← List.take_append_drop 24 words1, List.all_append, w_t1, ← List.take_append_drop 24 (words1.drop 24), List.all_append, w_t2, ← List.take_append_drop 24 ((words1.drop 24).drop 24), List.all_append, w_t3, w_t4]
  rfl
set_option maxRecDepth 65536 in
theorem w_rest : rest_1_c.before args0 about1 = true := by decide +kernel
set_option maxRecDepth 65536 in
theorem w_case : (Jvm.Cond.and given_1 narrow_1).before args0 about1 = true := by decide +kernel
theorem w_applies : (headSpec (Jvm.Cond.code x code maxLocals ret :: tables_1) room_1).applies x e0.platform about1 = true :=
  (Spec.applies_iff w_frames).mpr ⟨w_running, w_runnable, w_alone, w_named, w_hears, w_ripe, w_room, w_tables⟩
theorem atStart : AtStart classFile x code maxLocals ret World_1 tables_1 room_1 Calls_1 rest_1 Pre_1 launch0 p0 e0 about1 theMethod args0 below0 :=
  ⟨lists_1, trivial, launch0.admits_env _ _ _, launch0.least_env, fairChoices_fair.cas, fairChoices_fair.clock, w_frames, w_args, w_heap, w_applies, trivial, w_rest, w_case⟩
end start1
theorem witness_1 : WitnessClaimed_1 := ⟨start1.p0, start1.e0, start1.about1, start1.theMethod, start1.args0, start1.below0, start1.atStart⟩
end Jvm.Pilot.@@N@@
