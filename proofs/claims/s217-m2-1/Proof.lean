import JvmDerived
import JvmDerived.Pilot.@@N@@Statement
import JvmDerived.Pilot.@@N@@Code
set_option linter.unusedVariables false
set_option linter.unusedSimpArgs false
namespace Jvm.Pilot.@@N@@
open Jvm Jvm.ClassFile Sem Op Lib Jvm.Free Jvm.Stand Jvm.LawKit Jvm.RoadKit Bundle Jvm.Pilot.@@N@@.Jvm.D
section Own
variable {p : Program} {l : Launch} {e : Env} {R : Room} {s : State} {m : MethodId} {args : Array Value} {below : List Frame} {meth : Method} {c : Code} {T T' : State} {locs : List Loc} {cells slots : Nat}
/-- from the frame f on the run returns, and what it leaves is said by Q -/
def Go (p : Program) (e : Env) (below : List Frame) (s : State) (Q : Option Value → Heap → List Loc → Prop) (cs ss : Nat) (T : State) (f : JFrame) : Prop :=
  ∃ s₂ o, Steps p.tables e below (T.setTop f) s₂ ∧ s₂.status = .running ∧ Ended s₂ below o ∧ ∃ v L, o = .returned v ∧ Q v s₂.heap L ∧ FrameEnd s o s₂ L cs ss
theorem Go.st {Q : Option Value → Heap → List Loc → Prop} {cs ss : Nat} {f f' : JFrame} (k : ∀ t, Steps p.tables e below (T'.setTop f') t → Steps p.tables e below (T.setTop f) t) (h : Go p e below s Q cs ss T' f') : Go p e below s Q cs ss T f := by
  obtain ⟨s₂, o, h1, h2⟩ := h
  exact ⟨s₂, o, k _ h1, h2⟩
theorem Go.start {Q : Option Value → Heap → List Loc → Prop} {cs ss ml : Nat} {f : JFrame} (hf : entryFrame m args ml = f) (h : Go p e below s Q cs ss T f) :
    ∃ s₂ o, Steps p.tables e below (T.setTop (entryFrame m args ml)) s₂ ∧ s₂.status = .running ∧ Ended s₂ below o ∧ ∃ v L, o = .returned v ∧ Q v s₂.heap L ∧ FrameEnd s o s₂ L cs ss := by
  subst hf; exact h
theorem Go.fr {Q : Option Value → Heap → List Loc → Prop} {cs ss : Nat} {f f' : JFrame} (q : f = f') (h : Go p e below s Q cs ss T f') : Go p e below s Q cs ss T f := by
  subst q; exact h
theorem Go.ret {Q : Option Value → Heap → List Loc → Prop} {cs ss : Nat} {f : JFrame} (X : Stand p l e R s m args below meth c T locs cells slots) (hlk : meth.locks = false) {v : Option Value} (hv : meth.sig.returnType = none → v = none)
    (k : ∀ fs, (∀ (f : JFrame) (acts : List Action), f.method = m → f.locked = none → f.entered = [] → (doReturn e (T.setTop f) acts v).1 = T.setFrames fs) → Steps p.tables e below (T.setTop f) (T.setFrames fs))
    (hQ : Q v T.heap locs) (hc : cells ≤ cs) (hs : slots ≤ ss) : Go p e below s Q cs ss T f := by
  obtain ⟨fs, hr, hrun, hended, hW, hsame⟩ := X.leave (v := v) hv hlk
  exact ⟨_, _, k fs hr, hrun, hended, _, _, rfl, hQ, ⟨_, rfl⟩, hW, hsame.mono hc hs⟩
theorem own_fld {t : Term} {a : Addr} {C n d : String} {k : Int32} (ev : t.eval args s none [] s = some (.ref a)) (h : (Jvm.Cond.eq (.field t C n d) (.int k)).value args s none s [] = some true) : Fld s s.heap a C n d (.int k) := by
  have q : (Term.field t C n d).eval args s none [] s = s.fieldOf? a C n d := fld_at ev
  have q2 : (Term.field t C n d).eval args s none [] s = some (.int k) := Cond.eq_int (Cond.before_iff.mpr h) rfl
  exact Fld.start (q.symm.trans q2)
theorem own_sta {Z : State} {h h' : Heap} {C n d : String} {v : Value} {ws : List Addr} (F : Sta Z h C n d v) (K : Keep h h' ws) (q : ∀ x ∈ ws, ∃ c : Cell, h[x]? = some c ∧ ∀ q, c.vm ≠ .statics q) : Sta Z h' C n d v := by
  obtain ⟨cf, i, k, f, st, cell, h1, h2, h3, h4, h5, h6, h7⟩ := F
  refine ⟨cf, i, k, f, st, cell, h1, h2, h3, h4, K.2.1 st cell h5 fun hm => ?_, h6, h7⟩
  obtain ⟨c, hc, hn⟩ := q st hm
  cases hc.symm.trans h5
  cases hv : cell.vm <;> simp [hv, VmData.isStatics] at h6 hn
theorem own_bb (x : Int32) : x.toInt8.toInt32.toInt8.toInt32 = x.toInt8.toInt32 := by simp
theorem own_arvcell {Z : State} {h : Heap} {a : Addr} {k : ClassId} {ty : FieldType} {z : Int32} {vs : List Value} {dv : Value} (F : Arv Z h a k ty z vs dv) : ∃ c : Cell, h[a]? = some c ∧ ∀ q, c.vm ≠ .statics q := by
  obtain ⟨c, A, -⟩ := F
  exact ⟨c, A.1, fun q hq => by have := A.plain; simp [hq, VmData.isStatics] at this⟩
/-- a static that holds a reference or null -/
def StaR (Z : State) (h : Heap) (C n d : String) : Prop := Sta Z h C n d .null ∨ ∃ a, Sta Z h C n d (.ref a)
theorem StaR.ext {Z : State} {h h' : Heap} {C n d : String} (F : StaR Z h C n d) (E : Ext h h') : StaR Z h' C n d := F.imp (fun q => q.ext E) fun ⟨a, q⟩ => ⟨a, q.ext E⟩
theorem StaR.wr {Z : State} {h h' : Heap} {C n d : String} {a : Addr} {sl : Nat} {v : Value} (F : StaR Z h C n d) (W : Wr h h' a sl v) : StaR Z h' C n d := F.imp (fun q => q.wr W) fun ⟨a, q⟩ => ⟨a, q.wr W⟩
theorem own_staR {Z : State} {h h' : Heap} {C n d : String} {ws : List Addr} (F : StaR Z h C n d) (K : Keep h h' ws) (q : ∀ x ∈ ws, ∃ c : Cell, h[x]? = some c ∧ ∀ q, c.vm ≠ .statics q) : StaR Z h' C n d := F.imp (fun r => own_sta r K q) fun ⟨a, r⟩ => ⟨a, own_sta r K q⟩
end Own
theorem own_root {Z : State} {a0 : Array Value} {O K : String} {n : Nat} (w : (Jvm.Cond.noSuperclass O).before a0 Z = true) (wk : (Jvm.Cond.instantiable K n).before a0 Z = true) (hn : O ≠ K) : NS Z O K := by
  obtain ⟨c, k, h1, h2, h3, -, -⟩ := Cond.noSuperclass_spec w
  obtain ⟨t, -, g1, -⟩ := Cond.instantiable_spec wk
  have ne := ids_ne h1 g1 hn
  refine ⟨c, t, h1, g1, fun fuel => ?_⟩
  cases fuel with
  | zero => rfl
  | succ f => simp [Vm.isSubclassAux, ne, h2, h3]
theorem own_no {Z : State} {a0 : Array Value} {C S K : String} {n : Nat} (w : (Jvm.Cond.superclass C S).before a0 Z = true) (wk : (Jvm.Cond.instantiable K n).before a0 Z = true) (hs : NS Z C K) (hn : C ≠ K) : ∃ c t, Z.vm.findClass C = some c ∧ Z.vm.findClass K = some t ∧ Z.vm.assignable c t = false := by
  obtain ⟨c, t, h0, g0, n3⟩ := hs
  obtain ⟨p, k, kp, h1, h2, h3, h4, h5, -, h7⟩ := Cond.superclass_spec h0 w
  obtain ⟨t', k', g1, g2, g5, g7, -⟩ := Cond.instantiable_spec wk
  cases g0.symm.trans g1
  have g8 : k'.isInterface = false := by simp only [Bool.or_eq_false_iff] at g7; exact g7.1
  have ne := ids_ne h0 g0 hn
  refine ⟨c, t, h0, g0, ?_⟩
  show Z.vm.assignableAux (255 + 1) c t = false
  simp [Vm.assignableAux, ne, h2, g2, h5, g5, g8, Vm.isSubclass, n3]
theorem own_nd {P Q : Prop} (h : P ↔ Q) : ¬ P → ¬ Q := mt h.mpr
theorem own_arrk {Z : State} {h h' : Heap} {a : Addr} {c : Cell} {ty : FieldType} {ws : List Addr} (A : Arr Z h a c ty) (K : Keep h h' ws) (q : a ∉ ws) : Arr Z h' a c ty := ⟨K.2.1 a c A.1 q, A.2⟩
theorem pn_com_example_prudent_checker_prudentchecker_language_Expression : plainName "com/example/prudent_checker/prudentchecker/language/Expression" = true := by first | (simp [plainName, overriddenIn]; done) | decide +kernel
theorem pn_java_lang_Number : plainName "java/lang/Number" = true := by first | (simp [plainName, overriddenIn]; done) | decide +kernel
theorem pd_0 : parseMethodDescriptor "()V" = some ⟨[], none⟩ := by decide +kernel
theorem pn_com_example_prudent_checker_prudentchecker_language_IntegerLiteral : plainName "com/example/prudent_checker/prudentchecker/language/IntegerLiteral" = true := by first | (simp [plainName, overriddenIn]; done) | decide +kernel
theorem pn_java_lang_Integer : plainName "java/lang/Integer" = true := by first | (simp [plainName, overriddenIn]; done) | decide +kernel
theorem pn_com_example_prudent_checker_prudentchecker_language_StoredValue : plainName "com/example/prudent_checker/prudentchecker/language/StoredValue" = true := by first | (simp [plainName, overriddenIn]; done) | decide +kernel
theorem pd_1 : parseMethodDescriptor "(I)V" = some ⟨[.int], none⟩ := by decide +kernel
theorem pd_2 : parseMethodDescriptor "(Ljava/lang/Object;)Z" = some ⟨[(.object "java/lang/Object")], some .boolean⟩ := by decide +kernel
theorem pd_3 : parseMethodDescriptor "(I)Ljava/lang/Integer;" = some ⟨[.int], some (.object "java/lang/Integer")⟩ := by decide +kernel
theorem pd_4 : parseMethodDescriptor "(Lcom/example/prudent_checker/prudentchecker/language/ScalarType;Lcom/example/prudent_checker/prudentchecker/language/Expression;)V" = some ⟨[(.object "com/example/prudent_checker/prudentchecker/language/ScalarType"), (.object "com/example/prudent_checker/prudentchecker/language/Expression")], none⟩ := by decide +kernel
theorem pn_com_example_prudent_checker_prudentchecker_language_IntegerLiteralEqualsPinLaw : plainName "com/example/prudent_checker/prudentchecker/language/IntegerLiteralEqualsPinLaw" = true := by first | (simp [plainName, overriddenIn]; done) | decide +kernel
theorem own_rem (x k : Int32) (hk : 0 < k.toInt) : 0 ≤ ((x &&& 2147483647) % k).toInt ∧ ((x &&& 2147483647) % k).toInt < k.toInt := by
  have h := c_mask x 2147483647 31 (by decide) (by decide)
  have h0 : 0 ≤ (x &&& 2147483647).toInt := by rw [h]; omega
  have h2 := (c_iremV (x &&& 2147483647) k).1 h0 hk
  exact ⟨h2.1, h2.2.1⟩
theorem own_i32 {x : Int32} {k : Int} (h : x.toInt = k) (y : Int32) (hy : y.toInt = k) : x = y := Int32.toInt_inj.mp (h.trans hy.symm)
theorem own_and7 (x : Int32) : x &&& 7 = 0 ∨ x &&& 7 = 1 ∨ x &&& 7 = 2 ∨ x &&& 7 = 3 ∨ x &&& 7 = 4 ∨ x &&& 7 = 5 ∨ x &&& 7 = 6 ∨ x &&& 7 = 7 := by
  have h := c_mask x 7 3 (by decide) (by decide)
  generalize x &&& 7 = y at h ⊢
  have : y.toInt = 0 ∨ y.toInt = 1 ∨ y.toInt = 2 ∨ y.toInt = 3 ∨ y.toInt = 4 ∨ y.toInt = 5 ∨ y.toInt = 6 ∨ y.toInt = 7 := by omega
  rcases this with h | h | h | h | h | h | h | h
  · exact Or.inl (own_i32 h 0 (by decide))
  · exact Or.inr (Or.inl (own_i32 h 1 (by decide)))
  · exact Or.inr (Or.inr (Or.inl (own_i32 h 2 (by decide))))
  · exact Or.inr (Or.inr (Or.inr (Or.inl (own_i32 h 3 (by decide)))))
  · exact Or.inr (Or.inr (Or.inr (Or.inr (Or.inl (own_i32 h 4 (by decide))))))
  · exact Or.inr (Or.inr (Or.inr (Or.inr (Or.inr (Or.inl (own_i32 h 5 (by decide)))))))
  · exact Or.inr (Or.inr (Or.inr (Or.inr (Or.inr (Or.inr (Or.inl (own_i32 h 6 (by decide))))))))
  · exact Or.inr (Or.inr (Or.inr (Or.inr (Or.inr (Or.inr (Or.inr ((own_i32 h 7 (by decide)))))))))
theorem d2_0 : decode prog_43_method_1_code 0 = .ok (.aload_n 0, 1) := by decide +kernel
theorem d2_1 : decode prog_43_method_1_code 1 = .ok (.invokespecial 1, 3) := by decide +kernel
theorem d2_4 : decode prog_43_method_1_code 4 = .ok (.return_, 1) := by decide +kernel
theorem ef_2 (m : MethodId) (o0 : Addr) : entryFrame m #[(.ref o0)] 1 = mkF m 0 #[.val (.ref o0)] [] := by first | (simp [entryFrame, mkF, argsToLocals, Value.category]; done) | rfl
def Q2 (Z : State) (o0 : Addr) (h0 : Heap) (n0 : Nat) (v : Option Value) (h : Heap) (L : List Loc) : Prop := v = none ∧ Fr n0 L ∧ h = h0
set_option maxRecDepth 65536 in
set_option maxHeartbeats 40000000 in
theorem rm2 (l : Launch) (Z : State) (a0 : Array Value) (hw : ∀ d ∈ tables_1, d.before a0 Z = true) (ws : List Jvm.Cond) (o0 : Addr) (h0 : Heap) (n0 : Nat) (Z0 : n0 ≤ h0.size) :
    MetFree l (⟨"com/example/prudent_checker/prudentchecker/language/Expression", "<init>", "()V"⟩ : MethodName) (head1 (Jvm.Cond.code (⟨"com/example/prudent_checker/prudentchecker/language/Expression", "<init>", "()V"⟩ : MethodName) prog_43_method_1_code 1 none :: ws) ({ frames := 1, cells := 0, slots := 0, locals := 12 } : Room)) (fun a U => a = #[(.ref o0)] ∧ Z.Warmed39 U.vm ∧ U.heap = h0) (fun _ _ _ _ _ => True) (fun _ U o U' => ∃ v L, o = .returned v ∧ Q2 Z o0 h0 n0 v U'.heap L ∧ FrameEnd U o U' L ({ frames := 1, cells := 0, slots := 0, locals := 12 } : Room).cells ({ frames := 1, cells := 0, slots := 0, locals := 12 } : Room).slots) := by
  refine MetFree.of_bodySF (plainFor_of_name pn_com_example_prudent_checker_prudentchecker_language_Expression) hisR ?_
  intro p e s m args below meth c s₁ Bd hml0 hP hK
  obtain ⟨rfl, hZ, hh⟩ := hP
  have hx := Bd.exec
  have hby := Bd.bytes
  have hlk : meth.locks = false := BodyLoose.notSynchronized Bd
  have hret := Bd.returns
  have hml : c.maxLocals = 1 := hml0
  have hown : s.vm.findClass "com/example/prudent_checker/prudentchecker/language/Expression" = some m.cls := findClass_of_methodNamed Bd.named
  have hnm := (name_of_methodNamed Bd.named Bd.method).1
  have X0 : Stand p l e ({ frames := 1, cells := 0, slots := 0, locals := 12 } : Room) s m #[(.ref o0)] below meth c s₁ [] 0 0 := Stand.of_body Bd
  have e0 : s₁.heap = h0 := by rw [← hh, Bd.state]; rfl
  have N0 := Fr.nil n0
  refine Go.start (Q := Q2 Z o0 h0 n0) (ef_2 m o0) ?_
  show Go _ _ _ _ _ _ _ s₁ (mkF m 0 #[.val (.ref o0)] [])
  refine Go.st (fun _ k => XS.aloadN X0.here hx rfl (hb hby d2_0) rfl rfl k) ?_
  show Go _ _ _ _ _ _ _ s₁ (mkF m 1 #[.val (.ref o0)] [(.ref o0)])
  obtain ⟨T1, X1, e1, st1⟩ := initO X0 hx hZ hown (hw _ (List.mem_of_getElem? (i := 11) rfl)) (hw _ (List.mem_of_getElem? (i := 12) rfl)) (hw _ (List.mem_of_getElem? (i := 13) rfl)) e0 (g := (mkF m 1 #[.val (.ref o0)] [(.ref o0)])) rfl (by rw [hml]; rfl) rfl (hb hby d2_1) (by decide) (W := 0) (by show 2 * 0 + _ ≤ _; exact Nat.le_of_eq rfl) (by decide)
  refine Go.st st1 ?_
  show Go _ _ _ _ _ _ _ T1 (mkF m 4 #[.val (.ref o0)] [])
  refine Go.ret X1 hlk (v := none) (fun _ => rfl) (fun fs hr => X1.returnOut hx hret (hb hby d2_4) hr) ?_ (by decide) (by decide)
  show Q2 Z o0 h0 n0 (none) T1.heap _
  rw [e1]
  exact ⟨rfl, N0, rfl⟩
theorem d8_0 : decode jdk_18_method_1_code 0 = .ok (.aload_n 0, 1) := by decide +kernel
theorem d8_1 : decode jdk_18_method_1_code 1 = .ok (.invokespecial 1, 3) := by decide +kernel
theorem d8_4 : decode jdk_18_method_1_code 4 = .ok (.return_, 1) := by decide +kernel
theorem ef_8 (m : MethodId) (o0 : Addr) : entryFrame m #[(.ref o0)] 1 = mkF m 0 #[.val (.ref o0)] [] := by first | (simp [entryFrame, mkF, argsToLocals, Value.category]; done) | rfl
def Q8 (Z : State) (o0 : Addr) (h0 : Heap) (n0 : Nat) (v : Option Value) (h : Heap) (L : List Loc) : Prop := v = none ∧ Fr n0 L ∧ h = h0
set_option maxRecDepth 65536 in
set_option maxHeartbeats 40000000 in
theorem rm8 (l : Launch) (Z : State) (a0 : Array Value) (hw : ∀ d ∈ tables_1, d.before a0 Z = true) (ws : List Jvm.Cond) (o0 : Addr) (h0 : Heap) (n0 : Nat) (Z0 : n0 ≤ h0.size) :
    MetFree l (⟨"java/lang/Number", "<init>", "()V"⟩ : MethodName) (head1 (Jvm.Cond.code (⟨"java/lang/Number", "<init>", "()V"⟩ : MethodName) jdk_18_method_1_code 1 none :: ws) ({ frames := 1, cells := 0, slots := 0, locals := 12 } : Room)) (fun a U => a = #[(.ref o0)] ∧ Z.Warmed39 U.vm ∧ U.heap = h0) (fun _ _ _ _ _ => True) (fun _ U o U' => ∃ v L, o = .returned v ∧ Q8 Z o0 h0 n0 v U'.heap L ∧ FrameEnd U o U' L ({ frames := 1, cells := 0, slots := 0, locals := 12 } : Room).cells ({ frames := 1, cells := 0, slots := 0, locals := 12 } : Room).slots) := by
  refine MetFree.of_bodySF (plainFor_of_name pn_java_lang_Number) hisR ?_
  intro p e s m args below meth c s₁ Bd hml0 hP hK
  obtain ⟨rfl, hZ, hh⟩ := hP
  have hx := Bd.exec
  have hby := Bd.bytes
  have hlk : meth.locks = false := BodyLoose.notSynchronized Bd
  have hret := Bd.returns
  have hml : c.maxLocals = 1 := hml0
  have hown : s.vm.findClass "java/lang/Number" = some m.cls := findClass_of_methodNamed Bd.named
  have hnm := (name_of_methodNamed Bd.named Bd.method).1
  have X0 : Stand p l e ({ frames := 1, cells := 0, slots := 0, locals := 12 } : Room) s m #[(.ref o0)] below meth c s₁ [] 0 0 := Stand.of_body Bd
  have e0 : s₁.heap = h0 := by rw [← hh, Bd.state]; rfl
  have N0 := Fr.nil n0
  refine Go.start (Q := Q8 Z o0 h0 n0) (ef_8 m o0) ?_
  show Go _ _ _ _ _ _ _ s₁ (mkF m 0 #[.val (.ref o0)] [])
  refine Go.st (fun _ k => XS.aloadN X0.here hx rfl (hb hby d8_0) rfl rfl k) ?_
  show Go _ _ _ _ _ _ _ s₁ (mkF m 1 #[.val (.ref o0)] [(.ref o0)])
  obtain ⟨T1, X1, e1, st1⟩ := initO X0 hx hZ hown (hw _ (List.mem_of_getElem? (i := 61) rfl)) (hw _ (List.mem_of_getElem? (i := 12) rfl)) (hw _ (List.mem_of_getElem? (i := 13) rfl)) e0 (g := (mkF m 1 #[.val (.ref o0)] [(.ref o0)])) rfl (by rw [hml]; rfl) rfl (hb hby d8_1) (by decide) (W := 0) (by show 2 * 0 + _ ≤ _; exact Nat.le_of_eq rfl) (by decide)
  refine Go.st st1 ?_
  show Go _ _ _ _ _ _ _ T1 (mkF m 4 #[.val (.ref o0)] [])
  refine Go.ret X1 hlk (v := none) (fun _ => rfl) (fun fs hr => X1.returnOut hx hret (hb hby d8_4) hr) ?_ (by decide) (by decide)
  show Q8 Z o0 h0 n0 (none) T1.heap _
  rw [e1]
  exact ⟨rfl, N0, rfl⟩
theorem d1_0 : decode prog_46_method_1_code 0 = .ok (.aload_n 0, 1) := by decide +kernel
theorem d1_1 : decode prog_46_method_1_code 1 = .ok (.invokespecial 1, 3) := by decide +kernel
theorem d1_4 : decode prog_46_method_1_code 4 = .ok (.aload_n 0, 1) := by decide +kernel
theorem d1_5 : decode prog_46_method_1_code 5 = .ok (.iload_n 1, 1) := by decide +kernel
theorem d1_6 : decode prog_46_method_1_code 6 = .ok (.putfield 7, 3) := by decide +kernel
theorem d1_9 : decode prog_46_method_1_code 9 = .ok (.return_, 1) := by decide +kernel
def val_1_value (o0 : Addr) (p1 : Int32) (u_v : Int32) : Int32 := p1
theorem ef_1 (m : MethodId) (o0 : Addr) (p1 : Int32) : entryFrame m #[(.ref o0), (.int p1)] 2 = mkF m 0 #[.val (.ref o0), .val (.int p1)] [] := by first | (simp [entryFrame, mkF, argsToLocals, Value.category]; done) | rfl
def Q1 (Z : State) (o0 : Addr) (p1 : Int32) (u_v : Int32) (h0 : Heap) (n0 : Nat) (v : Option Value) (h : Heap) (L : List Loc) : Prop := v = none ∧ Fr n0 L ∧ Keep h0 h [o0] ∧ Exa Z h o0 "com/example/prudent_checker/prudentchecker/language/IntegerLiteral" ∧ Fld Z h o0 "com/example/prudent_checker/prudentchecker/language/IntegerLiteral" "value" "I" (.int (val_1_value o0 p1 u_v))
set_option maxRecDepth 65536 in
set_option maxHeartbeats 40000000 in
theorem rm1 (l : Launch) (Z : State) (a0 : Array Value) (hw : ∀ d ∈ tables_1, d.before a0 Z = true) (ws : List Jvm.Cond) (o0 : Addr) (p1 : Int32) (u_v : Int32) (h0 : Heap) (n0 : Nat) (Z0 : n0 ≤ h0.size) (E_o0 : Exa Z h0 o0 "com/example/prudent_checker/prudentchecker/language/IntegerLiteral") (F_value_o0 : Fld Z h0 o0 "com/example/prudent_checker/prudentchecker/language/IntegerLiteral" "value" "I" (.int u_v)) (g_o0 : n0 ≤ o0) :
    MetFree l (⟨"com/example/prudent_checker/prudentchecker/language/IntegerLiteral", "<init>", "(I)V"⟩ : MethodName) (head1 (Jvm.Cond.code (⟨"com/example/prudent_checker/prudentchecker/language/IntegerLiteral", "<init>", "(I)V"⟩ : MethodName) prog_46_method_1_code 2 none :: ws) ({ frames := 2, cells := 0, slots := 0, locals := 24 } : Room)) (fun a U => a = #[(.ref o0), (.int p1)] ∧ Z.Warmed39 U.vm ∧ U.heap = h0) (fun _ _ _ _ _ => True) (fun _ U o U' => ∃ v L, o = .returned v ∧ Q1 Z o0 p1 u_v h0 n0 v U'.heap L ∧ FrameEnd U o U' L ({ frames := 2, cells := 0, slots := 0, locals := 24 } : Room).cells ({ frames := 2, cells := 0, slots := 0, locals := 24 } : Room).slots) := by
  refine MetFree.of_bodySF (plainFor_of_name pn_com_example_prudent_checker_prudentchecker_language_IntegerLiteral) hisR ?_
  intro p e s m args below meth c s₁ Bd hml0 hP hK
  obtain ⟨rfl, hZ, hh⟩ := hP
  have hx := Bd.exec
  have hby := Bd.bytes
  have hlk : meth.locks = false := BodyLoose.notSynchronized Bd
  have hret := Bd.returns
  have hml : c.maxLocals = 2 := hml0
  have hown : s.vm.findClass "com/example/prudent_checker/prudentchecker/language/IntegerLiteral" = some m.cls := findClass_of_methodNamed Bd.named
  have hnm := (name_of_methodNamed Bd.named Bd.method).1
  have X0 : Stand p l e ({ frames := 2, cells := 0, slots := 0, locals := 24 } : Room) s m #[(.ref o0), (.int p1)] below meth c s₁ [] 0 0 := Stand.of_body Bd
  have e0 : s₁.heap = h0 := by rw [← hh, Bd.state]; rfl
  have N0 := Fr.nil n0
  refine Go.start (Q := Q1 Z o0 p1 u_v h0 n0) (ef_1 m o0 p1) ?_
  show Go _ _ _ _ _ _ _ s₁ (mkF m 0 #[.val (.ref o0), .val (.int p1)] [])
  refine Go.st (fun _ k => XS.aloadN X0.here hx rfl (hb hby d1_0) rfl rfl k) ?_
  show Go _ _ _ _ _ _ _ s₁ (mkF m 1 #[.val (.ref o0), .val (.int p1)] [(.ref o0)])
  obtain ⟨_, _, ⟨T1, L1, k1, n1⟩, -, X1, ⟨Lc1, hQ1, l1, y1, z1⟩, st1⟩ := X0.specialBack hx (y := (⟨"com/example/prudent_checker/prudentchecker/language/Expression", "<init>", "()V"⟩ : MethodName)) rfl hown (mvT hZ (hw _ (List.mem_of_getElem? (i := 6) rfl))) (mvT hZ (hw _ (List.mem_of_getElem? (i := 7) rfl))) (mvT hZ (hw _ (List.mem_of_getElem? (i := 10) rfl))) (by decide) (backOf (W := 0) (rm2 l Z a0 hw [] o0  h0 n0 Z0 ) hZ (hw _ (List.mem_of_getElem? (i := 10) rfl)) (hw _ (List.mem_of_getElem? (i := 9) rfl)) (by decide) (by decide)) (g := (mkF m 1 #[.val (.ref o0), .val (.int p1)] [(.ref o0)])) rfl (by rw [hml]; rfl) (Steps.refl _) (a := o0) (argsL := []) (rest := []) (lenOf pd_0 rfl) rfl (by show 2 * 0 + _ ≤ _; exact Nat.le_of_eq rfl) (hb hby d1_1) (fun _ _ => ⟨rfl, e0, (by decide : 0 + 0 ≤ _), (by decide : 0 + 0 ≤ _)⟩)
  dsimp only [Pt.U, Pt.locs, Pt.cells, Pt.slots] at X1 l1 y1 z1 st1 hQ1
  subst l1 y1 z1
  obtain ⟨rfl, N1q, e1⟩ := hQ1
  have N1 := Fr.app N0 N1q
  refine Go.st (fun _ k => st1.trans k) ?_
  show Go _ _ _ _ _ _ _ T1 (mkF m 4 #[.val (.ref o0), .val (.int p1)] [])
  refine Go.st (fun _ k => XS.aloadN X1.here hx rfl (hb hby d1_4) rfl rfl k) ?_
  show Go _ _ _ _ _ _ _ T1 (mkF m 5 #[.val (.ref o0), .val (.int p1)] [(.ref o0)])
  refine Go.st (fun _ k => XS.iloadN X1.here hx rfl (hb hby d1_5) rfl k) ?_
  show Go _ _ _ _ _ _ _ T1 (mkF m 6 #[.val (.ref o0), .val (.int p1)] [(.int p1), (.ref o0)])
  obtain ⟨T2, h2, X2, e2, W2, st2⟩ := putF X1 hx hZ hown (host := "") (Or.inl (hw _ (List.mem_of_getElem? (i := 14) rfl))) Via.refl e1 F_value_o0 E_o0 (Or.inr ⟨(hw _ (List.mem_of_getElem? (i := 15) rfl)), rfl, hnm⟩) (hw _ (List.mem_of_getElem? (i := 1) rfl)) (ty := .int) (by decide) rfl rfl (g := (mkF m 6 #[.val (.ref o0), .val (.int p1)] [(.int p1), (.ref o0)])) rfl rfl (hb hby d1_6)
  have F_value_o0__2 : Fld Z h2 o0 "com/example/prudent_checker/prudentchecker/language/IntegerLiteral" "value" "I" (.int p1) := F_value_o0.same W2
  have E_o0__2 := E_o0.wr W2
  have Z2 : n0 ≤ h2.size := Nat.le_trans Z0 (Keep.of_wr W2).1
  have KK2 : Keep h0 h2 [o0] := (Keep.refl h0 [o0]).wr W2 (Or.inl (List.mem_of_getElem? (i := 0) rfl))
  have N2 := Fr.snoc X2 N1 g_o0
  refine Go.st st2 ?_
  show Go _ _ _ _ _ _ _ T2 (mkF m 9 #[.val (.ref o0), .val (.int p1)] [])
  refine Go.ret X2 hlk (v := none) (fun _ => rfl) (fun fs hr => X2.returnOut hx hret (hb hby d1_9) hr) ?_ (by decide) (by decide)
  show Q1 Z o0 p1 u_v h0 n0 (none) T2.heap _
  rw [e2]
  have R_value : (val_1_value o0 p1 u_v) = p1 := by unfold val_1_value; rfl
  exact ⟨rfl, N2, KK2, E_o0__2, (by rw [R_value]; exact F_value_o0__2)⟩
theorem d7_0 : decode jdk_33_method_23_code 0 = .ok (.aload_n 0, 1) := by decide +kernel
theorem d7_1 : decode jdk_33_method_23_code 1 = .ok (.invokespecial 202, 3) := by decide +kernel
theorem d7_4 : decode jdk_33_method_23_code 4 = .ok (.aload_n 0, 1) := by decide +kernel
theorem d7_5 : decode jdk_33_method_23_code 5 = .ok (.iload_n 1, 1) := by decide +kernel
theorem d7_6 : decode jdk_33_method_23_code 6 = .ok (.putfield 205, 3) := by decide +kernel
theorem d7_9 : decode jdk_33_method_23_code 9 = .ok (.return_, 1) := by decide +kernel
def val_7_value (o0 : Addr) (p1 : Int32) (u_v : Int32) : Int32 := p1
theorem ef_7 (m : MethodId) (o0 : Addr) (p1 : Int32) : entryFrame m #[(.ref o0), (.int p1)] 2 = mkF m 0 #[.val (.ref o0), .val (.int p1)] [] := by first | (simp [entryFrame, mkF, argsToLocals, Value.category]; done) | rfl
def Q7 (Z : State) (o0 : Addr) (p1 : Int32) (u_v : Int32) (h0 : Heap) (n0 : Nat) (v : Option Value) (h : Heap) (L : List Loc) : Prop := v = none ∧ Fr n0 L ∧ Keep h0 h [o0] ∧ Exa Z h o0 "java/lang/Integer" ∧ Fld Z h o0 "java/lang/Integer" "value" "I" (.int (val_7_value o0 p1 u_v))
set_option maxRecDepth 65536 in
set_option maxHeartbeats 40000000 in
theorem rm7 (l : Launch) (Z : State) (a0 : Array Value) (hw : ∀ d ∈ tables_1, d.before a0 Z = true) (ws : List Jvm.Cond) (o0 : Addr) (p1 : Int32) (u_v : Int32) (h0 : Heap) (n0 : Nat) (Z0 : n0 ≤ h0.size) (E_o0 : Exa Z h0 o0 "java/lang/Integer") (F_value_o0 : Fld Z h0 o0 "java/lang/Integer" "value" "I" (.int u_v)) (g_o0 : n0 ≤ o0) :
    MetFree l (⟨"java/lang/Integer", "<init>", "(I)V"⟩ : MethodName) (head1 (Jvm.Cond.code (⟨"java/lang/Integer", "<init>", "(I)V"⟩ : MethodName) jdk_33_method_23_code 2 none :: ws) ({ frames := 2, cells := 0, slots := 0, locals := 24 } : Room)) (fun a U => a = #[(.ref o0), (.int p1)] ∧ Z.Warmed39 U.vm ∧ U.heap = h0) (fun _ _ _ _ _ => True) (fun _ U o U' => ∃ v L, o = .returned v ∧ Q7 Z o0 p1 u_v h0 n0 v U'.heap L ∧ FrameEnd U o U' L ({ frames := 2, cells := 0, slots := 0, locals := 24 } : Room).cells ({ frames := 2, cells := 0, slots := 0, locals := 24 } : Room).slots) := by
  refine MetFree.of_bodySF (plainFor_of_name pn_java_lang_Integer) hisR ?_
  intro p e s m args below meth c s₁ Bd hml0 hP hK
  obtain ⟨rfl, hZ, hh⟩ := hP
  have hx := Bd.exec
  have hby := Bd.bytes
  have hlk : meth.locks = false := BodyLoose.notSynchronized Bd
  have hret := Bd.returns
  have hml : c.maxLocals = 2 := hml0
  have hown : s.vm.findClass "java/lang/Integer" = some m.cls := findClass_of_methodNamed Bd.named
  have hnm := (name_of_methodNamed Bd.named Bd.method).1
  have X0 : Stand p l e ({ frames := 2, cells := 0, slots := 0, locals := 24 } : Room) s m #[(.ref o0), (.int p1)] below meth c s₁ [] 0 0 := Stand.of_body Bd
  have e0 : s₁.heap = h0 := by rw [← hh, Bd.state]; rfl
  have N0 := Fr.nil n0
  refine Go.start (Q := Q7 Z o0 p1 u_v h0 n0) (ef_7 m o0 p1) ?_
  show Go _ _ _ _ _ _ _ s₁ (mkF m 0 #[.val (.ref o0), .val (.int p1)] [])
  refine Go.st (fun _ k => XS.aloadN X0.here hx rfl (hb hby d7_0) rfl rfl k) ?_
  show Go _ _ _ _ _ _ _ s₁ (mkF m 1 #[.val (.ref o0), .val (.int p1)] [(.ref o0)])
  obtain ⟨_, _, ⟨T1, L1, k1, n1⟩, -, X1, ⟨Lc1, hQ1, l1, y1, z1⟩, st1⟩ := X0.specialBack hx (y := (⟨"java/lang/Number", "<init>", "()V"⟩ : MethodName)) rfl hown (mvT hZ (hw _ (List.mem_of_getElem? (i := 55) rfl))) (mvT hZ (hw _ (List.mem_of_getElem? (i := 56) rfl))) (mvT hZ (hw _ (List.mem_of_getElem? (i := 60) rfl))) (by decide) (backOf (W := 0) (rm8 l Z a0 hw [] o0  h0 n0 Z0 ) hZ (hw _ (List.mem_of_getElem? (i := 60) rfl)) (hw _ (List.mem_of_getElem? (i := 59) rfl)) (by decide) (by decide)) (g := (mkF m 1 #[.val (.ref o0), .val (.int p1)] [(.ref o0)])) rfl (by rw [hml]; rfl) (Steps.refl _) (a := o0) (argsL := []) (rest := []) (lenOf pd_0 rfl) rfl (by show 2 * 0 + _ ≤ _; exact Nat.le_of_eq rfl) (hb hby d7_1) (fun _ _ => ⟨rfl, e0, (by decide : 0 + 0 ≤ _), (by decide : 0 + 0 ≤ _)⟩)
  dsimp only [Pt.U, Pt.locs, Pt.cells, Pt.slots] at X1 l1 y1 z1 st1 hQ1
  subst l1 y1 z1
  obtain ⟨rfl, N1q, e1⟩ := hQ1
  have N1 := Fr.app N0 N1q
  refine Go.st (fun _ k => st1.trans k) ?_
  show Go _ _ _ _ _ _ _ T1 (mkF m 4 #[.val (.ref o0), .val (.int p1)] [])
  refine Go.st (fun _ k => XS.aloadN X1.here hx rfl (hb hby d7_4) rfl rfl k) ?_
  show Go _ _ _ _ _ _ _ T1 (mkF m 5 #[.val (.ref o0), .val (.int p1)] [(.ref o0)])
  refine Go.st (fun _ k => XS.iloadN X1.here hx rfl (hb hby d7_5) rfl k) ?_
  show Go _ _ _ _ _ _ _ T1 (mkF m 6 #[.val (.ref o0), .val (.int p1)] [(.int p1), (.ref o0)])
  obtain ⟨T2, h2, X2, e2, W2, st2⟩ := putF X1 hx hZ hown (host := "") (Or.inl (hw _ (List.mem_of_getElem? (i := 62) rfl))) Via.refl e1 F_value_o0 E_o0 (Or.inr ⟨(hw _ (List.mem_of_getElem? (i := 63) rfl)), rfl, hnm⟩) (hw _ (List.mem_of_getElem? (i := 50) rfl)) (ty := .int) (by decide) rfl rfl (g := (mkF m 6 #[.val (.ref o0), .val (.int p1)] [(.int p1), (.ref o0)])) rfl rfl (hb hby d7_6)
  have F_value_o0__2 : Fld Z h2 o0 "java/lang/Integer" "value" "I" (.int p1) := F_value_o0.same W2
  have E_o0__2 := E_o0.wr W2
  have Z2 : n0 ≤ h2.size := Nat.le_trans Z0 (Keep.of_wr W2).1
  have KK2 : Keep h0 h2 [o0] := (Keep.refl h0 [o0]).wr W2 (Or.inl (List.mem_of_getElem? (i := 0) rfl))
  have N2 := Fr.snoc X2 N1 g_o0
  refine Go.st st2 ?_
  show Go _ _ _ _ _ _ _ T2 (mkF m 9 #[.val (.ref o0), .val (.int p1)] [])
  refine Go.ret X2 hlk (v := none) (fun _ => rfl) (fun fs hr => X2.returnOut hx hret (hb hby d7_9) hr) ?_ (by decide) (by decide)
  show Q7 Z o0 p1 u_v h0 n0 (none) T2.heap _
  rw [e2]
  have R_value : (val_7_value o0 p1 u_v) = p1 := by unfold val_7_value; rfl
  exact ⟨rfl, N2, KK2, E_o0__2, (by rw [R_value]; exact F_value_o0__2)⟩
theorem d6_0 : decode prog_63_method_1_code 0 = .ok (.aload_n 0, 1) := by decide +kernel
theorem d6_1 : decode prog_63_method_1_code 1 = .ok (.invokespecial 1, 3) := by decide +kernel
theorem d6_4 : decode prog_63_method_1_code 4 = .ok (.aload_n 0, 1) := by decide +kernel
theorem d6_5 : decode prog_63_method_1_code 5 = .ok (.aload_n 1, 1) := by decide +kernel
theorem d6_6 : decode prog_63_method_1_code 6 = .ok (.putfield 7, 3) := by decide +kernel
theorem d6_9 : decode prog_63_method_1_code 9 = .ok (.aload_n 0, 1) := by decide +kernel
theorem d6_10 : decode prog_63_method_1_code 10 = .ok (.aload_n 2, 1) := by decide +kernel
theorem d6_11 : decode prog_63_method_1_code 11 = .ok (.putfield 13, 3) := by decide +kernel
theorem d6_14 : decode prog_63_method_1_code 14 = .ok (.return_, 1) := by decide +kernel
def val_6_type (o0 : Addr) (o1 : Addr) (o2 : Addr) (u_t : Value) (u_v : Value) : Value := (.ref o1)
def val_6_value (o0 : Addr) (o1 : Addr) (o2 : Addr) (u_t : Value) (u_v : Value) : Value := (.ref o2)
theorem ef_6 (m : MethodId) (o0 : Addr) (o1 : Addr) (o2 : Addr) : entryFrame m #[(.ref o0), (.ref o1), (.ref o2)] 3 = mkF m 0 #[.val (.ref o0), .val (.ref o1), .val (.ref o2)] [] := by first | (simp [entryFrame, mkF, argsToLocals, Value.category]; done) | rfl
def Q6 (Z : State) (o0 : Addr) (o1 : Addr) (o2 : Addr) (u_t : Value) (u_v : Value) (h0 : Heap) (n0 : Nat) (v : Option Value) (h : Heap) (L : List Loc) : Prop := v = none ∧ Fr n0 L ∧ Keep h0 h [o0] ∧ Exa Z h o0 "com/example/prudent_checker/prudentchecker/language/StoredValue" ∧ Fld Z h o0 "com/example/prudent_checker/prudentchecker/language/StoredValue" "type" "Lcom/example/prudent_checker/prudentchecker/language/ScalarType;" (val_6_type o0 o1 o2 u_t u_v) ∧ Fld Z h o0 "com/example/prudent_checker/prudentchecker/language/StoredValue" "value" "Lcom/example/prudent_checker/prudentchecker/language/Expression;" (val_6_value o0 o1 o2 u_t u_v)
set_option maxRecDepth 65536 in
set_option maxHeartbeats 40000000 in
theorem rm6 (l : Launch) (Z : State) (a0 : Array Value) (hw : ∀ d ∈ tables_1, d.before a0 Z = true) (ws : List Jvm.Cond) (o0 : Addr) (o1 : Addr) (o2 : Addr) (u_t : Value) (u_v : Value) (h0 : Heap) (n0 : Nat) (Z0 : n0 ≤ h0.size) (E_o0 : Exa Z h0 o0 "com/example/prudent_checker/prudentchecker/language/StoredValue") (F_type_o0 : Fld Z h0 o0 "com/example/prudent_checker/prudentchecker/language/StoredValue" "type" "Lcom/example/prudent_checker/prudentchecker/language/ScalarType;" u_t) (F_value_o0 : Fld Z h0 o0 "com/example/prudent_checker/prudentchecker/language/StoredValue" "value" "Lcom/example/prudent_checker/prudentchecker/language/Expression;" u_v) (g_o0 : n0 ≤ o0) :
    MetFree l (⟨"com/example/prudent_checker/prudentchecker/language/StoredValue", "<init>", "(Lcom/example/prudent_checker/prudentchecker/language/ScalarType;Lcom/example/prudent_checker/prudentchecker/language/Expression;)V"⟩ : MethodName) (head1 (Jvm.Cond.code (⟨"com/example/prudent_checker/prudentchecker/language/StoredValue", "<init>", "(Lcom/example/prudent_checker/prudentchecker/language/ScalarType;Lcom/example/prudent_checker/prudentchecker/language/Expression;)V"⟩ : MethodName) prog_63_method_1_code 3 none :: ws) ({ frames := 2, cells := 0, slots := 0, locals := 24 } : Room)) (fun a U => a = #[(.ref o0), (.ref o1), (.ref o2)] ∧ Z.Warmed39 U.vm ∧ U.heap = h0) (fun _ _ _ _ _ => True) (fun _ U o U' => ∃ v L, o = .returned v ∧ Q6 Z o0 o1 o2 u_t u_v h0 n0 v U'.heap L ∧ FrameEnd U o U' L ({ frames := 2, cells := 0, slots := 0, locals := 24 } : Room).cells ({ frames := 2, cells := 0, slots := 0, locals := 24 } : Room).slots) := by
  refine MetFree.of_bodySF (plainFor_of_name pn_com_example_prudent_checker_prudentchecker_language_StoredValue) hisR ?_
  intro p e s m args below meth c s₁ Bd hml0 hP hK
  obtain ⟨rfl, hZ, hh⟩ := hP
  have hx := Bd.exec
  have hby := Bd.bytes
  have hlk : meth.locks = false := BodyLoose.notSynchronized Bd
  have hret := Bd.returns
  have hml : c.maxLocals = 3 := hml0
  have hown : s.vm.findClass "com/example/prudent_checker/prudentchecker/language/StoredValue" = some m.cls := findClass_of_methodNamed Bd.named
  have hnm := (name_of_methodNamed Bd.named Bd.method).1
  have X0 : Stand p l e ({ frames := 2, cells := 0, slots := 0, locals := 24 } : Room) s m #[(.ref o0), (.ref o1), (.ref o2)] below meth c s₁ [] 0 0 := Stand.of_body Bd
  have e0 : s₁.heap = h0 := by rw [← hh, Bd.state]; rfl
  have N0 := Fr.nil n0
  refine Go.start (Q := Q6 Z o0 o1 o2 u_t u_v h0 n0) (ef_6 m o0 o1 o2) ?_
  show Go _ _ _ _ _ _ _ s₁ (mkF m 0 #[.val (.ref o0), .val (.ref o1), .val (.ref o2)] [])
  refine Go.st (fun _ k => XS.aloadN X0.here hx rfl (hb hby d6_0) rfl rfl k) ?_
  show Go _ _ _ _ _ _ _ s₁ (mkF m 1 #[.val (.ref o0), .val (.ref o1), .val (.ref o2)] [(.ref o0)])
  obtain ⟨_, _, ⟨T1, L1, k1, n1⟩, -, X1, ⟨Lc1, hQ1, l1, y1, z1⟩, st1⟩ := X0.specialBack hx (y := (⟨"com/example/prudent_checker/prudentchecker/language/Expression", "<init>", "()V"⟩ : MethodName)) rfl hown (mvT hZ (hw _ (List.mem_of_getElem? (i := 41) rfl))) (mvT hZ (hw _ (List.mem_of_getElem? (i := 7) rfl))) (mvT hZ (hw _ (List.mem_of_getElem? (i := 10) rfl))) (by decide) (backOf (W := 0) (rm2 l Z a0 hw [] o0  h0 n0 Z0 ) hZ (hw _ (List.mem_of_getElem? (i := 10) rfl)) (hw _ (List.mem_of_getElem? (i := 9) rfl)) (by decide) (by decide)) (g := (mkF m 1 #[.val (.ref o0), .val (.ref o1), .val (.ref o2)] [(.ref o0)])) rfl (by rw [hml]; rfl) (Steps.refl _) (a := o0) (argsL := []) (rest := []) (lenOf pd_0 rfl) rfl (by show 2 * 0 + _ ≤ _; exact Nat.le_of_eq rfl) (hb hby d6_1) (fun _ _ => ⟨rfl, e0, (by decide : 0 + 0 ≤ _), (by decide : 0 + 0 ≤ _)⟩)
  dsimp only [Pt.U, Pt.locs, Pt.cells, Pt.slots] at X1 l1 y1 z1 st1 hQ1
  subst l1 y1 z1
  obtain ⟨rfl, N1q, e1⟩ := hQ1
  have N1 := Fr.app N0 N1q
  refine Go.st (fun _ k => st1.trans k) ?_
  show Go _ _ _ _ _ _ _ T1 (mkF m 4 #[.val (.ref o0), .val (.ref o1), .val (.ref o2)] [])
  refine Go.st (fun _ k => XS.aloadN X1.here hx rfl (hb hby d6_4) rfl rfl k) ?_
  show Go _ _ _ _ _ _ _ T1 (mkF m 5 #[.val (.ref o0), .val (.ref o1), .val (.ref o2)] [(.ref o0)])
  refine Go.st (fun _ k => XS.aloadN X1.here hx rfl (hb hby d6_5) rfl rfl k) ?_
  show Go _ _ _ _ _ _ _ T1 (mkF m 6 #[.val (.ref o0), .val (.ref o1), .val (.ref o2)] [(.ref o1), (.ref o0)])
  obtain ⟨T2, h2, X2, e2, W2, st2⟩ := putF X1 hx hZ hown (host := "") (Or.inl (hw _ (List.mem_of_getElem? (i := 42) rfl))) Via.refl e1 F_type_o0 E_o0 (Or.inr ⟨(hw _ (List.mem_of_getElem? (i := 43) rfl)), rfl, hnm⟩) (hw _ (List.mem_of_getElem? (i := 33) rfl)) (ty := (.object "com/example/prudent_checker/prudentchecker/language/ScalarType")) (by decide) rfl rfl (g := (mkF m 6 #[.val (.ref o0), .val (.ref o1), .val (.ref o2)] [(.ref o1), (.ref o0)])) rfl rfl (hb hby d6_6)
  have F_type_o0__2 : Fld Z h2 o0 "com/example/prudent_checker/prudentchecker/language/StoredValue" "type" "Lcom/example/prudent_checker/prudentchecker/language/ScalarType;" (.ref o1) := F_type_o0.same W2
  have E_o0__2 := E_o0.wr W2
  have F_value_o0__2 := F_value_o0.other W2 (Or.inr (slot_ne (Or.inr (hw _ (List.mem_of_getElem? (i := 45) rfl))) (Or.inr (hw _ (List.mem_of_getElem? (i := 43) rfl))) (by decide) (t := (.object "com/example/prudent_checker/prudentchecker/language/Expression")) (t' := (.object "com/example/prudent_checker/prudentchecker/language/ScalarType")) (by decide) (by decide)))
  have Z2 : n0 ≤ h2.size := Nat.le_trans Z0 (Keep.of_wr W2).1
  have KK2 : Keep h0 h2 [o0] := (Keep.refl h0 [o0]).wr W2 (Or.inl (List.mem_of_getElem? (i := 0) rfl))
  have N2 := Fr.snoc X2 N1 g_o0
  refine Go.st st2 ?_
  show Go _ _ _ _ _ _ _ T2 (mkF m 9 #[.val (.ref o0), .val (.ref o1), .val (.ref o2)] [])
  refine Go.st (fun _ k => XS.aloadN X2.here hx rfl (hb hby d6_9) rfl rfl k) ?_
  show Go _ _ _ _ _ _ _ T2 (mkF m 10 #[.val (.ref o0), .val (.ref o1), .val (.ref o2)] [(.ref o0)])
  refine Go.st (fun _ k => XS.aloadN X2.here hx rfl (hb hby d6_10) rfl rfl k) ?_
  show Go _ _ _ _ _ _ _ T2 (mkF m 11 #[.val (.ref o0), .val (.ref o1), .val (.ref o2)] [(.ref o2), (.ref o0)])
  obtain ⟨T3, h3, X3, e3, W3, st3⟩ := putF X2 hx hZ hown (host := "") (Or.inl (hw _ (List.mem_of_getElem? (i := 44) rfl))) Via.refl e2 F_value_o0__2 E_o0__2 (Or.inr ⟨(hw _ (List.mem_of_getElem? (i := 45) rfl)), rfl, hnm⟩) (hw _ (List.mem_of_getElem? (i := 33) rfl)) (ty := (.object "com/example/prudent_checker/prudentchecker/language/Expression")) (by decide) rfl rfl (g := (mkF m 11 #[.val (.ref o0), .val (.ref o1), .val (.ref o2)] [(.ref o2), (.ref o0)])) rfl rfl (hb hby d6_11)
  have F_value_o0__3 : Fld Z h3 o0 "com/example/prudent_checker/prudentchecker/language/StoredValue" "value" "Lcom/example/prudent_checker/prudentchecker/language/Expression;" (.ref o2) := F_value_o0__2.same W3
  have E_o0__3 := E_o0__2.wr W3
  have F_type_o0__3 := F_type_o0__2.other W3 (Or.inr (slot_ne (Or.inr (hw _ (List.mem_of_getElem? (i := 43) rfl))) (Or.inr (hw _ (List.mem_of_getElem? (i := 45) rfl))) (by decide) (t := (.object "com/example/prudent_checker/prudentchecker/language/ScalarType")) (t' := (.object "com/example/prudent_checker/prudentchecker/language/Expression")) (by decide) (by decide)))
  have Z3 : n0 ≤ h3.size := Nat.le_trans Z2 (Keep.of_wr W3).1
  have KK3 : Keep h0 h3 [o0] := KK2.wr W3 (Or.inl (List.mem_of_getElem? (i := 0) rfl))
  have N3 := Fr.snoc X3 N2 g_o0
  refine Go.st st3 ?_
  show Go _ _ _ _ _ _ _ T3 (mkF m 14 #[.val (.ref o0), .val (.ref o1), .val (.ref o2)] [])
  refine Go.ret X3 hlk (v := none) (fun _ => rfl) (fun fs hr => X3.returnOut hx hret (hb hby d6_14) hr) ?_ (by decide) (by decide)
  show Q6 Z o0 o1 o2 u_t u_v h0 n0 (none) T3.heap _
  rw [e3]
  have R_type : (val_6_type o0 o1 o2 u_t u_v) = (.ref o1) := by unfold val_6_type; rfl
  have R_value : (val_6_value o0 o1 o2 u_t u_v) = (.ref o2) := by unfold val_6_value; rfl
  exact ⟨rfl, N3, KK3, E_o0__3, (by rw [R_type]; exact F_type_o0__3), (by rw [R_value]; exact F_value_o0__3)⟩
theorem d4_0 : decode jdk_33_method_22_code 0 = .ok (.iload_n 0, 1) := by decide +kernel
theorem d4_1 : decode jdk_33_method_22_code 1 = .ok (.bipush (-128), 2) := by decide +kernel
theorem d4_3 : decode jdk_33_method_22_code 3 = .ok (.if_icmp .lt 20, 3) := by decide +kernel
theorem d4_6 : decode jdk_33_method_22_code 6 = .ok (.iload_n 0, 1) := by decide +kernel
theorem d4_7 : decode jdk_33_method_22_code 7 = .ok (.getstatic 191, 3) := by decide +kernel
theorem d4_10 : decode jdk_33_method_22_code 10 = .ok (.if_icmp .gt 13, 3) := by decide +kernel
theorem d4_13 : decode jdk_33_method_22_code 13 = .ok (.getstatic 195, 3) := by decide +kernel
theorem d4_16 : decode jdk_33_method_22_code 16 = .ok (.iload_n 0, 1) := by decide +kernel
theorem d4_17 : decode jdk_33_method_22_code 17 = .ok (.sipush 128, 3) := by decide +kernel
theorem d4_20 : decode jdk_33_method_22_code 20 = .ok (.iadd, 1) := by decide +kernel
theorem d4_21 : decode jdk_33_method_22_code 21 = .ok (.aaload, 1) := by decide +kernel
theorem d4_22 : decode jdk_33_method_22_code 22 = .ok (.areturn, 1) := by decide +kernel
theorem d4_23 : decode jdk_33_method_22_code 23 = .ok (.new 1, 3) := by decide +kernel
theorem d4_26 : decode jdk_33_method_22_code 26 = .ok (.dup, 1) := by decide +kernel
theorem d4_27 : decode jdk_33_method_22_code 27 = .ok (.iload_n 0, 1) := by decide +kernel
theorem d4_28 : decode jdk_33_method_22_code 28 = .ok (.invokespecial 199, 3) := by decide +kernel
theorem d4_31 : decode jdk_33_method_22_code 31 = .ok (.areturn, 1) := by decide +kernel
theorem ef_4 (m : MethodId) (p0 : Int32) : entryFrame m #[(.int p0)] 1 = mkF m 0 #[.val (.int p0)] [] := by first | (simp [entryFrame, mkF, argsToLocals, Value.category]; done) | rfl
def Q4 (Z : State) (p0 : Int32) (w_c : Addr) (cl : Cell) (h0 : Heap) (n0 : Nat) (v : Option Value) (h : Heap) (L : List Loc) : Prop := ∃ r : Addr, v = some (.ref r) ∧ Fr n0 L ∧ Keep h0 h [] ∧ Exa Z h r "java/lang/Integer"
set_option maxRecDepth 65536 in
set_option maxHeartbeats 40000000 in
theorem rm4 (l : Launch) (Z : State) (a0 : Array Value) (hw : ∀ d ∈ tables_1, d.before a0 Z = true) (ws : List Jvm.Cond) (p0 : Int32) (w_c : Addr) (cl : Cell) (h0 : Heap) (n0 : Nat) (Z0 : n0 ≤ h0.size) (S_high : Sta Z h0 "java/lang/Integer$IntegerCache" "high" "I" (.int (127 : Int32))) (S_cache : Sta Z h0 "java/lang/Integer$IntegerCache" "cache" "[Ljava/lang/Integer;" (.ref w_c)) (Ar : Arr Z h0 w_c cl (.object "java/lang/Integer")) (hsz : cl.slots.size = 256) (hC : ∀ j : Int32, ¬ (j < 0 ∨ cl.slots.size ≤ j.toNatClampNeg) → ∃ r, cl.slots[j.toNatClampNeg]? = some (.ref r) ∧ Exa Z h0 r "java/lang/Integer") :
    MetFree l (⟨"java/lang/Integer", "valueOf", "(I)Ljava/lang/Integer;"⟩ : MethodName) (head1 (Jvm.Cond.code (⟨"java/lang/Integer", "valueOf", "(I)Ljava/lang/Integer;"⟩ : MethodName) jdk_33_method_22_code 1 (some (.object "java/lang/Integer")) :: ws) ({ frames := 3, cells := 1, slots := 1, locals := 38 } : Room)) (fun a U => a = #[(.int p0)] ∧ Z.Warmed39 U.vm ∧ U.heap = h0) (fun _ _ _ _ _ => True) (fun _ U o U' => ∃ v L, o = .returned v ∧ Q4 Z p0 w_c cl h0 n0 v U'.heap L ∧ FrameEnd U o U' L ({ frames := 3, cells := 1, slots := 1, locals := 38 } : Room).cells ({ frames := 3, cells := 1, slots := 1, locals := 38 } : Room).slots) := by
  refine MetFree.of_bodySF (plainFor_of_name pn_java_lang_Integer) hisR ?_
  intro p e s m args below meth c s₁ Bd hml0 hP hK
  obtain ⟨rfl, hZ, hh⟩ := hP
  have hx := Bd.exec
  have hby := Bd.bytes
  have hlk : meth.locks = false := BodyLoose.notSynchronized Bd
  have hret := Bd.returns
  have hml : c.maxLocals = 1 := hml0
  have hown : s.vm.findClass "java/lang/Integer" = some m.cls := findClass_of_methodNamed Bd.named
  have hnm := (name_of_methodNamed Bd.named Bd.method).1
  have X0 : Stand p l e ({ frames := 3, cells := 1, slots := 1, locals := 38 } : Room) s m #[(.int p0)] below meth c s₁ [] 0 0 := Stand.of_body Bd
  have e0 : s₁.heap = h0 := by rw [← hh, Bd.state]; rfl
  have N0 := Fr.nil n0
  refine Go.start (Q := Q4 Z p0 w_c cl h0 n0) (ef_4 m p0) ?_
  show Go _ _ _ _ _ _ _ s₁ (mkF m 0 #[.val (.int p0)] [])
  refine Go.st (fun _ k => XS.iloadN X0.here hx rfl (hb hby d4_0) rfl k) ?_
  show Go _ _ _ _ _ _ _ s₁ (mkF m 1 #[.val (.int p0)] [(.int p0)])
  refine Go.st (fun _ k => XS.bipush X0.here hx rfl (hb hby d4_1) k) ?_
  show Go _ _ _ _ _ _ _ s₁ (mkF m 3 #[.val (.int p0)] [(.int (-128 : Int32)), (.int p0)])
  by_cases hc1 : p0 < (-128 : Int32)
  · refine Go.st (fun _ k => XS.icmpYes X0.here hx rfl (pc0 := 3) (pc' := 23) rfl (hb hby d4_3) rfl (tlt hc1).1 (by decide) (by decide) k) ?_
    show Go _ _ _ _ _ _ _ s₁ (mkF m 23 #[.val (.int p0)] [])
    obtain ⟨T2, h2, X2, e2, E2, A2, D2, -, st2⟩ := newO X0 hx hZ hown (hw _ (List.mem_of_getElem? (i := 49) rfl)) (hw _ (List.mem_of_getElem? (i := 50) rfl)) (hw _ (List.mem_of_getElem? (i := 18) rfl)) e0 (g := (mkF m 23 #[.val (.int p0)] [])) rfl (hb hby d4_23) (by decide) (by decide)
    obtain ⟨b2, g2⟩ : ∃ z, z = h0.size := ⟨_, rfl⟩
    rw [← g2] at A2 D2 st2
    have g_b2 : n0 ≤ b2 := Nat.le_trans Z0 (Nat.le_of_eq g2.symm)
    have sz_b2 : h0.size ≤ b2 := Nat.le_trans (Nat.le_refl _) (Nat.le_of_eq g2.symm)
    have S_high__2 := S_high.ext E2
    have S_cache__2 := S_cache.ext E2
    have Z2 : n0 ≤ h2.size := Nat.le_trans Z0 E2.1
    have KK2 : Keep h0 h2 [] := (Keep.refl h0 []).ext E2
    have F_value_b2 : Fld Z h2 b2 "java/lang/Integer" "value" "I" (.int (0 : Int32)) := D2 (Or.inr (hw _ (List.mem_of_getElem? (i := 63) rfl))) (ty := .int) (by decide)
    refine Go.st st2 ?_
    show Go _ _ _ _ _ _ _ T2 (mkF m 26 #[.val (.int p0)] [(.ref b2)])
    refine Go.st (fun _ k => XS.dup X2.here hx rfl (hb hby d4_26) rfl rfl k) ?_
    show Go _ _ _ _ _ _ _ T2 (mkF m 27 #[.val (.int p0)] [(.ref b2), (.ref b2)])
    refine Go.st (fun _ k => XS.iloadN X2.here hx rfl (hb hby d4_27) rfl k) ?_
    show Go _ _ _ _ _ _ _ T2 (mkF m 28 #[.val (.int p0)] [(.int p0), (.ref b2), (.ref b2)])
    obtain ⟨_, _, ⟨T3, L3, k3, n3⟩, -, X3, ⟨Lc3, hQ3, l3, y3, z3⟩, st3⟩ := X2.specialBack hx (y := (⟨"java/lang/Integer", "<init>", "(I)V"⟩ : MethodName)) rfl hown (mvT hZ (hw _ (List.mem_of_getElem? (i := 51) rfl))) (mvT hZ (hw _ (List.mem_of_getElem? (i := 52) rfl))) (mvT hZ (hw _ (List.mem_of_getElem? (i := 54) rfl))) (by decide) (backOf (W := 1) (rm7 l Z a0 hw [] b2 p0 (0 : Int32) h2 n0 Z2 A2 F_value_b2 g_b2) hZ (hw _ (List.mem_of_getElem? (i := 54) rfl)) (hw _ (List.mem_of_getElem? (i := 18) rfl)) (by decide) (by decide)) (g := (mkF m 28 #[.val (.int p0)] [(.int p0), (.ref b2), (.ref b2)])) rfl (by rw [hml]; rfl) (Steps.refl _) (a := b2) (argsL := [(.int p0)]) (rest := [(.ref b2)]) (lenOf pd_1 rfl) rfl (by show 2 * 0 + _ ≤ _; exact Nat.le_of_eq rfl) (hb hby d4_28) (fun _ _ => ⟨rfl, e2, (by decide : 1 + 0 ≤ _), (by decide : 1 + 0 ≤ _)⟩)
    dsimp only [Pt.U, Pt.locs, Pt.cells, Pt.slots] at X3 l3 y3 z3 st3 hQ3
    subst l3 y3 z3
    generalize e3 : T3.heap = h3 at hQ3
    obtain ⟨rfl, N3q, K3, EE3, FF_value_3⟩ := hQ3
    have N3 := Fr.app N0 N3q
    refine Go.st (fun _ k => st3.trans k) ?_
    have S_high__3 := own_sta S_high__2 K3 (allS A2.cell (all0))
    have S_cache__3 := own_sta S_cache__2 K3 (allS A2.cell (all0))
    have A2__3 := A2.keep K3
    have Z3 : n0 ≤ h3.size := Nat.le_trans Z2 K3.1
    have KK3 : Keep h0 h3 [] := KK2.trans K3 (allS (Or.inr sz_b2) (all0))
    rw [show (val_7_value b2 p0 (0 : Int32)) = p0 from by unfold val_7_value; rfl] at FF_value_3
    have F_value_b2__3 := FF_value_3
    show Go _ _ _ _ _ _ _ T3 (mkF m 31 #[.val (.int p0)] [(.ref b2)])
    refine Go.ret X3 hlk (v := some (.ref b2)) (fun h => by rw [hret] at h; cases h) (fun fs hr => retOut X3 hx (i := .areturn) hret rfl (Or.inr (Or.inr (Or.inr (Or.inr ⟨rfl, rfl, rfl⟩)))) (hb hby d4_31) hr) ?_ (by decide) (by decide)
    show Q4 Z p0 w_c cl h0 n0 (some (.ref b2)) T3.heap _
    rw [e3]
    exact ⟨b2, rfl, N3, KK3, EE3⟩
  · refine Go.st (fun _ k => XS.icmpNo X0.here hx rfl (hb hby d4_3) rfl (flt hc1).1 k) ?_
    show Go _ _ _ _ _ _ _ s₁ (mkF m 6 #[.val (.int p0)] [])
    refine Go.st (fun _ k => XS.iloadN X0.here hx rfl (hb hby d4_6) rfl k) ?_
    show Go _ _ _ _ _ _ _ s₁ (mkF m 7 #[.val (.int p0)] [(.int p0)])
    obtain ⟨T4, X4, e4, st4⟩ := getS2 X0 hx hZ hown (host := "") (Or.inl (hw _ (List.mem_of_getElem? (i := 20) rfl))) Via.refl e0 S_high (g := (mkF m 7 #[.val (.int p0)] [(.int p0)])) rfl (hb hby d4_7)
    refine Go.st st4 ?_
    show Go _ _ _ _ _ _ _ T4 (mkF m 10 #[.val (.int p0)] [(.int (127 : Int32)), (.int p0)])
    by_cases hc5 : (127 : Int32) < p0
    · refine Go.st (fun _ k => XS.icmpYes X4.here hx rfl (pc0 := 10) (pc' := 23) rfl (hb hby d4_10) rfl (tlt hc5).2.2.1 (by decide) (by decide) k) ?_
      show Go _ _ _ _ _ _ _ T4 (mkF m 23 #[.val (.int p0)] [])
      obtain ⟨T6, h6, X6, e6, E6, A6, D6, -, st6⟩ := newO X4 hx hZ hown (hw _ (List.mem_of_getElem? (i := 49) rfl)) (hw _ (List.mem_of_getElem? (i := 50) rfl)) (hw _ (List.mem_of_getElem? (i := 18) rfl)) e4 (g := (mkF m 23 #[.val (.int p0)] [])) rfl (hb hby d4_23) (by decide) (by decide)
      obtain ⟨b6, g6⟩ : ∃ z, z = h0.size := ⟨_, rfl⟩
      rw [← g6] at A6 D6 st6
      have g_b6 : n0 ≤ b6 := Nat.le_trans Z0 (Nat.le_of_eq g6.symm)
      have sz_b6 : h0.size ≤ b6 := Nat.le_trans (Nat.le_refl _) (Nat.le_of_eq g6.symm)
      have S_high__6 := S_high.ext E6
      have S_cache__6 := S_cache.ext E6
      have Z6 : n0 ≤ h6.size := Nat.le_trans Z0 E6.1
      have KK6 : Keep h0 h6 [] := (Keep.refl h0 []).ext E6
      have F_value_b6 : Fld Z h6 b6 "java/lang/Integer" "value" "I" (.int (0 : Int32)) := D6 (Or.inr (hw _ (List.mem_of_getElem? (i := 63) rfl))) (ty := .int) (by decide)
      refine Go.st st6 ?_
      show Go _ _ _ _ _ _ _ T6 (mkF m 26 #[.val (.int p0)] [(.ref b6)])
      refine Go.st (fun _ k => XS.dup X6.here hx rfl (hb hby d4_26) rfl rfl k) ?_
      show Go _ _ _ _ _ _ _ T6 (mkF m 27 #[.val (.int p0)] [(.ref b6), (.ref b6)])
      refine Go.st (fun _ k => XS.iloadN X6.here hx rfl (hb hby d4_27) rfl k) ?_
      show Go _ _ _ _ _ _ _ T6 (mkF m 28 #[.val (.int p0)] [(.int p0), (.ref b6), (.ref b6)])
      obtain ⟨_, _, ⟨T7, L7, k7, n7⟩, -, X7, ⟨Lc7, hQ7, l7, y7, z7⟩, st7⟩ := X6.specialBack hx (y := (⟨"java/lang/Integer", "<init>", "(I)V"⟩ : MethodName)) rfl hown (mvT hZ (hw _ (List.mem_of_getElem? (i := 51) rfl))) (mvT hZ (hw _ (List.mem_of_getElem? (i := 52) rfl))) (mvT hZ (hw _ (List.mem_of_getElem? (i := 54) rfl))) (by decide) (backOf (W := 1) (rm7 l Z a0 hw [] b6 p0 (0 : Int32) h6 n0 Z6 A6 F_value_b6 g_b6) hZ (hw _ (List.mem_of_getElem? (i := 54) rfl)) (hw _ (List.mem_of_getElem? (i := 18) rfl)) (by decide) (by decide)) (g := (mkF m 28 #[.val (.int p0)] [(.int p0), (.ref b6), (.ref b6)])) rfl (by rw [hml]; rfl) (Steps.refl _) (a := b6) (argsL := [(.int p0)]) (rest := [(.ref b6)]) (lenOf pd_1 rfl) rfl (by show 2 * 0 + _ ≤ _; exact Nat.le_of_eq rfl) (hb hby d4_28) (fun _ _ => ⟨rfl, e6, (by decide : 1 + 0 ≤ _), (by decide : 1 + 0 ≤ _)⟩)
      dsimp only [Pt.U, Pt.locs, Pt.cells, Pt.slots] at X7 l7 y7 z7 st7 hQ7
      subst l7 y7 z7
      generalize e7 : T7.heap = h7 at hQ7
      obtain ⟨rfl, N7q, K7, EE7, FF_value_7⟩ := hQ7
      have N7 := Fr.app N0 N7q
      refine Go.st (fun _ k => st7.trans k) ?_
      have S_high__7 := own_sta S_high__6 K7 (allS A6.cell (all0))
      have S_cache__7 := own_sta S_cache__6 K7 (allS A6.cell (all0))
      have A6__7 := A6.keep K7
      have Z7 : n0 ≤ h7.size := Nat.le_trans Z6 K7.1
      have KK7 : Keep h0 h7 [] := KK6.trans K7 (allS (Or.inr sz_b6) (all0))
      rw [show (val_7_value b6 p0 (0 : Int32)) = p0 from by unfold val_7_value; rfl] at FF_value_7
      have F_value_b6__7 := FF_value_7
      show Go _ _ _ _ _ _ _ T7 (mkF m 31 #[.val (.int p0)] [(.ref b6)])
      refine Go.ret X7 hlk (v := some (.ref b6)) (fun h => by rw [hret] at h; cases h) (fun fs hr => retOut X7 hx (i := .areturn) hret rfl (Or.inr (Or.inr (Or.inr (Or.inr ⟨rfl, rfl, rfl⟩)))) (hb hby d4_31) hr) ?_ (by decide) (by decide)
      show Q4 Z p0 w_c cl h0 n0 (some (.ref b6)) T7.heap _
      rw [e7]
      exact ⟨b6, rfl, N7, KK7, EE7⟩
    · refine Go.st (fun _ k => XS.icmpNo X4.here hx rfl (hb hby d4_10) rfl (flt hc5).2.2.1 k) ?_
      show Go _ _ _ _ _ _ _ T4 (mkF m 13 #[.val (.int p0)] [])
      obtain ⟨T8, X8, e8, st8⟩ := getS2 X4 hx hZ hown (host := "") (Or.inl (hw _ (List.mem_of_getElem? (i := 22) rfl))) Via.refl e4 S_cache (g := (mkF m 13 #[.val (.int p0)] [])) rfl (hb hby d4_13)
      refine Go.st st8 ?_
      show Go _ _ _ _ _ _ _ T8 (mkF m 16 #[.val (.int p0)] [(.ref w_c)])
      refine Go.st (fun _ k => XS.iloadN X8.here hx rfl (hb hby d4_16) rfl k) ?_
      show Go _ _ _ _ _ _ _ T8 (mkF m 17 #[.val (.int p0)] [(.int p0), (.ref w_c)])
      refine Go.st (fun _ k => XS.sipush X8.here hx rfl (hb hby d4_17) k) ?_
      show Go _ _ _ _ _ _ _ T8 (mkF m 20 #[.val (.int p0)] [(.int (128 : Int32)), (.int p0), (.ref w_c)])
      refine Go.st (fun _ k => XS.iadd X8.here hx rfl (hb hby d4_20) rfl k) ?_
      show Go _ _ _ _ _ _ _ T8 (mkF m 21 #[.val (.int p0)] [(.int (p0 + (128 : Int32))), (.ref w_c)])
      have hin : ¬ ((p0 + (128 : Int32)) < 0 ∨ cl.slots.size ≤ ((p0 + (128 : Int32))).toNatClampNeg) := by rw [hsz]; exact (IntBox.place_ok p0 hc1 hc5).1
      obtain ⟨r, hr, Er⟩ := hC _ hin
      refine Go.st (fun _ k => X8.aaload hx (j := (p0 + (128 : Int32))) (v := .ref r) (by rw [e8]; exact Ar.1) (State.isArrayOf_alike hZ.alike Ar.2.1) rfl Ar.2.2 hin hr (g := (mkF m 21 #[.val (.int p0)] [(.int (p0 + (128 : Int32))), (.ref w_c)])) rfl rfl (hb hby d4_21) _ k) ?_
      show Go _ _ _ _ _ _ _ T8 (mkF m 22 #[.val (.int p0)] [(.ref r)])
      refine Go.ret X8 hlk (v := some (.ref r)) (fun h => by rw [hret] at h; cases h) (fun fs hr => retOut X8 hx (i := .areturn) hret rfl (Or.inr (Or.inr (Or.inr (Or.inr ⟨rfl, rfl, rfl⟩)))) (hb hby d4_22) hr) ?_ (by decide) (by decide)
      show Q4 Z p0 w_c cl h0 n0 (some (.ref r)) T8.heap _
      rw [e8]
      exact ⟨r, rfl, N0, Keep.refl _ _, Er⟩
theorem d5_0 : decode prog_46_method_7_code 0 = .ok (.aload_n 1, 1) := by decide +kernel
theorem d5_1 : decode prog_46_method_7_code 1 = .ok (.instanceof 8, 3) := by decide +kernel
theorem d5_4 : decode prog_46_method_7_code 4 = .ok (.ifCond .eq 23, 3) := by decide +kernel
theorem d5_7 : decode prog_46_method_7_code 7 = .ok (.aload_n 1, 1) := by decide +kernel
theorem d5_8 : decode prog_46_method_7_code 8 = .ok (.checkcast 8, 3) := by decide +kernel
theorem d5_11 : decode prog_46_method_7_code 11 = .ok (.astore_n 2, 1) := by decide +kernel
theorem d5_12 : decode prog_46_method_7_code 12 = .ok (.aload_n 0, 1) := by decide +kernel
theorem d5_13 : decode prog_46_method_7_code 13 = .ok (.getfield 7, 3) := by decide +kernel
theorem d5_16 : decode prog_46_method_7_code 16 = .ok (.aload_n 2, 1) := by decide +kernel
theorem d5_17 : decode prog_46_method_7_code 17 = .ok (.getfield 7, 3) := by decide +kernel
theorem d5_20 : decode prog_46_method_7_code 20 = .ok (.if_icmp .ne 7, 3) := by decide +kernel
theorem d5_23 : decode prog_46_method_7_code 23 = .ok (.iconst 1, 1) := by decide +kernel
theorem d5_24 : decode prog_46_method_7_code 24 = .ok (.goto 4, 3) := by decide +kernel
theorem d5_27 : decode prog_46_method_7_code 27 = .ok (.iconst 0, 1) := by decide +kernel
theorem d5_28 : decode prog_46_method_7_code 28 = .ok (.ireturn, 1) := by decide +kernel
def val_5i (o0 : Addr) (o1 : Addr) (x0 : Int32) (x1 : Int32) : Int32 := (if x0 = x1 then (1 : Int32) else (0 : Int32))
theorem ef_5i (m : MethodId) (o0 : Addr) (o1 : Addr) : entryFrame m #[(.ref o0), (.ref o1)] 3 = mkF m 0 #[.val (.ref o0), .val (.ref o1), .unset] [] := by first | (simp [entryFrame, mkF, argsToLocals, Value.category]; done) | rfl
def Q5i (Z : State) (o0 : Addr) (o1 : Addr) (x0 : Int32) (x1 : Int32) (h0 : Heap) (n0 : Nat) (v : Option Value) (h : Heap) (L : List Loc) : Prop := v = some (.int (val_5i o0 o1 x0 x1)) ∧ Fr n0 L ∧ h = h0
set_option maxRecDepth 65536 in
set_option maxHeartbeats 40000000 in
theorem rm5i (l : Launch) (Z : State) (a0 : Array Value) (hw : ∀ d ∈ tables_1, d.before a0 Z = true) (ws : List Jvm.Cond) (o0 : Addr) (o1 : Addr) (x0 : Int32) (x1 : Int32) (h0 : Heap) (n0 : Nat) (Z0 : n0 ≤ h0.size) (E_o1 : Exa Z h0 o1 "com/example/prudent_checker/prudentchecker/language/IntegerLiteral") (F_value_o0 : Fld Z h0 o0 "com/example/prudent_checker/prudentchecker/language/IntegerLiteral" "value" "I" (.int x0)) (F_value_o1 : Fld Z h0 o1 "com/example/prudent_checker/prudentchecker/language/IntegerLiteral" "value" "I" (.int x1)) :
    MetFree l (⟨"com/example/prudent_checker/prudentchecker/language/IntegerLiteral", "equals", "(Ljava/lang/Object;)Z"⟩ : MethodName) (head1 (Jvm.Cond.code (⟨"com/example/prudent_checker/prudentchecker/language/IntegerLiteral", "equals", "(Ljava/lang/Object;)Z"⟩ : MethodName) prog_46_method_7_code 3 (some .boolean) :: ws) ({ frames := 0, cells := 0, slots := 0, locals := 0 } : Room)) (fun a U => a = #[(.ref o0), (.ref o1)] ∧ Z.Warmed39 U.vm ∧ U.heap = h0) (fun _ _ _ _ _ => True) (fun _ U o U' => ∃ v L, o = .returned v ∧ Q5i Z o0 o1 x0 x1 h0 n0 v U'.heap L ∧ FrameEnd U o U' L ({ frames := 0, cells := 0, slots := 0, locals := 0 } : Room).cells ({ frames := 0, cells := 0, slots := 0, locals := 0 } : Room).slots) := by
  refine MetFree.of_bodySF (plainFor_of_name pn_com_example_prudent_checker_prudentchecker_language_IntegerLiteral) hisR ?_
  intro p e s m args below meth c s₁ Bd hml0 hP hK
  obtain ⟨rfl, hZ, hh⟩ := hP
  have hx := Bd.exec
  have hby := Bd.bytes
  have hlk : meth.locks = false := BodyLoose.notSynchronized Bd
  have hret := Bd.returns
  have hml : c.maxLocals = 3 := hml0
  have hown : s.vm.findClass "com/example/prudent_checker/prudentchecker/language/IntegerLiteral" = some m.cls := findClass_of_methodNamed Bd.named
  have hnm := (name_of_methodNamed Bd.named Bd.method).1
  have X0 : Stand p l e ({ frames := 0, cells := 0, slots := 0, locals := 0 } : Room) s m #[(.ref o0), (.ref o1)] below meth c s₁ [] 0 0 := Stand.of_body Bd
  have e0 : s₁.heap = h0 := by rw [← hh, Bd.state]; rfl
  have N0 := Fr.nil n0
  refine Go.start (Q := Q5i Z o0 o1 x0 x1 h0 n0) (ef_5i m o0 o1) ?_
  show Go _ _ _ _ _ _ _ s₁ (mkF m 0 #[.val (.ref o0), .val (.ref o1), .unset] [])
  refine Go.st (fun _ k => XS.aloadN X0.here hx rfl (hb hby d5_0) rfl rfl k) ?_
  show Go _ _ _ _ _ _ _ s₁ (mkF m 1 #[.val (.ref o0), .val (.ref o1), .unset] [(.ref o1)])
  obtain ⟨T1, X1, e1, st1⟩ := instY X0 hx hZ hown (hw _ (List.mem_of_getElem? (i := 28) rfl)) e0 (Ins.self E_o1) (g := (mkF m 1 #[.val (.ref o0), .val (.ref o1), .unset] [(.ref o1)])) rfl rfl (hb hby d5_1)
  refine Go.st st1 ?_
  show Go _ _ _ _ _ _ _ T1 (mkF m 4 #[.val (.ref o0), .val (.ref o1), .unset] [(.int (1 : Int32))])
  refine Go.st (fun _ k => XS.ifNo X1.here hx rfl (hb hby d5_4) rfl ((if0 _ _).trans (feq (by decide : ¬ ((1 : Int32) = (0 : Int32)))).1) k) ?_
  show Go _ _ _ _ _ _ _ T1 (mkF m 7 #[.val (.ref o0), .val (.ref o1), .unset] [])
  refine Go.st (fun _ k => XS.aloadN X1.here hx rfl (hb hby d5_7) rfl rfl k) ?_
  show Go _ _ _ _ _ _ _ T1 (mkF m 8 #[.val (.ref o0), .val (.ref o1), .unset] [(.ref o1)])
  obtain ⟨T2, X2, e2, st2⟩ := castY X1 hx hZ hown (hw _ (List.mem_of_getElem? (i := 28) rfl)) e1 (Ins.self E_o1) (g := (mkF m 8 #[.val (.ref o0), .val (.ref o1), .unset] [(.ref o1)])) rfl rfl (hb hby d5_8)
  refine Go.st st2 ?_
  show Go _ _ _ _ _ _ _ T2 (mkF m 11 #[.val (.ref o0), .val (.ref o1), .unset] [(.ref o1)])
  refine Go.st (fun _ k => XS.astoreN X2.here hx rfl (hb hby d5_11) rfl rfl (l' := #[.val (.ref o0), .val (.ref o1), .val (.ref o1)]) rfl k) ?_
  show Go _ _ _ _ _ _ _ T2 (mkF m 12 #[.val (.ref o0), .val (.ref o1), .val (.ref o1)] [])
  refine Go.st (fun _ k => XS.aloadN X2.here hx rfl (hb hby d5_12) rfl rfl k) ?_
  show Go _ _ _ _ _ _ _ T2 (mkF m 13 #[.val (.ref o0), .val (.ref o1), .val (.ref o1)] [(.ref o0)])
  obtain ⟨T3, X3, e3, st3⟩ := getF X2 hx hZ hown (host := "") (Or.inl (hw _ (List.mem_of_getElem? (i := 14) rfl))) Via.refl e2 F_value_o0 (g := (mkF m 13 #[.val (.ref o0), .val (.ref o1), .val (.ref o1)] [(.ref o0)])) rfl rfl (hb hby d5_13)
  refine Go.st st3 ?_
  show Go _ _ _ _ _ _ _ T3 (mkF m 16 #[.val (.ref o0), .val (.ref o1), .val (.ref o1)] [(.int x0)])
  refine Go.st (fun _ k => XS.aloadN X3.here hx rfl (hb hby d5_16) rfl rfl k) ?_
  show Go _ _ _ _ _ _ _ T3 (mkF m 17 #[.val (.ref o0), .val (.ref o1), .val (.ref o1)] [(.ref o1), (.int x0)])
  obtain ⟨T4, X4, e4, st4⟩ := getF X3 hx hZ hown (host := "") (Or.inl (hw _ (List.mem_of_getElem? (i := 14) rfl))) Via.refl e3 F_value_o1 (g := (mkF m 17 #[.val (.ref o0), .val (.ref o1), .val (.ref o1)] [(.ref o1), (.int x0)])) rfl rfl (hb hby d5_17)
  refine Go.st st4 ?_
  show Go _ _ _ _ _ _ _ T4 (mkF m 20 #[.val (.ref o0), .val (.ref o1), .val (.ref o1)] [(.int x1), (.int x0)])
  by_cases hc5 : x0 = x1
  · refine Go.st (fun _ k => XS.icmpNo X4.here hx rfl (hb hby d5_20) rfl (teq hc5).2 k) ?_
    show Go _ _ _ _ _ _ _ T4 (mkF m 23 #[.val (.ref o0), .val (.ref o1), .val (.ref o1)] [])
    refine Go.st (fun _ k => XS.iconst X4.here hx rfl (hb hby d5_23) k) ?_
    show Go _ _ _ _ _ _ _ T4 (mkF m 24 #[.val (.ref o0), .val (.ref o1), .val (.ref o1)] [(.int (1 : Int32))])
    refine Go.st (fun _ k => XS.goto X4.here hx rfl (pc0 := 24) (pc' := 28) rfl (hb hby d5_24) (by decide) (by decide) k) ?_
    show Go _ _ _ _ _ _ _ T4 (mkF m 28 #[.val (.ref o0), .val (.ref o1), .val (.ref o1)] [(.int (1 : Int32))])
    refine Go.ret X4 hlk (v := some (.int (1 : Int32))) (fun h => by rw [hret] at h; cases h) (fun fs hr => retN X4 hx (t := .boolean) hret (by simp) (hb hby d5_28) hr) ?_ (by decide) (by decide)
    show Q5i Z o0 o1 x0 x1 h0 n0 (some (.int (1 : Int32))) T4.heap _
    rw [e4]
    refine ⟨?_, N0, rfl⟩
    unfold val_5i
    rw [if_pos hc5]
  · refine Go.st (fun _ k => XS.icmpYes X4.here hx rfl (pc0 := 20) (pc' := 27) rfl (hb hby d5_20) rfl (feq hc5).2 (by decide) (by decide) k) ?_
    show Go _ _ _ _ _ _ _ T4 (mkF m 27 #[.val (.ref o0), .val (.ref o1), .val (.ref o1)] [])
    refine Go.st (fun _ k => XS.iconst X4.here hx rfl (hb hby d5_27) k) ?_
    show Go _ _ _ _ _ _ _ T4 (mkF m 28 #[.val (.ref o0), .val (.ref o1), .val (.ref o1)] [(.int (0 : Int32))])
    refine Go.ret X4 hlk (v := some (.int (0 : Int32))) (fun h => by rw [hret] at h; cases h) (fun fs hr => retN X4 hx (t := .boolean) hret (by simp) (hb hby d5_28) hr) ?_ (by decide) (by decide)
    show Q5i Z o0 o1 x0 x1 h0 n0 (some (.int (0 : Int32))) T4.heap _
    rw [e4]
    refine ⟨?_, N0, rfl⟩
    unfold val_5i
    rw [if_neg hc5]
def val_5n (o0 : Addr) : Int32 := (0 : Int32)
theorem ef_5n (m : MethodId) (o0 : Addr) : entryFrame m #[(.ref o0), .null] 3 = mkF m 0 #[.val (.ref o0), .val .null, .unset] [] := by first | (simp [entryFrame, mkF, argsToLocals, Value.category]; done) | rfl
def Q5n (Z : State) (o0 : Addr) (h0 : Heap) (n0 : Nat) (v : Option Value) (h : Heap) (L : List Loc) : Prop := v = some (.int (val_5n o0)) ∧ Fr n0 L ∧ h = h0
set_option maxRecDepth 65536 in
set_option maxHeartbeats 40000000 in
theorem rm5n (l : Launch) (Z : State) (a0 : Array Value) (hw : ∀ d ∈ tables_1, d.before a0 Z = true) (ws : List Jvm.Cond) (o0 : Addr) (h0 : Heap) (n0 : Nat) (Z0 : n0 ≤ h0.size) :
    MetFree l (⟨"com/example/prudent_checker/prudentchecker/language/IntegerLiteral", "equals", "(Ljava/lang/Object;)Z"⟩ : MethodName) (head1 (Jvm.Cond.code (⟨"com/example/prudent_checker/prudentchecker/language/IntegerLiteral", "equals", "(Ljava/lang/Object;)Z"⟩ : MethodName) prog_46_method_7_code 3 (some .boolean) :: ws) ({ frames := 0, cells := 0, slots := 0, locals := 0 } : Room)) (fun a U => a = #[(.ref o0), .null] ∧ Z.Warmed39 U.vm ∧ U.heap = h0) (fun _ _ _ _ _ => True) (fun _ U o U' => ∃ v L, o = .returned v ∧ Q5n Z o0 h0 n0 v U'.heap L ∧ FrameEnd U o U' L ({ frames := 0, cells := 0, slots := 0, locals := 0 } : Room).cells ({ frames := 0, cells := 0, slots := 0, locals := 0 } : Room).slots) := by
  refine MetFree.of_bodySF (plainFor_of_name pn_com_example_prudent_checker_prudentchecker_language_IntegerLiteral) hisR ?_
  intro p e s m args below meth c s₁ Bd hml0 hP hK
  obtain ⟨rfl, hZ, hh⟩ := hP
  have hx := Bd.exec
  have hby := Bd.bytes
  have hlk : meth.locks = false := BodyLoose.notSynchronized Bd
  have hret := Bd.returns
  have hml : c.maxLocals = 3 := hml0
  have hown : s.vm.findClass "com/example/prudent_checker/prudentchecker/language/IntegerLiteral" = some m.cls := findClass_of_methodNamed Bd.named
  have hnm := (name_of_methodNamed Bd.named Bd.method).1
  have X0 : Stand p l e ({ frames := 0, cells := 0, slots := 0, locals := 0 } : Room) s m #[(.ref o0), .null] below meth c s₁ [] 0 0 := Stand.of_body Bd
  have e0 : s₁.heap = h0 := by rw [← hh, Bd.state]; rfl
  have N0 := Fr.nil n0
  refine Go.start (Q := Q5n Z o0 h0 n0) (ef_5n m o0) ?_
  show Go _ _ _ _ _ _ _ s₁ (mkF m 0 #[.val (.ref o0), .val .null, .unset] [])
  refine Go.st (fun _ k => XS.aloadN X0.here hx rfl (hb hby d5_0) rfl rfl k) ?_
  show Go _ _ _ _ _ _ _ s₁ (mkF m 1 #[.val (.ref o0), .val .null, .unset] [.null])
  refine Go.st (fun _ k => X0.instanceofNull hx (g := (mkF m 1 #[.val (.ref o0), .val .null, .unset] [.null])) rfl rfl (hb hby d5_1) _ k) ?_
  show Go _ _ _ _ _ _ _ s₁ (mkF m 4 #[.val (.ref o0), .val .null, .unset] [(.int (0 : Int32))])
  refine Go.st (fun _ k => XS.ifYes X0.here hx rfl (pc0 := 4) (pc' := 27) rfl (hb hby d5_4) rfl ((if0 _ _).trans (teq (by decide : (0 : Int32) = (0 : Int32))).1) (by decide) (by decide) k) ?_
  show Go _ _ _ _ _ _ _ s₁ (mkF m 27 #[.val (.ref o0), .val .null, .unset] [])
  refine Go.st (fun _ k => XS.iconst X0.here hx rfl (hb hby d5_27) k) ?_
  show Go _ _ _ _ _ _ _ s₁ (mkF m 28 #[.val (.ref o0), .val .null, .unset] [(.int (0 : Int32))])
  refine Go.ret X0 hlk (v := some (.int (0 : Int32))) (fun h => by rw [hret] at h; cases h) (fun fs hr => retN X0 hx (t := .boolean) hret (by simp) (hb hby d5_28) hr) ?_ (by decide) (by decide)
  show Q5n Z o0 h0 n0 (some (.int (0 : Int32))) s₁.heap _
  rw [e0]
  refine ⟨?_, N0, rfl⟩
  unfold val_5n
  rfl
def val_5j (o0 : Addr) (o1 : Addr) : Int32 := (0 : Int32)
theorem ef_5j (m : MethodId) (o0 : Addr) (o1 : Addr) : entryFrame m #[(.ref o0), (.ref o1)] 3 = mkF m 0 #[.val (.ref o0), .val (.ref o1), .unset] [] := by first | (simp [entryFrame, mkF, argsToLocals, Value.category]; done) | rfl
def Q5j (Z : State) (o0 : Addr) (o1 : Addr) (h0 : Heap) (n0 : Nat) (v : Option Value) (h : Heap) (L : List Loc) : Prop := v = some (.int (val_5j o0 o1)) ∧ Fr n0 L ∧ h = h0
set_option maxRecDepth 65536 in
set_option maxHeartbeats 40000000 in
theorem rm5j (l : Launch) (Z : State) (a0 : Array Value) (hw : ∀ d ∈ tables_1, d.before a0 Z = true) (ws : List Jvm.Cond) (o0 : Addr) (o1 : Addr) (h0 : Heap) (n0 : Nat) (Z0 : n0 ≤ h0.size) (E_o1 : Exa Z h0 o1 "java/lang/Integer") :
    MetFree l (⟨"com/example/prudent_checker/prudentchecker/language/IntegerLiteral", "equals", "(Ljava/lang/Object;)Z"⟩ : MethodName) (head1 (Jvm.Cond.code (⟨"com/example/prudent_checker/prudentchecker/language/IntegerLiteral", "equals", "(Ljava/lang/Object;)Z"⟩ : MethodName) prog_46_method_7_code 3 (some .boolean) :: ws) ({ frames := 0, cells := 0, slots := 0, locals := 0 } : Room)) (fun a U => a = #[(.ref o0), (.ref o1)] ∧ Z.Warmed39 U.vm ∧ U.heap = h0) (fun _ _ _ _ _ => True) (fun _ U o U' => ∃ v L, o = .returned v ∧ Q5j Z o0 o1 h0 n0 v U'.heap L ∧ FrameEnd U o U' L ({ frames := 0, cells := 0, slots := 0, locals := 0 } : Room).cells ({ frames := 0, cells := 0, slots := 0, locals := 0 } : Room).slots) := by
  refine MetFree.of_bodySF (plainFor_of_name pn_com_example_prudent_checker_prudentchecker_language_IntegerLiteral) hisR ?_
  intro p e s m args below meth c s₁ Bd hml0 hP hK
  obtain ⟨rfl, hZ, hh⟩ := hP
  have hx := Bd.exec
  have hby := Bd.bytes
  have hlk : meth.locks = false := BodyLoose.notSynchronized Bd
  have hret := Bd.returns
  have hml : c.maxLocals = 3 := hml0
  have hown : s.vm.findClass "com/example/prudent_checker/prudentchecker/language/IntegerLiteral" = some m.cls := findClass_of_methodNamed Bd.named
  have hnm := (name_of_methodNamed Bd.named Bd.method).1
  have X0 : Stand p l e ({ frames := 0, cells := 0, slots := 0, locals := 0 } : Room) s m #[(.ref o0), (.ref o1)] below meth c s₁ [] 0 0 := Stand.of_body Bd
  have e0 : s₁.heap = h0 := by rw [← hh, Bd.state]; rfl
  have N0 := Fr.nil n0
  refine Go.start (Q := Q5j Z o0 o1 h0 n0) (ef_5j m o0 o1) ?_
  show Go _ _ _ _ _ _ _ s₁ (mkF m 0 #[.val (.ref o0), .val (.ref o1), .unset] [])
  refine Go.st (fun _ k => XS.aloadN X0.here hx rfl (hb hby d5_0) rfl rfl k) ?_
  show Go _ _ _ _ _ _ _ s₁ (mkF m 1 #[.val (.ref o0), .val (.ref o1), .unset] [(.ref o1)])
  obtain ⟨T1, X1, e1, st1⟩ := instNo X0 hx hZ hown (hw _ (List.mem_of_getElem? (i := 28) rfl)) e0 E_o1 (own_no (hw _ (List.mem_of_getElem? (i := 29) rfl)) (hw _ (List.mem_of_getElem? (i := 1) rfl)) (NS.step (hw _ (List.mem_of_getElem? (i := 29) rfl)) (NS.step (hw _ (List.mem_of_getElem? (i := 30) rfl)) (own_root (hw _ (List.mem_of_getElem? (i := 31) rfl)) (hw _ (List.mem_of_getElem? (i := 1) rfl)) (by decide)) (by decide)) (by decide)) (by decide)) (g := (mkF m 1 #[.val (.ref o0), .val (.ref o1), .unset] [(.ref o1)])) rfl rfl (hb hby d5_1)
  refine Go.st st1 ?_
  show Go _ _ _ _ _ _ _ T1 (mkF m 4 #[.val (.ref o0), .val (.ref o1), .unset] [(.int (0 : Int32))])
  refine Go.st (fun _ k => XS.ifYes X1.here hx rfl (pc0 := 4) (pc' := 27) rfl (hb hby d5_4) rfl ((if0 _ _).trans (teq (by decide : (0 : Int32) = (0 : Int32))).1) (by decide) (by decide) k) ?_
  show Go _ _ _ _ _ _ _ T1 (mkF m 27 #[.val (.ref o0), .val (.ref o1), .unset] [])
  refine Go.st (fun _ k => XS.iconst X1.here hx rfl (hb hby d5_27) k) ?_
  show Go _ _ _ _ _ _ _ T1 (mkF m 28 #[.val (.ref o0), .val (.ref o1), .unset] [(.int (0 : Int32))])
  refine Go.ret X1 hlk (v := some (.int (0 : Int32))) (fun h => by rw [hret] at h; cases h) (fun fs hr => retN X1 hx (t := .boolean) hret (by simp) (hb hby d5_28) hr) ?_ (by decide) (by decide)
  show Q5j Z o0 o1 h0 n0 (some (.int (0 : Int32))) T1.heap _
  rw [e1]
  refine ⟨?_, N0, rfl⟩
  unfold val_5j
  rfl
def val_5s (o0 : Addr) (o1 : Addr) : Int32 := (0 : Int32)
theorem ef_5s (m : MethodId) (o0 : Addr) (o1 : Addr) : entryFrame m #[(.ref o0), (.ref o1)] 3 = mkF m 0 #[.val (.ref o0), .val (.ref o1), .unset] [] := by first | (simp [entryFrame, mkF, argsToLocals, Value.category]; done) | rfl
def Q5s (Z : State) (o0 : Addr) (o1 : Addr) (h0 : Heap) (n0 : Nat) (v : Option Value) (h : Heap) (L : List Loc) : Prop := v = some (.int (val_5s o0 o1)) ∧ Fr n0 L ∧ h = h0
set_option maxRecDepth 65536 in
set_option maxHeartbeats 40000000 in
theorem rm5s (l : Launch) (Z : State) (a0 : Array Value) (hw : ∀ d ∈ tables_1, d.before a0 Z = true) (ws : List Jvm.Cond) (o0 : Addr) (o1 : Addr) (h0 : Heap) (n0 : Nat) (Z0 : n0 ≤ h0.size) (E_o1 : Exa Z h0 o1 "com/example/prudent_checker/prudentchecker/language/StoredValue") :
    MetFree l (⟨"com/example/prudent_checker/prudentchecker/language/IntegerLiteral", "equals", "(Ljava/lang/Object;)Z"⟩ : MethodName) (head1 (Jvm.Cond.code (⟨"com/example/prudent_checker/prudentchecker/language/IntegerLiteral", "equals", "(Ljava/lang/Object;)Z"⟩ : MethodName) prog_46_method_7_code 3 (some .boolean) :: ws) ({ frames := 0, cells := 0, slots := 0, locals := 0 } : Room)) (fun a U => a = #[(.ref o0), (.ref o1)] ∧ Z.Warmed39 U.vm ∧ U.heap = h0) (fun _ _ _ _ _ => True) (fun _ U o U' => ∃ v L, o = .returned v ∧ Q5s Z o0 o1 h0 n0 v U'.heap L ∧ FrameEnd U o U' L ({ frames := 0, cells := 0, slots := 0, locals := 0 } : Room).cells ({ frames := 0, cells := 0, slots := 0, locals := 0 } : Room).slots) := by
  refine MetFree.of_bodySF (plainFor_of_name pn_com_example_prudent_checker_prudentchecker_language_IntegerLiteral) hisR ?_
  intro p e s m args below meth c s₁ Bd hml0 hP hK
  obtain ⟨rfl, hZ, hh⟩ := hP
  have hx := Bd.exec
  have hby := Bd.bytes
  have hlk : meth.locks = false := BodyLoose.notSynchronized Bd
  have hret := Bd.returns
  have hml : c.maxLocals = 3 := hml0
  have hown : s.vm.findClass "com/example/prudent_checker/prudentchecker/language/IntegerLiteral" = some m.cls := findClass_of_methodNamed Bd.named
  have hnm := (name_of_methodNamed Bd.named Bd.method).1
  have X0 : Stand p l e ({ frames := 0, cells := 0, slots := 0, locals := 0 } : Room) s m #[(.ref o0), (.ref o1)] below meth c s₁ [] 0 0 := Stand.of_body Bd
  have e0 : s₁.heap = h0 := by rw [← hh, Bd.state]; rfl
  have N0 := Fr.nil n0
  refine Go.start (Q := Q5s Z o0 o1 h0 n0) (ef_5s m o0 o1) ?_
  show Go _ _ _ _ _ _ _ s₁ (mkF m 0 #[.val (.ref o0), .val (.ref o1), .unset] [])
  refine Go.st (fun _ k => XS.aloadN X0.here hx rfl (hb hby d5_0) rfl rfl k) ?_
  show Go _ _ _ _ _ _ _ s₁ (mkF m 1 #[.val (.ref o0), .val (.ref o1), .unset] [(.ref o1)])
  obtain ⟨T1, X1, e1, st1⟩ := instNo X0 hx hZ hown (hw _ (List.mem_of_getElem? (i := 28) rfl)) e0 E_o1 (own_no (hw _ (List.mem_of_getElem? (i := 46) rfl)) (hw _ (List.mem_of_getElem? (i := 1) rfl)) (NS.step (hw _ (List.mem_of_getElem? (i := 46) rfl)) (NS.step (hw _ (List.mem_of_getElem? (i := 47) rfl)) (own_root (hw _ (List.mem_of_getElem? (i := 31) rfl)) (hw _ (List.mem_of_getElem? (i := 1) rfl)) (by decide)) (by decide)) (by decide)) (by decide)) (g := (mkF m 1 #[.val (.ref o0), .val (.ref o1), .unset] [(.ref o1)])) rfl rfl (hb hby d5_1)
  refine Go.st st1 ?_
  show Go _ _ _ _ _ _ _ T1 (mkF m 4 #[.val (.ref o0), .val (.ref o1), .unset] [(.int (0 : Int32))])
  refine Go.st (fun _ k => XS.ifYes X1.here hx rfl (pc0 := 4) (pc' := 27) rfl (hb hby d5_4) rfl ((if0 _ _).trans (teq (by decide : (0 : Int32) = (0 : Int32))).1) (by decide) (by decide) k) ?_
  show Go _ _ _ _ _ _ _ T1 (mkF m 27 #[.val (.ref o0), .val (.ref o1), .unset] [])
  refine Go.st (fun _ k => XS.iconst X1.here hx rfl (hb hby d5_27) k) ?_
  show Go _ _ _ _ _ _ _ T1 (mkF m 28 #[.val (.ref o0), .val (.ref o1), .unset] [(.int (0 : Int32))])
  refine Go.ret X1 hlk (v := some (.int (0 : Int32))) (fun h => by rw [hret] at h; cases h) (fun fs hr => retN X1 hx (t := .boolean) hret (by simp) (hb hby d5_28) hr) ?_ (by decide) (by decide)
  show Q5s Z o0 o1 h0 n0 (some (.int (0 : Int32))) T1.heap _
  rw [e1]
  refine ⟨?_, N0, rfl⟩
  unfold val_5s
  rfl
theorem ef_0 (m : MethodId) (p0 : Int32) (p1 : Int32) (p2 : Int32) : entryFrame m #[(.int p0), (.int p1), (.int p2)] maxLocals = mkF m 0 #[.val (.int p0), .val (.int p1), .val (.int p2), .unset, .unset, .unset, .unset, .unset, .unset, .unset] [] := by first | (simp [entryFrame, mkF, argsToLocals, Value.category, maxLocals]; done) | rfl
def Q0 (Z : State) (p0 : Int32) (p1 : Int32) (p2 : Int32) (w_INT : Addr) (w_c : Addr) (cl : Cell) (h0 : Heap) (n0 : Nat) (v : Option Value) (h : Heap) (L : List Loc) : Prop := v = some (.int 1) ∧ Fr n0 L
set_option maxRecDepth 65536 in
set_option maxHeartbeats 40000000 in
theorem rm0 (l : Launch) (Z : State) (a0 : Array Value) (hw : ∀ d ∈ tables_1, d.before a0 Z = true) (ws : List Jvm.Cond) (p0 : Int32) (p1 : Int32) (p2 : Int32) (w_INT : Addr) (w_c : Addr) (cl : Cell) (h0 : Heap) (n0 : Nat) (Z0 : n0 ≤ h0.size) (S_INT : Sta Z h0 "com/example/prudent_checker/prudentchecker/language/ScalarType" "INT" "Lcom/example/prudent_checker/prudentchecker/language/ScalarType;" (.ref w_INT)) (E_INT : Exa Z h0 w_INT "com/example/prudent_checker/prudentchecker/language/ScalarType") (S_high : Sta Z h0 "java/lang/Integer$IntegerCache" "high" "I" (.int (127 : Int32))) (S_cache : Sta Z h0 "java/lang/Integer$IntegerCache" "cache" "[Ljava/lang/Integer;" (.ref w_c)) (Ar : Arr Z h0 w_c cl (.object "java/lang/Integer")) (hsz : cl.slots.size = 256) (hC : ∀ j : Int32, ¬ (j < 0 ∨ cl.slots.size ≤ j.toNatClampNeg) → ∃ r, cl.slots[j.toNatClampNeg]? = some (.ref r) ∧ Exa Z h0 r "java/lang/Integer") :
    MetFree l x (head1 (Jvm.Cond.code x code maxLocals ret :: ws) room_1) (fun a U => a = #[(.int p0), (.int p1), (.int p2)] ∧ Z.Warmed39 U.vm ∧ U.heap = h0) (fun _ _ _ _ _ => True) (fun _ U o U' => ∃ v L, o = .returned v ∧ Q0 Z p0 p1 p2 w_INT w_c cl h0 n0 v U'.heap L ∧ FrameEnd U o U' L room_1.cells room_1.slots) := by
  refine MetFree.of_bodySF (plainFor_of_name pn_com_example_prudent_checker_prudentchecker_language_IntegerLiteralEqualsPinLaw) hisR ?_
  intro p e s m args below meth c s₁ Bd hml0 hP hK
  obtain ⟨rfl, hZ, hh⟩ := hP
  have hx := Bd.exec
  have hby := Bd.bytes
  have hlk : meth.locks = false := BodyLoose.notSynchronized Bd
  have hret := Bd.returns
  have hml : c.maxLocals = 10 := hml0
  have hown : s.vm.findClass "com/example/prudent_checker/prudentchecker/language/IntegerLiteralEqualsPinLaw" = some m.cls := findClass_of_methodNamed Bd.named
  have hnm := (name_of_methodNamed Bd.named Bd.method).1
  have X0 : Stand p l e room_1 s m #[(.int p0), (.int p1), (.int p2)] below meth c s₁ [] 0 0 := Stand.of_body Bd
  have e0 : s₁.heap = h0 := by rw [← hh, Bd.state]; rfl
  have N0 := Fr.nil n0
  refine Go.start (Q := Q0 Z p0 p1 p2 w_INT w_c cl h0 n0) (ef_0 m p0 p1 p2) ?_
  show Go _ _ _ _ _ _ _ s₁ (mkF m 0 #[.val (.int p0), .val (.int p1), .val (.int p2), .unset, .unset, .unset, .unset, .unset, .unset, .unset] [])
  refine Go.st (fun _ k => XS.iloadN X0.here hx rfl (hb hby at_0) rfl k) ?_
  show Go _ _ _ _ _ _ _ s₁ (mkF m 1 #[.val (.int p0), .val (.int p1), .val (.int p2), .unset, .unset, .unset, .unset, .unset, .unset, .unset] [(.int p2)])
  refine Go.st (fun _ k => XS.bipush X0.here hx rfl (hb hby at_1) k) ?_
  show Go _ _ _ _ _ _ _ s₁ (mkF m 3 #[.val (.int p0), .val (.int p1), .val (.int p2), .unset, .unset, .unset, .unset, .unset, .unset, .unset] [(.int (7 : Int32)), (.int p2)])
  refine Go.st (fun _ k => XS.iand X0.here hx rfl (hb hby at_3) rfl k) ?_
  show Go _ _ _ _ _ _ _ s₁ (mkF m 4 #[.val (.int p0), .val (.int p1), .val (.int p2), .unset, .unset, .unset, .unset, .unset, .unset, .unset] [(.int (p2 &&& (7 : Int32)))])
  rcases own_and7 p2 with hk1 | hk1 | hk1 | hk1 | hk1 | hk1 | hk1 | hk1
  · rw [hk1]
    show Go _ _ _ _ _ _ _ s₁ (mkF m 4 #[.val (.int p0), .val (.int p1), .val (.int p2), .unset, .unset, .unset, .unset, .unset, .unset, .unset] [(.int (0 : Int32))])
    refine Go.st (fun _ k => XS.istoreN X0.here hx rfl (hb hby at_4) rfl (l' := #[.val (.int p0), .val (.int p1), .val (.int p2), .val (.int (0 : Int32)), .unset, .unset, .unset, .unset, .unset, .unset]) rfl k) ?_
    show Go _ _ _ _ _ _ _ s₁ (mkF m 5 #[.val (.int p0), .val (.int p1), .val (.int p2), .val (.int (0 : Int32)), .unset, .unset, .unset, .unset, .unset, .unset] [])
    refine Go.st (fun _ k => XS.iloadN X0.here hx rfl (hb hby at_5) rfl k) ?_
    show Go _ _ _ _ _ _ _ s₁ (mkF m 6 #[.val (.int p0), .val (.int p1), .val (.int p2), .val (.int (0 : Int32)), .unset, .unset, .unset, .unset, .unset, .unset] [(.int (0 : Int32))])
    refine Go.st (fun _ k => XS.iconst X0.here hx rfl (hb hby at_6) k) ?_
    show Go _ _ _ _ _ _ _ s₁ (mkF m 7 #[.val (.int p0), .val (.int p1), .val (.int p2), .val (.int (0 : Int32)), .unset, .unset, .unset, .unset, .unset, .unset] [(.int (4 : Int32)), (.int (0 : Int32))])
    refine Go.st (fun _ k => XS.iand X0.here hx rfl (hb hby at_7) rfl k) ?_
    show Go _ _ _ _ _ _ _ s₁ (mkF m 8 #[.val (.int p0), .val (.int p1), .val (.int p2), .val (.int (0 : Int32)), .unset, .unset, .unset, .unset, .unset, .unset] [(.int ((0 : Int32) &&& (4 : Int32)))])
    refine Go.fr (f' := (mkF m 8 #[.val (.int p0), .val (.int p1), .val (.int p2), .val (.int (0 : Int32)), .unset, .unset, .unset, .unset, .unset, .unset] [(.int (0 : Int32))])) (by rw [show ((0 : Int32) &&& (4 : Int32)) = (0 : Int32) from by decide +kernel]) ?_
    show Go _ _ _ _ _ _ _ s₁ (mkF m 8 #[.val (.int p0), .val (.int p1), .val (.int p2), .val (.int (0 : Int32)), .unset, .unset, .unset, .unset, .unset, .unset] [(.int (0 : Int32))])
    refine Go.st (fun _ k => XS.ifYes X0.here hx rfl (pc0 := 8) (pc' := 15) rfl (hb hby at_8) rfl ((if0 _ _).trans (teq (by decide : (0 : Int32) = (0 : Int32))).1) (by decide) (by decide) k) ?_
    show Go _ _ _ _ _ _ _ s₁ (mkF m 15 #[.val (.int p0), .val (.int p1), .val (.int p2), .val (.int (0 : Int32)), .unset, .unset, .unset, .unset, .unset, .unset] [])
    refine Go.st (fun _ k => XS.iconst X0.here hx rfl (hb hby at_15) k) ?_
    show Go _ _ _ _ _ _ _ s₁ (mkF m 16 #[.val (.int p0), .val (.int p1), .val (.int p2), .val (.int (0 : Int32)), .unset, .unset, .unset, .unset, .unset, .unset] [(.int (0 : Int32))])
    refine Go.st (fun _ k => XS.istore X0.here hx rfl (hb hby at_16) rfl (l' := #[.val (.int p0), .val (.int p1), .val (.int p2), .val (.int (0 : Int32)), .val (.int (0 : Int32)), .unset, .unset, .unset, .unset, .unset]) rfl k) ?_
    show Go _ _ _ _ _ _ _ s₁ (mkF m 18 #[.val (.int p0), .val (.int p1), .val (.int p2), .val (.int (0 : Int32)), .val (.int (0 : Int32)), .unset, .unset, .unset, .unset, .unset] [])
    refine Go.st (fun _ k => XS.iload X0.here hx rfl (hb hby at_18) rfl k) ?_
    show Go _ _ _ _ _ _ _ s₁ (mkF m 20 #[.val (.int p0), .val (.int p1), .val (.int p2), .val (.int (0 : Int32)), .val (.int (0 : Int32)), .unset, .unset, .unset, .unset, .unset] [(.int (0 : Int32))])
    refine Go.st (fun _ k => XS.ifYes X0.here hx rfl (pc0 := 20) (pc' := 27) rfl (hb hby at_20) rfl ((if0 _ _).trans (teq (by decide : (0 : Int32) = (0 : Int32))).1) (by decide) (by decide) k) ?_
    show Go _ _ _ _ _ _ _ s₁ (mkF m 27 #[.val (.int p0), .val (.int p1), .val (.int p2), .val (.int (0 : Int32)), .val (.int (0 : Int32)), .unset, .unset, .unset, .unset, .unset] [])
    refine Go.st (fun _ k => XS.iloadN X0.here hx rfl (hb hby at_27) rfl k) ?_
    show Go _ _ _ _ _ _ _ s₁ (mkF m 28 #[.val (.int p0), .val (.int p1), .val (.int p2), .val (.int (0 : Int32)), .val (.int (0 : Int32)), .unset, .unset, .unset, .unset, .unset] [(.int p1)])
    refine Go.st (fun _ k => XS.istore X0.here hx rfl (hb hby at_28) rfl (l' := #[.val (.int p0), .val (.int p1), .val (.int p2), .val (.int (0 : Int32)), .val (.int (0 : Int32)), .val (.int p1), .unset, .unset, .unset, .unset]) rfl k) ?_
    show Go _ _ _ _ _ _ _ s₁ (mkF m 30 #[.val (.int p0), .val (.int p1), .val (.int p2), .val (.int (0 : Int32)), .val (.int (0 : Int32)), .val (.int p1), .unset, .unset, .unset, .unset] [])
    refine Go.st (fun _ k => XS.iloadN X0.here hx rfl (hb hby at_30) rfl k) ?_
    show Go _ _ _ _ _ _ _ s₁ (mkF m 31 #[.val (.int p0), .val (.int p1), .val (.int p2), .val (.int (0 : Int32)), .val (.int (0 : Int32)), .val (.int p1), .unset, .unset, .unset, .unset] [(.int (0 : Int32))])
    refine Go.st (fun _ k => XS.iconst X0.here hx rfl (hb hby at_31) k) ?_
    show Go _ _ _ _ _ _ _ s₁ (mkF m 32 #[.val (.int p0), .val (.int p1), .val (.int p2), .val (.int (0 : Int32)), .val (.int (0 : Int32)), .val (.int p1), .unset, .unset, .unset, .unset] [(.int (3 : Int32)), (.int (0 : Int32))])
    refine Go.st (fun _ k => XS.iand X0.here hx rfl (hb hby at_32) rfl k) ?_
    show Go _ _ _ _ _ _ _ s₁ (mkF m 33 #[.val (.int p0), .val (.int p1), .val (.int p2), .val (.int (0 : Int32)), .val (.int (0 : Int32)), .val (.int p1), .unset, .unset, .unset, .unset] [(.int ((0 : Int32) &&& (3 : Int32)))])
    refine Go.fr (f' := (mkF m 33 #[.val (.int p0), .val (.int p1), .val (.int p2), .val (.int (0 : Int32)), .val (.int (0 : Int32)), .val (.int p1), .unset, .unset, .unset, .unset] [(.int (0 : Int32))])) (by rw [show ((0 : Int32) &&& (3 : Int32)) = (0 : Int32) from by decide +kernel]) ?_
    show Go _ _ _ _ _ _ _ s₁ (mkF m 33 #[.val (.int p0), .val (.int p1), .val (.int p2), .val (.int (0 : Int32)), .val (.int (0 : Int32)), .val (.int p1), .unset, .unset, .unset, .unset] [(.int (0 : Int32))])
    refine Go.st (fun _ k => XS.istore X0.here hx rfl (hb hby at_33) rfl (l' := #[.val (.int p0), .val (.int p1), .val (.int p2), .val (.int (0 : Int32)), .val (.int (0 : Int32)), .val (.int p1), .val (.int (0 : Int32)), .unset, .unset, .unset]) rfl k) ?_
    show Go _ _ _ _ _ _ _ s₁ (mkF m 35 #[.val (.int p0), .val (.int p1), .val (.int p2), .val (.int (0 : Int32)), .val (.int (0 : Int32)), .val (.int p1), .val (.int (0 : Int32)), .unset, .unset, .unset] [])
    obtain ⟨T2, h2, X2, e2, E2, A2, D2, -, st2⟩ := newO X0 hx hZ hown (hw _ (List.mem_of_getElem? (i := 0) rfl)) (hw _ (List.mem_of_getElem? (i := 1) rfl)) (hw _ (List.mem_of_getElem? (i := 2) rfl)) e0 (g := (mkF m 35 #[.val (.int p0), .val (.int p1), .val (.int p2), .val (.int (0 : Int32)), .val (.int (0 : Int32)), .val (.int p1), .val (.int (0 : Int32)), .unset, .unset, .unset] [])) rfl (hb hby at_35) (by decide) (by decide)
    obtain ⟨b2, g2⟩ : ∃ z, z = h0.size := ⟨_, rfl⟩
    rw [← g2] at A2 D2 st2
    have ne3 : w_INT ≠ b2 := Nat.ne_of_lt (Nat.lt_of_lt_of_le E_INT.lt (Nat.le_of_eq g2.symm))
    have ne4 : w_c ≠ b2 := Nat.ne_of_lt (Nat.lt_of_lt_of_le Ar.lt (Nat.le_of_eq g2.symm))
    have g_b2 : n0 ≤ b2 := Nat.le_trans Z0 (Nat.le_of_eq g2.symm)
    have S_INT__2 := S_INT.ext E2
    have E_INT__2 := E_INT.ext E2
    have S_high__2 := S_high.ext E2
    have S_cache__2 := S_cache.ext E2
    have Z2 : n0 ≤ h2.size := Nat.le_trans Z0 E2.1
    have Ar__2 := Ar.ext E2
    have hC__2 : ∀ j : Int32, ¬ (j < 0 ∨ cl.slots.size ≤ j.toNatClampNeg) → ∃ r, cl.slots[j.toNatClampNeg]? = some (.ref r) ∧ Exa Z h2 r "java/lang/Integer" := fun j hj => by obtain ⟨r, hr, Er⟩ := hC j hj; exact ⟨r, hr, Er.ext E2⟩
    have F_value_b2 : Fld Z h2 b2 "com/example/prudent_checker/prudentchecker/language/IntegerLiteral" "value" "I" (.int (0 : Int32)) := D2 (Or.inr (hw _ (List.mem_of_getElem? (i := 15) rfl))) (ty := .int) (by decide)
    refine Go.st st2 ?_
    show Go _ _ _ _ _ _ _ T2 (mkF m 38 #[.val (.int p0), .val (.int p1), .val (.int p2), .val (.int (0 : Int32)), .val (.int (0 : Int32)), .val (.int p1), .val (.int (0 : Int32)), .unset, .unset, .unset] [(.ref b2)])
    refine Go.st (fun _ k => XS.dup X2.here hx rfl (hb hby at_38) rfl rfl k) ?_
    show Go _ _ _ _ _ _ _ T2 (mkF m 39 #[.val (.int p0), .val (.int p1), .val (.int p2), .val (.int (0 : Int32)), .val (.int (0 : Int32)), .val (.int p1), .val (.int (0 : Int32)), .unset, .unset, .unset] [(.ref b2), (.ref b2)])
    refine Go.st (fun _ k => XS.iloadN X2.here hx rfl (hb hby at_39) rfl k) ?_
    show Go _ _ _ _ _ _ _ T2 (mkF m 40 #[.val (.int p0), .val (.int p1), .val (.int p2), .val (.int (0 : Int32)), .val (.int (0 : Int32)), .val (.int p1), .val (.int (0 : Int32)), .unset, .unset, .unset] [(.int p0), (.ref b2), (.ref b2)])
    obtain ⟨_, _, ⟨T5, L5, k5, n5⟩, -, X5, ⟨Lc5, hQ5, l5, y5, z5⟩, st5⟩ := X2.specialBack hx (y := (⟨"com/example/prudent_checker/prudentchecker/language/IntegerLiteral", "<init>", "(I)V"⟩ : MethodName)) rfl hown (mvT hZ (hw _ (List.mem_of_getElem? (i := 3) rfl))) (mvT hZ (hw _ (List.mem_of_getElem? (i := 4) rfl))) (mvT hZ (hw _ (List.mem_of_getElem? (i := 5) rfl))) (by decide) (backOf (W := 1) (rm1 l Z a0 hw [] b2 p0 (0 : Int32) h2 n0 Z2 A2 F_value_b2 g_b2) hZ (hw _ (List.mem_of_getElem? (i := 5) rfl)) (hw _ (List.mem_of_getElem? (i := 2) rfl)) (by decide) (by decide)) (g := (mkF m 40 #[.val (.int p0), .val (.int p1), .val (.int p2), .val (.int (0 : Int32)), .val (.int (0 : Int32)), .val (.int p1), .val (.int (0 : Int32)), .unset, .unset, .unset] [(.int p0), (.ref b2), (.ref b2)])) rfl (by rw [hml]; rfl) (Steps.refl _) (a := b2) (argsL := [(.int p0)]) (rest := [(.ref b2)]) (lenOf pd_1 rfl) rfl (by show 2 * 0 + _ ≤ _; exact Nat.le_of_eq rfl) (hb hby at_40) (fun _ _ => ⟨rfl, e2, (by decide : 1 + 0 ≤ _), (by decide : 1 + 0 ≤ _)⟩)
    dsimp only [Pt.U, Pt.locs, Pt.cells, Pt.slots] at X5 l5 y5 z5 st5 hQ5
    subst l5 y5 z5
    generalize e5 : T5.heap = h5 at hQ5
    obtain ⟨rfl, N5q, K5, EE5, FF_value_5⟩ := hQ5
    have N5 := Fr.app N0 N5q
    refine Go.st (fun _ k => st5.trans k) ?_
    have S_INT__5 := own_sta S_INT__2 K5 (allS A2.cell (all0))
    have E_INT__5 := E_INT__2.keep K5
    have S_high__5 := own_sta S_high__2 K5 (allS A2.cell (all0))
    have S_cache__5 := own_sta S_cache__2 K5 (allS A2.cell (all0))
    have A2__5 := A2.keep K5
    have Z5 : n0 ≤ h5.size := Nat.le_trans Z2 K5.1
    have Ar__5 : Arr Z h5 w_c cl _ := own_arrk Ar__2 K5 (ninS ne4 (nin0))
    have hC__5 : ∀ j : Int32, ¬ (j < 0 ∨ cl.slots.size ≤ j.toNatClampNeg) → ∃ r, cl.slots[j.toNatClampNeg]? = some (.ref r) ∧ Exa Z h5 r "java/lang/Integer" := fun j hj => by obtain ⟨r, hr, Er⟩ := hC__2 j hj; exact ⟨r, hr, Er.keep K5⟩
    rw [show (val_1_value b2 p0 (0 : Int32)) = p0 from by unfold val_1_value; rfl] at FF_value_5
    have F_value_b2__5 := FF_value_5
    show Go _ _ _ _ _ _ _ T5 (mkF m 43 #[.val (.int p0), .val (.int p1), .val (.int p2), .val (.int (0 : Int32)), .val (.int (0 : Int32)), .val (.int p1), .val (.int (0 : Int32)), .unset, .unset, .unset] [(.ref b2)])
    refine Go.st (fun _ k => XS.astore X5.here hx rfl (hb hby at_43) rfl rfl (l' := #[.val (.int p0), .val (.int p1), .val (.int p2), .val (.int (0 : Int32)), .val (.int (0 : Int32)), .val (.int p1), .val (.int (0 : Int32)), .val (.ref b2), .unset, .unset]) rfl k) ?_
    show Go _ _ _ _ _ _ _ T5 (mkF m 45 #[.val (.int p0), .val (.int p1), .val (.int p2), .val (.int (0 : Int32)), .val (.int (0 : Int32)), .val (.int p1), .val (.int (0 : Int32)), .val (.ref b2), .unset, .unset] [])
    refine Go.st (fun _ k => XS.iload X5.here hx rfl (hb hby at_45) rfl k) ?_
    show Go _ _ _ _ _ _ _ T5 (mkF m 47 #[.val (.int p0), .val (.int p1), .val (.int p2), .val (.int (0 : Int32)), .val (.int (0 : Int32)), .val (.int p1), .val (.int (0 : Int32)), .val (.ref b2), .unset, .unset] [(.int (0 : Int32))])
    refine Go.st (fun _ k => XS.ifNo X5.here hx rfl (hb hby at_47) rfl ((if0 _ _).trans (teq (by decide : (0 : Int32) = (0 : Int32))).2) k) ?_
    show Go _ _ _ _ _ _ _ T5 (mkF m 50 #[.val (.int p0), .val (.int p1), .val (.int p2), .val (.int (0 : Int32)), .val (.int (0 : Int32)), .val (.int p1), .val (.int (0 : Int32)), .val (.ref b2), .unset, .unset] [])
    obtain ⟨T6, h6, X6, e6, E6, A6, D6, -, st6⟩ := newO X5 hx hZ hown (hw _ (List.mem_of_getElem? (i := 0) rfl)) (hw _ (List.mem_of_getElem? (i := 1) rfl)) (hw _ (List.mem_of_getElem? (i := 2) rfl)) e5 (g := (mkF m 50 #[.val (.int p0), .val (.int p1), .val (.int p2), .val (.int (0 : Int32)), .val (.int (0 : Int32)), .val (.int p1), .val (.int (0 : Int32)), .val (.ref b2), .unset, .unset] [])) rfl (hb hby at_50) (by decide) (by decide)
    obtain ⟨b6, g6⟩ : ∃ z, z = h5.size := ⟨_, rfl⟩
    rw [← g6] at A6 D6 st6
    have ne7 : w_INT ≠ b6 := Nat.ne_of_lt (Nat.lt_of_lt_of_le E_INT__5.lt (Nat.le_of_eq g6.symm))
    have ne8 : b2 ≠ b6 := Nat.ne_of_lt (Nat.lt_of_lt_of_le EE5.lt (Nat.le_of_eq g6.symm))
    have ne9 : w_c ≠ b6 := Nat.ne_of_lt (Nat.lt_of_lt_of_le Ar__5.lt (Nat.le_of_eq g6.symm))
    have g_b6 : n0 ≤ b6 := Nat.le_trans Z5 (Nat.le_of_eq g6.symm)
    have S_INT__6 := S_INT__5.ext E6
    have E_INT__6 := E_INT__5.ext E6
    have S_high__6 := S_high__5.ext E6
    have S_cache__6 := S_cache__5.ext E6
    have EE5__6 := EE5.ext E6
    have F_value_b2__6 := F_value_b2__5.ext E6
    have Z6 : n0 ≤ h6.size := Nat.le_trans Z5 E6.1
    have Ar__6 := Ar__5.ext E6
    have hC__6 : ∀ j : Int32, ¬ (j < 0 ∨ cl.slots.size ≤ j.toNatClampNeg) → ∃ r, cl.slots[j.toNatClampNeg]? = some (.ref r) ∧ Exa Z h6 r "java/lang/Integer" := fun j hj => by obtain ⟨r, hr, Er⟩ := hC__5 j hj; exact ⟨r, hr, Er.ext E6⟩
    have F_value_b6 : Fld Z h6 b6 "com/example/prudent_checker/prudentchecker/language/IntegerLiteral" "value" "I" (.int (0 : Int32)) := D6 (Or.inr (hw _ (List.mem_of_getElem? (i := 15) rfl))) (ty := .int) (by decide)
    refine Go.st st6 ?_
    show Go _ _ _ _ _ _ _ T6 (mkF m 53 #[.val (.int p0), .val (.int p1), .val (.int p2), .val (.int (0 : Int32)), .val (.int (0 : Int32)), .val (.int p1), .val (.int (0 : Int32)), .val (.ref b2), .unset, .unset] [(.ref b6)])
    refine Go.st (fun _ k => XS.dup X6.here hx rfl (hb hby at_53) rfl rfl k) ?_
    show Go _ _ _ _ _ _ _ T6 (mkF m 54 #[.val (.int p0), .val (.int p1), .val (.int p2), .val (.int (0 : Int32)), .val (.int (0 : Int32)), .val (.int p1), .val (.int (0 : Int32)), .val (.ref b2), .unset, .unset] [(.ref b6), (.ref b6)])
    refine Go.st (fun _ k => XS.iload X6.here hx rfl (hb hby at_54) rfl k) ?_
    show Go _ _ _ _ _ _ _ T6 (mkF m 56 #[.val (.int p0), .val (.int p1), .val (.int p2), .val (.int (0 : Int32)), .val (.int (0 : Int32)), .val (.int p1), .val (.int (0 : Int32)), .val (.ref b2), .unset, .unset] [(.int p1), (.ref b6), (.ref b6)])
    obtain ⟨_, _, ⟨T10, L10, k10, n10⟩, -, X10, ⟨Lc10, hQ10, l10, y10, z10⟩, st10⟩ := X6.specialBack hx (y := (⟨"com/example/prudent_checker/prudentchecker/language/IntegerLiteral", "<init>", "(I)V"⟩ : MethodName)) rfl hown (mvT hZ (hw _ (List.mem_of_getElem? (i := 3) rfl))) (mvT hZ (hw _ (List.mem_of_getElem? (i := 4) rfl))) (mvT hZ (hw _ (List.mem_of_getElem? (i := 5) rfl))) (by decide) (backOf (W := 1) (rm1 l Z a0 hw [] b6 p1 (0 : Int32) h6 n0 Z6 A6 F_value_b6 g_b6) hZ (hw _ (List.mem_of_getElem? (i := 5) rfl)) (hw _ (List.mem_of_getElem? (i := 2) rfl)) (by decide) (by decide)) (g := (mkF m 56 #[.val (.int p0), .val (.int p1), .val (.int p2), .val (.int (0 : Int32)), .val (.int (0 : Int32)), .val (.int p1), .val (.int (0 : Int32)), .val (.ref b2), .unset, .unset] [(.int p1), (.ref b6), (.ref b6)])) rfl (by rw [hml]; rfl) (Steps.refl _) (a := b6) (argsL := [(.int p1)]) (rest := [(.ref b6)]) (lenOf pd_1 rfl) rfl (by show 2 * 0 + _ ≤ _; exact Nat.le_of_eq rfl) (hb hby at_56) (fun _ _ => ⟨rfl, e6, (by decide : 2 + 0 ≤ _), (by decide : 2 + 0 ≤ _)⟩)
    dsimp only [Pt.U, Pt.locs, Pt.cells, Pt.slots] at X10 l10 y10 z10 st10 hQ10
    subst l10 y10 z10
    generalize e10 : T10.heap = h10 at hQ10
    obtain ⟨rfl, N10q, K10, EE10, FF_value_10⟩ := hQ10
    have N10 := Fr.app N5 N10q
    refine Go.st (fun _ k => st10.trans k) ?_
    have S_INT__10 := own_sta S_INT__6 K10 (allS A6.cell (all0))
    have E_INT__10 := E_INT__6.keep K10
    have S_high__10 := own_sta S_high__6 K10 (allS A6.cell (all0))
    have S_cache__10 := own_sta S_cache__6 K10 (allS A6.cell (all0))
    have EE5__10 := EE5__6.keep K10
    have F_value_b2__10 := F_value_b2__6.keep K10 (ninS ne8 (nin0))
    have A6__10 := A6.keep K10
    have Z10 : n0 ≤ h10.size := Nat.le_trans Z6 K10.1
    have Ar__10 : Arr Z h10 w_c cl _ := own_arrk Ar__6 K10 (ninS ne9 (nin0))
    have hC__10 : ∀ j : Int32, ¬ (j < 0 ∨ cl.slots.size ≤ j.toNatClampNeg) → ∃ r, cl.slots[j.toNatClampNeg]? = some (.ref r) ∧ Exa Z h10 r "java/lang/Integer" := fun j hj => by obtain ⟨r, hr, Er⟩ := hC__6 j hj; exact ⟨r, hr, Er.keep K10⟩
    rw [show (val_1_value b6 p1 (0 : Int32)) = p1 from by unfold val_1_value; rfl] at FF_value_10
    have F_value_b6__10 := FF_value_10
    show Go _ _ _ _ _ _ _ T10 (mkF m 59 #[.val (.int p0), .val (.int p1), .val (.int p2), .val (.int (0 : Int32)), .val (.int (0 : Int32)), .val (.int p1), .val (.int (0 : Int32)), .val (.ref b2), .unset, .unset] [(.ref b6)])
    refine Go.st (fun _ k => XS.astore X10.here hx rfl (hb hby at_59) rfl rfl (l' := #[.val (.int p0), .val (.int p1), .val (.int p2), .val (.int (0 : Int32)), .val (.int (0 : Int32)), .val (.int p1), .val (.int (0 : Int32)), .val (.ref b2), .val (.ref b6), .unset]) rfl k) ?_
    show Go _ _ _ _ _ _ _ T10 (mkF m 61 #[.val (.int p0), .val (.int p1), .val (.int p2), .val (.int (0 : Int32)), .val (.int (0 : Int32)), .val (.int p1), .val (.int (0 : Int32)), .val (.ref b2), .val (.ref b6), .unset] [])
    refine Go.st (fun _ k => XS.iloadN X10.here hx rfl (hb hby at_61) rfl k) ?_
    show Go _ _ _ _ _ _ _ T10 (mkF m 62 #[.val (.int p0), .val (.int p1), .val (.int p2), .val (.int (0 : Int32)), .val (.int (0 : Int32)), .val (.int p1), .val (.int (0 : Int32)), .val (.ref b2), .val (.ref b6), .unset] [(.int p0)])
    refine Go.st (fun _ k => XS.iload X10.here hx rfl (hb hby at_62) rfl k) ?_
    show Go _ _ _ _ _ _ _ T10 (mkF m 64 #[.val (.int p0), .val (.int p1), .val (.int p2), .val (.int (0 : Int32)), .val (.int (0 : Int32)), .val (.int p1), .val (.int (0 : Int32)), .val (.ref b2), .val (.ref b6), .unset] [(.int p1), (.int p0)])
    by_cases hc11 : p0 = p1
    · refine Go.st (fun _ k => XS.icmpNo X10.here hx rfl (hb hby at_64) rfl (teq hc11).2 k) ?_
      show Go _ _ _ _ _ _ _ T10 (mkF m 67 #[.val (.int p0), .val (.int p1), .val (.int p2), .val (.int (0 : Int32)), .val (.int (0 : Int32)), .val (.int p1), .val (.int (0 : Int32)), .val (.ref b2), .val (.ref b6), .unset] [])
      refine Go.st (fun _ k => XS.iconst X10.here hx rfl (hb hby at_67) k) ?_
      show Go _ _ _ _ _ _ _ T10 (mkF m 68 #[.val (.int p0), .val (.int p1), .val (.int p2), .val (.int (0 : Int32)), .val (.int (0 : Int32)), .val (.int p1), .val (.int (0 : Int32)), .val (.ref b2), .val (.ref b6), .unset] [(.int (1 : Int32))])
      refine Go.st (fun _ k => XS.goto X10.here hx rfl (pc0 := 68) (pc' := 72) rfl (hb hby at_68) (by decide) (by decide) k) ?_
      show Go _ _ _ _ _ _ _ T10 (mkF m 72 #[.val (.int p0), .val (.int p1), .val (.int p2), .val (.int (0 : Int32)), .val (.int (0 : Int32)), .val (.int p1), .val (.int (0 : Int32)), .val (.ref b2), .val (.ref b6), .unset] [(.int (1 : Int32))])
      refine Go.st (fun _ k => XS.istore X10.here hx rfl (hb hby at_72) rfl (l' := #[.val (.int p0), .val (.int p1), .val (.int p2), .val (.int (0 : Int32)), .val (.int (0 : Int32)), .val (.int p1), .val (.int (0 : Int32)), .val (.ref b2), .val (.ref b6), .val (.int (1 : Int32))]) rfl k) ?_
      show Go _ _ _ _ _ _ _ T10 (mkF m 74 #[.val (.int p0), .val (.int p1), .val (.int p2), .val (.int (0 : Int32)), .val (.int (0 : Int32)), .val (.int p1), .val (.int (0 : Int32)), .val (.ref b2), .val (.ref b6), .val (.int (1 : Int32))] [])
      refine Go.st (fun _ k => XS.aload X10.here hx rfl (hb hby at_74) rfl rfl k) ?_
      show Go _ _ _ _ _ _ _ T10 (mkF m 76 #[.val (.int p0), .val (.int p1), .val (.int p2), .val (.int (0 : Int32)), .val (.int (0 : Int32)), .val (.int p1), .val (.int (0 : Int32)), .val (.ref b2), .val (.ref b6), .val (.int (1 : Int32))] [(.ref b2)])
      refine Go.st (fun _ k => XS.aload X10.here hx rfl (hb hby at_76) rfl rfl k) ?_
      show Go _ _ _ _ _ _ _ T10 (mkF m 78 #[.val (.int p0), .val (.int p1), .val (.int p2), .val (.int (0 : Int32)), .val (.int (0 : Int32)), .val (.int p1), .val (.int (0 : Int32)), .val (.ref b2), .val (.ref b6), .val (.int (1 : Int32))] [(.ref b6), (.ref b2)])
      obtain ⟨cq12, kq12, q12a, q12b, q12c⟩ := isOf hZ e10 EE5__10
      obtain ⟨_, _, ⟨T12, L12, k12, n12⟩, -, X12, ⟨Lc12, hQ12, l12, y12, z12⟩, st12⟩ := X10.virtualBack hx (y := (⟨"com/example/prudent_checker/prudentchecker/language/IntegerLiteral", "equals", "(Ljava/lang/Object;)Z"⟩ : MethodName)) (z := (⟨"com/example/prudent_checker/prudentchecker/language/IntegerLiteral", "equals", "(Ljava/lang/Object;)Z"⟩ : MethodName)) hown (mvT hZ (hw _ (List.mem_of_getElem? (i := 23) rfl))) (mvT hZ (hw _ (List.mem_of_getElem? (i := 24) rfl))) (notFace_of_selects (args := #[]) (mvT hZ (hw _ (List.mem_of_getElem? (i := 26) rfl)))) (mvT hZ (hw _ (List.mem_of_getElem? (i := 26) rfl))) (mvT hZ (hw _ (List.mem_of_getElem? (i := 25) rfl))) (by decide) (backOf (W := 0) (rm5i l Z a0 hw [] b2 b6 p0 p1 h10 n0 Z10 EE10 F_value_b2__10 F_value_b6__10) hZ (hw _ (List.mem_of_getElem? (i := 27) rfl)) (hw _ (List.mem_of_getElem? (i := 2) rfl)) (by decide) (by decide)) q12a q12c (g := (mkF m 78 #[.val (.int p0), .val (.int p1), .val (.int p2), .val (.int (0 : Int32)), .val (.int (0 : Int32)), .val (.int p1), .val (.int (0 : Int32)), .val (.ref b2), .val (.ref b6), .val (.int (1 : Int32))] [(.ref b6), (.ref b2)])) rfl (by rw [hml]; rfl) (Steps.refl _) (argsL := [(.ref b6)]) (rest := []) (lenOf pd_2 rfl) rfl (by show 2 * 0 + _ ≤ _; exact Nat.le_of_eq rfl) (hb hby at_78) (fun _ _ => ⟨rfl, e10, (by decide : 2 + 0 ≤ _), (by decide : 2 + 0 ≤ _)⟩)
      dsimp only [Pt.U, Pt.locs, Pt.cells, Pt.slots] at X12 l12 y12 z12 st12 hQ12
      subst l12 y12 z12
      obtain ⟨rfl, N12q, e12⟩ := hQ12
      have N12 := Fr.app N10 N12q
      refine Go.st (fun _ k => st12.trans k) ?_
      show Go _ _ _ _ _ _ _ T12 (mkF m 81 #[.val (.int p0), .val (.int p1), .val (.int p2), .val (.int (0 : Int32)), .val (.int (0 : Int32)), .val (.int p1), .val (.int (0 : Int32)), .val (.ref b2), .val (.ref b6), .val (.int (1 : Int32))] [(.int (val_5i b2 b6 p0 p1))])
      rw [show (val_5i b2 b6 p0 p1) = (1 : Int32) from by unfold val_5i; rw [if_pos hc11]]
      show Go _ _ _ _ _ _ _ T12 (mkF m 81 #[.val (.int p0), .val (.int p1), .val (.int p2), .val (.int (0 : Int32)), .val (.int (0 : Int32)), .val (.int p1), .val (.int (0 : Int32)), .val (.ref b2), .val (.ref b6), .val (.int (1 : Int32))] [(.int (1 : Int32))])
      refine Go.st (fun _ k => XS.iload X12.here hx rfl (hb hby at_81) rfl k) ?_
      show Go _ _ _ _ _ _ _ T12 (mkF m 83 #[.val (.int p0), .val (.int p1), .val (.int p2), .val (.int (0 : Int32)), .val (.int (0 : Int32)), .val (.int p1), .val (.int (0 : Int32)), .val (.ref b2), .val (.ref b6), .val (.int (1 : Int32))] [(.int (1 : Int32)), (.int (1 : Int32))])
      refine Go.st (fun _ k => XS.icmpNo X12.here hx rfl (hb hby at_83) rfl (teq (by decide : (1 : Int32) = (1 : Int32))).2 k) ?_
      show Go _ _ _ _ _ _ _ T12 (mkF m 86 #[.val (.int p0), .val (.int p1), .val (.int p2), .val (.int (0 : Int32)), .val (.int (0 : Int32)), .val (.int p1), .val (.int (0 : Int32)), .val (.ref b2), .val (.ref b6), .val (.int (1 : Int32))] [])
      refine Go.st (fun _ k => XS.aload X12.here hx rfl (hb hby at_86) rfl rfl k) ?_
      show Go _ _ _ _ _ _ _ T12 (mkF m 88 #[.val (.int p0), .val (.int p1), .val (.int p2), .val (.int (0 : Int32)), .val (.int (0 : Int32)), .val (.int p1), .val (.int (0 : Int32)), .val (.ref b2), .val (.ref b6), .val (.int (1 : Int32))] [(.ref b6)])
      refine Go.st (fun _ k => XS.aload X12.here hx rfl (hb hby at_88) rfl rfl k) ?_
      show Go _ _ _ _ _ _ _ T12 (mkF m 90 #[.val (.int p0), .val (.int p1), .val (.int p2), .val (.int (0 : Int32)), .val (.int (0 : Int32)), .val (.int p1), .val (.int (0 : Int32)), .val (.ref b2), .val (.ref b6), .val (.int (1 : Int32))] [(.ref b2), (.ref b6)])
      obtain ⟨cq13, kq13, q13a, q13b, q13c⟩ := isOf hZ e12 EE10
      obtain ⟨_, _, ⟨T13, L13, k13, n13⟩, -, X13, ⟨Lc13, hQ13, l13, y13, z13⟩, st13⟩ := X12.virtualBack hx (y := (⟨"com/example/prudent_checker/prudentchecker/language/IntegerLiteral", "equals", "(Ljava/lang/Object;)Z"⟩ : MethodName)) (z := (⟨"com/example/prudent_checker/prudentchecker/language/IntegerLiteral", "equals", "(Ljava/lang/Object;)Z"⟩ : MethodName)) hown (mvT hZ (hw _ (List.mem_of_getElem? (i := 23) rfl))) (mvT hZ (hw _ (List.mem_of_getElem? (i := 24) rfl))) (notFace_of_selects (args := #[]) (mvT hZ (hw _ (List.mem_of_getElem? (i := 26) rfl)))) (mvT hZ (hw _ (List.mem_of_getElem? (i := 26) rfl))) (mvT hZ (hw _ (List.mem_of_getElem? (i := 25) rfl))) (by decide) (backOf (W := 0) (rm5i l Z a0 hw [] b6 b2 p1 p0 h10 n0 Z10 EE5__10 F_value_b6__10 F_value_b2__10) hZ (hw _ (List.mem_of_getElem? (i := 27) rfl)) (hw _ (List.mem_of_getElem? (i := 2) rfl)) (by decide) (by decide)) q13a q13c (g := (mkF m 90 #[.val (.int p0), .val (.int p1), .val (.int p2), .val (.int (0 : Int32)), .val (.int (0 : Int32)), .val (.int p1), .val (.int (0 : Int32)), .val (.ref b2), .val (.ref b6), .val (.int (1 : Int32))] [(.ref b2), (.ref b6)])) rfl (by rw [hml]; rfl) (Steps.refl _) (argsL := [(.ref b2)]) (rest := []) (lenOf pd_2 rfl) rfl (by show 2 * 0 + _ ≤ _; exact Nat.le_of_eq rfl) (hb hby at_90) (fun _ _ => ⟨rfl, e12, (by decide : 2 + 0 ≤ _), (by decide : 2 + 0 ≤ _)⟩)
      dsimp only [Pt.U, Pt.locs, Pt.cells, Pt.slots] at X13 l13 y13 z13 st13 hQ13
      subst l13 y13 z13
      obtain ⟨rfl, N13q, e13⟩ := hQ13
      have N13 := Fr.app N12 N13q
      refine Go.st (fun _ k => st13.trans k) ?_
      show Go _ _ _ _ _ _ _ T13 (mkF m 93 #[.val (.int p0), .val (.int p1), .val (.int p2), .val (.int (0 : Int32)), .val (.int (0 : Int32)), .val (.int p1), .val (.int (0 : Int32)), .val (.ref b2), .val (.ref b6), .val (.int (1 : Int32))] [(.int (val_5i b6 b2 p1 p0))])
      rw [show (val_5i b6 b2 p1 p0) = (1 : Int32) from by unfold val_5i; rw [if_pos (Eq.symm hc11)]]
      show Go _ _ _ _ _ _ _ T13 (mkF m 93 #[.val (.int p0), .val (.int p1), .val (.int p2), .val (.int (0 : Int32)), .val (.int (0 : Int32)), .val (.int p1), .val (.int (0 : Int32)), .val (.ref b2), .val (.ref b6), .val (.int (1 : Int32))] [(.int (1 : Int32))])
      refine Go.st (fun _ k => XS.iload X13.here hx rfl (hb hby at_93) rfl k) ?_
      show Go _ _ _ _ _ _ _ T13 (mkF m 95 #[.val (.int p0), .val (.int p1), .val (.int p2), .val (.int (0 : Int32)), .val (.int (0 : Int32)), .val (.int p1), .val (.int (0 : Int32)), .val (.ref b2), .val (.ref b6), .val (.int (1 : Int32))] [(.int (1 : Int32)), (.int (1 : Int32))])
      refine Go.st (fun _ k => XS.icmpNo X13.here hx rfl (hb hby at_95) rfl (teq (by decide : (1 : Int32) = (1 : Int32))).2 k) ?_
      show Go _ _ _ _ _ _ _ T13 (mkF m 98 #[.val (.int p0), .val (.int p1), .val (.int p2), .val (.int (0 : Int32)), .val (.int (0 : Int32)), .val (.int p1), .val (.int (0 : Int32)), .val (.ref b2), .val (.ref b6), .val (.int (1 : Int32))] [])
      refine Go.st (fun _ k => XS.aload X13.here hx rfl (hb hby at_98) rfl rfl k) ?_
      show Go _ _ _ _ _ _ _ T13 (mkF m 100 #[.val (.int p0), .val (.int p1), .val (.int p2), .val (.int (0 : Int32)), .val (.int (0 : Int32)), .val (.int p1), .val (.int (0 : Int32)), .val (.ref b2), .val (.ref b6), .val (.int (1 : Int32))] [(.ref b2)])
      refine Go.st (fun _ k => XS.aload X13.here hx rfl (hb hby at_100) rfl rfl k) ?_
      show Go _ _ _ _ _ _ _ T13 (mkF m 102 #[.val (.int p0), .val (.int p1), .val (.int p2), .val (.int (0 : Int32)), .val (.int (0 : Int32)), .val (.int p1), .val (.int (0 : Int32)), .val (.ref b2), .val (.ref b6), .val (.int (1 : Int32))] [(.ref b2), (.ref b2)])
      obtain ⟨cq14, kq14, q14a, q14b, q14c⟩ := isOf hZ e13 EE5__10
      obtain ⟨_, _, ⟨T14, L14, k14, n14⟩, -, X14, ⟨Lc14, hQ14, l14, y14, z14⟩, st14⟩ := X13.virtualBack hx (y := (⟨"com/example/prudent_checker/prudentchecker/language/IntegerLiteral", "equals", "(Ljava/lang/Object;)Z"⟩ : MethodName)) (z := (⟨"com/example/prudent_checker/prudentchecker/language/IntegerLiteral", "equals", "(Ljava/lang/Object;)Z"⟩ : MethodName)) hown (mvT hZ (hw _ (List.mem_of_getElem? (i := 23) rfl))) (mvT hZ (hw _ (List.mem_of_getElem? (i := 24) rfl))) (notFace_of_selects (args := #[]) (mvT hZ (hw _ (List.mem_of_getElem? (i := 26) rfl)))) (mvT hZ (hw _ (List.mem_of_getElem? (i := 26) rfl))) (mvT hZ (hw _ (List.mem_of_getElem? (i := 25) rfl))) (by decide) (backOf (W := 0) (rm5i l Z a0 hw [] b2 b2 p0 p0 h10 n0 Z10 EE5__10 F_value_b2__10 F_value_b2__10) hZ (hw _ (List.mem_of_getElem? (i := 27) rfl)) (hw _ (List.mem_of_getElem? (i := 2) rfl)) (by decide) (by decide)) q14a q14c (g := (mkF m 102 #[.val (.int p0), .val (.int p1), .val (.int p2), .val (.int (0 : Int32)), .val (.int (0 : Int32)), .val (.int p1), .val (.int (0 : Int32)), .val (.ref b2), .val (.ref b6), .val (.int (1 : Int32))] [(.ref b2), (.ref b2)])) rfl (by rw [hml]; rfl) (Steps.refl _) (argsL := [(.ref b2)]) (rest := []) (lenOf pd_2 rfl) rfl (by show 2 * 0 + _ ≤ _; exact Nat.le_of_eq rfl) (hb hby at_102) (fun _ _ => ⟨rfl, e13, (by decide : 2 + 0 ≤ _), (by decide : 2 + 0 ≤ _)⟩)
      dsimp only [Pt.U, Pt.locs, Pt.cells, Pt.slots] at X14 l14 y14 z14 st14 hQ14
      subst l14 y14 z14
      obtain ⟨rfl, N14q, e14⟩ := hQ14
      have N14 := Fr.app N13 N14q
      refine Go.st (fun _ k => st14.trans k) ?_
      show Go _ _ _ _ _ _ _ T14 (mkF m 105 #[.val (.int p0), .val (.int p1), .val (.int p2), .val (.int (0 : Int32)), .val (.int (0 : Int32)), .val (.int p1), .val (.int (0 : Int32)), .val (.ref b2), .val (.ref b6), .val (.int (1 : Int32))] [(.int (val_5i b2 b2 p0 p0))])
      rw [show (val_5i b2 b2 p0 p0) = (1 : Int32) from by unfold val_5i; rw [if_pos rfl]]
      show Go _ _ _ _ _ _ _ T14 (mkF m 105 #[.val (.int p0), .val (.int p1), .val (.int p2), .val (.int (0 : Int32)), .val (.int (0 : Int32)), .val (.int p1), .val (.int (0 : Int32)), .val (.ref b2), .val (.ref b6), .val (.int (1 : Int32))] [(.int (1 : Int32))])
      refine Go.st (fun _ k => XS.ifNo X14.here hx rfl (hb hby at_105) rfl ((if0 _ _).trans (feq (by decide : ¬ ((1 : Int32) = (0 : Int32)))).1) k) ?_
      show Go _ _ _ _ _ _ _ T14 (mkF m 108 #[.val (.int p0), .val (.int p1), .val (.int p2), .val (.int (0 : Int32)), .val (.int (0 : Int32)), .val (.int p1), .val (.int (0 : Int32)), .val (.ref b2), .val (.ref b6), .val (.int (1 : Int32))] [])
      refine Go.st (fun _ k => XS.iconst X14.here hx rfl (hb hby at_108) k) ?_
      show Go _ _ _ _ _ _ _ T14 (mkF m 109 #[.val (.int p0), .val (.int p1), .val (.int p2), .val (.int (0 : Int32)), .val (.int (0 : Int32)), .val (.int p1), .val (.int (0 : Int32)), .val (.ref b2), .val (.ref b6), .val (.int (1 : Int32))] [(.int (1 : Int32))])
      refine Go.st (fun _ k => XS.goto X14.here hx rfl (pc0 := 109) (pc' := 113) rfl (hb hby at_109) (by decide) (by decide) k) ?_
      show Go _ _ _ _ _ _ _ T14 (mkF m 113 #[.val (.int p0), .val (.int p1), .val (.int p2), .val (.int (0 : Int32)), .val (.int (0 : Int32)), .val (.int p1), .val (.int (0 : Int32)), .val (.ref b2), .val (.ref b6), .val (.int (1 : Int32))] [(.int (1 : Int32))])
      refine Go.ret X14 hlk (v := some (.int (1 : Int32))) (fun h => by rw [hret] at h; cases h) (fun fs hr => retN X14 hx (t := .boolean) hret (by simp) (hb hby at_113) hr) ?_ (by decide) (by decide)
      show Q0 Z p0 p1 p2 w_INT w_c cl h0 n0 (some (.int (1 : Int32))) T14.heap _
      rw [e14]
      exact ⟨rfl, N14⟩
    · refine Go.st (fun _ k => XS.icmpYes X10.here hx rfl (pc0 := 64) (pc' := 71) rfl (hb hby at_64) rfl (feq hc11).2 (by decide) (by decide) k) ?_
      show Go _ _ _ _ _ _ _ T10 (mkF m 71 #[.val (.int p0), .val (.int p1), .val (.int p2), .val (.int (0 : Int32)), .val (.int (0 : Int32)), .val (.int p1), .val (.int (0 : Int32)), .val (.ref b2), .val (.ref b6), .unset] [])
      refine Go.st (fun _ k => XS.iconst X10.here hx rfl (hb hby at_71) k) ?_
      show Go _ _ _ _ _ _ _ T10 (mkF m 72 #[.val (.int p0), .val (.int p1), .val (.int p2), .val (.int (0 : Int32)), .val (.int (0 : Int32)), .val (.int p1), .val (.int (0 : Int32)), .val (.ref b2), .val (.ref b6), .unset] [(.int (0 : Int32))])
      refine Go.st (fun _ k => XS.istore X10.here hx rfl (hb hby at_72) rfl (l' := #[.val (.int p0), .val (.int p1), .val (.int p2), .val (.int (0 : Int32)), .val (.int (0 : Int32)), .val (.int p1), .val (.int (0 : Int32)), .val (.ref b2), .val (.ref b6), .val (.int (0 : Int32))]) rfl k) ?_
      show Go _ _ _ _ _ _ _ T10 (mkF m 74 #[.val (.int p0), .val (.int p1), .val (.int p2), .val (.int (0 : Int32)), .val (.int (0 : Int32)), .val (.int p1), .val (.int (0 : Int32)), .val (.ref b2), .val (.ref b6), .val (.int (0 : Int32))] [])
      refine Go.st (fun _ k => XS.aload X10.here hx rfl (hb hby at_74) rfl rfl k) ?_
      show Go _ _ _ _ _ _ _ T10 (mkF m 76 #[.val (.int p0), .val (.int p1), .val (.int p2), .val (.int (0 : Int32)), .val (.int (0 : Int32)), .val (.int p1), .val (.int (0 : Int32)), .val (.ref b2), .val (.ref b6), .val (.int (0 : Int32))] [(.ref b2)])
      refine Go.st (fun _ k => XS.aload X10.here hx rfl (hb hby at_76) rfl rfl k) ?_
      show Go _ _ _ _ _ _ _ T10 (mkF m 78 #[.val (.int p0), .val (.int p1), .val (.int p2), .val (.int (0 : Int32)), .val (.int (0 : Int32)), .val (.int p1), .val (.int (0 : Int32)), .val (.ref b2), .val (.ref b6), .val (.int (0 : Int32))] [(.ref b6), (.ref b2)])
      obtain ⟨cq15, kq15, q15a, q15b, q15c⟩ := isOf hZ e10 EE5__10
      obtain ⟨_, _, ⟨T15, L15, k15, n15⟩, -, X15, ⟨Lc15, hQ15, l15, y15, z15⟩, st15⟩ := X10.virtualBack hx (y := (⟨"com/example/prudent_checker/prudentchecker/language/IntegerLiteral", "equals", "(Ljava/lang/Object;)Z"⟩ : MethodName)) (z := (⟨"com/example/prudent_checker/prudentchecker/language/IntegerLiteral", "equals", "(Ljava/lang/Object;)Z"⟩ : MethodName)) hown (mvT hZ (hw _ (List.mem_of_getElem? (i := 23) rfl))) (mvT hZ (hw _ (List.mem_of_getElem? (i := 24) rfl))) (notFace_of_selects (args := #[]) (mvT hZ (hw _ (List.mem_of_getElem? (i := 26) rfl)))) (mvT hZ (hw _ (List.mem_of_getElem? (i := 26) rfl))) (mvT hZ (hw _ (List.mem_of_getElem? (i := 25) rfl))) (by decide) (backOf (W := 0) (rm5i l Z a0 hw [] b2 b6 p0 p1 h10 n0 Z10 EE10 F_value_b2__10 F_value_b6__10) hZ (hw _ (List.mem_of_getElem? (i := 27) rfl)) (hw _ (List.mem_of_getElem? (i := 2) rfl)) (by decide) (by decide)) q15a q15c (g := (mkF m 78 #[.val (.int p0), .val (.int p1), .val (.int p2), .val (.int (0 : Int32)), .val (.int (0 : Int32)), .val (.int p1), .val (.int (0 : Int32)), .val (.ref b2), .val (.ref b6), .val (.int (0 : Int32))] [(.ref b6), (.ref b2)])) rfl (by rw [hml]; rfl) (Steps.refl _) (argsL := [(.ref b6)]) (rest := []) (lenOf pd_2 rfl) rfl (by show 2 * 0 + _ ≤ _; exact Nat.le_of_eq rfl) (hb hby at_78) (fun _ _ => ⟨rfl, e10, (by decide : 2 + 0 ≤ _), (by decide : 2 + 0 ≤ _)⟩)
      dsimp only [Pt.U, Pt.locs, Pt.cells, Pt.slots] at X15 l15 y15 z15 st15 hQ15
      subst l15 y15 z15
      obtain ⟨rfl, N15q, e15⟩ := hQ15
      have N15 := Fr.app N10 N15q
      refine Go.st (fun _ k => st15.trans k) ?_
      show Go _ _ _ _ _ _ _ T15 (mkF m 81 #[.val (.int p0), .val (.int p1), .val (.int p2), .val (.int (0 : Int32)), .val (.int (0 : Int32)), .val (.int p1), .val (.int (0 : Int32)), .val (.ref b2), .val (.ref b6), .val (.int (0 : Int32))] [(.int (val_5i b2 b6 p0 p1))])
      rw [show (val_5i b2 b6 p0 p1) = (0 : Int32) from by unfold val_5i; rw [if_neg hc11]]
      show Go _ _ _ _ _ _ _ T15 (mkF m 81 #[.val (.int p0), .val (.int p1), .val (.int p2), .val (.int (0 : Int32)), .val (.int (0 : Int32)), .val (.int p1), .val (.int (0 : Int32)), .val (.ref b2), .val (.ref b6), .val (.int (0 : Int32))] [(.int (0 : Int32))])
      refine Go.st (fun _ k => XS.iload X15.here hx rfl (hb hby at_81) rfl k) ?_
      show Go _ _ _ _ _ _ _ T15 (mkF m 83 #[.val (.int p0), .val (.int p1), .val (.int p2), .val (.int (0 : Int32)), .val (.int (0 : Int32)), .val (.int p1), .val (.int (0 : Int32)), .val (.ref b2), .val (.ref b6), .val (.int (0 : Int32))] [(.int (0 : Int32)), (.int (0 : Int32))])
      refine Go.st (fun _ k => XS.icmpNo X15.here hx rfl (hb hby at_83) rfl (teq (by decide : (0 : Int32) = (0 : Int32))).2 k) ?_
      show Go _ _ _ _ _ _ _ T15 (mkF m 86 #[.val (.int p0), .val (.int p1), .val (.int p2), .val (.int (0 : Int32)), .val (.int (0 : Int32)), .val (.int p1), .val (.int (0 : Int32)), .val (.ref b2), .val (.ref b6), .val (.int (0 : Int32))] [])
      refine Go.st (fun _ k => XS.aload X15.here hx rfl (hb hby at_86) rfl rfl k) ?_
      show Go _ _ _ _ _ _ _ T15 (mkF m 88 #[.val (.int p0), .val (.int p1), .val (.int p2), .val (.int (0 : Int32)), .val (.int (0 : Int32)), .val (.int p1), .val (.int (0 : Int32)), .val (.ref b2), .val (.ref b6), .val (.int (0 : Int32))] [(.ref b6)])
      refine Go.st (fun _ k => XS.aload X15.here hx rfl (hb hby at_88) rfl rfl k) ?_
      show Go _ _ _ _ _ _ _ T15 (mkF m 90 #[.val (.int p0), .val (.int p1), .val (.int p2), .val (.int (0 : Int32)), .val (.int (0 : Int32)), .val (.int p1), .val (.int (0 : Int32)), .val (.ref b2), .val (.ref b6), .val (.int (0 : Int32))] [(.ref b2), (.ref b6)])
      obtain ⟨cq16, kq16, q16a, q16b, q16c⟩ := isOf hZ e15 EE10
      obtain ⟨_, _, ⟨T16, L16, k16, n16⟩, -, X16, ⟨Lc16, hQ16, l16, y16, z16⟩, st16⟩ := X15.virtualBack hx (y := (⟨"com/example/prudent_checker/prudentchecker/language/IntegerLiteral", "equals", "(Ljava/lang/Object;)Z"⟩ : MethodName)) (z := (⟨"com/example/prudent_checker/prudentchecker/language/IntegerLiteral", "equals", "(Ljava/lang/Object;)Z"⟩ : MethodName)) hown (mvT hZ (hw _ (List.mem_of_getElem? (i := 23) rfl))) (mvT hZ (hw _ (List.mem_of_getElem? (i := 24) rfl))) (notFace_of_selects (args := #[]) (mvT hZ (hw _ (List.mem_of_getElem? (i := 26) rfl)))) (mvT hZ (hw _ (List.mem_of_getElem? (i := 26) rfl))) (mvT hZ (hw _ (List.mem_of_getElem? (i := 25) rfl))) (by decide) (backOf (W := 0) (rm5i l Z a0 hw [] b6 b2 p1 p0 h10 n0 Z10 EE5__10 F_value_b6__10 F_value_b2__10) hZ (hw _ (List.mem_of_getElem? (i := 27) rfl)) (hw _ (List.mem_of_getElem? (i := 2) rfl)) (by decide) (by decide)) q16a q16c (g := (mkF m 90 #[.val (.int p0), .val (.int p1), .val (.int p2), .val (.int (0 : Int32)), .val (.int (0 : Int32)), .val (.int p1), .val (.int (0 : Int32)), .val (.ref b2), .val (.ref b6), .val (.int (0 : Int32))] [(.ref b2), (.ref b6)])) rfl (by rw [hml]; rfl) (Steps.refl _) (argsL := [(.ref b2)]) (rest := []) (lenOf pd_2 rfl) rfl (by show 2 * 0 + _ ≤ _; exact Nat.le_of_eq rfl) (hb hby at_90) (fun _ _ => ⟨rfl, e15, (by decide : 2 + 0 ≤ _), (by decide : 2 + 0 ≤ _)⟩)
      dsimp only [Pt.U, Pt.locs, Pt.cells, Pt.slots] at X16 l16 y16 z16 st16 hQ16
      subst l16 y16 z16
      obtain ⟨rfl, N16q, e16⟩ := hQ16
      have N16 := Fr.app N15 N16q
      refine Go.st (fun _ k => st16.trans k) ?_
      show Go _ _ _ _ _ _ _ T16 (mkF m 93 #[.val (.int p0), .val (.int p1), .val (.int p2), .val (.int (0 : Int32)), .val (.int (0 : Int32)), .val (.int p1), .val (.int (0 : Int32)), .val (.ref b2), .val (.ref b6), .val (.int (0 : Int32))] [(.int (val_5i b6 b2 p1 p0))])
      rw [show (val_5i b6 b2 p1 p0) = (0 : Int32) from by unfold val_5i; rw [if_neg (Ne.symm hc11)]]
      show Go _ _ _ _ _ _ _ T16 (mkF m 93 #[.val (.int p0), .val (.int p1), .val (.int p2), .val (.int (0 : Int32)), .val (.int (0 : Int32)), .val (.int p1), .val (.int (0 : Int32)), .val (.ref b2), .val (.ref b6), .val (.int (0 : Int32))] [(.int (0 : Int32))])
      refine Go.st (fun _ k => XS.iload X16.here hx rfl (hb hby at_93) rfl k) ?_
      show Go _ _ _ _ _ _ _ T16 (mkF m 95 #[.val (.int p0), .val (.int p1), .val (.int p2), .val (.int (0 : Int32)), .val (.int (0 : Int32)), .val (.int p1), .val (.int (0 : Int32)), .val (.ref b2), .val (.ref b6), .val (.int (0 : Int32))] [(.int (0 : Int32)), (.int (0 : Int32))])
      refine Go.st (fun _ k => XS.icmpNo X16.here hx rfl (hb hby at_95) rfl (teq (by decide : (0 : Int32) = (0 : Int32))).2 k) ?_
      show Go _ _ _ _ _ _ _ T16 (mkF m 98 #[.val (.int p0), .val (.int p1), .val (.int p2), .val (.int (0 : Int32)), .val (.int (0 : Int32)), .val (.int p1), .val (.int (0 : Int32)), .val (.ref b2), .val (.ref b6), .val (.int (0 : Int32))] [])
      refine Go.st (fun _ k => XS.aload X16.here hx rfl (hb hby at_98) rfl rfl k) ?_
      show Go _ _ _ _ _ _ _ T16 (mkF m 100 #[.val (.int p0), .val (.int p1), .val (.int p2), .val (.int (0 : Int32)), .val (.int (0 : Int32)), .val (.int p1), .val (.int (0 : Int32)), .val (.ref b2), .val (.ref b6), .val (.int (0 : Int32))] [(.ref b2)])
      refine Go.st (fun _ k => XS.aload X16.here hx rfl (hb hby at_100) rfl rfl k) ?_
      show Go _ _ _ _ _ _ _ T16 (mkF m 102 #[.val (.int p0), .val (.int p1), .val (.int p2), .val (.int (0 : Int32)), .val (.int (0 : Int32)), .val (.int p1), .val (.int (0 : Int32)), .val (.ref b2), .val (.ref b6), .val (.int (0 : Int32))] [(.ref b2), (.ref b2)])
      obtain ⟨cq17, kq17, q17a, q17b, q17c⟩ := isOf hZ e16 EE5__10
      obtain ⟨_, _, ⟨T17, L17, k17, n17⟩, -, X17, ⟨Lc17, hQ17, l17, y17, z17⟩, st17⟩ := X16.virtualBack hx (y := (⟨"com/example/prudent_checker/prudentchecker/language/IntegerLiteral", "equals", "(Ljava/lang/Object;)Z"⟩ : MethodName)) (z := (⟨"com/example/prudent_checker/prudentchecker/language/IntegerLiteral", "equals", "(Ljava/lang/Object;)Z"⟩ : MethodName)) hown (mvT hZ (hw _ (List.mem_of_getElem? (i := 23) rfl))) (mvT hZ (hw _ (List.mem_of_getElem? (i := 24) rfl))) (notFace_of_selects (args := #[]) (mvT hZ (hw _ (List.mem_of_getElem? (i := 26) rfl)))) (mvT hZ (hw _ (List.mem_of_getElem? (i := 26) rfl))) (mvT hZ (hw _ (List.mem_of_getElem? (i := 25) rfl))) (by decide) (backOf (W := 0) (rm5i l Z a0 hw [] b2 b2 p0 p0 h10 n0 Z10 EE5__10 F_value_b2__10 F_value_b2__10) hZ (hw _ (List.mem_of_getElem? (i := 27) rfl)) (hw _ (List.mem_of_getElem? (i := 2) rfl)) (by decide) (by decide)) q17a q17c (g := (mkF m 102 #[.val (.int p0), .val (.int p1), .val (.int p2), .val (.int (0 : Int32)), .val (.int (0 : Int32)), .val (.int p1), .val (.int (0 : Int32)), .val (.ref b2), .val (.ref b6), .val (.int (0 : Int32))] [(.ref b2), (.ref b2)])) rfl (by rw [hml]; rfl) (Steps.refl _) (argsL := [(.ref b2)]) (rest := []) (lenOf pd_2 rfl) rfl (by show 2 * 0 + _ ≤ _; exact Nat.le_of_eq rfl) (hb hby at_102) (fun _ _ => ⟨rfl, e16, (by decide : 2 + 0 ≤ _), (by decide : 2 + 0 ≤ _)⟩)
      dsimp only [Pt.U, Pt.locs, Pt.cells, Pt.slots] at X17 l17 y17 z17 st17 hQ17
      subst l17 y17 z17
      obtain ⟨rfl, N17q, e17⟩ := hQ17
      have N17 := Fr.app N16 N17q
      refine Go.st (fun _ k => st17.trans k) ?_
      show Go _ _ _ _ _ _ _ T17 (mkF m 105 #[.val (.int p0), .val (.int p1), .val (.int p2), .val (.int (0 : Int32)), .val (.int (0 : Int32)), .val (.int p1), .val (.int (0 : Int32)), .val (.ref b2), .val (.ref b6), .val (.int (0 : Int32))] [(.int (val_5i b2 b2 p0 p0))])
      rw [show (val_5i b2 b2 p0 p0) = (1 : Int32) from by unfold val_5i; rw [if_pos rfl]]
      show Go _ _ _ _ _ _ _ T17 (mkF m 105 #[.val (.int p0), .val (.int p1), .val (.int p2), .val (.int (0 : Int32)), .val (.int (0 : Int32)), .val (.int p1), .val (.int (0 : Int32)), .val (.ref b2), .val (.ref b6), .val (.int (0 : Int32))] [(.int (1 : Int32))])
      refine Go.st (fun _ k => XS.ifNo X17.here hx rfl (hb hby at_105) rfl ((if0 _ _).trans (feq (by decide : ¬ ((1 : Int32) = (0 : Int32)))).1) k) ?_
      show Go _ _ _ _ _ _ _ T17 (mkF m 108 #[.val (.int p0), .val (.int p1), .val (.int p2), .val (.int (0 : Int32)), .val (.int (0 : Int32)), .val (.int p1), .val (.int (0 : Int32)), .val (.ref b2), .val (.ref b6), .val (.int (0 : Int32))] [])
      refine Go.st (fun _ k => XS.iconst X17.here hx rfl (hb hby at_108) k) ?_
      show Go _ _ _ _ _ _ _ T17 (mkF m 109 #[.val (.int p0), .val (.int p1), .val (.int p2), .val (.int (0 : Int32)), .val (.int (0 : Int32)), .val (.int p1), .val (.int (0 : Int32)), .val (.ref b2), .val (.ref b6), .val (.int (0 : Int32))] [(.int (1 : Int32))])
      refine Go.st (fun _ k => XS.goto X17.here hx rfl (pc0 := 109) (pc' := 113) rfl (hb hby at_109) (by decide) (by decide) k) ?_
      show Go _ _ _ _ _ _ _ T17 (mkF m 113 #[.val (.int p0), .val (.int p1), .val (.int p2), .val (.int (0 : Int32)), .val (.int (0 : Int32)), .val (.int p1), .val (.int (0 : Int32)), .val (.ref b2), .val (.ref b6), .val (.int (0 : Int32))] [(.int (1 : Int32))])
      refine Go.ret X17 hlk (v := some (.int (1 : Int32))) (fun h => by rw [hret] at h; cases h) (fun fs hr => retN X17 hx (t := .boolean) hret (by simp) (hb hby at_113) hr) ?_ (by decide) (by decide)
      show Q0 Z p0 p1 p2 w_INT w_c cl h0 n0 (some (.int (1 : Int32))) T17.heap _
      rw [e17]
      exact ⟨rfl, N17⟩
  · rw [hk1]
    show Go _ _ _ _ _ _ _ s₁ (mkF m 4 #[.val (.int p0), .val (.int p1), .val (.int p2), .unset, .unset, .unset, .unset, .unset, .unset, .unset] [(.int (1 : Int32))])
    refine Go.st (fun _ k => XS.istoreN X0.here hx rfl (hb hby at_4) rfl (l' := #[.val (.int p0), .val (.int p1), .val (.int p2), .val (.int (1 : Int32)), .unset, .unset, .unset, .unset, .unset, .unset]) rfl k) ?_
    show Go _ _ _ _ _ _ _ s₁ (mkF m 5 #[.val (.int p0), .val (.int p1), .val (.int p2), .val (.int (1 : Int32)), .unset, .unset, .unset, .unset, .unset, .unset] [])
    refine Go.st (fun _ k => XS.iloadN X0.here hx rfl (hb hby at_5) rfl k) ?_
    show Go _ _ _ _ _ _ _ s₁ (mkF m 6 #[.val (.int p0), .val (.int p1), .val (.int p2), .val (.int (1 : Int32)), .unset, .unset, .unset, .unset, .unset, .unset] [(.int (1 : Int32))])
    refine Go.st (fun _ k => XS.iconst X0.here hx rfl (hb hby at_6) k) ?_
    show Go _ _ _ _ _ _ _ s₁ (mkF m 7 #[.val (.int p0), .val (.int p1), .val (.int p2), .val (.int (1 : Int32)), .unset, .unset, .unset, .unset, .unset, .unset] [(.int (4 : Int32)), (.int (1 : Int32))])
    refine Go.st (fun _ k => XS.iand X0.here hx rfl (hb hby at_7) rfl k) ?_
    show Go _ _ _ _ _ _ _ s₁ (mkF m 8 #[.val (.int p0), .val (.int p1), .val (.int p2), .val (.int (1 : Int32)), .unset, .unset, .unset, .unset, .unset, .unset] [(.int ((1 : Int32) &&& (4 : Int32)))])
    refine Go.fr (f' := (mkF m 8 #[.val (.int p0), .val (.int p1), .val (.int p2), .val (.int (1 : Int32)), .unset, .unset, .unset, .unset, .unset, .unset] [(.int (0 : Int32))])) (by rw [show ((1 : Int32) &&& (4 : Int32)) = (0 : Int32) from by decide +kernel]) ?_
    show Go _ _ _ _ _ _ _ s₁ (mkF m 8 #[.val (.int p0), .val (.int p1), .val (.int p2), .val (.int (1 : Int32)), .unset, .unset, .unset, .unset, .unset, .unset] [(.int (0 : Int32))])
    refine Go.st (fun _ k => XS.ifYes X0.here hx rfl (pc0 := 8) (pc' := 15) rfl (hb hby at_8) rfl ((if0 _ _).trans (teq (by decide : (0 : Int32) = (0 : Int32))).1) (by decide) (by decide) k) ?_
    show Go _ _ _ _ _ _ _ s₁ (mkF m 15 #[.val (.int p0), .val (.int p1), .val (.int p2), .val (.int (1 : Int32)), .unset, .unset, .unset, .unset, .unset, .unset] [])
    refine Go.st (fun _ k => XS.iconst X0.here hx rfl (hb hby at_15) k) ?_
    show Go _ _ _ _ _ _ _ s₁ (mkF m 16 #[.val (.int p0), .val (.int p1), .val (.int p2), .val (.int (1 : Int32)), .unset, .unset, .unset, .unset, .unset, .unset] [(.int (0 : Int32))])
    refine Go.st (fun _ k => XS.istore X0.here hx rfl (hb hby at_16) rfl (l' := #[.val (.int p0), .val (.int p1), .val (.int p2), .val (.int (1 : Int32)), .val (.int (0 : Int32)), .unset, .unset, .unset, .unset, .unset]) rfl k) ?_
    show Go _ _ _ _ _ _ _ s₁ (mkF m 18 #[.val (.int p0), .val (.int p1), .val (.int p2), .val (.int (1 : Int32)), .val (.int (0 : Int32)), .unset, .unset, .unset, .unset, .unset] [])
    refine Go.st (fun _ k => XS.iload X0.here hx rfl (hb hby at_18) rfl k) ?_
    show Go _ _ _ _ _ _ _ s₁ (mkF m 20 #[.val (.int p0), .val (.int p1), .val (.int p2), .val (.int (1 : Int32)), .val (.int (0 : Int32)), .unset, .unset, .unset, .unset, .unset] [(.int (0 : Int32))])
    refine Go.st (fun _ k => XS.ifYes X0.here hx rfl (pc0 := 20) (pc' := 27) rfl (hb hby at_20) rfl ((if0 _ _).trans (teq (by decide : (0 : Int32) = (0 : Int32))).1) (by decide) (by decide) k) ?_
    show Go _ _ _ _ _ _ _ s₁ (mkF m 27 #[.val (.int p0), .val (.int p1), .val (.int p2), .val (.int (1 : Int32)), .val (.int (0 : Int32)), .unset, .unset, .unset, .unset, .unset] [])
    refine Go.st (fun _ k => XS.iloadN X0.here hx rfl (hb hby at_27) rfl k) ?_
    show Go _ _ _ _ _ _ _ s₁ (mkF m 28 #[.val (.int p0), .val (.int p1), .val (.int p2), .val (.int (1 : Int32)), .val (.int (0 : Int32)), .unset, .unset, .unset, .unset, .unset] [(.int p1)])
    refine Go.st (fun _ k => XS.istore X0.here hx rfl (hb hby at_28) rfl (l' := #[.val (.int p0), .val (.int p1), .val (.int p2), .val (.int (1 : Int32)), .val (.int (0 : Int32)), .val (.int p1), .unset, .unset, .unset, .unset]) rfl k) ?_
    show Go _ _ _ _ _ _ _ s₁ (mkF m 30 #[.val (.int p0), .val (.int p1), .val (.int p2), .val (.int (1 : Int32)), .val (.int (0 : Int32)), .val (.int p1), .unset, .unset, .unset, .unset] [])
    refine Go.st (fun _ k => XS.iloadN X0.here hx rfl (hb hby at_30) rfl k) ?_
    show Go _ _ _ _ _ _ _ s₁ (mkF m 31 #[.val (.int p0), .val (.int p1), .val (.int p2), .val (.int (1 : Int32)), .val (.int (0 : Int32)), .val (.int p1), .unset, .unset, .unset, .unset] [(.int (1 : Int32))])
    refine Go.st (fun _ k => XS.iconst X0.here hx rfl (hb hby at_31) k) ?_
    show Go _ _ _ _ _ _ _ s₁ (mkF m 32 #[.val (.int p0), .val (.int p1), .val (.int p2), .val (.int (1 : Int32)), .val (.int (0 : Int32)), .val (.int p1), .unset, .unset, .unset, .unset] [(.int (3 : Int32)), (.int (1 : Int32))])
    refine Go.st (fun _ k => XS.iand X0.here hx rfl (hb hby at_32) rfl k) ?_
    show Go _ _ _ _ _ _ _ s₁ (mkF m 33 #[.val (.int p0), .val (.int p1), .val (.int p2), .val (.int (1 : Int32)), .val (.int (0 : Int32)), .val (.int p1), .unset, .unset, .unset, .unset] [(.int ((1 : Int32) &&& (3 : Int32)))])
    refine Go.fr (f' := (mkF m 33 #[.val (.int p0), .val (.int p1), .val (.int p2), .val (.int (1 : Int32)), .val (.int (0 : Int32)), .val (.int p1), .unset, .unset, .unset, .unset] [(.int (1 : Int32))])) (by rw [show ((1 : Int32) &&& (3 : Int32)) = (1 : Int32) from by decide +kernel]) ?_
    show Go _ _ _ _ _ _ _ s₁ (mkF m 33 #[.val (.int p0), .val (.int p1), .val (.int p2), .val (.int (1 : Int32)), .val (.int (0 : Int32)), .val (.int p1), .unset, .unset, .unset, .unset] [(.int (1 : Int32))])
    refine Go.st (fun _ k => XS.istore X0.here hx rfl (hb hby at_33) rfl (l' := #[.val (.int p0), .val (.int p1), .val (.int p2), .val (.int (1 : Int32)), .val (.int (0 : Int32)), .val (.int p1), .val (.int (1 : Int32)), .unset, .unset, .unset]) rfl k) ?_
    show Go _ _ _ _ _ _ _ s₁ (mkF m 35 #[.val (.int p0), .val (.int p1), .val (.int p2), .val (.int (1 : Int32)), .val (.int (0 : Int32)), .val (.int p1), .val (.int (1 : Int32)), .unset, .unset, .unset] [])
    obtain ⟨T18, h18, X18, e18, E18, A18, D18, -, st18⟩ := newO X0 hx hZ hown (hw _ (List.mem_of_getElem? (i := 0) rfl)) (hw _ (List.mem_of_getElem? (i := 1) rfl)) (hw _ (List.mem_of_getElem? (i := 2) rfl)) e0 (g := (mkF m 35 #[.val (.int p0), .val (.int p1), .val (.int p2), .val (.int (1 : Int32)), .val (.int (0 : Int32)), .val (.int p1), .val (.int (1 : Int32)), .unset, .unset, .unset] [])) rfl (hb hby at_35) (by decide) (by decide)
    obtain ⟨b18, g18⟩ : ∃ z, z = h0.size := ⟨_, rfl⟩
    rw [← g18] at A18 D18 st18
    have ne19 : w_INT ≠ b18 := Nat.ne_of_lt (Nat.lt_of_lt_of_le E_INT.lt (Nat.le_of_eq g18.symm))
    have ne20 : w_c ≠ b18 := Nat.ne_of_lt (Nat.lt_of_lt_of_le Ar.lt (Nat.le_of_eq g18.symm))
    have g_b18 : n0 ≤ b18 := Nat.le_trans Z0 (Nat.le_of_eq g18.symm)
    have S_INT__18 := S_INT.ext E18
    have E_INT__18 := E_INT.ext E18
    have S_high__18 := S_high.ext E18
    have S_cache__18 := S_cache.ext E18
    have Z18 : n0 ≤ h18.size := Nat.le_trans Z0 E18.1
    have Ar__18 := Ar.ext E18
    have hC__18 : ∀ j : Int32, ¬ (j < 0 ∨ cl.slots.size ≤ j.toNatClampNeg) → ∃ r, cl.slots[j.toNatClampNeg]? = some (.ref r) ∧ Exa Z h18 r "java/lang/Integer" := fun j hj => by obtain ⟨r, hr, Er⟩ := hC j hj; exact ⟨r, hr, Er.ext E18⟩
    have F_value_b18 : Fld Z h18 b18 "com/example/prudent_checker/prudentchecker/language/IntegerLiteral" "value" "I" (.int (0 : Int32)) := D18 (Or.inr (hw _ (List.mem_of_getElem? (i := 15) rfl))) (ty := .int) (by decide)
    refine Go.st st18 ?_
    show Go _ _ _ _ _ _ _ T18 (mkF m 38 #[.val (.int p0), .val (.int p1), .val (.int p2), .val (.int (1 : Int32)), .val (.int (0 : Int32)), .val (.int p1), .val (.int (1 : Int32)), .unset, .unset, .unset] [(.ref b18)])
    refine Go.st (fun _ k => XS.dup X18.here hx rfl (hb hby at_38) rfl rfl k) ?_
    show Go _ _ _ _ _ _ _ T18 (mkF m 39 #[.val (.int p0), .val (.int p1), .val (.int p2), .val (.int (1 : Int32)), .val (.int (0 : Int32)), .val (.int p1), .val (.int (1 : Int32)), .unset, .unset, .unset] [(.ref b18), (.ref b18)])
    refine Go.st (fun _ k => XS.iloadN X18.here hx rfl (hb hby at_39) rfl k) ?_
    show Go _ _ _ _ _ _ _ T18 (mkF m 40 #[.val (.int p0), .val (.int p1), .val (.int p2), .val (.int (1 : Int32)), .val (.int (0 : Int32)), .val (.int p1), .val (.int (1 : Int32)), .unset, .unset, .unset] [(.int p0), (.ref b18), (.ref b18)])
    obtain ⟨_, _, ⟨T21, L21, k21, n21⟩, -, X21, ⟨Lc21, hQ21, l21, y21, z21⟩, st21⟩ := X18.specialBack hx (y := (⟨"com/example/prudent_checker/prudentchecker/language/IntegerLiteral", "<init>", "(I)V"⟩ : MethodName)) rfl hown (mvT hZ (hw _ (List.mem_of_getElem? (i := 3) rfl))) (mvT hZ (hw _ (List.mem_of_getElem? (i := 4) rfl))) (mvT hZ (hw _ (List.mem_of_getElem? (i := 5) rfl))) (by decide) (backOf (W := 1) (rm1 l Z a0 hw [] b18 p0 (0 : Int32) h18 n0 Z18 A18 F_value_b18 g_b18) hZ (hw _ (List.mem_of_getElem? (i := 5) rfl)) (hw _ (List.mem_of_getElem? (i := 2) rfl)) (by decide) (by decide)) (g := (mkF m 40 #[.val (.int p0), .val (.int p1), .val (.int p2), .val (.int (1 : Int32)), .val (.int (0 : Int32)), .val (.int p1), .val (.int (1 : Int32)), .unset, .unset, .unset] [(.int p0), (.ref b18), (.ref b18)])) rfl (by rw [hml]; rfl) (Steps.refl _) (a := b18) (argsL := [(.int p0)]) (rest := [(.ref b18)]) (lenOf pd_1 rfl) rfl (by show 2 * 0 + _ ≤ _; exact Nat.le_of_eq rfl) (hb hby at_40) (fun _ _ => ⟨rfl, e18, (by decide : 1 + 0 ≤ _), (by decide : 1 + 0 ≤ _)⟩)
    dsimp only [Pt.U, Pt.locs, Pt.cells, Pt.slots] at X21 l21 y21 z21 st21 hQ21
    subst l21 y21 z21
    generalize e21 : T21.heap = h21 at hQ21
    obtain ⟨rfl, N21q, K21, EE21, FF_value_21⟩ := hQ21
    have N21 := Fr.app N0 N21q
    refine Go.st (fun _ k => st21.trans k) ?_
    have S_INT__21 := own_sta S_INT__18 K21 (allS A18.cell (all0))
    have E_INT__21 := E_INT__18.keep K21
    have S_high__21 := own_sta S_high__18 K21 (allS A18.cell (all0))
    have S_cache__21 := own_sta S_cache__18 K21 (allS A18.cell (all0))
    have A18__21 := A18.keep K21
    have Z21 : n0 ≤ h21.size := Nat.le_trans Z18 K21.1
    have Ar__21 : Arr Z h21 w_c cl _ := own_arrk Ar__18 K21 (ninS ne20 (nin0))
    have hC__21 : ∀ j : Int32, ¬ (j < 0 ∨ cl.slots.size ≤ j.toNatClampNeg) → ∃ r, cl.slots[j.toNatClampNeg]? = some (.ref r) ∧ Exa Z h21 r "java/lang/Integer" := fun j hj => by obtain ⟨r, hr, Er⟩ := hC__18 j hj; exact ⟨r, hr, Er.keep K21⟩
    rw [show (val_1_value b18 p0 (0 : Int32)) = p0 from by unfold val_1_value; rfl] at FF_value_21
    have F_value_b18__21 := FF_value_21
    show Go _ _ _ _ _ _ _ T21 (mkF m 43 #[.val (.int p0), .val (.int p1), .val (.int p2), .val (.int (1 : Int32)), .val (.int (0 : Int32)), .val (.int p1), .val (.int (1 : Int32)), .unset, .unset, .unset] [(.ref b18)])
    refine Go.st (fun _ k => XS.astore X21.here hx rfl (hb hby at_43) rfl rfl (l' := #[.val (.int p0), .val (.int p1), .val (.int p2), .val (.int (1 : Int32)), .val (.int (0 : Int32)), .val (.int p1), .val (.int (1 : Int32)), .val (.ref b18), .unset, .unset]) rfl k) ?_
    show Go _ _ _ _ _ _ _ T21 (mkF m 45 #[.val (.int p0), .val (.int p1), .val (.int p2), .val (.int (1 : Int32)), .val (.int (0 : Int32)), .val (.int p1), .val (.int (1 : Int32)), .val (.ref b18), .unset, .unset] [])
    refine Go.st (fun _ k => XS.iload X21.here hx rfl (hb hby at_45) rfl k) ?_
    show Go _ _ _ _ _ _ _ T21 (mkF m 47 #[.val (.int p0), .val (.int p1), .val (.int p2), .val (.int (1 : Int32)), .val (.int (0 : Int32)), .val (.int p1), .val (.int (1 : Int32)), .val (.ref b18), .unset, .unset] [(.int (1 : Int32))])
    refine Go.st (fun _ k => XS.ifYes X21.here hx rfl (pc0 := 47) (pc' := 114) rfl (hb hby at_47) rfl ((if0 _ _).trans (feq (by decide : ¬ ((1 : Int32) = (0 : Int32)))).2) (by decide) (by decide) k) ?_
    show Go _ _ _ _ _ _ _ T21 (mkF m 114 #[.val (.int p0), .val (.int p1), .val (.int p2), .val (.int (1 : Int32)), .val (.int (0 : Int32)), .val (.int p1), .val (.int (1 : Int32)), .val (.ref b18), .unset, .unset] [])
    refine Go.st (fun _ k => XS.iload X21.here hx rfl (hb hby at_114) rfl k) ?_
    show Go _ _ _ _ _ _ _ T21 (mkF m 116 #[.val (.int p0), .val (.int p1), .val (.int p2), .val (.int (1 : Int32)), .val (.int (0 : Int32)), .val (.int p1), .val (.int (1 : Int32)), .val (.ref b18), .unset, .unset] [(.int (1 : Int32))])
    refine Go.st (fun _ k => XS.iconst X21.here hx rfl (hb hby at_116) k) ?_
    show Go _ _ _ _ _ _ _ T21 (mkF m 117 #[.val (.int p0), .val (.int p1), .val (.int p2), .val (.int (1 : Int32)), .val (.int (0 : Int32)), .val (.int p1), .val (.int (1 : Int32)), .val (.ref b18), .unset, .unset] [(.int (1 : Int32)), (.int (1 : Int32))])
    refine Go.st (fun _ k => XS.icmpNo X21.here hx rfl (hb hby at_117) rfl (teq (by decide : (1 : Int32) = (1 : Int32))).2 k) ?_
    show Go _ _ _ _ _ _ _ T21 (mkF m 120 #[.val (.int p0), .val (.int p1), .val (.int p2), .val (.int (1 : Int32)), .val (.int (0 : Int32)), .val (.int p1), .val (.int (1 : Int32)), .val (.ref b18), .unset, .unset] [])
    refine Go.st (fun _ k => XS.aconstNull X21.here hx rfl (hb hby at_120) k) ?_
    show Go _ _ _ _ _ _ _ T21 (mkF m 121 #[.val (.int p0), .val (.int p1), .val (.int p2), .val (.int (1 : Int32)), .val (.int (0 : Int32)), .val (.int p1), .val (.int (1 : Int32)), .val (.ref b18), .unset, .unset] [.null])
    refine Go.st (fun _ k => XS.astore X21.here hx rfl (hb hby at_121) rfl rfl (l' := #[.val (.int p0), .val (.int p1), .val (.int p2), .val (.int (1 : Int32)), .val (.int (0 : Int32)), .val (.int p1), .val (.int (1 : Int32)), .val (.ref b18), .val .null, .unset]) rfl k) ?_
    show Go _ _ _ _ _ _ _ T21 (mkF m 123 #[.val (.int p0), .val (.int p1), .val (.int p2), .val (.int (1 : Int32)), .val (.int (0 : Int32)), .val (.int p1), .val (.int (1 : Int32)), .val (.ref b18), .val .null, .unset] [])
    refine Go.st (fun _ k => XS.aload X21.here hx rfl (hb hby at_123) rfl rfl k) ?_
    show Go _ _ _ _ _ _ _ T21 (mkF m 125 #[.val (.int p0), .val (.int p1), .val (.int p2), .val (.int (1 : Int32)), .val (.int (0 : Int32)), .val (.int p1), .val (.int (1 : Int32)), .val (.ref b18), .val .null, .unset] [(.ref b18)])
    refine Go.st (fun _ k => XS.aload X21.here hx rfl (hb hby at_125) rfl rfl k) ?_
    show Go _ _ _ _ _ _ _ T21 (mkF m 127 #[.val (.int p0), .val (.int p1), .val (.int p2), .val (.int (1 : Int32)), .val (.int (0 : Int32)), .val (.int p1), .val (.int (1 : Int32)), .val (.ref b18), .val .null, .unset] [.null, (.ref b18)])
    obtain ⟨cq22, kq22, q22a, q22b, q22c⟩ := isOf hZ e21 EE21
    obtain ⟨_, _, ⟨T22, L22, k22, n22⟩, -, X22, ⟨Lc22, hQ22, l22, y22, z22⟩, st22⟩ := X21.virtualBack hx (y := (⟨"com/example/prudent_checker/prudentchecker/language/IntegerLiteral", "equals", "(Ljava/lang/Object;)Z"⟩ : MethodName)) (z := (⟨"com/example/prudent_checker/prudentchecker/language/IntegerLiteral", "equals", "(Ljava/lang/Object;)Z"⟩ : MethodName)) hown (mvT hZ (hw _ (List.mem_of_getElem? (i := 23) rfl))) (mvT hZ (hw _ (List.mem_of_getElem? (i := 24) rfl))) (notFace_of_selects (args := #[]) (mvT hZ (hw _ (List.mem_of_getElem? (i := 26) rfl)))) (mvT hZ (hw _ (List.mem_of_getElem? (i := 26) rfl))) (mvT hZ (hw _ (List.mem_of_getElem? (i := 25) rfl))) (by decide) (backOf (W := 0) (rm5n l Z a0 hw [] b18  h21 n0 Z21 ) hZ (hw _ (List.mem_of_getElem? (i := 27) rfl)) (hw _ (List.mem_of_getElem? (i := 2) rfl)) (by decide) (by decide)) q22a q22c (g := (mkF m 127 #[.val (.int p0), .val (.int p1), .val (.int p2), .val (.int (1 : Int32)), .val (.int (0 : Int32)), .val (.int p1), .val (.int (1 : Int32)), .val (.ref b18), .val .null, .unset] [.null, (.ref b18)])) rfl (by rw [hml]; rfl) (Steps.refl _) (argsL := [.null]) (rest := []) (lenOf pd_2 rfl) rfl (by show 2 * 0 + _ ≤ _; exact Nat.le_of_eq rfl) (hb hby at_127) (fun _ _ => ⟨rfl, e21, (by decide : 1 + 0 ≤ _), (by decide : 1 + 0 ≤ _)⟩)
    dsimp only [Pt.U, Pt.locs, Pt.cells, Pt.slots] at X22 l22 y22 z22 st22 hQ22
    subst l22 y22 z22
    obtain ⟨rfl, N22q, e22⟩ := hQ22
    have N22 := Fr.app N21 N22q
    refine Go.st (fun _ k => st22.trans k) ?_
    show Go _ _ _ _ _ _ _ T22 (mkF m 130 #[.val (.int p0), .val (.int p1), .val (.int p2), .val (.int (1 : Int32)), .val (.int (0 : Int32)), .val (.int p1), .val (.int (1 : Int32)), .val (.ref b18), .val .null, .unset] [(.int (val_5n b18))])
    rw [show (val_5n b18) = (0 : Int32) from by unfold val_5n; rfl]
    show Go _ _ _ _ _ _ _ T22 (mkF m 130 #[.val (.int p0), .val (.int p1), .val (.int p2), .val (.int (1 : Int32)), .val (.int (0 : Int32)), .val (.int p1), .val (.int (1 : Int32)), .val (.ref b18), .val .null, .unset] [(.int (0 : Int32))])
    refine Go.st (fun _ k => XS.ifNo X22.here hx rfl (hb hby at_130) rfl ((if0 _ _).trans (teq (by decide : (0 : Int32) = (0 : Int32))).2) k) ?_
    show Go _ _ _ _ _ _ _ T22 (mkF m 133 #[.val (.int p0), .val (.int p1), .val (.int p2), .val (.int (1 : Int32)), .val (.int (0 : Int32)), .val (.int p1), .val (.int (1 : Int32)), .val (.ref b18), .val .null, .unset] [])
    refine Go.st (fun _ k => XS.aload X22.here hx rfl (hb hby at_133) rfl rfl k) ?_
    show Go _ _ _ _ _ _ _ T22 (mkF m 135 #[.val (.int p0), .val (.int p1), .val (.int p2), .val (.int (1 : Int32)), .val (.int (0 : Int32)), .val (.int p1), .val (.int (1 : Int32)), .val (.ref b18), .val .null, .unset] [(.ref b18)])
    refine Go.st (fun _ k => XS.aload X22.here hx rfl (hb hby at_135) rfl rfl k) ?_
    show Go _ _ _ _ _ _ _ T22 (mkF m 137 #[.val (.int p0), .val (.int p1), .val (.int p2), .val (.int (1 : Int32)), .val (.int (0 : Int32)), .val (.int p1), .val (.int (1 : Int32)), .val (.ref b18), .val .null, .unset] [(.ref b18), (.ref b18)])
    obtain ⟨cq23, kq23, q23a, q23b, q23c⟩ := isOf hZ e22 EE21
    obtain ⟨_, _, ⟨T23, L23, k23, n23⟩, -, X23, ⟨Lc23, hQ23, l23, y23, z23⟩, st23⟩ := X22.virtualBack hx (y := (⟨"com/example/prudent_checker/prudentchecker/language/IntegerLiteral", "equals", "(Ljava/lang/Object;)Z"⟩ : MethodName)) (z := (⟨"com/example/prudent_checker/prudentchecker/language/IntegerLiteral", "equals", "(Ljava/lang/Object;)Z"⟩ : MethodName)) hown (mvT hZ (hw _ (List.mem_of_getElem? (i := 23) rfl))) (mvT hZ (hw _ (List.mem_of_getElem? (i := 24) rfl))) (notFace_of_selects (args := #[]) (mvT hZ (hw _ (List.mem_of_getElem? (i := 26) rfl)))) (mvT hZ (hw _ (List.mem_of_getElem? (i := 26) rfl))) (mvT hZ (hw _ (List.mem_of_getElem? (i := 25) rfl))) (by decide) (backOf (W := 0) (rm5i l Z a0 hw [] b18 b18 p0 p0 h21 n0 Z21 EE21 F_value_b18__21 F_value_b18__21) hZ (hw _ (List.mem_of_getElem? (i := 27) rfl)) (hw _ (List.mem_of_getElem? (i := 2) rfl)) (by decide) (by decide)) q23a q23c (g := (mkF m 137 #[.val (.int p0), .val (.int p1), .val (.int p2), .val (.int (1 : Int32)), .val (.int (0 : Int32)), .val (.int p1), .val (.int (1 : Int32)), .val (.ref b18), .val .null, .unset] [(.ref b18), (.ref b18)])) rfl (by rw [hml]; rfl) (Steps.refl _) (argsL := [(.ref b18)]) (rest := []) (lenOf pd_2 rfl) rfl (by show 2 * 0 + _ ≤ _; exact Nat.le_of_eq rfl) (hb hby at_137) (fun _ _ => ⟨rfl, e22, (by decide : 1 + 0 ≤ _), (by decide : 1 + 0 ≤ _)⟩)
    dsimp only [Pt.U, Pt.locs, Pt.cells, Pt.slots] at X23 l23 y23 z23 st23 hQ23
    subst l23 y23 z23
    obtain ⟨rfl, N23q, e23⟩ := hQ23
    have N23 := Fr.app N22 N23q
    refine Go.st (fun _ k => st23.trans k) ?_
    show Go _ _ _ _ _ _ _ T23 (mkF m 140 #[.val (.int p0), .val (.int p1), .val (.int p2), .val (.int (1 : Int32)), .val (.int (0 : Int32)), .val (.int p1), .val (.int (1 : Int32)), .val (.ref b18), .val .null, .unset] [(.int (val_5i b18 b18 p0 p0))])
    rw [show (val_5i b18 b18 p0 p0) = (1 : Int32) from by unfold val_5i; rw [if_pos rfl]]
    show Go _ _ _ _ _ _ _ T23 (mkF m 140 #[.val (.int p0), .val (.int p1), .val (.int p2), .val (.int (1 : Int32)), .val (.int (0 : Int32)), .val (.int p1), .val (.int (1 : Int32)), .val (.ref b18), .val .null, .unset] [(.int (1 : Int32))])
    refine Go.st (fun _ k => XS.ifNo X23.here hx rfl (hb hby at_140) rfl ((if0 _ _).trans (feq (by decide : ¬ ((1 : Int32) = (0 : Int32)))).1) k) ?_
    show Go _ _ _ _ _ _ _ T23 (mkF m 143 #[.val (.int p0), .val (.int p1), .val (.int p2), .val (.int (1 : Int32)), .val (.int (0 : Int32)), .val (.int p1), .val (.int (1 : Int32)), .val (.ref b18), .val .null, .unset] [])
    refine Go.st (fun _ k => XS.iconst X23.here hx rfl (hb hby at_143) k) ?_
    show Go _ _ _ _ _ _ _ T23 (mkF m 144 #[.val (.int p0), .val (.int p1), .val (.int p2), .val (.int (1 : Int32)), .val (.int (0 : Int32)), .val (.int p1), .val (.int (1 : Int32)), .val (.ref b18), .val .null, .unset] [(.int (1 : Int32))])
    refine Go.st (fun _ k => XS.goto X23.here hx rfl (pc0 := 144) (pc' := 148) rfl (hb hby at_144) (by decide) (by decide) k) ?_
    show Go _ _ _ _ _ _ _ T23 (mkF m 148 #[.val (.int p0), .val (.int p1), .val (.int p2), .val (.int (1 : Int32)), .val (.int (0 : Int32)), .val (.int p1), .val (.int (1 : Int32)), .val (.ref b18), .val .null, .unset] [(.int (1 : Int32))])
    refine Go.ret X23 hlk (v := some (.int (1 : Int32))) (fun h => by rw [hret] at h; cases h) (fun fs hr => retN X23 hx (t := .boolean) hret (by simp) (hb hby at_148) hr) ?_ (by decide) (by decide)
    show Q0 Z p0 p1 p2 w_INT w_c cl h0 n0 (some (.int (1 : Int32))) T23.heap _
    rw [e23]
    exact ⟨rfl, N23⟩
  · rw [hk1]
    show Go _ _ _ _ _ _ _ s₁ (mkF m 4 #[.val (.int p0), .val (.int p1), .val (.int p2), .unset, .unset, .unset, .unset, .unset, .unset, .unset] [(.int (2 : Int32))])
    refine Go.st (fun _ k => XS.istoreN X0.here hx rfl (hb hby at_4) rfl (l' := #[.val (.int p0), .val (.int p1), .val (.int p2), .val (.int (2 : Int32)), .unset, .unset, .unset, .unset, .unset, .unset]) rfl k) ?_
    show Go _ _ _ _ _ _ _ s₁ (mkF m 5 #[.val (.int p0), .val (.int p1), .val (.int p2), .val (.int (2 : Int32)), .unset, .unset, .unset, .unset, .unset, .unset] [])
    refine Go.st (fun _ k => XS.iloadN X0.here hx rfl (hb hby at_5) rfl k) ?_
    show Go _ _ _ _ _ _ _ s₁ (mkF m 6 #[.val (.int p0), .val (.int p1), .val (.int p2), .val (.int (2 : Int32)), .unset, .unset, .unset, .unset, .unset, .unset] [(.int (2 : Int32))])
    refine Go.st (fun _ k => XS.iconst X0.here hx rfl (hb hby at_6) k) ?_
    show Go _ _ _ _ _ _ _ s₁ (mkF m 7 #[.val (.int p0), .val (.int p1), .val (.int p2), .val (.int (2 : Int32)), .unset, .unset, .unset, .unset, .unset, .unset] [(.int (4 : Int32)), (.int (2 : Int32))])
    refine Go.st (fun _ k => XS.iand X0.here hx rfl (hb hby at_7) rfl k) ?_
    show Go _ _ _ _ _ _ _ s₁ (mkF m 8 #[.val (.int p0), .val (.int p1), .val (.int p2), .val (.int (2 : Int32)), .unset, .unset, .unset, .unset, .unset, .unset] [(.int ((2 : Int32) &&& (4 : Int32)))])
    refine Go.fr (f' := (mkF m 8 #[.val (.int p0), .val (.int p1), .val (.int p2), .val (.int (2 : Int32)), .unset, .unset, .unset, .unset, .unset, .unset] [(.int (0 : Int32))])) (by rw [show ((2 : Int32) &&& (4 : Int32)) = (0 : Int32) from by decide +kernel]) ?_
    show Go _ _ _ _ _ _ _ s₁ (mkF m 8 #[.val (.int p0), .val (.int p1), .val (.int p2), .val (.int (2 : Int32)), .unset, .unset, .unset, .unset, .unset, .unset] [(.int (0 : Int32))])
    refine Go.st (fun _ k => XS.ifYes X0.here hx rfl (pc0 := 8) (pc' := 15) rfl (hb hby at_8) rfl ((if0 _ _).trans (teq (by decide : (0 : Int32) = (0 : Int32))).1) (by decide) (by decide) k) ?_
    show Go _ _ _ _ _ _ _ s₁ (mkF m 15 #[.val (.int p0), .val (.int p1), .val (.int p2), .val (.int (2 : Int32)), .unset, .unset, .unset, .unset, .unset, .unset] [])
    refine Go.st (fun _ k => XS.iconst X0.here hx rfl (hb hby at_15) k) ?_
    show Go _ _ _ _ _ _ _ s₁ (mkF m 16 #[.val (.int p0), .val (.int p1), .val (.int p2), .val (.int (2 : Int32)), .unset, .unset, .unset, .unset, .unset, .unset] [(.int (0 : Int32))])
    refine Go.st (fun _ k => XS.istore X0.here hx rfl (hb hby at_16) rfl (l' := #[.val (.int p0), .val (.int p1), .val (.int p2), .val (.int (2 : Int32)), .val (.int (0 : Int32)), .unset, .unset, .unset, .unset, .unset]) rfl k) ?_
    show Go _ _ _ _ _ _ _ s₁ (mkF m 18 #[.val (.int p0), .val (.int p1), .val (.int p2), .val (.int (2 : Int32)), .val (.int (0 : Int32)), .unset, .unset, .unset, .unset, .unset] [])
    refine Go.st (fun _ k => XS.iload X0.here hx rfl (hb hby at_18) rfl k) ?_
    show Go _ _ _ _ _ _ _ s₁ (mkF m 20 #[.val (.int p0), .val (.int p1), .val (.int p2), .val (.int (2 : Int32)), .val (.int (0 : Int32)), .unset, .unset, .unset, .unset, .unset] [(.int (0 : Int32))])
    refine Go.st (fun _ k => XS.ifYes X0.here hx rfl (pc0 := 20) (pc' := 27) rfl (hb hby at_20) rfl ((if0 _ _).trans (teq (by decide : (0 : Int32) = (0 : Int32))).1) (by decide) (by decide) k) ?_
    show Go _ _ _ _ _ _ _ s₁ (mkF m 27 #[.val (.int p0), .val (.int p1), .val (.int p2), .val (.int (2 : Int32)), .val (.int (0 : Int32)), .unset, .unset, .unset, .unset, .unset] [])
    refine Go.st (fun _ k => XS.iloadN X0.here hx rfl (hb hby at_27) rfl k) ?_
    show Go _ _ _ _ _ _ _ s₁ (mkF m 28 #[.val (.int p0), .val (.int p1), .val (.int p2), .val (.int (2 : Int32)), .val (.int (0 : Int32)), .unset, .unset, .unset, .unset, .unset] [(.int p1)])
    refine Go.st (fun _ k => XS.istore X0.here hx rfl (hb hby at_28) rfl (l' := #[.val (.int p0), .val (.int p1), .val (.int p2), .val (.int (2 : Int32)), .val (.int (0 : Int32)), .val (.int p1), .unset, .unset, .unset, .unset]) rfl k) ?_
    show Go _ _ _ _ _ _ _ s₁ (mkF m 30 #[.val (.int p0), .val (.int p1), .val (.int p2), .val (.int (2 : Int32)), .val (.int (0 : Int32)), .val (.int p1), .unset, .unset, .unset, .unset] [])
    refine Go.st (fun _ k => XS.iloadN X0.here hx rfl (hb hby at_30) rfl k) ?_
    show Go _ _ _ _ _ _ _ s₁ (mkF m 31 #[.val (.int p0), .val (.int p1), .val (.int p2), .val (.int (2 : Int32)), .val (.int (0 : Int32)), .val (.int p1), .unset, .unset, .unset, .unset] [(.int (2 : Int32))])
    refine Go.st (fun _ k => XS.iconst X0.here hx rfl (hb hby at_31) k) ?_
    show Go _ _ _ _ _ _ _ s₁ (mkF m 32 #[.val (.int p0), .val (.int p1), .val (.int p2), .val (.int (2 : Int32)), .val (.int (0 : Int32)), .val (.int p1), .unset, .unset, .unset, .unset] [(.int (3 : Int32)), (.int (2 : Int32))])
    refine Go.st (fun _ k => XS.iand X0.here hx rfl (hb hby at_32) rfl k) ?_
    show Go _ _ _ _ _ _ _ s₁ (mkF m 33 #[.val (.int p0), .val (.int p1), .val (.int p2), .val (.int (2 : Int32)), .val (.int (0 : Int32)), .val (.int p1), .unset, .unset, .unset, .unset] [(.int ((2 : Int32) &&& (3 : Int32)))])
    refine Go.fr (f' := (mkF m 33 #[.val (.int p0), .val (.int p1), .val (.int p2), .val (.int (2 : Int32)), .val (.int (0 : Int32)), .val (.int p1), .unset, .unset, .unset, .unset] [(.int (2 : Int32))])) (by rw [show ((2 : Int32) &&& (3 : Int32)) = (2 : Int32) from by decide +kernel]) ?_
    show Go _ _ _ _ _ _ _ s₁ (mkF m 33 #[.val (.int p0), .val (.int p1), .val (.int p2), .val (.int (2 : Int32)), .val (.int (0 : Int32)), .val (.int p1), .unset, .unset, .unset, .unset] [(.int (2 : Int32))])
    refine Go.st (fun _ k => XS.istore X0.here hx rfl (hb hby at_33) rfl (l' := #[.val (.int p0), .val (.int p1), .val (.int p2), .val (.int (2 : Int32)), .val (.int (0 : Int32)), .val (.int p1), .val (.int (2 : Int32)), .unset, .unset, .unset]) rfl k) ?_
    show Go _ _ _ _ _ _ _ s₁ (mkF m 35 #[.val (.int p0), .val (.int p1), .val (.int p2), .val (.int (2 : Int32)), .val (.int (0 : Int32)), .val (.int p1), .val (.int (2 : Int32)), .unset, .unset, .unset] [])
    obtain ⟨T24, h24, X24, e24, E24, A24, D24, -, st24⟩ := newO X0 hx hZ hown (hw _ (List.mem_of_getElem? (i := 0) rfl)) (hw _ (List.mem_of_getElem? (i := 1) rfl)) (hw _ (List.mem_of_getElem? (i := 2) rfl)) e0 (g := (mkF m 35 #[.val (.int p0), .val (.int p1), .val (.int p2), .val (.int (2 : Int32)), .val (.int (0 : Int32)), .val (.int p1), .val (.int (2 : Int32)), .unset, .unset, .unset] [])) rfl (hb hby at_35) (by decide) (by decide)
    obtain ⟨b24, g24⟩ : ∃ z, z = h0.size := ⟨_, rfl⟩
    rw [← g24] at A24 D24 st24
    have ne25 : w_INT ≠ b24 := Nat.ne_of_lt (Nat.lt_of_lt_of_le E_INT.lt (Nat.le_of_eq g24.symm))
    have ne26 : w_c ≠ b24 := Nat.ne_of_lt (Nat.lt_of_lt_of_le Ar.lt (Nat.le_of_eq g24.symm))
    have g_b24 : n0 ≤ b24 := Nat.le_trans Z0 (Nat.le_of_eq g24.symm)
    have S_INT__24 := S_INT.ext E24
    have E_INT__24 := E_INT.ext E24
    have S_high__24 := S_high.ext E24
    have S_cache__24 := S_cache.ext E24
    have Z24 : n0 ≤ h24.size := Nat.le_trans Z0 E24.1
    have Ar__24 := Ar.ext E24
    have hC__24 : ∀ j : Int32, ¬ (j < 0 ∨ cl.slots.size ≤ j.toNatClampNeg) → ∃ r, cl.slots[j.toNatClampNeg]? = some (.ref r) ∧ Exa Z h24 r "java/lang/Integer" := fun j hj => by obtain ⟨r, hr, Er⟩ := hC j hj; exact ⟨r, hr, Er.ext E24⟩
    have F_value_b24 : Fld Z h24 b24 "com/example/prudent_checker/prudentchecker/language/IntegerLiteral" "value" "I" (.int (0 : Int32)) := D24 (Or.inr (hw _ (List.mem_of_getElem? (i := 15) rfl))) (ty := .int) (by decide)
    refine Go.st st24 ?_
    show Go _ _ _ _ _ _ _ T24 (mkF m 38 #[.val (.int p0), .val (.int p1), .val (.int p2), .val (.int (2 : Int32)), .val (.int (0 : Int32)), .val (.int p1), .val (.int (2 : Int32)), .unset, .unset, .unset] [(.ref b24)])
    refine Go.st (fun _ k => XS.dup X24.here hx rfl (hb hby at_38) rfl rfl k) ?_
    show Go _ _ _ _ _ _ _ T24 (mkF m 39 #[.val (.int p0), .val (.int p1), .val (.int p2), .val (.int (2 : Int32)), .val (.int (0 : Int32)), .val (.int p1), .val (.int (2 : Int32)), .unset, .unset, .unset] [(.ref b24), (.ref b24)])
    refine Go.st (fun _ k => XS.iloadN X24.here hx rfl (hb hby at_39) rfl k) ?_
    show Go _ _ _ _ _ _ _ T24 (mkF m 40 #[.val (.int p0), .val (.int p1), .val (.int p2), .val (.int (2 : Int32)), .val (.int (0 : Int32)), .val (.int p1), .val (.int (2 : Int32)), .unset, .unset, .unset] [(.int p0), (.ref b24), (.ref b24)])
    obtain ⟨_, _, ⟨T27, L27, k27, n27⟩, -, X27, ⟨Lc27, hQ27, l27, y27, z27⟩, st27⟩ := X24.specialBack hx (y := (⟨"com/example/prudent_checker/prudentchecker/language/IntegerLiteral", "<init>", "(I)V"⟩ : MethodName)) rfl hown (mvT hZ (hw _ (List.mem_of_getElem? (i := 3) rfl))) (mvT hZ (hw _ (List.mem_of_getElem? (i := 4) rfl))) (mvT hZ (hw _ (List.mem_of_getElem? (i := 5) rfl))) (by decide) (backOf (W := 1) (rm1 l Z a0 hw [] b24 p0 (0 : Int32) h24 n0 Z24 A24 F_value_b24 g_b24) hZ (hw _ (List.mem_of_getElem? (i := 5) rfl)) (hw _ (List.mem_of_getElem? (i := 2) rfl)) (by decide) (by decide)) (g := (mkF m 40 #[.val (.int p0), .val (.int p1), .val (.int p2), .val (.int (2 : Int32)), .val (.int (0 : Int32)), .val (.int p1), .val (.int (2 : Int32)), .unset, .unset, .unset] [(.int p0), (.ref b24), (.ref b24)])) rfl (by rw [hml]; rfl) (Steps.refl _) (a := b24) (argsL := [(.int p0)]) (rest := [(.ref b24)]) (lenOf pd_1 rfl) rfl (by show 2 * 0 + _ ≤ _; exact Nat.le_of_eq rfl) (hb hby at_40) (fun _ _ => ⟨rfl, e24, (by decide : 1 + 0 ≤ _), (by decide : 1 + 0 ≤ _)⟩)
    dsimp only [Pt.U, Pt.locs, Pt.cells, Pt.slots] at X27 l27 y27 z27 st27 hQ27
    subst l27 y27 z27
    generalize e27 : T27.heap = h27 at hQ27
    obtain ⟨rfl, N27q, K27, EE27, FF_value_27⟩ := hQ27
    have N27 := Fr.app N0 N27q
    refine Go.st (fun _ k => st27.trans k) ?_
    have S_INT__27 := own_sta S_INT__24 K27 (allS A24.cell (all0))
    have E_INT__27 := E_INT__24.keep K27
    have S_high__27 := own_sta S_high__24 K27 (allS A24.cell (all0))
    have S_cache__27 := own_sta S_cache__24 K27 (allS A24.cell (all0))
    have A24__27 := A24.keep K27
    have Z27 : n0 ≤ h27.size := Nat.le_trans Z24 K27.1
    have Ar__27 : Arr Z h27 w_c cl _ := own_arrk Ar__24 K27 (ninS ne26 (nin0))
    have hC__27 : ∀ j : Int32, ¬ (j < 0 ∨ cl.slots.size ≤ j.toNatClampNeg) → ∃ r, cl.slots[j.toNatClampNeg]? = some (.ref r) ∧ Exa Z h27 r "java/lang/Integer" := fun j hj => by obtain ⟨r, hr, Er⟩ := hC__24 j hj; exact ⟨r, hr, Er.keep K27⟩
    rw [show (val_1_value b24 p0 (0 : Int32)) = p0 from by unfold val_1_value; rfl] at FF_value_27
    have F_value_b24__27 := FF_value_27
    show Go _ _ _ _ _ _ _ T27 (mkF m 43 #[.val (.int p0), .val (.int p1), .val (.int p2), .val (.int (2 : Int32)), .val (.int (0 : Int32)), .val (.int p1), .val (.int (2 : Int32)), .unset, .unset, .unset] [(.ref b24)])
    refine Go.st (fun _ k => XS.astore X27.here hx rfl (hb hby at_43) rfl rfl (l' := #[.val (.int p0), .val (.int p1), .val (.int p2), .val (.int (2 : Int32)), .val (.int (0 : Int32)), .val (.int p1), .val (.int (2 : Int32)), .val (.ref b24), .unset, .unset]) rfl k) ?_
    show Go _ _ _ _ _ _ _ T27 (mkF m 45 #[.val (.int p0), .val (.int p1), .val (.int p2), .val (.int (2 : Int32)), .val (.int (0 : Int32)), .val (.int p1), .val (.int (2 : Int32)), .val (.ref b24), .unset, .unset] [])
    refine Go.st (fun _ k => XS.iload X27.here hx rfl (hb hby at_45) rfl k) ?_
    show Go _ _ _ _ _ _ _ T27 (mkF m 47 #[.val (.int p0), .val (.int p1), .val (.int p2), .val (.int (2 : Int32)), .val (.int (0 : Int32)), .val (.int p1), .val (.int (2 : Int32)), .val (.ref b24), .unset, .unset] [(.int (2 : Int32))])
    refine Go.st (fun _ k => XS.ifYes X27.here hx rfl (pc0 := 47) (pc' := 114) rfl (hb hby at_47) rfl ((if0 _ _).trans (feq (by decide : ¬ ((2 : Int32) = (0 : Int32)))).2) (by decide) (by decide) k) ?_
    show Go _ _ _ _ _ _ _ T27 (mkF m 114 #[.val (.int p0), .val (.int p1), .val (.int p2), .val (.int (2 : Int32)), .val (.int (0 : Int32)), .val (.int p1), .val (.int (2 : Int32)), .val (.ref b24), .unset, .unset] [])
    refine Go.st (fun _ k => XS.iload X27.here hx rfl (hb hby at_114) rfl k) ?_
    show Go _ _ _ _ _ _ _ T27 (mkF m 116 #[.val (.int p0), .val (.int p1), .val (.int p2), .val (.int (2 : Int32)), .val (.int (0 : Int32)), .val (.int p1), .val (.int (2 : Int32)), .val (.ref b24), .unset, .unset] [(.int (2 : Int32))])
    refine Go.st (fun _ k => XS.iconst X27.here hx rfl (hb hby at_116) k) ?_
    show Go _ _ _ _ _ _ _ T27 (mkF m 117 #[.val (.int p0), .val (.int p1), .val (.int p2), .val (.int (2 : Int32)), .val (.int (0 : Int32)), .val (.int p1), .val (.int (2 : Int32)), .val (.ref b24), .unset, .unset] [(.int (1 : Int32)), (.int (2 : Int32))])
    refine Go.st (fun _ k => XS.icmpYes X27.here hx rfl (pc0 := 117) (pc' := 149) rfl (hb hby at_117) rfl (feq (by decide : ¬ ((2 : Int32) = (1 : Int32)))).2 (by decide) (by decide) k) ?_
    show Go _ _ _ _ _ _ _ T27 (mkF m 149 #[.val (.int p0), .val (.int p1), .val (.int p2), .val (.int (2 : Int32)), .val (.int (0 : Int32)), .val (.int p1), .val (.int (2 : Int32)), .val (.ref b24), .unset, .unset] [])
    refine Go.st (fun _ k => XS.iload X27.here hx rfl (hb hby at_149) rfl k) ?_
    show Go _ _ _ _ _ _ _ T27 (mkF m 151 #[.val (.int p0), .val (.int p1), .val (.int p2), .val (.int (2 : Int32)), .val (.int (0 : Int32)), .val (.int p1), .val (.int (2 : Int32)), .val (.ref b24), .unset, .unset] [(.int (2 : Int32))])
    refine Go.st (fun _ k => XS.iconst X27.here hx rfl (hb hby at_151) k) ?_
    show Go _ _ _ _ _ _ _ T27 (mkF m 152 #[.val (.int p0), .val (.int p1), .val (.int p2), .val (.int (2 : Int32)), .val (.int (0 : Int32)), .val (.int p1), .val (.int (2 : Int32)), .val (.ref b24), .unset, .unset] [(.int (2 : Int32)), (.int (2 : Int32))])
    refine Go.st (fun _ k => XS.icmpNo X27.here hx rfl (hb hby at_152) rfl (teq (by decide : (2 : Int32) = (2 : Int32))).2 k) ?_
    show Go _ _ _ _ _ _ _ T27 (mkF m 155 #[.val (.int p0), .val (.int p1), .val (.int p2), .val (.int (2 : Int32)), .val (.int (0 : Int32)), .val (.int p1), .val (.int (2 : Int32)), .val (.ref b24), .unset, .unset] [])
    refine Go.st (fun _ k => XS.iloadN X27.here hx rfl (hb hby at_155) rfl k) ?_
    show Go _ _ _ _ _ _ _ T27 (mkF m 156 #[.val (.int p0), .val (.int p1), .val (.int p2), .val (.int (2 : Int32)), .val (.int (0 : Int32)), .val (.int p1), .val (.int (2 : Int32)), .val (.ref b24), .unset, .unset] [(.int p0)])
    obtain ⟨_, _, ⟨T28, L28, k28, n28⟩, -, X28, ⟨Lc28, hQ28, l28, y28, z28⟩, st28⟩ := Jvm.LawKit.callS X27 hx (y := (⟨"java/lang/Integer", "valueOf", "(I)Ljava/lang/Integer;"⟩ : MethodName)) hown (mvT hZ (hw _ (List.mem_of_getElem? (i := 16) rfl))) (mvT hZ (hw _ (List.mem_of_getElem? (i := 17) rfl))) (mvT hZ (hw _ (List.mem_of_getElem? (i := 18) rfl))) (mvT hZ (hw _ (List.mem_of_getElem? (i := 19) rfl))) (by decide) (backOf (W := 0) (rm4 l Z a0 hw [] p0 w_c cl h27 n0 Z27 S_high__27 S_cache__27 Ar__27 hsz hC__27) hZ (hw _ (List.mem_of_getElem? (i := 19) rfl)) (hw _ (List.mem_of_getElem? (i := 18) rfl)) (by decide) (by decide)) (g := (mkF m 156 #[.val (.int p0), .val (.int p1), .val (.int p2), .val (.int (2 : Int32)), .val (.int (0 : Int32)), .val (.int p1), .val (.int (2 : Int32)), .val (.ref b24), .unset, .unset] [(.int p0)])) rfl (by rw [hml]; rfl) (argsL := [(.int p0)]) (rest := []) (lenOf pd_3 rfl) rfl (by show 2 * 0 + _ ≤ _; exact Nat.le_of_eq rfl) (hb hby at_156) (fun _ _ => ⟨rfl, e27, (by decide : 1 + 1 ≤ _), (by decide : 1 + 1 ≤ _)⟩)
    dsimp only [Pt.U, Pt.locs, Pt.cells, Pt.slots] at X28 l28 y28 z28 st28 hQ28
    subst l28 y28 z28
    generalize e28 : T28.heap = h28 at hQ28
    obtain ⟨r28, rfl, N28q, K28, EE28⟩ := hQ28
    have N28 := Fr.app N27 N28q
    refine Go.st st28 ?_
    have S_INT__28 := own_sta S_INT__27 K28 (all0)
    have E_INT__28 := E_INT__27.keep K28
    have S_high__28 := own_sta S_high__27 K28 (all0)
    have S_cache__28 := own_sta S_cache__27 K28 (all0)
    have EE27__28 := EE27.keep K28
    have F_value_b24__28 := F_value_b24__27.keep K28 (nin0)
    have Z28 : n0 ≤ h28.size := Nat.le_trans Z27 K28.1
    have Ar__28 : Arr Z h28 w_c cl _ := own_arrk Ar__27 K28 (nin0)
    have hC__28 : ∀ j : Int32, ¬ (j < 0 ∨ cl.slots.size ≤ j.toNatClampNeg) → ∃ r, cl.slots[j.toNatClampNeg]? = some (.ref r) ∧ Exa Z h28 r "java/lang/Integer" := fun j hj => by obtain ⟨r, hr, Er⟩ := hC__27 j hj; exact ⟨r, hr, Er.keep K28⟩
    show Go _ _ _ _ _ _ _ T28 (mkF m 159 #[.val (.int p0), .val (.int p1), .val (.int p2), .val (.int (2 : Int32)), .val (.int (0 : Int32)), .val (.int p1), .val (.int (2 : Int32)), .val (.ref b24), .unset, .unset] [(.ref r28)])
    refine Go.st (fun _ k => XS.astore X28.here hx rfl (hb hby at_159) rfl rfl (l' := #[.val (.int p0), .val (.int p1), .val (.int p2), .val (.int (2 : Int32)), .val (.int (0 : Int32)), .val (.int p1), .val (.int (2 : Int32)), .val (.ref b24), .val (.ref r28), .unset]) rfl k) ?_
    show Go _ _ _ _ _ _ _ T28 (mkF m 161 #[.val (.int p0), .val (.int p1), .val (.int p2), .val (.int (2 : Int32)), .val (.int (0 : Int32)), .val (.int p1), .val (.int (2 : Int32)), .val (.ref b24), .val (.ref r28), .unset] [])
    refine Go.st (fun _ k => XS.aload X28.here hx rfl (hb hby at_161) rfl rfl k) ?_
    show Go _ _ _ _ _ _ _ T28 (mkF m 163 #[.val (.int p0), .val (.int p1), .val (.int p2), .val (.int (2 : Int32)), .val (.int (0 : Int32)), .val (.int p1), .val (.int (2 : Int32)), .val (.ref b24), .val (.ref r28), .unset] [(.ref b24)])
    refine Go.st (fun _ k => XS.aload X28.here hx rfl (hb hby at_163) rfl rfl k) ?_
    show Go _ _ _ _ _ _ _ T28 (mkF m 165 #[.val (.int p0), .val (.int p1), .val (.int p2), .val (.int (2 : Int32)), .val (.int (0 : Int32)), .val (.int p1), .val (.int (2 : Int32)), .val (.ref b24), .val (.ref r28), .unset] [(.ref r28), (.ref b24)])
    obtain ⟨cq29, kq29, q29a, q29b, q29c⟩ := isOf hZ e28 EE27__28
    obtain ⟨_, _, ⟨T29, L29, k29, n29⟩, -, X29, ⟨Lc29, hQ29, l29, y29, z29⟩, st29⟩ := X28.virtualBack hx (y := (⟨"com/example/prudent_checker/prudentchecker/language/IntegerLiteral", "equals", "(Ljava/lang/Object;)Z"⟩ : MethodName)) (z := (⟨"com/example/prudent_checker/prudentchecker/language/IntegerLiteral", "equals", "(Ljava/lang/Object;)Z"⟩ : MethodName)) hown (mvT hZ (hw _ (List.mem_of_getElem? (i := 23) rfl))) (mvT hZ (hw _ (List.mem_of_getElem? (i := 24) rfl))) (notFace_of_selects (args := #[]) (mvT hZ (hw _ (List.mem_of_getElem? (i := 26) rfl)))) (mvT hZ (hw _ (List.mem_of_getElem? (i := 26) rfl))) (mvT hZ (hw _ (List.mem_of_getElem? (i := 25) rfl))) (by decide) (backOf (W := 0) (rm5j l Z a0 hw [] b24 r28  h28 n0 Z28 EE28) hZ (hw _ (List.mem_of_getElem? (i := 27) rfl)) (hw _ (List.mem_of_getElem? (i := 2) rfl)) (by decide) (by decide)) q29a q29c (g := (mkF m 165 #[.val (.int p0), .val (.int p1), .val (.int p2), .val (.int (2 : Int32)), .val (.int (0 : Int32)), .val (.int p1), .val (.int (2 : Int32)), .val (.ref b24), .val (.ref r28), .unset] [(.ref r28), (.ref b24)])) rfl (by rw [hml]; rfl) (Steps.refl _) (argsL := [(.ref r28)]) (rest := []) (lenOf pd_2 rfl) rfl (by show 2 * 0 + _ ≤ _; exact Nat.le_of_eq rfl) (hb hby at_165) (fun _ _ => ⟨rfl, e28, (by decide : 2 + 0 ≤ _), (by decide : 2 + 0 ≤ _)⟩)
    dsimp only [Pt.U, Pt.locs, Pt.cells, Pt.slots] at X29 l29 y29 z29 st29 hQ29
    subst l29 y29 z29
    obtain ⟨rfl, N29q, e29⟩ := hQ29
    have N29 := Fr.app N28 N29q
    refine Go.st (fun _ k => st29.trans k) ?_
    show Go _ _ _ _ _ _ _ T29 (mkF m 168 #[.val (.int p0), .val (.int p1), .val (.int p2), .val (.int (2 : Int32)), .val (.int (0 : Int32)), .val (.int p1), .val (.int (2 : Int32)), .val (.ref b24), .val (.ref r28), .unset] [(.int (val_5j b24 r28))])
    rw [show (val_5j b24 r28) = (0 : Int32) from by unfold val_5j; rfl]
    show Go _ _ _ _ _ _ _ T29 (mkF m 168 #[.val (.int p0), .val (.int p1), .val (.int p2), .val (.int (2 : Int32)), .val (.int (0 : Int32)), .val (.int p1), .val (.int (2 : Int32)), .val (.ref b24), .val (.ref r28), .unset] [(.int (0 : Int32))])
    refine Go.st (fun _ k => XS.ifNo X29.here hx rfl (hb hby at_168) rfl ((if0 _ _).trans (teq (by decide : (0 : Int32) = (0 : Int32))).2) k) ?_
    show Go _ _ _ _ _ _ _ T29 (mkF m 171 #[.val (.int p0), .val (.int p1), .val (.int p2), .val (.int (2 : Int32)), .val (.int (0 : Int32)), .val (.int p1), .val (.int (2 : Int32)), .val (.ref b24), .val (.ref r28), .unset] [])
    refine Go.st (fun _ k => XS.iconst X29.here hx rfl (hb hby at_171) k) ?_
    show Go _ _ _ _ _ _ _ T29 (mkF m 172 #[.val (.int p0), .val (.int p1), .val (.int p2), .val (.int (2 : Int32)), .val (.int (0 : Int32)), .val (.int p1), .val (.int (2 : Int32)), .val (.ref b24), .val (.ref r28), .unset] [(.int (1 : Int32))])
    refine Go.st (fun _ k => XS.goto X29.here hx rfl (pc0 := 172) (pc' := 176) rfl (hb hby at_172) (by decide) (by decide) k) ?_
    show Go _ _ _ _ _ _ _ T29 (mkF m 176 #[.val (.int p0), .val (.int p1), .val (.int p2), .val (.int (2 : Int32)), .val (.int (0 : Int32)), .val (.int p1), .val (.int (2 : Int32)), .val (.ref b24), .val (.ref r28), .unset] [(.int (1 : Int32))])
    refine Go.ret X29 hlk (v := some (.int (1 : Int32))) (fun h => by rw [hret] at h; cases h) (fun fs hr => retN X29 hx (t := .boolean) hret (by simp) (hb hby at_176) hr) ?_ (by decide) (by decide)
    show Q0 Z p0 p1 p2 w_INT w_c cl h0 n0 (some (.int (1 : Int32))) T29.heap _
    rw [e29]
    exact ⟨rfl, N29⟩
  · rw [hk1]
    show Go _ _ _ _ _ _ _ s₁ (mkF m 4 #[.val (.int p0), .val (.int p1), .val (.int p2), .unset, .unset, .unset, .unset, .unset, .unset, .unset] [(.int (3 : Int32))])
    refine Go.st (fun _ k => XS.istoreN X0.here hx rfl (hb hby at_4) rfl (l' := #[.val (.int p0), .val (.int p1), .val (.int p2), .val (.int (3 : Int32)), .unset, .unset, .unset, .unset, .unset, .unset]) rfl k) ?_
    show Go _ _ _ _ _ _ _ s₁ (mkF m 5 #[.val (.int p0), .val (.int p1), .val (.int p2), .val (.int (3 : Int32)), .unset, .unset, .unset, .unset, .unset, .unset] [])
    refine Go.st (fun _ k => XS.iloadN X0.here hx rfl (hb hby at_5) rfl k) ?_
    show Go _ _ _ _ _ _ _ s₁ (mkF m 6 #[.val (.int p0), .val (.int p1), .val (.int p2), .val (.int (3 : Int32)), .unset, .unset, .unset, .unset, .unset, .unset] [(.int (3 : Int32))])
    refine Go.st (fun _ k => XS.iconst X0.here hx rfl (hb hby at_6) k) ?_
    show Go _ _ _ _ _ _ _ s₁ (mkF m 7 #[.val (.int p0), .val (.int p1), .val (.int p2), .val (.int (3 : Int32)), .unset, .unset, .unset, .unset, .unset, .unset] [(.int (4 : Int32)), (.int (3 : Int32))])
    refine Go.st (fun _ k => XS.iand X0.here hx rfl (hb hby at_7) rfl k) ?_
    show Go _ _ _ _ _ _ _ s₁ (mkF m 8 #[.val (.int p0), .val (.int p1), .val (.int p2), .val (.int (3 : Int32)), .unset, .unset, .unset, .unset, .unset, .unset] [(.int ((3 : Int32) &&& (4 : Int32)))])
    refine Go.fr (f' := (mkF m 8 #[.val (.int p0), .val (.int p1), .val (.int p2), .val (.int (3 : Int32)), .unset, .unset, .unset, .unset, .unset, .unset] [(.int (0 : Int32))])) (by rw [show ((3 : Int32) &&& (4 : Int32)) = (0 : Int32) from by decide +kernel]) ?_
    show Go _ _ _ _ _ _ _ s₁ (mkF m 8 #[.val (.int p0), .val (.int p1), .val (.int p2), .val (.int (3 : Int32)), .unset, .unset, .unset, .unset, .unset, .unset] [(.int (0 : Int32))])
    refine Go.st (fun _ k => XS.ifYes X0.here hx rfl (pc0 := 8) (pc' := 15) rfl (hb hby at_8) rfl ((if0 _ _).trans (teq (by decide : (0 : Int32) = (0 : Int32))).1) (by decide) (by decide) k) ?_
    show Go _ _ _ _ _ _ _ s₁ (mkF m 15 #[.val (.int p0), .val (.int p1), .val (.int p2), .val (.int (3 : Int32)), .unset, .unset, .unset, .unset, .unset, .unset] [])
    refine Go.st (fun _ k => XS.iconst X0.here hx rfl (hb hby at_15) k) ?_
    show Go _ _ _ _ _ _ _ s₁ (mkF m 16 #[.val (.int p0), .val (.int p1), .val (.int p2), .val (.int (3 : Int32)), .unset, .unset, .unset, .unset, .unset, .unset] [(.int (0 : Int32))])
    refine Go.st (fun _ k => XS.istore X0.here hx rfl (hb hby at_16) rfl (l' := #[.val (.int p0), .val (.int p1), .val (.int p2), .val (.int (3 : Int32)), .val (.int (0 : Int32)), .unset, .unset, .unset, .unset, .unset]) rfl k) ?_
    show Go _ _ _ _ _ _ _ s₁ (mkF m 18 #[.val (.int p0), .val (.int p1), .val (.int p2), .val (.int (3 : Int32)), .val (.int (0 : Int32)), .unset, .unset, .unset, .unset, .unset] [])
    refine Go.st (fun _ k => XS.iload X0.here hx rfl (hb hby at_18) rfl k) ?_
    show Go _ _ _ _ _ _ _ s₁ (mkF m 20 #[.val (.int p0), .val (.int p1), .val (.int p2), .val (.int (3 : Int32)), .val (.int (0 : Int32)), .unset, .unset, .unset, .unset, .unset] [(.int (0 : Int32))])
    refine Go.st (fun _ k => XS.ifYes X0.here hx rfl (pc0 := 20) (pc' := 27) rfl (hb hby at_20) rfl ((if0 _ _).trans (teq (by decide : (0 : Int32) = (0 : Int32))).1) (by decide) (by decide) k) ?_
    show Go _ _ _ _ _ _ _ s₁ (mkF m 27 #[.val (.int p0), .val (.int p1), .val (.int p2), .val (.int (3 : Int32)), .val (.int (0 : Int32)), .unset, .unset, .unset, .unset, .unset] [])
    refine Go.st (fun _ k => XS.iloadN X0.here hx rfl (hb hby at_27) rfl k) ?_
    show Go _ _ _ _ _ _ _ s₁ (mkF m 28 #[.val (.int p0), .val (.int p1), .val (.int p2), .val (.int (3 : Int32)), .val (.int (0 : Int32)), .unset, .unset, .unset, .unset, .unset] [(.int p1)])
    refine Go.st (fun _ k => XS.istore X0.here hx rfl (hb hby at_28) rfl (l' := #[.val (.int p0), .val (.int p1), .val (.int p2), .val (.int (3 : Int32)), .val (.int (0 : Int32)), .val (.int p1), .unset, .unset, .unset, .unset]) rfl k) ?_
    show Go _ _ _ _ _ _ _ s₁ (mkF m 30 #[.val (.int p0), .val (.int p1), .val (.int p2), .val (.int (3 : Int32)), .val (.int (0 : Int32)), .val (.int p1), .unset, .unset, .unset, .unset] [])
    refine Go.st (fun _ k => XS.iloadN X0.here hx rfl (hb hby at_30) rfl k) ?_
    show Go _ _ _ _ _ _ _ s₁ (mkF m 31 #[.val (.int p0), .val (.int p1), .val (.int p2), .val (.int (3 : Int32)), .val (.int (0 : Int32)), .val (.int p1), .unset, .unset, .unset, .unset] [(.int (3 : Int32))])
    refine Go.st (fun _ k => XS.iconst X0.here hx rfl (hb hby at_31) k) ?_
    show Go _ _ _ _ _ _ _ s₁ (mkF m 32 #[.val (.int p0), .val (.int p1), .val (.int p2), .val (.int (3 : Int32)), .val (.int (0 : Int32)), .val (.int p1), .unset, .unset, .unset, .unset] [(.int (3 : Int32)), (.int (3 : Int32))])
    refine Go.st (fun _ k => XS.iand X0.here hx rfl (hb hby at_32) rfl k) ?_
    show Go _ _ _ _ _ _ _ s₁ (mkF m 33 #[.val (.int p0), .val (.int p1), .val (.int p2), .val (.int (3 : Int32)), .val (.int (0 : Int32)), .val (.int p1), .unset, .unset, .unset, .unset] [(.int ((3 : Int32) &&& (3 : Int32)))])
    refine Go.fr (f' := (mkF m 33 #[.val (.int p0), .val (.int p1), .val (.int p2), .val (.int (3 : Int32)), .val (.int (0 : Int32)), .val (.int p1), .unset, .unset, .unset, .unset] [(.int (3 : Int32))])) (by rw [show ((3 : Int32) &&& (3 : Int32)) = (3 : Int32) from by decide +kernel]) ?_
    show Go _ _ _ _ _ _ _ s₁ (mkF m 33 #[.val (.int p0), .val (.int p1), .val (.int p2), .val (.int (3 : Int32)), .val (.int (0 : Int32)), .val (.int p1), .unset, .unset, .unset, .unset] [(.int (3 : Int32))])
    refine Go.st (fun _ k => XS.istore X0.here hx rfl (hb hby at_33) rfl (l' := #[.val (.int p0), .val (.int p1), .val (.int p2), .val (.int (3 : Int32)), .val (.int (0 : Int32)), .val (.int p1), .val (.int (3 : Int32)), .unset, .unset, .unset]) rfl k) ?_
    show Go _ _ _ _ _ _ _ s₁ (mkF m 35 #[.val (.int p0), .val (.int p1), .val (.int p2), .val (.int (3 : Int32)), .val (.int (0 : Int32)), .val (.int p1), .val (.int (3 : Int32)), .unset, .unset, .unset] [])
    obtain ⟨T30, h30, X30, e30, E30, A30, D30, -, st30⟩ := newO X0 hx hZ hown (hw _ (List.mem_of_getElem? (i := 0) rfl)) (hw _ (List.mem_of_getElem? (i := 1) rfl)) (hw _ (List.mem_of_getElem? (i := 2) rfl)) e0 (g := (mkF m 35 #[.val (.int p0), .val (.int p1), .val (.int p2), .val (.int (3 : Int32)), .val (.int (0 : Int32)), .val (.int p1), .val (.int (3 : Int32)), .unset, .unset, .unset] [])) rfl (hb hby at_35) (by decide) (by decide)
    obtain ⟨b30, g30⟩ : ∃ z, z = h0.size := ⟨_, rfl⟩
    rw [← g30] at A30 D30 st30
    have ne31 : w_INT ≠ b30 := Nat.ne_of_lt (Nat.lt_of_lt_of_le E_INT.lt (Nat.le_of_eq g30.symm))
    have ne32 : w_c ≠ b30 := Nat.ne_of_lt (Nat.lt_of_lt_of_le Ar.lt (Nat.le_of_eq g30.symm))
    have g_b30 : n0 ≤ b30 := Nat.le_trans Z0 (Nat.le_of_eq g30.symm)
    have S_INT__30 := S_INT.ext E30
    have E_INT__30 := E_INT.ext E30
    have S_high__30 := S_high.ext E30
    have S_cache__30 := S_cache.ext E30
    have Z30 : n0 ≤ h30.size := Nat.le_trans Z0 E30.1
    have Ar__30 := Ar.ext E30
    have hC__30 : ∀ j : Int32, ¬ (j < 0 ∨ cl.slots.size ≤ j.toNatClampNeg) → ∃ r, cl.slots[j.toNatClampNeg]? = some (.ref r) ∧ Exa Z h30 r "java/lang/Integer" := fun j hj => by obtain ⟨r, hr, Er⟩ := hC j hj; exact ⟨r, hr, Er.ext E30⟩
    have F_value_b30 : Fld Z h30 b30 "com/example/prudent_checker/prudentchecker/language/IntegerLiteral" "value" "I" (.int (0 : Int32)) := D30 (Or.inr (hw _ (List.mem_of_getElem? (i := 15) rfl))) (ty := .int) (by decide)
    refine Go.st st30 ?_
    show Go _ _ _ _ _ _ _ T30 (mkF m 38 #[.val (.int p0), .val (.int p1), .val (.int p2), .val (.int (3 : Int32)), .val (.int (0 : Int32)), .val (.int p1), .val (.int (3 : Int32)), .unset, .unset, .unset] [(.ref b30)])
    refine Go.st (fun _ k => XS.dup X30.here hx rfl (hb hby at_38) rfl rfl k) ?_
    show Go _ _ _ _ _ _ _ T30 (mkF m 39 #[.val (.int p0), .val (.int p1), .val (.int p2), .val (.int (3 : Int32)), .val (.int (0 : Int32)), .val (.int p1), .val (.int (3 : Int32)), .unset, .unset, .unset] [(.ref b30), (.ref b30)])
    refine Go.st (fun _ k => XS.iloadN X30.here hx rfl (hb hby at_39) rfl k) ?_
    show Go _ _ _ _ _ _ _ T30 (mkF m 40 #[.val (.int p0), .val (.int p1), .val (.int p2), .val (.int (3 : Int32)), .val (.int (0 : Int32)), .val (.int p1), .val (.int (3 : Int32)), .unset, .unset, .unset] [(.int p0), (.ref b30), (.ref b30)])
    obtain ⟨_, _, ⟨T33, L33, k33, n33⟩, -, X33, ⟨Lc33, hQ33, l33, y33, z33⟩, st33⟩ := X30.specialBack hx (y := (⟨"com/example/prudent_checker/prudentchecker/language/IntegerLiteral", "<init>", "(I)V"⟩ : MethodName)) rfl hown (mvT hZ (hw _ (List.mem_of_getElem? (i := 3) rfl))) (mvT hZ (hw _ (List.mem_of_getElem? (i := 4) rfl))) (mvT hZ (hw _ (List.mem_of_getElem? (i := 5) rfl))) (by decide) (backOf (W := 1) (rm1 l Z a0 hw [] b30 p0 (0 : Int32) h30 n0 Z30 A30 F_value_b30 g_b30) hZ (hw _ (List.mem_of_getElem? (i := 5) rfl)) (hw _ (List.mem_of_getElem? (i := 2) rfl)) (by decide) (by decide)) (g := (mkF m 40 #[.val (.int p0), .val (.int p1), .val (.int p2), .val (.int (3 : Int32)), .val (.int (0 : Int32)), .val (.int p1), .val (.int (3 : Int32)), .unset, .unset, .unset] [(.int p0), (.ref b30), (.ref b30)])) rfl (by rw [hml]; rfl) (Steps.refl _) (a := b30) (argsL := [(.int p0)]) (rest := [(.ref b30)]) (lenOf pd_1 rfl) rfl (by show 2 * 0 + _ ≤ _; exact Nat.le_of_eq rfl) (hb hby at_40) (fun _ _ => ⟨rfl, e30, (by decide : 1 + 0 ≤ _), (by decide : 1 + 0 ≤ _)⟩)
    dsimp only [Pt.U, Pt.locs, Pt.cells, Pt.slots] at X33 l33 y33 z33 st33 hQ33
    subst l33 y33 z33
    generalize e33 : T33.heap = h33 at hQ33
    obtain ⟨rfl, N33q, K33, EE33, FF_value_33⟩ := hQ33
    have N33 := Fr.app N0 N33q
    refine Go.st (fun _ k => st33.trans k) ?_
    have S_INT__33 := own_sta S_INT__30 K33 (allS A30.cell (all0))
    have E_INT__33 := E_INT__30.keep K33
    have S_high__33 := own_sta S_high__30 K33 (allS A30.cell (all0))
    have S_cache__33 := own_sta S_cache__30 K33 (allS A30.cell (all0))
    have A30__33 := A30.keep K33
    have Z33 : n0 ≤ h33.size := Nat.le_trans Z30 K33.1
    have Ar__33 : Arr Z h33 w_c cl _ := own_arrk Ar__30 K33 (ninS ne32 (nin0))
    have hC__33 : ∀ j : Int32, ¬ (j < 0 ∨ cl.slots.size ≤ j.toNatClampNeg) → ∃ r, cl.slots[j.toNatClampNeg]? = some (.ref r) ∧ Exa Z h33 r "java/lang/Integer" := fun j hj => by obtain ⟨r, hr, Er⟩ := hC__30 j hj; exact ⟨r, hr, Er.keep K33⟩
    rw [show (val_1_value b30 p0 (0 : Int32)) = p0 from by unfold val_1_value; rfl] at FF_value_33
    have F_value_b30__33 := FF_value_33
    show Go _ _ _ _ _ _ _ T33 (mkF m 43 #[.val (.int p0), .val (.int p1), .val (.int p2), .val (.int (3 : Int32)), .val (.int (0 : Int32)), .val (.int p1), .val (.int (3 : Int32)), .unset, .unset, .unset] [(.ref b30)])
    refine Go.st (fun _ k => XS.astore X33.here hx rfl (hb hby at_43) rfl rfl (l' := #[.val (.int p0), .val (.int p1), .val (.int p2), .val (.int (3 : Int32)), .val (.int (0 : Int32)), .val (.int p1), .val (.int (3 : Int32)), .val (.ref b30), .unset, .unset]) rfl k) ?_
    show Go _ _ _ _ _ _ _ T33 (mkF m 45 #[.val (.int p0), .val (.int p1), .val (.int p2), .val (.int (3 : Int32)), .val (.int (0 : Int32)), .val (.int p1), .val (.int (3 : Int32)), .val (.ref b30), .unset, .unset] [])
    refine Go.st (fun _ k => XS.iload X33.here hx rfl (hb hby at_45) rfl k) ?_
    show Go _ _ _ _ _ _ _ T33 (mkF m 47 #[.val (.int p0), .val (.int p1), .val (.int p2), .val (.int (3 : Int32)), .val (.int (0 : Int32)), .val (.int p1), .val (.int (3 : Int32)), .val (.ref b30), .unset, .unset] [(.int (3 : Int32))])
    refine Go.st (fun _ k => XS.ifYes X33.here hx rfl (pc0 := 47) (pc' := 114) rfl (hb hby at_47) rfl ((if0 _ _).trans (feq (by decide : ¬ ((3 : Int32) = (0 : Int32)))).2) (by decide) (by decide) k) ?_
    show Go _ _ _ _ _ _ _ T33 (mkF m 114 #[.val (.int p0), .val (.int p1), .val (.int p2), .val (.int (3 : Int32)), .val (.int (0 : Int32)), .val (.int p1), .val (.int (3 : Int32)), .val (.ref b30), .unset, .unset] [])
    refine Go.st (fun _ k => XS.iload X33.here hx rfl (hb hby at_114) rfl k) ?_
    show Go _ _ _ _ _ _ _ T33 (mkF m 116 #[.val (.int p0), .val (.int p1), .val (.int p2), .val (.int (3 : Int32)), .val (.int (0 : Int32)), .val (.int p1), .val (.int (3 : Int32)), .val (.ref b30), .unset, .unset] [(.int (3 : Int32))])
    refine Go.st (fun _ k => XS.iconst X33.here hx rfl (hb hby at_116) k) ?_
    show Go _ _ _ _ _ _ _ T33 (mkF m 117 #[.val (.int p0), .val (.int p1), .val (.int p2), .val (.int (3 : Int32)), .val (.int (0 : Int32)), .val (.int p1), .val (.int (3 : Int32)), .val (.ref b30), .unset, .unset] [(.int (1 : Int32)), (.int (3 : Int32))])
    refine Go.st (fun _ k => XS.icmpYes X33.here hx rfl (pc0 := 117) (pc' := 149) rfl (hb hby at_117) rfl (feq (by decide : ¬ ((3 : Int32) = (1 : Int32)))).2 (by decide) (by decide) k) ?_
    show Go _ _ _ _ _ _ _ T33 (mkF m 149 #[.val (.int p0), .val (.int p1), .val (.int p2), .val (.int (3 : Int32)), .val (.int (0 : Int32)), .val (.int p1), .val (.int (3 : Int32)), .val (.ref b30), .unset, .unset] [])
    refine Go.st (fun _ k => XS.iload X33.here hx rfl (hb hby at_149) rfl k) ?_
    show Go _ _ _ _ _ _ _ T33 (mkF m 151 #[.val (.int p0), .val (.int p1), .val (.int p2), .val (.int (3 : Int32)), .val (.int (0 : Int32)), .val (.int p1), .val (.int (3 : Int32)), .val (.ref b30), .unset, .unset] [(.int (3 : Int32))])
    refine Go.st (fun _ k => XS.iconst X33.here hx rfl (hb hby at_151) k) ?_
    show Go _ _ _ _ _ _ _ T33 (mkF m 152 #[.val (.int p0), .val (.int p1), .val (.int p2), .val (.int (3 : Int32)), .val (.int (0 : Int32)), .val (.int p1), .val (.int (3 : Int32)), .val (.ref b30), .unset, .unset] [(.int (2 : Int32)), (.int (3 : Int32))])
    refine Go.st (fun _ k => XS.icmpYes X33.here hx rfl (pc0 := 152) (pc' := 177) rfl (hb hby at_152) rfl (feq (by decide : ¬ ((3 : Int32) = (2 : Int32)))).2 (by decide) (by decide) k) ?_
    show Go _ _ _ _ _ _ _ T33 (mkF m 177 #[.val (.int p0), .val (.int p1), .val (.int p2), .val (.int (3 : Int32)), .val (.int (0 : Int32)), .val (.int p1), .val (.int (3 : Int32)), .val (.ref b30), .unset, .unset] [])
    obtain ⟨T34, h34, X34, e34, E34, A34, D34, -, st34⟩ := newO X33 hx hZ hown (hw _ (List.mem_of_getElem? (i := 32) rfl)) (hw _ (List.mem_of_getElem? (i := 33) rfl)) (hw _ (List.mem_of_getElem? (i := 34) rfl)) e33 (g := (mkF m 177 #[.val (.int p0), .val (.int p1), .val (.int p2), .val (.int (3 : Int32)), .val (.int (0 : Int32)), .val (.int p1), .val (.int (3 : Int32)), .val (.ref b30), .unset, .unset] [])) rfl (hb hby at_177) (by decide) (by decide)
    obtain ⟨b34, g34⟩ : ∃ z, z = h33.size := ⟨_, rfl⟩
    rw [← g34] at A34 D34 st34
    have ne35 : w_INT ≠ b34 := Nat.ne_of_lt (Nat.lt_of_lt_of_le E_INT__33.lt (Nat.le_of_eq g34.symm))
    have ne36 : b30 ≠ b34 := Nat.ne_of_lt (Nat.lt_of_lt_of_le EE33.lt (Nat.le_of_eq g34.symm))
    have ne37 : w_c ≠ b34 := Nat.ne_of_lt (Nat.lt_of_lt_of_le Ar__33.lt (Nat.le_of_eq g34.symm))
    have g_b34 : n0 ≤ b34 := Nat.le_trans Z33 (Nat.le_of_eq g34.symm)
    have S_INT__34 := S_INT__33.ext E34
    have E_INT__34 := E_INT__33.ext E34
    have S_high__34 := S_high__33.ext E34
    have S_cache__34 := S_cache__33.ext E34
    have EE33__34 := EE33.ext E34
    have F_value_b30__34 := F_value_b30__33.ext E34
    have Z34 : n0 ≤ h34.size := Nat.le_trans Z33 E34.1
    have Ar__34 := Ar__33.ext E34
    have hC__34 : ∀ j : Int32, ¬ (j < 0 ∨ cl.slots.size ≤ j.toNatClampNeg) → ∃ r, cl.slots[j.toNatClampNeg]? = some (.ref r) ∧ Exa Z h34 r "java/lang/Integer" := fun j hj => by obtain ⟨r, hr, Er⟩ := hC__33 j hj; exact ⟨r, hr, Er.ext E34⟩
    have F_type_b34 : Fld Z h34 b34 "com/example/prudent_checker/prudentchecker/language/StoredValue" "type" "Lcom/example/prudent_checker/prudentchecker/language/ScalarType;" .null := D34 (Or.inr (hw _ (List.mem_of_getElem? (i := 43) rfl))) (ty := (.object "com/example/prudent_checker/prudentchecker/language/ScalarType")) (by decide)
    have F_value_b34 : Fld Z h34 b34 "com/example/prudent_checker/prudentchecker/language/StoredValue" "value" "Lcom/example/prudent_checker/prudentchecker/language/Expression;" .null := D34 (Or.inr (hw _ (List.mem_of_getElem? (i := 45) rfl))) (ty := (.object "com/example/prudent_checker/prudentchecker/language/Expression")) (by decide)
    refine Go.st st34 ?_
    show Go _ _ _ _ _ _ _ T34 (mkF m 180 #[.val (.int p0), .val (.int p1), .val (.int p2), .val (.int (3 : Int32)), .val (.int (0 : Int32)), .val (.int p1), .val (.int (3 : Int32)), .val (.ref b30), .unset, .unset] [(.ref b34)])
    refine Go.st (fun _ k => XS.dup X34.here hx rfl (hb hby at_180) rfl rfl k) ?_
    show Go _ _ _ _ _ _ _ T34 (mkF m 181 #[.val (.int p0), .val (.int p1), .val (.int p2), .val (.int (3 : Int32)), .val (.int (0 : Int32)), .val (.int p1), .val (.int (3 : Int32)), .val (.ref b30), .unset, .unset] [(.ref b34), (.ref b34)])
    obtain ⟨T38, X38, e38, st38⟩ := getS2 X34 hx hZ hown (host := "") (Or.inl (hw _ (List.mem_of_getElem? (i := 35) rfl))) Via.refl e34 S_INT__34 (g := (mkF m 181 #[.val (.int p0), .val (.int p1), .val (.int p2), .val (.int (3 : Int32)), .val (.int (0 : Int32)), .val (.int p1), .val (.int (3 : Int32)), .val (.ref b30), .unset, .unset] [(.ref b34), (.ref b34)])) rfl (hb hby at_181)
    refine Go.st st38 ?_
    show Go _ _ _ _ _ _ _ T38 (mkF m 184 #[.val (.int p0), .val (.int p1), .val (.int p2), .val (.int (3 : Int32)), .val (.int (0 : Int32)), .val (.int p1), .val (.int (3 : Int32)), .val (.ref b30), .unset, .unset] [(.ref w_INT), (.ref b34), (.ref b34)])
    obtain ⟨T39, h39, X39, e39, E39, A39, D39, -, st39⟩ := newO X38 hx hZ hown (hw _ (List.mem_of_getElem? (i := 0) rfl)) (hw _ (List.mem_of_getElem? (i := 1) rfl)) (hw _ (List.mem_of_getElem? (i := 2) rfl)) e38 (g := (mkF m 184 #[.val (.int p0), .val (.int p1), .val (.int p2), .val (.int (3 : Int32)), .val (.int (0 : Int32)), .val (.int p1), .val (.int (3 : Int32)), .val (.ref b30), .unset, .unset] [(.ref w_INT), (.ref b34), (.ref b34)])) rfl (hb hby at_184) (by decide) (by decide)
    obtain ⟨b39, g39⟩ : ∃ z, z = h34.size := ⟨_, rfl⟩
    rw [← g39] at A39 D39 st39
    have ne40 : w_INT ≠ b39 := Nat.ne_of_lt (Nat.lt_of_lt_of_le E_INT__34.lt (Nat.le_of_eq g39.symm))
    have ne41 : b30 ≠ b39 := Nat.ne_of_lt (Nat.lt_of_lt_of_le EE33__34.lt (Nat.le_of_eq g39.symm))
    have ne42 : w_c ≠ b39 := Nat.ne_of_lt (Nat.lt_of_lt_of_le Ar__34.lt (Nat.le_of_eq g39.symm))
    have ne43 : b34 ≠ b39 := Nat.ne_of_lt (Nat.lt_of_lt_of_le A34.lt (Nat.le_of_eq g39.symm))
    have g_b39 : n0 ≤ b39 := Nat.le_trans Z34 (Nat.le_of_eq g39.symm)
    have S_INT__39 := S_INT__34.ext E39
    have E_INT__39 := E_INT__34.ext E39
    have S_high__39 := S_high__34.ext E39
    have S_cache__39 := S_cache__34.ext E39
    have EE33__39 := EE33__34.ext E39
    have F_value_b30__39 := F_value_b30__34.ext E39
    have A34__39 := A34.ext E39
    have F_type_b34__39 := F_type_b34.ext E39
    have F_value_b34__39 := F_value_b34.ext E39
    have Z39 : n0 ≤ h39.size := Nat.le_trans Z34 E39.1
    have Ar__39 := Ar__34.ext E39
    have hC__39 : ∀ j : Int32, ¬ (j < 0 ∨ cl.slots.size ≤ j.toNatClampNeg) → ∃ r, cl.slots[j.toNatClampNeg]? = some (.ref r) ∧ Exa Z h39 r "java/lang/Integer" := fun j hj => by obtain ⟨r, hr, Er⟩ := hC__34 j hj; exact ⟨r, hr, Er.ext E39⟩
    have F_value_b39 : Fld Z h39 b39 "com/example/prudent_checker/prudentchecker/language/IntegerLiteral" "value" "I" (.int (0 : Int32)) := D39 (Or.inr (hw _ (List.mem_of_getElem? (i := 15) rfl))) (ty := .int) (by decide)
    refine Go.st st39 ?_
    show Go _ _ _ _ _ _ _ T39 (mkF m 187 #[.val (.int p0), .val (.int p1), .val (.int p2), .val (.int (3 : Int32)), .val (.int (0 : Int32)), .val (.int p1), .val (.int (3 : Int32)), .val (.ref b30), .unset, .unset] [(.ref b39), (.ref w_INT), (.ref b34), (.ref b34)])
    refine Go.st (fun _ k => XS.dup X39.here hx rfl (hb hby at_187) rfl rfl k) ?_
    show Go _ _ _ _ _ _ _ T39 (mkF m 188 #[.val (.int p0), .val (.int p1), .val (.int p2), .val (.int (3 : Int32)), .val (.int (0 : Int32)), .val (.int p1), .val (.int (3 : Int32)), .val (.ref b30), .unset, .unset] [(.ref b39), (.ref b39), (.ref w_INT), (.ref b34), (.ref b34)])
    refine Go.st (fun _ k => XS.iloadN X39.here hx rfl (hb hby at_188) rfl k) ?_
    show Go _ _ _ _ _ _ _ T39 (mkF m 189 #[.val (.int p0), .val (.int p1), .val (.int p2), .val (.int (3 : Int32)), .val (.int (0 : Int32)), .val (.int p1), .val (.int (3 : Int32)), .val (.ref b30), .unset, .unset] [(.int p0), (.ref b39), (.ref b39), (.ref w_INT), (.ref b34), (.ref b34)])
    obtain ⟨_, _, ⟨T44, L44, k44, n44⟩, -, X44, ⟨Lc44, hQ44, l44, y44, z44⟩, st44⟩ := X39.specialBack hx (y := (⟨"com/example/prudent_checker/prudentchecker/language/IntegerLiteral", "<init>", "(I)V"⟩ : MethodName)) rfl hown (mvT hZ (hw _ (List.mem_of_getElem? (i := 3) rfl))) (mvT hZ (hw _ (List.mem_of_getElem? (i := 4) rfl))) (mvT hZ (hw _ (List.mem_of_getElem? (i := 5) rfl))) (by decide) (backOf (W := 4) (rm1 l Z a0 hw [] b39 p0 (0 : Int32) h39 n0 Z39 A39 F_value_b39 g_b39) hZ (hw _ (List.mem_of_getElem? (i := 5) rfl)) (hw _ (List.mem_of_getElem? (i := 2) rfl)) (by decide) (by decide)) (g := (mkF m 189 #[.val (.int p0), .val (.int p1), .val (.int p2), .val (.int (3 : Int32)), .val (.int (0 : Int32)), .val (.int p1), .val (.int (3 : Int32)), .val (.ref b30), .unset, .unset] [(.int p0), (.ref b39), (.ref b39), (.ref w_INT), (.ref b34), (.ref b34)])) rfl (by rw [hml]; rfl) (Steps.refl _) (a := b39) (argsL := [(.int p0)]) (rest := [(.ref b39), (.ref w_INT), (.ref b34), (.ref b34)]) (lenOf pd_1 rfl) rfl (by show 2 * 0 + _ ≤ _; exact Nat.le_of_eq rfl) (hb hby at_189) (fun _ _ => ⟨rfl, e39, (by decide : 3 + 0 ≤ _), (by decide : 4 + 0 ≤ _)⟩)
    dsimp only [Pt.U, Pt.locs, Pt.cells, Pt.slots] at X44 l44 y44 z44 st44 hQ44
    subst l44 y44 z44
    generalize e44 : T44.heap = h44 at hQ44
    obtain ⟨rfl, N44q, K44, EE44, FF_value_44⟩ := hQ44
    have N44 := Fr.app N33 N44q
    refine Go.st (fun _ k => st44.trans k) ?_
    have S_INT__44 := own_sta S_INT__39 K44 (allS A39.cell (all0))
    have E_INT__44 := E_INT__39.keep K44
    have S_high__44 := own_sta S_high__39 K44 (allS A39.cell (all0))
    have S_cache__44 := own_sta S_cache__39 K44 (allS A39.cell (all0))
    have EE33__44 := EE33__39.keep K44
    have F_value_b30__44 := F_value_b30__39.keep K44 (ninS ne41 (nin0))
    have A34__44 := A34__39.keep K44
    have F_type_b34__44 := F_type_b34__39.keep K44 (ninS ne43 (nin0))
    have F_value_b34__44 := F_value_b34__39.keep K44 (ninS ne43 (nin0))
    have A39__44 := A39.keep K44
    have Z44 : n0 ≤ h44.size := Nat.le_trans Z39 K44.1
    have Ar__44 : Arr Z h44 w_c cl _ := own_arrk Ar__39 K44 (ninS ne42 (nin0))
    have hC__44 : ∀ j : Int32, ¬ (j < 0 ∨ cl.slots.size ≤ j.toNatClampNeg) → ∃ r, cl.slots[j.toNatClampNeg]? = some (.ref r) ∧ Exa Z h44 r "java/lang/Integer" := fun j hj => by obtain ⟨r, hr, Er⟩ := hC__39 j hj; exact ⟨r, hr, Er.keep K44⟩
    rw [show (val_1_value b39 p0 (0 : Int32)) = p0 from by unfold val_1_value; rfl] at FF_value_44
    have F_value_b39__44 := FF_value_44
    show Go _ _ _ _ _ _ _ T44 (mkF m 192 #[.val (.int p0), .val (.int p1), .val (.int p2), .val (.int (3 : Int32)), .val (.int (0 : Int32)), .val (.int p1), .val (.int (3 : Int32)), .val (.ref b30), .unset, .unset] [(.ref b39), (.ref w_INT), (.ref b34), (.ref b34)])
    obtain ⟨_, _, ⟨T45, L45, k45, n45⟩, -, X45, ⟨Lc45, hQ45, l45, y45, z45⟩, st45⟩ := X44.specialBack hx (y := (⟨"com/example/prudent_checker/prudentchecker/language/StoredValue", "<init>", "(Lcom/example/prudent_checker/prudentchecker/language/ScalarType;Lcom/example/prudent_checker/prudentchecker/language/Expression;)V"⟩ : MethodName)) rfl hown (mvT hZ (hw _ (List.mem_of_getElem? (i := 38) rfl))) (mvT hZ (hw _ (List.mem_of_getElem? (i := 39) rfl))) (mvT hZ (hw _ (List.mem_of_getElem? (i := 40) rfl))) (by decide) (backOf (W := 1) (rm6 l Z a0 hw [] b34 w_INT b39 .null .null h44 n0 Z44 A34__44 F_type_b34__44 F_value_b34__44 g_b34) hZ (hw _ (List.mem_of_getElem? (i := 40) rfl)) (hw _ (List.mem_of_getElem? (i := 34) rfl)) (by decide) (by decide)) (g := (mkF m 192 #[.val (.int p0), .val (.int p1), .val (.int p2), .val (.int (3 : Int32)), .val (.int (0 : Int32)), .val (.int p1), .val (.int (3 : Int32)), .val (.ref b30), .unset, .unset] [(.ref b39), (.ref w_INT), (.ref b34), (.ref b34)])) rfl (by rw [hml]; rfl) (Steps.refl _) (a := b34) (argsL := [(.ref w_INT), (.ref b39)]) (rest := [(.ref b34)]) (lenOf pd_4 rfl) rfl (by show 2 * 0 + _ ≤ _; exact Nat.le_of_eq rfl) (hb hby at_192) (fun _ _ => ⟨rfl, e44, (by decide : 3 + 0 ≤ _), (by decide : 4 + 0 ≤ _)⟩)
    dsimp only [Pt.U, Pt.locs, Pt.cells, Pt.slots] at X45 l45 y45 z45 st45 hQ45
    subst l45 y45 z45
    generalize e45 : T45.heap = h45 at hQ45
    obtain ⟨rfl, N45q, K45, EE45, FF_type_45, FF_value_45⟩ := hQ45
    have N45 := Fr.app N44 N45q
    refine Go.st (fun _ k => st45.trans k) ?_
    have S_INT__45 := own_sta S_INT__44 K45 (allS A34__44.cell (all0))
    have E_INT__45 := E_INT__44.keep K45
    have S_high__45 := own_sta S_high__44 K45 (allS A34__44.cell (all0))
    have S_cache__45 := own_sta S_cache__44 K45 (allS A34__44.cell (all0))
    have EE33__45 := EE33__44.keep K45
    have F_value_b30__45 := F_value_b30__44.keep K45 (ninS ne36 (nin0))
    have A34__45 := A34__44.keep K45
    have EE44__45 := EE44.keep K45
    have F_value_b39__45 := F_value_b39__44.keep K45 (ninS (Ne.symm ne43) (nin0))
    have Z45 : n0 ≤ h45.size := Nat.le_trans Z44 K45.1
    have Ar__45 : Arr Z h45 w_c cl _ := own_arrk Ar__44 K45 (ninS ne37 (nin0))
    have hC__45 : ∀ j : Int32, ¬ (j < 0 ∨ cl.slots.size ≤ j.toNatClampNeg) → ∃ r, cl.slots[j.toNatClampNeg]? = some (.ref r) ∧ Exa Z h45 r "java/lang/Integer" := fun j hj => by obtain ⟨r, hr, Er⟩ := hC__44 j hj; exact ⟨r, hr, Er.keep K45⟩
    rw [show (val_6_type b34 w_INT b39 .null .null) = (.ref w_INT) from by unfold val_6_type; rfl] at FF_type_45
    have F_type_b34__45 := FF_type_45
    rw [show (val_6_value b34 w_INT b39 .null .null) = (.ref b39) from by unfold val_6_value; rfl] at FF_value_45
    have F_value_b34__45 := FF_value_45
    show Go _ _ _ _ _ _ _ T45 (mkF m 195 #[.val (.int p0), .val (.int p1), .val (.int p2), .val (.int (3 : Int32)), .val (.int (0 : Int32)), .val (.int p1), .val (.int (3 : Int32)), .val (.ref b30), .unset, .unset] [(.ref b34)])
    refine Go.st (fun _ k => XS.astore X45.here hx rfl (hb hby at_195) rfl rfl (l' := #[.val (.int p0), .val (.int p1), .val (.int p2), .val (.int (3 : Int32)), .val (.int (0 : Int32)), .val (.int p1), .val (.int (3 : Int32)), .val (.ref b30), .val (.ref b34), .unset]) rfl k) ?_
    show Go _ _ _ _ _ _ _ T45 (mkF m 197 #[.val (.int p0), .val (.int p1), .val (.int p2), .val (.int (3 : Int32)), .val (.int (0 : Int32)), .val (.int p1), .val (.int (3 : Int32)), .val (.ref b30), .val (.ref b34), .unset] [])
    refine Go.st (fun _ k => XS.aload X45.here hx rfl (hb hby at_197) rfl rfl k) ?_
    show Go _ _ _ _ _ _ _ T45 (mkF m 199 #[.val (.int p0), .val (.int p1), .val (.int p2), .val (.int (3 : Int32)), .val (.int (0 : Int32)), .val (.int p1), .val (.int (3 : Int32)), .val (.ref b30), .val (.ref b34), .unset] [(.ref b30)])
    refine Go.st (fun _ k => XS.aload X45.here hx rfl (hb hby at_199) rfl rfl k) ?_
    show Go _ _ _ _ _ _ _ T45 (mkF m 201 #[.val (.int p0), .val (.int p1), .val (.int p2), .val (.int (3 : Int32)), .val (.int (0 : Int32)), .val (.int p1), .val (.int (3 : Int32)), .val (.ref b30), .val (.ref b34), .unset] [(.ref b34), (.ref b30)])
    obtain ⟨cq46, kq46, q46a, q46b, q46c⟩ := isOf hZ e45 EE33__45
    obtain ⟨_, _, ⟨T46, L46, k46, n46⟩, -, X46, ⟨Lc46, hQ46, l46, y46, z46⟩, st46⟩ := X45.virtualBack hx (y := (⟨"com/example/prudent_checker/prudentchecker/language/IntegerLiteral", "equals", "(Ljava/lang/Object;)Z"⟩ : MethodName)) (z := (⟨"com/example/prudent_checker/prudentchecker/language/IntegerLiteral", "equals", "(Ljava/lang/Object;)Z"⟩ : MethodName)) hown (mvT hZ (hw _ (List.mem_of_getElem? (i := 23) rfl))) (mvT hZ (hw _ (List.mem_of_getElem? (i := 24) rfl))) (notFace_of_selects (args := #[]) (mvT hZ (hw _ (List.mem_of_getElem? (i := 26) rfl)))) (mvT hZ (hw _ (List.mem_of_getElem? (i := 26) rfl))) (mvT hZ (hw _ (List.mem_of_getElem? (i := 25) rfl))) (by decide) (backOf (W := 0) (rm5s l Z a0 hw [] b30 b34  h45 n0 Z45 EE45) hZ (hw _ (List.mem_of_getElem? (i := 27) rfl)) (hw _ (List.mem_of_getElem? (i := 2) rfl)) (by decide) (by decide)) q46a q46c (g := (mkF m 201 #[.val (.int p0), .val (.int p1), .val (.int p2), .val (.int (3 : Int32)), .val (.int (0 : Int32)), .val (.int p1), .val (.int (3 : Int32)), .val (.ref b30), .val (.ref b34), .unset] [(.ref b34), (.ref b30)])) rfl (by rw [hml]; rfl) (Steps.refl _) (argsL := [(.ref b34)]) (rest := []) (lenOf pd_2 rfl) rfl (by show 2 * 0 + _ ≤ _; exact Nat.le_of_eq rfl) (hb hby at_201) (fun _ _ => ⟨rfl, e45, (by decide : 3 + 0 ≤ _), (by decide : 4 + 0 ≤ _)⟩)
    dsimp only [Pt.U, Pt.locs, Pt.cells, Pt.slots] at X46 l46 y46 z46 st46 hQ46
    subst l46 y46 z46
    obtain ⟨rfl, N46q, e46⟩ := hQ46
    have N46 := Fr.app N45 N46q
    refine Go.st (fun _ k => st46.trans k) ?_
    show Go _ _ _ _ _ _ _ T46 (mkF m 204 #[.val (.int p0), .val (.int p1), .val (.int p2), .val (.int (3 : Int32)), .val (.int (0 : Int32)), .val (.int p1), .val (.int (3 : Int32)), .val (.ref b30), .val (.ref b34), .unset] [(.int (val_5s b30 b34))])
    rw [show (val_5s b30 b34) = (0 : Int32) from by unfold val_5s; rfl]
    show Go _ _ _ _ _ _ _ T46 (mkF m 204 #[.val (.int p0), .val (.int p1), .val (.int p2), .val (.int (3 : Int32)), .val (.int (0 : Int32)), .val (.int p1), .val (.int (3 : Int32)), .val (.ref b30), .val (.ref b34), .unset] [(.int (0 : Int32))])
    refine Go.st (fun _ k => XS.ifNo X46.here hx rfl (hb hby at_204) rfl ((if0 _ _).trans (teq (by decide : (0 : Int32) = (0 : Int32))).2) k) ?_
    show Go _ _ _ _ _ _ _ T46 (mkF m 207 #[.val (.int p0), .val (.int p1), .val (.int p2), .val (.int (3 : Int32)), .val (.int (0 : Int32)), .val (.int p1), .val (.int (3 : Int32)), .val (.ref b30), .val (.ref b34), .unset] [])
    refine Go.st (fun _ k => XS.iconst X46.here hx rfl (hb hby at_207) k) ?_
    show Go _ _ _ _ _ _ _ T46 (mkF m 208 #[.val (.int p0), .val (.int p1), .val (.int p2), .val (.int (3 : Int32)), .val (.int (0 : Int32)), .val (.int p1), .val (.int (3 : Int32)), .val (.ref b30), .val (.ref b34), .unset] [(.int (1 : Int32))])
    refine Go.st (fun _ k => XS.goto X46.here hx rfl (pc0 := 208) (pc' := 212) rfl (hb hby at_208) (by decide) (by decide) k) ?_
    show Go _ _ _ _ _ _ _ T46 (mkF m 212 #[.val (.int p0), .val (.int p1), .val (.int p2), .val (.int (3 : Int32)), .val (.int (0 : Int32)), .val (.int p1), .val (.int (3 : Int32)), .val (.ref b30), .val (.ref b34), .unset] [(.int (1 : Int32))])
    refine Go.ret X46 hlk (v := some (.int (1 : Int32))) (fun h => by rw [hret] at h; cases h) (fun fs hr => retN X46 hx (t := .boolean) hret (by simp) (hb hby at_212) hr) ?_ (by decide) (by decide)
    show Q0 Z p0 p1 p2 w_INT w_c cl h0 n0 (some (.int (1 : Int32))) T46.heap _
    rw [e46]
    exact ⟨rfl, N46⟩
  · rw [hk1]
    show Go _ _ _ _ _ _ _ s₁ (mkF m 4 #[.val (.int p0), .val (.int p1), .val (.int p2), .unset, .unset, .unset, .unset, .unset, .unset, .unset] [(.int (4 : Int32))])
    refine Go.st (fun _ k => XS.istoreN X0.here hx rfl (hb hby at_4) rfl (l' := #[.val (.int p0), .val (.int p1), .val (.int p2), .val (.int (4 : Int32)), .unset, .unset, .unset, .unset, .unset, .unset]) rfl k) ?_
    show Go _ _ _ _ _ _ _ s₁ (mkF m 5 #[.val (.int p0), .val (.int p1), .val (.int p2), .val (.int (4 : Int32)), .unset, .unset, .unset, .unset, .unset, .unset] [])
    refine Go.st (fun _ k => XS.iloadN X0.here hx rfl (hb hby at_5) rfl k) ?_
    show Go _ _ _ _ _ _ _ s₁ (mkF m 6 #[.val (.int p0), .val (.int p1), .val (.int p2), .val (.int (4 : Int32)), .unset, .unset, .unset, .unset, .unset, .unset] [(.int (4 : Int32))])
    refine Go.st (fun _ k => XS.iconst X0.here hx rfl (hb hby at_6) k) ?_
    show Go _ _ _ _ _ _ _ s₁ (mkF m 7 #[.val (.int p0), .val (.int p1), .val (.int p2), .val (.int (4 : Int32)), .unset, .unset, .unset, .unset, .unset, .unset] [(.int (4 : Int32)), (.int (4 : Int32))])
    refine Go.st (fun _ k => XS.iand X0.here hx rfl (hb hby at_7) rfl k) ?_
    show Go _ _ _ _ _ _ _ s₁ (mkF m 8 #[.val (.int p0), .val (.int p1), .val (.int p2), .val (.int (4 : Int32)), .unset, .unset, .unset, .unset, .unset, .unset] [(.int ((4 : Int32) &&& (4 : Int32)))])
    refine Go.fr (f' := (mkF m 8 #[.val (.int p0), .val (.int p1), .val (.int p2), .val (.int (4 : Int32)), .unset, .unset, .unset, .unset, .unset, .unset] [(.int (4 : Int32))])) (by rw [show ((4 : Int32) &&& (4 : Int32)) = (4 : Int32) from by decide +kernel]) ?_
    show Go _ _ _ _ _ _ _ s₁ (mkF m 8 #[.val (.int p0), .val (.int p1), .val (.int p2), .val (.int (4 : Int32)), .unset, .unset, .unset, .unset, .unset, .unset] [(.int (4 : Int32))])
    refine Go.st (fun _ k => XS.ifNo X0.here hx rfl (hb hby at_8) rfl ((if0 _ _).trans (feq (by decide : ¬ ((4 : Int32) = (0 : Int32)))).1) k) ?_
    show Go _ _ _ _ _ _ _ s₁ (mkF m 11 #[.val (.int p0), .val (.int p1), .val (.int p2), .val (.int (4 : Int32)), .unset, .unset, .unset, .unset, .unset, .unset] [])
    refine Go.st (fun _ k => XS.iconst X0.here hx rfl (hb hby at_11) k) ?_
    show Go _ _ _ _ _ _ _ s₁ (mkF m 12 #[.val (.int p0), .val (.int p1), .val (.int p2), .val (.int (4 : Int32)), .unset, .unset, .unset, .unset, .unset, .unset] [(.int (1 : Int32))])
    refine Go.st (fun _ k => XS.goto X0.here hx rfl (pc0 := 12) (pc' := 16) rfl (hb hby at_12) (by decide) (by decide) k) ?_
    show Go _ _ _ _ _ _ _ s₁ (mkF m 16 #[.val (.int p0), .val (.int p1), .val (.int p2), .val (.int (4 : Int32)), .unset, .unset, .unset, .unset, .unset, .unset] [(.int (1 : Int32))])
    refine Go.st (fun _ k => XS.istore X0.here hx rfl (hb hby at_16) rfl (l' := #[.val (.int p0), .val (.int p1), .val (.int p2), .val (.int (4 : Int32)), .val (.int (1 : Int32)), .unset, .unset, .unset, .unset, .unset]) rfl k) ?_
    show Go _ _ _ _ _ _ _ s₁ (mkF m 18 #[.val (.int p0), .val (.int p1), .val (.int p2), .val (.int (4 : Int32)), .val (.int (1 : Int32)), .unset, .unset, .unset, .unset, .unset] [])
    refine Go.st (fun _ k => XS.iload X0.here hx rfl (hb hby at_18) rfl k) ?_
    show Go _ _ _ _ _ _ _ s₁ (mkF m 20 #[.val (.int p0), .val (.int p1), .val (.int p2), .val (.int (4 : Int32)), .val (.int (1 : Int32)), .unset, .unset, .unset, .unset, .unset] [(.int (1 : Int32))])
    refine Go.st (fun _ k => XS.ifNo X0.here hx rfl (hb hby at_20) rfl ((if0 _ _).trans (feq (by decide : ¬ ((1 : Int32) = (0 : Int32)))).1) k) ?_
    show Go _ _ _ _ _ _ _ s₁ (mkF m 23 #[.val (.int p0), .val (.int p1), .val (.int p2), .val (.int (4 : Int32)), .val (.int (1 : Int32)), .unset, .unset, .unset, .unset, .unset] [])
    refine Go.st (fun _ k => XS.iloadN X0.here hx rfl (hb hby at_23) rfl k) ?_
    show Go _ _ _ _ _ _ _ s₁ (mkF m 24 #[.val (.int p0), .val (.int p1), .val (.int p2), .val (.int (4 : Int32)), .val (.int (1 : Int32)), .unset, .unset, .unset, .unset, .unset] [(.int p0)])
    refine Go.st (fun _ k => XS.goto X0.here hx rfl (pc0 := 24) (pc' := 28) rfl (hb hby at_24) (by decide) (by decide) k) ?_
    show Go _ _ _ _ _ _ _ s₁ (mkF m 28 #[.val (.int p0), .val (.int p1), .val (.int p2), .val (.int (4 : Int32)), .val (.int (1 : Int32)), .unset, .unset, .unset, .unset, .unset] [(.int p0)])
    refine Go.st (fun _ k => XS.istore X0.here hx rfl (hb hby at_28) rfl (l' := #[.val (.int p0), .val (.int p1), .val (.int p2), .val (.int (4 : Int32)), .val (.int (1 : Int32)), .val (.int p0), .unset, .unset, .unset, .unset]) rfl k) ?_
    show Go _ _ _ _ _ _ _ s₁ (mkF m 30 #[.val (.int p0), .val (.int p1), .val (.int p2), .val (.int (4 : Int32)), .val (.int (1 : Int32)), .val (.int p0), .unset, .unset, .unset, .unset] [])
    refine Go.st (fun _ k => XS.iloadN X0.here hx rfl (hb hby at_30) rfl k) ?_
    show Go _ _ _ _ _ _ _ s₁ (mkF m 31 #[.val (.int p0), .val (.int p1), .val (.int p2), .val (.int (4 : Int32)), .val (.int (1 : Int32)), .val (.int p0), .unset, .unset, .unset, .unset] [(.int (4 : Int32))])
    refine Go.st (fun _ k => XS.iconst X0.here hx rfl (hb hby at_31) k) ?_
    show Go _ _ _ _ _ _ _ s₁ (mkF m 32 #[.val (.int p0), .val (.int p1), .val (.int p2), .val (.int (4 : Int32)), .val (.int (1 : Int32)), .val (.int p0), .unset, .unset, .unset, .unset] [(.int (3 : Int32)), (.int (4 : Int32))])
    refine Go.st (fun _ k => XS.iand X0.here hx rfl (hb hby at_32) rfl k) ?_
    show Go _ _ _ _ _ _ _ s₁ (mkF m 33 #[.val (.int p0), .val (.int p1), .val (.int p2), .val (.int (4 : Int32)), .val (.int (1 : Int32)), .val (.int p0), .unset, .unset, .unset, .unset] [(.int ((4 : Int32) &&& (3 : Int32)))])
    refine Go.fr (f' := (mkF m 33 #[.val (.int p0), .val (.int p1), .val (.int p2), .val (.int (4 : Int32)), .val (.int (1 : Int32)), .val (.int p0), .unset, .unset, .unset, .unset] [(.int (0 : Int32))])) (by rw [show ((4 : Int32) &&& (3 : Int32)) = (0 : Int32) from by decide +kernel]) ?_
    show Go _ _ _ _ _ _ _ s₁ (mkF m 33 #[.val (.int p0), .val (.int p1), .val (.int p2), .val (.int (4 : Int32)), .val (.int (1 : Int32)), .val (.int p0), .unset, .unset, .unset, .unset] [(.int (0 : Int32))])
    refine Go.st (fun _ k => XS.istore X0.here hx rfl (hb hby at_33) rfl (l' := #[.val (.int p0), .val (.int p1), .val (.int p2), .val (.int (4 : Int32)), .val (.int (1 : Int32)), .val (.int p0), .val (.int (0 : Int32)), .unset, .unset, .unset]) rfl k) ?_
    show Go _ _ _ _ _ _ _ s₁ (mkF m 35 #[.val (.int p0), .val (.int p1), .val (.int p2), .val (.int (4 : Int32)), .val (.int (1 : Int32)), .val (.int p0), .val (.int (0 : Int32)), .unset, .unset, .unset] [])
    obtain ⟨T47, h47, X47, e47, E47, A47, D47, -, st47⟩ := newO X0 hx hZ hown (hw _ (List.mem_of_getElem? (i := 0) rfl)) (hw _ (List.mem_of_getElem? (i := 1) rfl)) (hw _ (List.mem_of_getElem? (i := 2) rfl)) e0 (g := (mkF m 35 #[.val (.int p0), .val (.int p1), .val (.int p2), .val (.int (4 : Int32)), .val (.int (1 : Int32)), .val (.int p0), .val (.int (0 : Int32)), .unset, .unset, .unset] [])) rfl (hb hby at_35) (by decide) (by decide)
    obtain ⟨b47, g47⟩ : ∃ z, z = h0.size := ⟨_, rfl⟩
    rw [← g47] at A47 D47 st47
    have ne48 : w_INT ≠ b47 := Nat.ne_of_lt (Nat.lt_of_lt_of_le E_INT.lt (Nat.le_of_eq g47.symm))
    have ne49 : w_c ≠ b47 := Nat.ne_of_lt (Nat.lt_of_lt_of_le Ar.lt (Nat.le_of_eq g47.symm))
    have g_b47 : n0 ≤ b47 := Nat.le_trans Z0 (Nat.le_of_eq g47.symm)
    have S_INT__47 := S_INT.ext E47
    have E_INT__47 := E_INT.ext E47
    have S_high__47 := S_high.ext E47
    have S_cache__47 := S_cache.ext E47
    have Z47 : n0 ≤ h47.size := Nat.le_trans Z0 E47.1
    have Ar__47 := Ar.ext E47
    have hC__47 : ∀ j : Int32, ¬ (j < 0 ∨ cl.slots.size ≤ j.toNatClampNeg) → ∃ r, cl.slots[j.toNatClampNeg]? = some (.ref r) ∧ Exa Z h47 r "java/lang/Integer" := fun j hj => by obtain ⟨r, hr, Er⟩ := hC j hj; exact ⟨r, hr, Er.ext E47⟩
    have F_value_b47 : Fld Z h47 b47 "com/example/prudent_checker/prudentchecker/language/IntegerLiteral" "value" "I" (.int (0 : Int32)) := D47 (Or.inr (hw _ (List.mem_of_getElem? (i := 15) rfl))) (ty := .int) (by decide)
    refine Go.st st47 ?_
    show Go _ _ _ _ _ _ _ T47 (mkF m 38 #[.val (.int p0), .val (.int p1), .val (.int p2), .val (.int (4 : Int32)), .val (.int (1 : Int32)), .val (.int p0), .val (.int (0 : Int32)), .unset, .unset, .unset] [(.ref b47)])
    refine Go.st (fun _ k => XS.dup X47.here hx rfl (hb hby at_38) rfl rfl k) ?_
    show Go _ _ _ _ _ _ _ T47 (mkF m 39 #[.val (.int p0), .val (.int p1), .val (.int p2), .val (.int (4 : Int32)), .val (.int (1 : Int32)), .val (.int p0), .val (.int (0 : Int32)), .unset, .unset, .unset] [(.ref b47), (.ref b47)])
    refine Go.st (fun _ k => XS.iloadN X47.here hx rfl (hb hby at_39) rfl k) ?_
    show Go _ _ _ _ _ _ _ T47 (mkF m 40 #[.val (.int p0), .val (.int p1), .val (.int p2), .val (.int (4 : Int32)), .val (.int (1 : Int32)), .val (.int p0), .val (.int (0 : Int32)), .unset, .unset, .unset] [(.int p0), (.ref b47), (.ref b47)])
    obtain ⟨_, _, ⟨T50, L50, k50, n50⟩, -, X50, ⟨Lc50, hQ50, l50, y50, z50⟩, st50⟩ := X47.specialBack hx (y := (⟨"com/example/prudent_checker/prudentchecker/language/IntegerLiteral", "<init>", "(I)V"⟩ : MethodName)) rfl hown (mvT hZ (hw _ (List.mem_of_getElem? (i := 3) rfl))) (mvT hZ (hw _ (List.mem_of_getElem? (i := 4) rfl))) (mvT hZ (hw _ (List.mem_of_getElem? (i := 5) rfl))) (by decide) (backOf (W := 1) (rm1 l Z a0 hw [] b47 p0 (0 : Int32) h47 n0 Z47 A47 F_value_b47 g_b47) hZ (hw _ (List.mem_of_getElem? (i := 5) rfl)) (hw _ (List.mem_of_getElem? (i := 2) rfl)) (by decide) (by decide)) (g := (mkF m 40 #[.val (.int p0), .val (.int p1), .val (.int p2), .val (.int (4 : Int32)), .val (.int (1 : Int32)), .val (.int p0), .val (.int (0 : Int32)), .unset, .unset, .unset] [(.int p0), (.ref b47), (.ref b47)])) rfl (by rw [hml]; rfl) (Steps.refl _) (a := b47) (argsL := [(.int p0)]) (rest := [(.ref b47)]) (lenOf pd_1 rfl) rfl (by show 2 * 0 + _ ≤ _; exact Nat.le_of_eq rfl) (hb hby at_40) (fun _ _ => ⟨rfl, e47, (by decide : 1 + 0 ≤ _), (by decide : 1 + 0 ≤ _)⟩)
    dsimp only [Pt.U, Pt.locs, Pt.cells, Pt.slots] at X50 l50 y50 z50 st50 hQ50
    subst l50 y50 z50
    generalize e50 : T50.heap = h50 at hQ50
    obtain ⟨rfl, N50q, K50, EE50, FF_value_50⟩ := hQ50
    have N50 := Fr.app N0 N50q
    refine Go.st (fun _ k => st50.trans k) ?_
    have S_INT__50 := own_sta S_INT__47 K50 (allS A47.cell (all0))
    have E_INT__50 := E_INT__47.keep K50
    have S_high__50 := own_sta S_high__47 K50 (allS A47.cell (all0))
    have S_cache__50 := own_sta S_cache__47 K50 (allS A47.cell (all0))
    have A47__50 := A47.keep K50
    have Z50 : n0 ≤ h50.size := Nat.le_trans Z47 K50.1
    have Ar__50 : Arr Z h50 w_c cl _ := own_arrk Ar__47 K50 (ninS ne49 (nin0))
    have hC__50 : ∀ j : Int32, ¬ (j < 0 ∨ cl.slots.size ≤ j.toNatClampNeg) → ∃ r, cl.slots[j.toNatClampNeg]? = some (.ref r) ∧ Exa Z h50 r "java/lang/Integer" := fun j hj => by obtain ⟨r, hr, Er⟩ := hC__47 j hj; exact ⟨r, hr, Er.keep K50⟩
    rw [show (val_1_value b47 p0 (0 : Int32)) = p0 from by unfold val_1_value; rfl] at FF_value_50
    have F_value_b47__50 := FF_value_50
    show Go _ _ _ _ _ _ _ T50 (mkF m 43 #[.val (.int p0), .val (.int p1), .val (.int p2), .val (.int (4 : Int32)), .val (.int (1 : Int32)), .val (.int p0), .val (.int (0 : Int32)), .unset, .unset, .unset] [(.ref b47)])
    refine Go.st (fun _ k => XS.astore X50.here hx rfl (hb hby at_43) rfl rfl (l' := #[.val (.int p0), .val (.int p1), .val (.int p2), .val (.int (4 : Int32)), .val (.int (1 : Int32)), .val (.int p0), .val (.int (0 : Int32)), .val (.ref b47), .unset, .unset]) rfl k) ?_
    show Go _ _ _ _ _ _ _ T50 (mkF m 45 #[.val (.int p0), .val (.int p1), .val (.int p2), .val (.int (4 : Int32)), .val (.int (1 : Int32)), .val (.int p0), .val (.int (0 : Int32)), .val (.ref b47), .unset, .unset] [])
    refine Go.st (fun _ k => XS.iload X50.here hx rfl (hb hby at_45) rfl k) ?_
    show Go _ _ _ _ _ _ _ T50 (mkF m 47 #[.val (.int p0), .val (.int p1), .val (.int p2), .val (.int (4 : Int32)), .val (.int (1 : Int32)), .val (.int p0), .val (.int (0 : Int32)), .val (.ref b47), .unset, .unset] [(.int (0 : Int32))])
    refine Go.st (fun _ k => XS.ifNo X50.here hx rfl (hb hby at_47) rfl ((if0 _ _).trans (teq (by decide : (0 : Int32) = (0 : Int32))).2) k) ?_
    show Go _ _ _ _ _ _ _ T50 (mkF m 50 #[.val (.int p0), .val (.int p1), .val (.int p2), .val (.int (4 : Int32)), .val (.int (1 : Int32)), .val (.int p0), .val (.int (0 : Int32)), .val (.ref b47), .unset, .unset] [])
    obtain ⟨T51, h51, X51, e51, E51, A51, D51, -, st51⟩ := newO X50 hx hZ hown (hw _ (List.mem_of_getElem? (i := 0) rfl)) (hw _ (List.mem_of_getElem? (i := 1) rfl)) (hw _ (List.mem_of_getElem? (i := 2) rfl)) e50 (g := (mkF m 50 #[.val (.int p0), .val (.int p1), .val (.int p2), .val (.int (4 : Int32)), .val (.int (1 : Int32)), .val (.int p0), .val (.int (0 : Int32)), .val (.ref b47), .unset, .unset] [])) rfl (hb hby at_50) (by decide) (by decide)
    obtain ⟨b51, g51⟩ : ∃ z, z = h50.size := ⟨_, rfl⟩
    rw [← g51] at A51 D51 st51
    have ne52 : w_INT ≠ b51 := Nat.ne_of_lt (Nat.lt_of_lt_of_le E_INT__50.lt (Nat.le_of_eq g51.symm))
    have ne53 : b47 ≠ b51 := Nat.ne_of_lt (Nat.lt_of_lt_of_le EE50.lt (Nat.le_of_eq g51.symm))
    have ne54 : w_c ≠ b51 := Nat.ne_of_lt (Nat.lt_of_lt_of_le Ar__50.lt (Nat.le_of_eq g51.symm))
    have g_b51 : n0 ≤ b51 := Nat.le_trans Z50 (Nat.le_of_eq g51.symm)
    have S_INT__51 := S_INT__50.ext E51
    have E_INT__51 := E_INT__50.ext E51
    have S_high__51 := S_high__50.ext E51
    have S_cache__51 := S_cache__50.ext E51
    have EE50__51 := EE50.ext E51
    have F_value_b47__51 := F_value_b47__50.ext E51
    have Z51 : n0 ≤ h51.size := Nat.le_trans Z50 E51.1
    have Ar__51 := Ar__50.ext E51
    have hC__51 : ∀ j : Int32, ¬ (j < 0 ∨ cl.slots.size ≤ j.toNatClampNeg) → ∃ r, cl.slots[j.toNatClampNeg]? = some (.ref r) ∧ Exa Z h51 r "java/lang/Integer" := fun j hj => by obtain ⟨r, hr, Er⟩ := hC__50 j hj; exact ⟨r, hr, Er.ext E51⟩
    have F_value_b51 : Fld Z h51 b51 "com/example/prudent_checker/prudentchecker/language/IntegerLiteral" "value" "I" (.int (0 : Int32)) := D51 (Or.inr (hw _ (List.mem_of_getElem? (i := 15) rfl))) (ty := .int) (by decide)
    refine Go.st st51 ?_
    show Go _ _ _ _ _ _ _ T51 (mkF m 53 #[.val (.int p0), .val (.int p1), .val (.int p2), .val (.int (4 : Int32)), .val (.int (1 : Int32)), .val (.int p0), .val (.int (0 : Int32)), .val (.ref b47), .unset, .unset] [(.ref b51)])
    refine Go.st (fun _ k => XS.dup X51.here hx rfl (hb hby at_53) rfl rfl k) ?_
    show Go _ _ _ _ _ _ _ T51 (mkF m 54 #[.val (.int p0), .val (.int p1), .val (.int p2), .val (.int (4 : Int32)), .val (.int (1 : Int32)), .val (.int p0), .val (.int (0 : Int32)), .val (.ref b47), .unset, .unset] [(.ref b51), (.ref b51)])
    refine Go.st (fun _ k => XS.iload X51.here hx rfl (hb hby at_54) rfl k) ?_
    show Go _ _ _ _ _ _ _ T51 (mkF m 56 #[.val (.int p0), .val (.int p1), .val (.int p2), .val (.int (4 : Int32)), .val (.int (1 : Int32)), .val (.int p0), .val (.int (0 : Int32)), .val (.ref b47), .unset, .unset] [(.int p0), (.ref b51), (.ref b51)])
    obtain ⟨_, _, ⟨T55, L55, k55, n55⟩, -, X55, ⟨Lc55, hQ55, l55, y55, z55⟩, st55⟩ := X51.specialBack hx (y := (⟨"com/example/prudent_checker/prudentchecker/language/IntegerLiteral", "<init>", "(I)V"⟩ : MethodName)) rfl hown (mvT hZ (hw _ (List.mem_of_getElem? (i := 3) rfl))) (mvT hZ (hw _ (List.mem_of_getElem? (i := 4) rfl))) (mvT hZ (hw _ (List.mem_of_getElem? (i := 5) rfl))) (by decide) (backOf (W := 1) (rm1 l Z a0 hw [] b51 p0 (0 : Int32) h51 n0 Z51 A51 F_value_b51 g_b51) hZ (hw _ (List.mem_of_getElem? (i := 5) rfl)) (hw _ (List.mem_of_getElem? (i := 2) rfl)) (by decide) (by decide)) (g := (mkF m 56 #[.val (.int p0), .val (.int p1), .val (.int p2), .val (.int (4 : Int32)), .val (.int (1 : Int32)), .val (.int p0), .val (.int (0 : Int32)), .val (.ref b47), .unset, .unset] [(.int p0), (.ref b51), (.ref b51)])) rfl (by rw [hml]; rfl) (Steps.refl _) (a := b51) (argsL := [(.int p0)]) (rest := [(.ref b51)]) (lenOf pd_1 rfl) rfl (by show 2 * 0 + _ ≤ _; exact Nat.le_of_eq rfl) (hb hby at_56) (fun _ _ => ⟨rfl, e51, (by decide : 2 + 0 ≤ _), (by decide : 2 + 0 ≤ _)⟩)
    dsimp only [Pt.U, Pt.locs, Pt.cells, Pt.slots] at X55 l55 y55 z55 st55 hQ55
    subst l55 y55 z55
    generalize e55 : T55.heap = h55 at hQ55
    obtain ⟨rfl, N55q, K55, EE55, FF_value_55⟩ := hQ55
    have N55 := Fr.app N50 N55q
    refine Go.st (fun _ k => st55.trans k) ?_
    have S_INT__55 := own_sta S_INT__51 K55 (allS A51.cell (all0))
    have E_INT__55 := E_INT__51.keep K55
    have S_high__55 := own_sta S_high__51 K55 (allS A51.cell (all0))
    have S_cache__55 := own_sta S_cache__51 K55 (allS A51.cell (all0))
    have EE50__55 := EE50__51.keep K55
    have F_value_b47__55 := F_value_b47__51.keep K55 (ninS ne53 (nin0))
    have A51__55 := A51.keep K55
    have Z55 : n0 ≤ h55.size := Nat.le_trans Z51 K55.1
    have Ar__55 : Arr Z h55 w_c cl _ := own_arrk Ar__51 K55 (ninS ne54 (nin0))
    have hC__55 : ∀ j : Int32, ¬ (j < 0 ∨ cl.slots.size ≤ j.toNatClampNeg) → ∃ r, cl.slots[j.toNatClampNeg]? = some (.ref r) ∧ Exa Z h55 r "java/lang/Integer" := fun j hj => by obtain ⟨r, hr, Er⟩ := hC__51 j hj; exact ⟨r, hr, Er.keep K55⟩
    rw [show (val_1_value b51 p0 (0 : Int32)) = p0 from by unfold val_1_value; rfl] at FF_value_55
    have F_value_b51__55 := FF_value_55
    show Go _ _ _ _ _ _ _ T55 (mkF m 59 #[.val (.int p0), .val (.int p1), .val (.int p2), .val (.int (4 : Int32)), .val (.int (1 : Int32)), .val (.int p0), .val (.int (0 : Int32)), .val (.ref b47), .unset, .unset] [(.ref b51)])
    refine Go.st (fun _ k => XS.astore X55.here hx rfl (hb hby at_59) rfl rfl (l' := #[.val (.int p0), .val (.int p1), .val (.int p2), .val (.int (4 : Int32)), .val (.int (1 : Int32)), .val (.int p0), .val (.int (0 : Int32)), .val (.ref b47), .val (.ref b51), .unset]) rfl k) ?_
    show Go _ _ _ _ _ _ _ T55 (mkF m 61 #[.val (.int p0), .val (.int p1), .val (.int p2), .val (.int (4 : Int32)), .val (.int (1 : Int32)), .val (.int p0), .val (.int (0 : Int32)), .val (.ref b47), .val (.ref b51), .unset] [])
    refine Go.st (fun _ k => XS.iloadN X55.here hx rfl (hb hby at_61) rfl k) ?_
    show Go _ _ _ _ _ _ _ T55 (mkF m 62 #[.val (.int p0), .val (.int p1), .val (.int p2), .val (.int (4 : Int32)), .val (.int (1 : Int32)), .val (.int p0), .val (.int (0 : Int32)), .val (.ref b47), .val (.ref b51), .unset] [(.int p0)])
    refine Go.st (fun _ k => XS.iload X55.here hx rfl (hb hby at_62) rfl k) ?_
    show Go _ _ _ _ _ _ _ T55 (mkF m 64 #[.val (.int p0), .val (.int p1), .val (.int p2), .val (.int (4 : Int32)), .val (.int (1 : Int32)), .val (.int p0), .val (.int (0 : Int32)), .val (.ref b47), .val (.ref b51), .unset] [(.int p0), (.int p0)])
    refine Go.st (fun _ k => XS.icmpNo X55.here hx rfl (hb hby at_64) rfl (teq (rfl : p0 = p0)).2 k) ?_
    show Go _ _ _ _ _ _ _ T55 (mkF m 67 #[.val (.int p0), .val (.int p1), .val (.int p2), .val (.int (4 : Int32)), .val (.int (1 : Int32)), .val (.int p0), .val (.int (0 : Int32)), .val (.ref b47), .val (.ref b51), .unset] [])
    refine Go.st (fun _ k => XS.iconst X55.here hx rfl (hb hby at_67) k) ?_
    show Go _ _ _ _ _ _ _ T55 (mkF m 68 #[.val (.int p0), .val (.int p1), .val (.int p2), .val (.int (4 : Int32)), .val (.int (1 : Int32)), .val (.int p0), .val (.int (0 : Int32)), .val (.ref b47), .val (.ref b51), .unset] [(.int (1 : Int32))])
    refine Go.st (fun _ k => XS.goto X55.here hx rfl (pc0 := 68) (pc' := 72) rfl (hb hby at_68) (by decide) (by decide) k) ?_
    show Go _ _ _ _ _ _ _ T55 (mkF m 72 #[.val (.int p0), .val (.int p1), .val (.int p2), .val (.int (4 : Int32)), .val (.int (1 : Int32)), .val (.int p0), .val (.int (0 : Int32)), .val (.ref b47), .val (.ref b51), .unset] [(.int (1 : Int32))])
    refine Go.st (fun _ k => XS.istore X55.here hx rfl (hb hby at_72) rfl (l' := #[.val (.int p0), .val (.int p1), .val (.int p2), .val (.int (4 : Int32)), .val (.int (1 : Int32)), .val (.int p0), .val (.int (0 : Int32)), .val (.ref b47), .val (.ref b51), .val (.int (1 : Int32))]) rfl k) ?_
    show Go _ _ _ _ _ _ _ T55 (mkF m 74 #[.val (.int p0), .val (.int p1), .val (.int p2), .val (.int (4 : Int32)), .val (.int (1 : Int32)), .val (.int p0), .val (.int (0 : Int32)), .val (.ref b47), .val (.ref b51), .val (.int (1 : Int32))] [])
    refine Go.st (fun _ k => XS.aload X55.here hx rfl (hb hby at_74) rfl rfl k) ?_
    show Go _ _ _ _ _ _ _ T55 (mkF m 76 #[.val (.int p0), .val (.int p1), .val (.int p2), .val (.int (4 : Int32)), .val (.int (1 : Int32)), .val (.int p0), .val (.int (0 : Int32)), .val (.ref b47), .val (.ref b51), .val (.int (1 : Int32))] [(.ref b47)])
    refine Go.st (fun _ k => XS.aload X55.here hx rfl (hb hby at_76) rfl rfl k) ?_
    show Go _ _ _ _ _ _ _ T55 (mkF m 78 #[.val (.int p0), .val (.int p1), .val (.int p2), .val (.int (4 : Int32)), .val (.int (1 : Int32)), .val (.int p0), .val (.int (0 : Int32)), .val (.ref b47), .val (.ref b51), .val (.int (1 : Int32))] [(.ref b51), (.ref b47)])
    obtain ⟨cq56, kq56, q56a, q56b, q56c⟩ := isOf hZ e55 EE50__55
    obtain ⟨_, _, ⟨T56, L56, k56, n56⟩, -, X56, ⟨Lc56, hQ56, l56, y56, z56⟩, st56⟩ := X55.virtualBack hx (y := (⟨"com/example/prudent_checker/prudentchecker/language/IntegerLiteral", "equals", "(Ljava/lang/Object;)Z"⟩ : MethodName)) (z := (⟨"com/example/prudent_checker/prudentchecker/language/IntegerLiteral", "equals", "(Ljava/lang/Object;)Z"⟩ : MethodName)) hown (mvT hZ (hw _ (List.mem_of_getElem? (i := 23) rfl))) (mvT hZ (hw _ (List.mem_of_getElem? (i := 24) rfl))) (notFace_of_selects (args := #[]) (mvT hZ (hw _ (List.mem_of_getElem? (i := 26) rfl)))) (mvT hZ (hw _ (List.mem_of_getElem? (i := 26) rfl))) (mvT hZ (hw _ (List.mem_of_getElem? (i := 25) rfl))) (by decide) (backOf (W := 0) (rm5i l Z a0 hw [] b47 b51 p0 p0 h55 n0 Z55 EE55 F_value_b47__55 F_value_b51__55) hZ (hw _ (List.mem_of_getElem? (i := 27) rfl)) (hw _ (List.mem_of_getElem? (i := 2) rfl)) (by decide) (by decide)) q56a q56c (g := (mkF m 78 #[.val (.int p0), .val (.int p1), .val (.int p2), .val (.int (4 : Int32)), .val (.int (1 : Int32)), .val (.int p0), .val (.int (0 : Int32)), .val (.ref b47), .val (.ref b51), .val (.int (1 : Int32))] [(.ref b51), (.ref b47)])) rfl (by rw [hml]; rfl) (Steps.refl _) (argsL := [(.ref b51)]) (rest := []) (lenOf pd_2 rfl) rfl (by show 2 * 0 + _ ≤ _; exact Nat.le_of_eq rfl) (hb hby at_78) (fun _ _ => ⟨rfl, e55, (by decide : 2 + 0 ≤ _), (by decide : 2 + 0 ≤ _)⟩)
    dsimp only [Pt.U, Pt.locs, Pt.cells, Pt.slots] at X56 l56 y56 z56 st56 hQ56
    subst l56 y56 z56
    obtain ⟨rfl, N56q, e56⟩ := hQ56
    have N56 := Fr.app N55 N56q
    refine Go.st (fun _ k => st56.trans k) ?_
    show Go _ _ _ _ _ _ _ T56 (mkF m 81 #[.val (.int p0), .val (.int p1), .val (.int p2), .val (.int (4 : Int32)), .val (.int (1 : Int32)), .val (.int p0), .val (.int (0 : Int32)), .val (.ref b47), .val (.ref b51), .val (.int (1 : Int32))] [(.int (val_5i b47 b51 p0 p0))])
    rw [show (val_5i b47 b51 p0 p0) = (1 : Int32) from by unfold val_5i; rw [if_pos rfl]]
    show Go _ _ _ _ _ _ _ T56 (mkF m 81 #[.val (.int p0), .val (.int p1), .val (.int p2), .val (.int (4 : Int32)), .val (.int (1 : Int32)), .val (.int p0), .val (.int (0 : Int32)), .val (.ref b47), .val (.ref b51), .val (.int (1 : Int32))] [(.int (1 : Int32))])
    refine Go.st (fun _ k => XS.iload X56.here hx rfl (hb hby at_81) rfl k) ?_
    show Go _ _ _ _ _ _ _ T56 (mkF m 83 #[.val (.int p0), .val (.int p1), .val (.int p2), .val (.int (4 : Int32)), .val (.int (1 : Int32)), .val (.int p0), .val (.int (0 : Int32)), .val (.ref b47), .val (.ref b51), .val (.int (1 : Int32))] [(.int (1 : Int32)), (.int (1 : Int32))])
    refine Go.st (fun _ k => XS.icmpNo X56.here hx rfl (hb hby at_83) rfl (teq (by decide : (1 : Int32) = (1 : Int32))).2 k) ?_
    show Go _ _ _ _ _ _ _ T56 (mkF m 86 #[.val (.int p0), .val (.int p1), .val (.int p2), .val (.int (4 : Int32)), .val (.int (1 : Int32)), .val (.int p0), .val (.int (0 : Int32)), .val (.ref b47), .val (.ref b51), .val (.int (1 : Int32))] [])
    refine Go.st (fun _ k => XS.aload X56.here hx rfl (hb hby at_86) rfl rfl k) ?_
    show Go _ _ _ _ _ _ _ T56 (mkF m 88 #[.val (.int p0), .val (.int p1), .val (.int p2), .val (.int (4 : Int32)), .val (.int (1 : Int32)), .val (.int p0), .val (.int (0 : Int32)), .val (.ref b47), .val (.ref b51), .val (.int (1 : Int32))] [(.ref b51)])
    refine Go.st (fun _ k => XS.aload X56.here hx rfl (hb hby at_88) rfl rfl k) ?_
    show Go _ _ _ _ _ _ _ T56 (mkF m 90 #[.val (.int p0), .val (.int p1), .val (.int p2), .val (.int (4 : Int32)), .val (.int (1 : Int32)), .val (.int p0), .val (.int (0 : Int32)), .val (.ref b47), .val (.ref b51), .val (.int (1 : Int32))] [(.ref b47), (.ref b51)])
    obtain ⟨cq57, kq57, q57a, q57b, q57c⟩ := isOf hZ e56 EE55
    obtain ⟨_, _, ⟨T57, L57, k57, n57⟩, -, X57, ⟨Lc57, hQ57, l57, y57, z57⟩, st57⟩ := X56.virtualBack hx (y := (⟨"com/example/prudent_checker/prudentchecker/language/IntegerLiteral", "equals", "(Ljava/lang/Object;)Z"⟩ : MethodName)) (z := (⟨"com/example/prudent_checker/prudentchecker/language/IntegerLiteral", "equals", "(Ljava/lang/Object;)Z"⟩ : MethodName)) hown (mvT hZ (hw _ (List.mem_of_getElem? (i := 23) rfl))) (mvT hZ (hw _ (List.mem_of_getElem? (i := 24) rfl))) (notFace_of_selects (args := #[]) (mvT hZ (hw _ (List.mem_of_getElem? (i := 26) rfl)))) (mvT hZ (hw _ (List.mem_of_getElem? (i := 26) rfl))) (mvT hZ (hw _ (List.mem_of_getElem? (i := 25) rfl))) (by decide) (backOf (W := 0) (rm5i l Z a0 hw [] b51 b47 p0 p0 h55 n0 Z55 EE50__55 F_value_b51__55 F_value_b47__55) hZ (hw _ (List.mem_of_getElem? (i := 27) rfl)) (hw _ (List.mem_of_getElem? (i := 2) rfl)) (by decide) (by decide)) q57a q57c (g := (mkF m 90 #[.val (.int p0), .val (.int p1), .val (.int p2), .val (.int (4 : Int32)), .val (.int (1 : Int32)), .val (.int p0), .val (.int (0 : Int32)), .val (.ref b47), .val (.ref b51), .val (.int (1 : Int32))] [(.ref b47), (.ref b51)])) rfl (by rw [hml]; rfl) (Steps.refl _) (argsL := [(.ref b47)]) (rest := []) (lenOf pd_2 rfl) rfl (by show 2 * 0 + _ ≤ _; exact Nat.le_of_eq rfl) (hb hby at_90) (fun _ _ => ⟨rfl, e56, (by decide : 2 + 0 ≤ _), (by decide : 2 + 0 ≤ _)⟩)
    dsimp only [Pt.U, Pt.locs, Pt.cells, Pt.slots] at X57 l57 y57 z57 st57 hQ57
    subst l57 y57 z57
    obtain ⟨rfl, N57q, e57⟩ := hQ57
    have N57 := Fr.app N56 N57q
    refine Go.st (fun _ k => st57.trans k) ?_
    show Go _ _ _ _ _ _ _ T57 (mkF m 93 #[.val (.int p0), .val (.int p1), .val (.int p2), .val (.int (4 : Int32)), .val (.int (1 : Int32)), .val (.int p0), .val (.int (0 : Int32)), .val (.ref b47), .val (.ref b51), .val (.int (1 : Int32))] [(.int (val_5i b51 b47 p0 p0))])
    rw [show (val_5i b51 b47 p0 p0) = (1 : Int32) from by unfold val_5i; rw [if_pos rfl]]
    show Go _ _ _ _ _ _ _ T57 (mkF m 93 #[.val (.int p0), .val (.int p1), .val (.int p2), .val (.int (4 : Int32)), .val (.int (1 : Int32)), .val (.int p0), .val (.int (0 : Int32)), .val (.ref b47), .val (.ref b51), .val (.int (1 : Int32))] [(.int (1 : Int32))])
    refine Go.st (fun _ k => XS.iload X57.here hx rfl (hb hby at_93) rfl k) ?_
    show Go _ _ _ _ _ _ _ T57 (mkF m 95 #[.val (.int p0), .val (.int p1), .val (.int p2), .val (.int (4 : Int32)), .val (.int (1 : Int32)), .val (.int p0), .val (.int (0 : Int32)), .val (.ref b47), .val (.ref b51), .val (.int (1 : Int32))] [(.int (1 : Int32)), (.int (1 : Int32))])
    refine Go.st (fun _ k => XS.icmpNo X57.here hx rfl (hb hby at_95) rfl (teq (by decide : (1 : Int32) = (1 : Int32))).2 k) ?_
    show Go _ _ _ _ _ _ _ T57 (mkF m 98 #[.val (.int p0), .val (.int p1), .val (.int p2), .val (.int (4 : Int32)), .val (.int (1 : Int32)), .val (.int p0), .val (.int (0 : Int32)), .val (.ref b47), .val (.ref b51), .val (.int (1 : Int32))] [])
    refine Go.st (fun _ k => XS.aload X57.here hx rfl (hb hby at_98) rfl rfl k) ?_
    show Go _ _ _ _ _ _ _ T57 (mkF m 100 #[.val (.int p0), .val (.int p1), .val (.int p2), .val (.int (4 : Int32)), .val (.int (1 : Int32)), .val (.int p0), .val (.int (0 : Int32)), .val (.ref b47), .val (.ref b51), .val (.int (1 : Int32))] [(.ref b47)])
    refine Go.st (fun _ k => XS.aload X57.here hx rfl (hb hby at_100) rfl rfl k) ?_
    show Go _ _ _ _ _ _ _ T57 (mkF m 102 #[.val (.int p0), .val (.int p1), .val (.int p2), .val (.int (4 : Int32)), .val (.int (1 : Int32)), .val (.int p0), .val (.int (0 : Int32)), .val (.ref b47), .val (.ref b51), .val (.int (1 : Int32))] [(.ref b47), (.ref b47)])
    obtain ⟨cq58, kq58, q58a, q58b, q58c⟩ := isOf hZ e57 EE50__55
    obtain ⟨_, _, ⟨T58, L58, k58, n58⟩, -, X58, ⟨Lc58, hQ58, l58, y58, z58⟩, st58⟩ := X57.virtualBack hx (y := (⟨"com/example/prudent_checker/prudentchecker/language/IntegerLiteral", "equals", "(Ljava/lang/Object;)Z"⟩ : MethodName)) (z := (⟨"com/example/prudent_checker/prudentchecker/language/IntegerLiteral", "equals", "(Ljava/lang/Object;)Z"⟩ : MethodName)) hown (mvT hZ (hw _ (List.mem_of_getElem? (i := 23) rfl))) (mvT hZ (hw _ (List.mem_of_getElem? (i := 24) rfl))) (notFace_of_selects (args := #[]) (mvT hZ (hw _ (List.mem_of_getElem? (i := 26) rfl)))) (mvT hZ (hw _ (List.mem_of_getElem? (i := 26) rfl))) (mvT hZ (hw _ (List.mem_of_getElem? (i := 25) rfl))) (by decide) (backOf (W := 0) (rm5i l Z a0 hw [] b47 b47 p0 p0 h55 n0 Z55 EE50__55 F_value_b47__55 F_value_b47__55) hZ (hw _ (List.mem_of_getElem? (i := 27) rfl)) (hw _ (List.mem_of_getElem? (i := 2) rfl)) (by decide) (by decide)) q58a q58c (g := (mkF m 102 #[.val (.int p0), .val (.int p1), .val (.int p2), .val (.int (4 : Int32)), .val (.int (1 : Int32)), .val (.int p0), .val (.int (0 : Int32)), .val (.ref b47), .val (.ref b51), .val (.int (1 : Int32))] [(.ref b47), (.ref b47)])) rfl (by rw [hml]; rfl) (Steps.refl _) (argsL := [(.ref b47)]) (rest := []) (lenOf pd_2 rfl) rfl (by show 2 * 0 + _ ≤ _; exact Nat.le_of_eq rfl) (hb hby at_102) (fun _ _ => ⟨rfl, e57, (by decide : 2 + 0 ≤ _), (by decide : 2 + 0 ≤ _)⟩)
    dsimp only [Pt.U, Pt.locs, Pt.cells, Pt.slots] at X58 l58 y58 z58 st58 hQ58
    subst l58 y58 z58
    obtain ⟨rfl, N58q, e58⟩ := hQ58
    have N58 := Fr.app N57 N58q
    refine Go.st (fun _ k => st58.trans k) ?_
    show Go _ _ _ _ _ _ _ T58 (mkF m 105 #[.val (.int p0), .val (.int p1), .val (.int p2), .val (.int (4 : Int32)), .val (.int (1 : Int32)), .val (.int p0), .val (.int (0 : Int32)), .val (.ref b47), .val (.ref b51), .val (.int (1 : Int32))] [(.int (val_5i b47 b47 p0 p0))])
    rw [show (val_5i b47 b47 p0 p0) = (1 : Int32) from by unfold val_5i; rw [if_pos rfl]]
    show Go _ _ _ _ _ _ _ T58 (mkF m 105 #[.val (.int p0), .val (.int p1), .val (.int p2), .val (.int (4 : Int32)), .val (.int (1 : Int32)), .val (.int p0), .val (.int (0 : Int32)), .val (.ref b47), .val (.ref b51), .val (.int (1 : Int32))] [(.int (1 : Int32))])
    refine Go.st (fun _ k => XS.ifNo X58.here hx rfl (hb hby at_105) rfl ((if0 _ _).trans (feq (by decide : ¬ ((1 : Int32) = (0 : Int32)))).1) k) ?_
    show Go _ _ _ _ _ _ _ T58 (mkF m 108 #[.val (.int p0), .val (.int p1), .val (.int p2), .val (.int (4 : Int32)), .val (.int (1 : Int32)), .val (.int p0), .val (.int (0 : Int32)), .val (.ref b47), .val (.ref b51), .val (.int (1 : Int32))] [])
    refine Go.st (fun _ k => XS.iconst X58.here hx rfl (hb hby at_108) k) ?_
    show Go _ _ _ _ _ _ _ T58 (mkF m 109 #[.val (.int p0), .val (.int p1), .val (.int p2), .val (.int (4 : Int32)), .val (.int (1 : Int32)), .val (.int p0), .val (.int (0 : Int32)), .val (.ref b47), .val (.ref b51), .val (.int (1 : Int32))] [(.int (1 : Int32))])
    refine Go.st (fun _ k => XS.goto X58.here hx rfl (pc0 := 109) (pc' := 113) rfl (hb hby at_109) (by decide) (by decide) k) ?_
    show Go _ _ _ _ _ _ _ T58 (mkF m 113 #[.val (.int p0), .val (.int p1), .val (.int p2), .val (.int (4 : Int32)), .val (.int (1 : Int32)), .val (.int p0), .val (.int (0 : Int32)), .val (.ref b47), .val (.ref b51), .val (.int (1 : Int32))] [(.int (1 : Int32))])
    refine Go.ret X58 hlk (v := some (.int (1 : Int32))) (fun h => by rw [hret] at h; cases h) (fun fs hr => retN X58 hx (t := .boolean) hret (by simp) (hb hby at_113) hr) ?_ (by decide) (by decide)
    show Q0 Z p0 p1 p2 w_INT w_c cl h0 n0 (some (.int (1 : Int32))) T58.heap _
    rw [e58]
    exact ⟨rfl, N58⟩
  · rw [hk1]
    show Go _ _ _ _ _ _ _ s₁ (mkF m 4 #[.val (.int p0), .val (.int p1), .val (.int p2), .unset, .unset, .unset, .unset, .unset, .unset, .unset] [(.int (5 : Int32))])
    refine Go.st (fun _ k => XS.istoreN X0.here hx rfl (hb hby at_4) rfl (l' := #[.val (.int p0), .val (.int p1), .val (.int p2), .val (.int (5 : Int32)), .unset, .unset, .unset, .unset, .unset, .unset]) rfl k) ?_
    show Go _ _ _ _ _ _ _ s₁ (mkF m 5 #[.val (.int p0), .val (.int p1), .val (.int p2), .val (.int (5 : Int32)), .unset, .unset, .unset, .unset, .unset, .unset] [])
    refine Go.st (fun _ k => XS.iloadN X0.here hx rfl (hb hby at_5) rfl k) ?_
    show Go _ _ _ _ _ _ _ s₁ (mkF m 6 #[.val (.int p0), .val (.int p1), .val (.int p2), .val (.int (5 : Int32)), .unset, .unset, .unset, .unset, .unset, .unset] [(.int (5 : Int32))])
    refine Go.st (fun _ k => XS.iconst X0.here hx rfl (hb hby at_6) k) ?_
    show Go _ _ _ _ _ _ _ s₁ (mkF m 7 #[.val (.int p0), .val (.int p1), .val (.int p2), .val (.int (5 : Int32)), .unset, .unset, .unset, .unset, .unset, .unset] [(.int (4 : Int32)), (.int (5 : Int32))])
    refine Go.st (fun _ k => XS.iand X0.here hx rfl (hb hby at_7) rfl k) ?_
    show Go _ _ _ _ _ _ _ s₁ (mkF m 8 #[.val (.int p0), .val (.int p1), .val (.int p2), .val (.int (5 : Int32)), .unset, .unset, .unset, .unset, .unset, .unset] [(.int ((5 : Int32) &&& (4 : Int32)))])
    refine Go.fr (f' := (mkF m 8 #[.val (.int p0), .val (.int p1), .val (.int p2), .val (.int (5 : Int32)), .unset, .unset, .unset, .unset, .unset, .unset] [(.int (4 : Int32))])) (by rw [show ((5 : Int32) &&& (4 : Int32)) = (4 : Int32) from by decide +kernel]) ?_
    show Go _ _ _ _ _ _ _ s₁ (mkF m 8 #[.val (.int p0), .val (.int p1), .val (.int p2), .val (.int (5 : Int32)), .unset, .unset, .unset, .unset, .unset, .unset] [(.int (4 : Int32))])
    refine Go.st (fun _ k => XS.ifNo X0.here hx rfl (hb hby at_8) rfl ((if0 _ _).trans (feq (by decide : ¬ ((4 : Int32) = (0 : Int32)))).1) k) ?_
    show Go _ _ _ _ _ _ _ s₁ (mkF m 11 #[.val (.int p0), .val (.int p1), .val (.int p2), .val (.int (5 : Int32)), .unset, .unset, .unset, .unset, .unset, .unset] [])
    refine Go.st (fun _ k => XS.iconst X0.here hx rfl (hb hby at_11) k) ?_
    show Go _ _ _ _ _ _ _ s₁ (mkF m 12 #[.val (.int p0), .val (.int p1), .val (.int p2), .val (.int (5 : Int32)), .unset, .unset, .unset, .unset, .unset, .unset] [(.int (1 : Int32))])
    refine Go.st (fun _ k => XS.goto X0.here hx rfl (pc0 := 12) (pc' := 16) rfl (hb hby at_12) (by decide) (by decide) k) ?_
    show Go _ _ _ _ _ _ _ s₁ (mkF m 16 #[.val (.int p0), .val (.int p1), .val (.int p2), .val (.int (5 : Int32)), .unset, .unset, .unset, .unset, .unset, .unset] [(.int (1 : Int32))])
    refine Go.st (fun _ k => XS.istore X0.here hx rfl (hb hby at_16) rfl (l' := #[.val (.int p0), .val (.int p1), .val (.int p2), .val (.int (5 : Int32)), .val (.int (1 : Int32)), .unset, .unset, .unset, .unset, .unset]) rfl k) ?_
    show Go _ _ _ _ _ _ _ s₁ (mkF m 18 #[.val (.int p0), .val (.int p1), .val (.int p2), .val (.int (5 : Int32)), .val (.int (1 : Int32)), .unset, .unset, .unset, .unset, .unset] [])
    refine Go.st (fun _ k => XS.iload X0.here hx rfl (hb hby at_18) rfl k) ?_
    show Go _ _ _ _ _ _ _ s₁ (mkF m 20 #[.val (.int p0), .val (.int p1), .val (.int p2), .val (.int (5 : Int32)), .val (.int (1 : Int32)), .unset, .unset, .unset, .unset, .unset] [(.int (1 : Int32))])
    refine Go.st (fun _ k => XS.ifNo X0.here hx rfl (hb hby at_20) rfl ((if0 _ _).trans (feq (by decide : ¬ ((1 : Int32) = (0 : Int32)))).1) k) ?_
    show Go _ _ _ _ _ _ _ s₁ (mkF m 23 #[.val (.int p0), .val (.int p1), .val (.int p2), .val (.int (5 : Int32)), .val (.int (1 : Int32)), .unset, .unset, .unset, .unset, .unset] [])
    refine Go.st (fun _ k => XS.iloadN X0.here hx rfl (hb hby at_23) rfl k) ?_
    show Go _ _ _ _ _ _ _ s₁ (mkF m 24 #[.val (.int p0), .val (.int p1), .val (.int p2), .val (.int (5 : Int32)), .val (.int (1 : Int32)), .unset, .unset, .unset, .unset, .unset] [(.int p0)])
    refine Go.st (fun _ k => XS.goto X0.here hx rfl (pc0 := 24) (pc' := 28) rfl (hb hby at_24) (by decide) (by decide) k) ?_
    show Go _ _ _ _ _ _ _ s₁ (mkF m 28 #[.val (.int p0), .val (.int p1), .val (.int p2), .val (.int (5 : Int32)), .val (.int (1 : Int32)), .unset, .unset, .unset, .unset, .unset] [(.int p0)])
    refine Go.st (fun _ k => XS.istore X0.here hx rfl (hb hby at_28) rfl (l' := #[.val (.int p0), .val (.int p1), .val (.int p2), .val (.int (5 : Int32)), .val (.int (1 : Int32)), .val (.int p0), .unset, .unset, .unset, .unset]) rfl k) ?_
    show Go _ _ _ _ _ _ _ s₁ (mkF m 30 #[.val (.int p0), .val (.int p1), .val (.int p2), .val (.int (5 : Int32)), .val (.int (1 : Int32)), .val (.int p0), .unset, .unset, .unset, .unset] [])
    refine Go.st (fun _ k => XS.iloadN X0.here hx rfl (hb hby at_30) rfl k) ?_
    show Go _ _ _ _ _ _ _ s₁ (mkF m 31 #[.val (.int p0), .val (.int p1), .val (.int p2), .val (.int (5 : Int32)), .val (.int (1 : Int32)), .val (.int p0), .unset, .unset, .unset, .unset] [(.int (5 : Int32))])
    refine Go.st (fun _ k => XS.iconst X0.here hx rfl (hb hby at_31) k) ?_
    show Go _ _ _ _ _ _ _ s₁ (mkF m 32 #[.val (.int p0), .val (.int p1), .val (.int p2), .val (.int (5 : Int32)), .val (.int (1 : Int32)), .val (.int p0), .unset, .unset, .unset, .unset] [(.int (3 : Int32)), (.int (5 : Int32))])
    refine Go.st (fun _ k => XS.iand X0.here hx rfl (hb hby at_32) rfl k) ?_
    show Go _ _ _ _ _ _ _ s₁ (mkF m 33 #[.val (.int p0), .val (.int p1), .val (.int p2), .val (.int (5 : Int32)), .val (.int (1 : Int32)), .val (.int p0), .unset, .unset, .unset, .unset] [(.int ((5 : Int32) &&& (3 : Int32)))])
    refine Go.fr (f' := (mkF m 33 #[.val (.int p0), .val (.int p1), .val (.int p2), .val (.int (5 : Int32)), .val (.int (1 : Int32)), .val (.int p0), .unset, .unset, .unset, .unset] [(.int (1 : Int32))])) (by rw [show ((5 : Int32) &&& (3 : Int32)) = (1 : Int32) from by decide +kernel]) ?_
    show Go _ _ _ _ _ _ _ s₁ (mkF m 33 #[.val (.int p0), .val (.int p1), .val (.int p2), .val (.int (5 : Int32)), .val (.int (1 : Int32)), .val (.int p0), .unset, .unset, .unset, .unset] [(.int (1 : Int32))])
    refine Go.st (fun _ k => XS.istore X0.here hx rfl (hb hby at_33) rfl (l' := #[.val (.int p0), .val (.int p1), .val (.int p2), .val (.int (5 : Int32)), .val (.int (1 : Int32)), .val (.int p0), .val (.int (1 : Int32)), .unset, .unset, .unset]) rfl k) ?_
    show Go _ _ _ _ _ _ _ s₁ (mkF m 35 #[.val (.int p0), .val (.int p1), .val (.int p2), .val (.int (5 : Int32)), .val (.int (1 : Int32)), .val (.int p0), .val (.int (1 : Int32)), .unset, .unset, .unset] [])
    obtain ⟨T59, h59, X59, e59, E59, A59, D59, -, st59⟩ := newO X0 hx hZ hown (hw _ (List.mem_of_getElem? (i := 0) rfl)) (hw _ (List.mem_of_getElem? (i := 1) rfl)) (hw _ (List.mem_of_getElem? (i := 2) rfl)) e0 (g := (mkF m 35 #[.val (.int p0), .val (.int p1), .val (.int p2), .val (.int (5 : Int32)), .val (.int (1 : Int32)), .val (.int p0), .val (.int (1 : Int32)), .unset, .unset, .unset] [])) rfl (hb hby at_35) (by decide) (by decide)
    obtain ⟨b59, g59⟩ : ∃ z, z = h0.size := ⟨_, rfl⟩
    rw [← g59] at A59 D59 st59
    have ne60 : w_INT ≠ b59 := Nat.ne_of_lt (Nat.lt_of_lt_of_le E_INT.lt (Nat.le_of_eq g59.symm))
    have ne61 : w_c ≠ b59 := Nat.ne_of_lt (Nat.lt_of_lt_of_le Ar.lt (Nat.le_of_eq g59.symm))
    have g_b59 : n0 ≤ b59 := Nat.le_trans Z0 (Nat.le_of_eq g59.symm)
    have S_INT__59 := S_INT.ext E59
    have E_INT__59 := E_INT.ext E59
    have S_high__59 := S_high.ext E59
    have S_cache__59 := S_cache.ext E59
    have Z59 : n0 ≤ h59.size := Nat.le_trans Z0 E59.1
    have Ar__59 := Ar.ext E59
    have hC__59 : ∀ j : Int32, ¬ (j < 0 ∨ cl.slots.size ≤ j.toNatClampNeg) → ∃ r, cl.slots[j.toNatClampNeg]? = some (.ref r) ∧ Exa Z h59 r "java/lang/Integer" := fun j hj => by obtain ⟨r, hr, Er⟩ := hC j hj; exact ⟨r, hr, Er.ext E59⟩
    have F_value_b59 : Fld Z h59 b59 "com/example/prudent_checker/prudentchecker/language/IntegerLiteral" "value" "I" (.int (0 : Int32)) := D59 (Or.inr (hw _ (List.mem_of_getElem? (i := 15) rfl))) (ty := .int) (by decide)
    refine Go.st st59 ?_
    show Go _ _ _ _ _ _ _ T59 (mkF m 38 #[.val (.int p0), .val (.int p1), .val (.int p2), .val (.int (5 : Int32)), .val (.int (1 : Int32)), .val (.int p0), .val (.int (1 : Int32)), .unset, .unset, .unset] [(.ref b59)])
    refine Go.st (fun _ k => XS.dup X59.here hx rfl (hb hby at_38) rfl rfl k) ?_
    show Go _ _ _ _ _ _ _ T59 (mkF m 39 #[.val (.int p0), .val (.int p1), .val (.int p2), .val (.int (5 : Int32)), .val (.int (1 : Int32)), .val (.int p0), .val (.int (1 : Int32)), .unset, .unset, .unset] [(.ref b59), (.ref b59)])
    refine Go.st (fun _ k => XS.iloadN X59.here hx rfl (hb hby at_39) rfl k) ?_
    show Go _ _ _ _ _ _ _ T59 (mkF m 40 #[.val (.int p0), .val (.int p1), .val (.int p2), .val (.int (5 : Int32)), .val (.int (1 : Int32)), .val (.int p0), .val (.int (1 : Int32)), .unset, .unset, .unset] [(.int p0), (.ref b59), (.ref b59)])
    obtain ⟨_, _, ⟨T62, L62, k62, n62⟩, -, X62, ⟨Lc62, hQ62, l62, y62, z62⟩, st62⟩ := X59.specialBack hx (y := (⟨"com/example/prudent_checker/prudentchecker/language/IntegerLiteral", "<init>", "(I)V"⟩ : MethodName)) rfl hown (mvT hZ (hw _ (List.mem_of_getElem? (i := 3) rfl))) (mvT hZ (hw _ (List.mem_of_getElem? (i := 4) rfl))) (mvT hZ (hw _ (List.mem_of_getElem? (i := 5) rfl))) (by decide) (backOf (W := 1) (rm1 l Z a0 hw [] b59 p0 (0 : Int32) h59 n0 Z59 A59 F_value_b59 g_b59) hZ (hw _ (List.mem_of_getElem? (i := 5) rfl)) (hw _ (List.mem_of_getElem? (i := 2) rfl)) (by decide) (by decide)) (g := (mkF m 40 #[.val (.int p0), .val (.int p1), .val (.int p2), .val (.int (5 : Int32)), .val (.int (1 : Int32)), .val (.int p0), .val (.int (1 : Int32)), .unset, .unset, .unset] [(.int p0), (.ref b59), (.ref b59)])) rfl (by rw [hml]; rfl) (Steps.refl _) (a := b59) (argsL := [(.int p0)]) (rest := [(.ref b59)]) (lenOf pd_1 rfl) rfl (by show 2 * 0 + _ ≤ _; exact Nat.le_of_eq rfl) (hb hby at_40) (fun _ _ => ⟨rfl, e59, (by decide : 1 + 0 ≤ _), (by decide : 1 + 0 ≤ _)⟩)
    dsimp only [Pt.U, Pt.locs, Pt.cells, Pt.slots] at X62 l62 y62 z62 st62 hQ62
    subst l62 y62 z62
    generalize e62 : T62.heap = h62 at hQ62
    obtain ⟨rfl, N62q, K62, EE62, FF_value_62⟩ := hQ62
    have N62 := Fr.app N0 N62q
    refine Go.st (fun _ k => st62.trans k) ?_
    have S_INT__62 := own_sta S_INT__59 K62 (allS A59.cell (all0))
    have E_INT__62 := E_INT__59.keep K62
    have S_high__62 := own_sta S_high__59 K62 (allS A59.cell (all0))
    have S_cache__62 := own_sta S_cache__59 K62 (allS A59.cell (all0))
    have A59__62 := A59.keep K62
    have Z62 : n0 ≤ h62.size := Nat.le_trans Z59 K62.1
    have Ar__62 : Arr Z h62 w_c cl _ := own_arrk Ar__59 K62 (ninS ne61 (nin0))
    have hC__62 : ∀ j : Int32, ¬ (j < 0 ∨ cl.slots.size ≤ j.toNatClampNeg) → ∃ r, cl.slots[j.toNatClampNeg]? = some (.ref r) ∧ Exa Z h62 r "java/lang/Integer" := fun j hj => by obtain ⟨r, hr, Er⟩ := hC__59 j hj; exact ⟨r, hr, Er.keep K62⟩
    rw [show (val_1_value b59 p0 (0 : Int32)) = p0 from by unfold val_1_value; rfl] at FF_value_62
    have F_value_b59__62 := FF_value_62
    show Go _ _ _ _ _ _ _ T62 (mkF m 43 #[.val (.int p0), .val (.int p1), .val (.int p2), .val (.int (5 : Int32)), .val (.int (1 : Int32)), .val (.int p0), .val (.int (1 : Int32)), .unset, .unset, .unset] [(.ref b59)])
    refine Go.st (fun _ k => XS.astore X62.here hx rfl (hb hby at_43) rfl rfl (l' := #[.val (.int p0), .val (.int p1), .val (.int p2), .val (.int (5 : Int32)), .val (.int (1 : Int32)), .val (.int p0), .val (.int (1 : Int32)), .val (.ref b59), .unset, .unset]) rfl k) ?_
    show Go _ _ _ _ _ _ _ T62 (mkF m 45 #[.val (.int p0), .val (.int p1), .val (.int p2), .val (.int (5 : Int32)), .val (.int (1 : Int32)), .val (.int p0), .val (.int (1 : Int32)), .val (.ref b59), .unset, .unset] [])
    refine Go.st (fun _ k => XS.iload X62.here hx rfl (hb hby at_45) rfl k) ?_
    show Go _ _ _ _ _ _ _ T62 (mkF m 47 #[.val (.int p0), .val (.int p1), .val (.int p2), .val (.int (5 : Int32)), .val (.int (1 : Int32)), .val (.int p0), .val (.int (1 : Int32)), .val (.ref b59), .unset, .unset] [(.int (1 : Int32))])
    refine Go.st (fun _ k => XS.ifYes X62.here hx rfl (pc0 := 47) (pc' := 114) rfl (hb hby at_47) rfl ((if0 _ _).trans (feq (by decide : ¬ ((1 : Int32) = (0 : Int32)))).2) (by decide) (by decide) k) ?_
    show Go _ _ _ _ _ _ _ T62 (mkF m 114 #[.val (.int p0), .val (.int p1), .val (.int p2), .val (.int (5 : Int32)), .val (.int (1 : Int32)), .val (.int p0), .val (.int (1 : Int32)), .val (.ref b59), .unset, .unset] [])
    refine Go.st (fun _ k => XS.iload X62.here hx rfl (hb hby at_114) rfl k) ?_
    show Go _ _ _ _ _ _ _ T62 (mkF m 116 #[.val (.int p0), .val (.int p1), .val (.int p2), .val (.int (5 : Int32)), .val (.int (1 : Int32)), .val (.int p0), .val (.int (1 : Int32)), .val (.ref b59), .unset, .unset] [(.int (1 : Int32))])
    refine Go.st (fun _ k => XS.iconst X62.here hx rfl (hb hby at_116) k) ?_
    show Go _ _ _ _ _ _ _ T62 (mkF m 117 #[.val (.int p0), .val (.int p1), .val (.int p2), .val (.int (5 : Int32)), .val (.int (1 : Int32)), .val (.int p0), .val (.int (1 : Int32)), .val (.ref b59), .unset, .unset] [(.int (1 : Int32)), (.int (1 : Int32))])
    refine Go.st (fun _ k => XS.icmpNo X62.here hx rfl (hb hby at_117) rfl (teq (by decide : (1 : Int32) = (1 : Int32))).2 k) ?_
    show Go _ _ _ _ _ _ _ T62 (mkF m 120 #[.val (.int p0), .val (.int p1), .val (.int p2), .val (.int (5 : Int32)), .val (.int (1 : Int32)), .val (.int p0), .val (.int (1 : Int32)), .val (.ref b59), .unset, .unset] [])
    refine Go.st (fun _ k => XS.aconstNull X62.here hx rfl (hb hby at_120) k) ?_
    show Go _ _ _ _ _ _ _ T62 (mkF m 121 #[.val (.int p0), .val (.int p1), .val (.int p2), .val (.int (5 : Int32)), .val (.int (1 : Int32)), .val (.int p0), .val (.int (1 : Int32)), .val (.ref b59), .unset, .unset] [.null])
    refine Go.st (fun _ k => XS.astore X62.here hx rfl (hb hby at_121) rfl rfl (l' := #[.val (.int p0), .val (.int p1), .val (.int p2), .val (.int (5 : Int32)), .val (.int (1 : Int32)), .val (.int p0), .val (.int (1 : Int32)), .val (.ref b59), .val .null, .unset]) rfl k) ?_
    show Go _ _ _ _ _ _ _ T62 (mkF m 123 #[.val (.int p0), .val (.int p1), .val (.int p2), .val (.int (5 : Int32)), .val (.int (1 : Int32)), .val (.int p0), .val (.int (1 : Int32)), .val (.ref b59), .val .null, .unset] [])
    refine Go.st (fun _ k => XS.aload X62.here hx rfl (hb hby at_123) rfl rfl k) ?_
    show Go _ _ _ _ _ _ _ T62 (mkF m 125 #[.val (.int p0), .val (.int p1), .val (.int p2), .val (.int (5 : Int32)), .val (.int (1 : Int32)), .val (.int p0), .val (.int (1 : Int32)), .val (.ref b59), .val .null, .unset] [(.ref b59)])
    refine Go.st (fun _ k => XS.aload X62.here hx rfl (hb hby at_125) rfl rfl k) ?_
    show Go _ _ _ _ _ _ _ T62 (mkF m 127 #[.val (.int p0), .val (.int p1), .val (.int p2), .val (.int (5 : Int32)), .val (.int (1 : Int32)), .val (.int p0), .val (.int (1 : Int32)), .val (.ref b59), .val .null, .unset] [.null, (.ref b59)])
    obtain ⟨cq63, kq63, q63a, q63b, q63c⟩ := isOf hZ e62 EE62
    obtain ⟨_, _, ⟨T63, L63, k63, n63⟩, -, X63, ⟨Lc63, hQ63, l63, y63, z63⟩, st63⟩ := X62.virtualBack hx (y := (⟨"com/example/prudent_checker/prudentchecker/language/IntegerLiteral", "equals", "(Ljava/lang/Object;)Z"⟩ : MethodName)) (z := (⟨"com/example/prudent_checker/prudentchecker/language/IntegerLiteral", "equals", "(Ljava/lang/Object;)Z"⟩ : MethodName)) hown (mvT hZ (hw _ (List.mem_of_getElem? (i := 23) rfl))) (mvT hZ (hw _ (List.mem_of_getElem? (i := 24) rfl))) (notFace_of_selects (args := #[]) (mvT hZ (hw _ (List.mem_of_getElem? (i := 26) rfl)))) (mvT hZ (hw _ (List.mem_of_getElem? (i := 26) rfl))) (mvT hZ (hw _ (List.mem_of_getElem? (i := 25) rfl))) (by decide) (backOf (W := 0) (rm5n l Z a0 hw [] b59  h62 n0 Z62 ) hZ (hw _ (List.mem_of_getElem? (i := 27) rfl)) (hw _ (List.mem_of_getElem? (i := 2) rfl)) (by decide) (by decide)) q63a q63c (g := (mkF m 127 #[.val (.int p0), .val (.int p1), .val (.int p2), .val (.int (5 : Int32)), .val (.int (1 : Int32)), .val (.int p0), .val (.int (1 : Int32)), .val (.ref b59), .val .null, .unset] [.null, (.ref b59)])) rfl (by rw [hml]; rfl) (Steps.refl _) (argsL := [.null]) (rest := []) (lenOf pd_2 rfl) rfl (by show 2 * 0 + _ ≤ _; exact Nat.le_of_eq rfl) (hb hby at_127) (fun _ _ => ⟨rfl, e62, (by decide : 1 + 0 ≤ _), (by decide : 1 + 0 ≤ _)⟩)
    dsimp only [Pt.U, Pt.locs, Pt.cells, Pt.slots] at X63 l63 y63 z63 st63 hQ63
    subst l63 y63 z63
    obtain ⟨rfl, N63q, e63⟩ := hQ63
    have N63 := Fr.app N62 N63q
    refine Go.st (fun _ k => st63.trans k) ?_
    show Go _ _ _ _ _ _ _ T63 (mkF m 130 #[.val (.int p0), .val (.int p1), .val (.int p2), .val (.int (5 : Int32)), .val (.int (1 : Int32)), .val (.int p0), .val (.int (1 : Int32)), .val (.ref b59), .val .null, .unset] [(.int (val_5n b59))])
    rw [show (val_5n b59) = (0 : Int32) from by unfold val_5n; rfl]
    show Go _ _ _ _ _ _ _ T63 (mkF m 130 #[.val (.int p0), .val (.int p1), .val (.int p2), .val (.int (5 : Int32)), .val (.int (1 : Int32)), .val (.int p0), .val (.int (1 : Int32)), .val (.ref b59), .val .null, .unset] [(.int (0 : Int32))])
    refine Go.st (fun _ k => XS.ifNo X63.here hx rfl (hb hby at_130) rfl ((if0 _ _).trans (teq (by decide : (0 : Int32) = (0 : Int32))).2) k) ?_
    show Go _ _ _ _ _ _ _ T63 (mkF m 133 #[.val (.int p0), .val (.int p1), .val (.int p2), .val (.int (5 : Int32)), .val (.int (1 : Int32)), .val (.int p0), .val (.int (1 : Int32)), .val (.ref b59), .val .null, .unset] [])
    refine Go.st (fun _ k => XS.aload X63.here hx rfl (hb hby at_133) rfl rfl k) ?_
    show Go _ _ _ _ _ _ _ T63 (mkF m 135 #[.val (.int p0), .val (.int p1), .val (.int p2), .val (.int (5 : Int32)), .val (.int (1 : Int32)), .val (.int p0), .val (.int (1 : Int32)), .val (.ref b59), .val .null, .unset] [(.ref b59)])
    refine Go.st (fun _ k => XS.aload X63.here hx rfl (hb hby at_135) rfl rfl k) ?_
    show Go _ _ _ _ _ _ _ T63 (mkF m 137 #[.val (.int p0), .val (.int p1), .val (.int p2), .val (.int (5 : Int32)), .val (.int (1 : Int32)), .val (.int p0), .val (.int (1 : Int32)), .val (.ref b59), .val .null, .unset] [(.ref b59), (.ref b59)])
    obtain ⟨cq64, kq64, q64a, q64b, q64c⟩ := isOf hZ e63 EE62
    obtain ⟨_, _, ⟨T64, L64, k64, n64⟩, -, X64, ⟨Lc64, hQ64, l64, y64, z64⟩, st64⟩ := X63.virtualBack hx (y := (⟨"com/example/prudent_checker/prudentchecker/language/IntegerLiteral", "equals", "(Ljava/lang/Object;)Z"⟩ : MethodName)) (z := (⟨"com/example/prudent_checker/prudentchecker/language/IntegerLiteral", "equals", "(Ljava/lang/Object;)Z"⟩ : MethodName)) hown (mvT hZ (hw _ (List.mem_of_getElem? (i := 23) rfl))) (mvT hZ (hw _ (List.mem_of_getElem? (i := 24) rfl))) (notFace_of_selects (args := #[]) (mvT hZ (hw _ (List.mem_of_getElem? (i := 26) rfl)))) (mvT hZ (hw _ (List.mem_of_getElem? (i := 26) rfl))) (mvT hZ (hw _ (List.mem_of_getElem? (i := 25) rfl))) (by decide) (backOf (W := 0) (rm5i l Z a0 hw [] b59 b59 p0 p0 h62 n0 Z62 EE62 F_value_b59__62 F_value_b59__62) hZ (hw _ (List.mem_of_getElem? (i := 27) rfl)) (hw _ (List.mem_of_getElem? (i := 2) rfl)) (by decide) (by decide)) q64a q64c (g := (mkF m 137 #[.val (.int p0), .val (.int p1), .val (.int p2), .val (.int (5 : Int32)), .val (.int (1 : Int32)), .val (.int p0), .val (.int (1 : Int32)), .val (.ref b59), .val .null, .unset] [(.ref b59), (.ref b59)])) rfl (by rw [hml]; rfl) (Steps.refl _) (argsL := [(.ref b59)]) (rest := []) (lenOf pd_2 rfl) rfl (by show 2 * 0 + _ ≤ _; exact Nat.le_of_eq rfl) (hb hby at_137) (fun _ _ => ⟨rfl, e63, (by decide : 1 + 0 ≤ _), (by decide : 1 + 0 ≤ _)⟩)
    dsimp only [Pt.U, Pt.locs, Pt.cells, Pt.slots] at X64 l64 y64 z64 st64 hQ64
    subst l64 y64 z64
    obtain ⟨rfl, N64q, e64⟩ := hQ64
    have N64 := Fr.app N63 N64q
    refine Go.st (fun _ k => st64.trans k) ?_
    show Go _ _ _ _ _ _ _ T64 (mkF m 140 #[.val (.int p0), .val (.int p1), .val (.int p2), .val (.int (5 : Int32)), .val (.int (1 : Int32)), .val (.int p0), .val (.int (1 : Int32)), .val (.ref b59), .val .null, .unset] [(.int (val_5i b59 b59 p0 p0))])
    rw [show (val_5i b59 b59 p0 p0) = (1 : Int32) from by unfold val_5i; rw [if_pos rfl]]
    show Go _ _ _ _ _ _ _ T64 (mkF m 140 #[.val (.int p0), .val (.int p1), .val (.int p2), .val (.int (5 : Int32)), .val (.int (1 : Int32)), .val (.int p0), .val (.int (1 : Int32)), .val (.ref b59), .val .null, .unset] [(.int (1 : Int32))])
    refine Go.st (fun _ k => XS.ifNo X64.here hx rfl (hb hby at_140) rfl ((if0 _ _).trans (feq (by decide : ¬ ((1 : Int32) = (0 : Int32)))).1) k) ?_
    show Go _ _ _ _ _ _ _ T64 (mkF m 143 #[.val (.int p0), .val (.int p1), .val (.int p2), .val (.int (5 : Int32)), .val (.int (1 : Int32)), .val (.int p0), .val (.int (1 : Int32)), .val (.ref b59), .val .null, .unset] [])
    refine Go.st (fun _ k => XS.iconst X64.here hx rfl (hb hby at_143) k) ?_
    show Go _ _ _ _ _ _ _ T64 (mkF m 144 #[.val (.int p0), .val (.int p1), .val (.int p2), .val (.int (5 : Int32)), .val (.int (1 : Int32)), .val (.int p0), .val (.int (1 : Int32)), .val (.ref b59), .val .null, .unset] [(.int (1 : Int32))])
    refine Go.st (fun _ k => XS.goto X64.here hx rfl (pc0 := 144) (pc' := 148) rfl (hb hby at_144) (by decide) (by decide) k) ?_
    show Go _ _ _ _ _ _ _ T64 (mkF m 148 #[.val (.int p0), .val (.int p1), .val (.int p2), .val (.int (5 : Int32)), .val (.int (1 : Int32)), .val (.int p0), .val (.int (1 : Int32)), .val (.ref b59), .val .null, .unset] [(.int (1 : Int32))])
    refine Go.ret X64 hlk (v := some (.int (1 : Int32))) (fun h => by rw [hret] at h; cases h) (fun fs hr => retN X64 hx (t := .boolean) hret (by simp) (hb hby at_148) hr) ?_ (by decide) (by decide)
    show Q0 Z p0 p1 p2 w_INT w_c cl h0 n0 (some (.int (1 : Int32))) T64.heap _
    rw [e64]
    exact ⟨rfl, N64⟩
  · rw [hk1]
    show Go _ _ _ _ _ _ _ s₁ (mkF m 4 #[.val (.int p0), .val (.int p1), .val (.int p2), .unset, .unset, .unset, .unset, .unset, .unset, .unset] [(.int (6 : Int32))])
    refine Go.st (fun _ k => XS.istoreN X0.here hx rfl (hb hby at_4) rfl (l' := #[.val (.int p0), .val (.int p1), .val (.int p2), .val (.int (6 : Int32)), .unset, .unset, .unset, .unset, .unset, .unset]) rfl k) ?_
    show Go _ _ _ _ _ _ _ s₁ (mkF m 5 #[.val (.int p0), .val (.int p1), .val (.int p2), .val (.int (6 : Int32)), .unset, .unset, .unset, .unset, .unset, .unset] [])
    refine Go.st (fun _ k => XS.iloadN X0.here hx rfl (hb hby at_5) rfl k) ?_
    show Go _ _ _ _ _ _ _ s₁ (mkF m 6 #[.val (.int p0), .val (.int p1), .val (.int p2), .val (.int (6 : Int32)), .unset, .unset, .unset, .unset, .unset, .unset] [(.int (6 : Int32))])
    refine Go.st (fun _ k => XS.iconst X0.here hx rfl (hb hby at_6) k) ?_
    show Go _ _ _ _ _ _ _ s₁ (mkF m 7 #[.val (.int p0), .val (.int p1), .val (.int p2), .val (.int (6 : Int32)), .unset, .unset, .unset, .unset, .unset, .unset] [(.int (4 : Int32)), (.int (6 : Int32))])
    refine Go.st (fun _ k => XS.iand X0.here hx rfl (hb hby at_7) rfl k) ?_
    show Go _ _ _ _ _ _ _ s₁ (mkF m 8 #[.val (.int p0), .val (.int p1), .val (.int p2), .val (.int (6 : Int32)), .unset, .unset, .unset, .unset, .unset, .unset] [(.int ((6 : Int32) &&& (4 : Int32)))])
    refine Go.fr (f' := (mkF m 8 #[.val (.int p0), .val (.int p1), .val (.int p2), .val (.int (6 : Int32)), .unset, .unset, .unset, .unset, .unset, .unset] [(.int (4 : Int32))])) (by rw [show ((6 : Int32) &&& (4 : Int32)) = (4 : Int32) from by decide +kernel]) ?_
    show Go _ _ _ _ _ _ _ s₁ (mkF m 8 #[.val (.int p0), .val (.int p1), .val (.int p2), .val (.int (6 : Int32)), .unset, .unset, .unset, .unset, .unset, .unset] [(.int (4 : Int32))])
    refine Go.st (fun _ k => XS.ifNo X0.here hx rfl (hb hby at_8) rfl ((if0 _ _).trans (feq (by decide : ¬ ((4 : Int32) = (0 : Int32)))).1) k) ?_
    show Go _ _ _ _ _ _ _ s₁ (mkF m 11 #[.val (.int p0), .val (.int p1), .val (.int p2), .val (.int (6 : Int32)), .unset, .unset, .unset, .unset, .unset, .unset] [])
    refine Go.st (fun _ k => XS.iconst X0.here hx rfl (hb hby at_11) k) ?_
    show Go _ _ _ _ _ _ _ s₁ (mkF m 12 #[.val (.int p0), .val (.int p1), .val (.int p2), .val (.int (6 : Int32)), .unset, .unset, .unset, .unset, .unset, .unset] [(.int (1 : Int32))])
    refine Go.st (fun _ k => XS.goto X0.here hx rfl (pc0 := 12) (pc' := 16) rfl (hb hby at_12) (by decide) (by decide) k) ?_
    show Go _ _ _ _ _ _ _ s₁ (mkF m 16 #[.val (.int p0), .val (.int p1), .val (.int p2), .val (.int (6 : Int32)), .unset, .unset, .unset, .unset, .unset, .unset] [(.int (1 : Int32))])
    refine Go.st (fun _ k => XS.istore X0.here hx rfl (hb hby at_16) rfl (l' := #[.val (.int p0), .val (.int p1), .val (.int p2), .val (.int (6 : Int32)), .val (.int (1 : Int32)), .unset, .unset, .unset, .unset, .unset]) rfl k) ?_
    show Go _ _ _ _ _ _ _ s₁ (mkF m 18 #[.val (.int p0), .val (.int p1), .val (.int p2), .val (.int (6 : Int32)), .val (.int (1 : Int32)), .unset, .unset, .unset, .unset, .unset] [])
    refine Go.st (fun _ k => XS.iload X0.here hx rfl (hb hby at_18) rfl k) ?_
    show Go _ _ _ _ _ _ _ s₁ (mkF m 20 #[.val (.int p0), .val (.int p1), .val (.int p2), .val (.int (6 : Int32)), .val (.int (1 : Int32)), .unset, .unset, .unset, .unset, .unset] [(.int (1 : Int32))])
    refine Go.st (fun _ k => XS.ifNo X0.here hx rfl (hb hby at_20) rfl ((if0 _ _).trans (feq (by decide : ¬ ((1 : Int32) = (0 : Int32)))).1) k) ?_
    show Go _ _ _ _ _ _ _ s₁ (mkF m 23 #[.val (.int p0), .val (.int p1), .val (.int p2), .val (.int (6 : Int32)), .val (.int (1 : Int32)), .unset, .unset, .unset, .unset, .unset] [])
    refine Go.st (fun _ k => XS.iloadN X0.here hx rfl (hb hby at_23) rfl k) ?_
    show Go _ _ _ _ _ _ _ s₁ (mkF m 24 #[.val (.int p0), .val (.int p1), .val (.int p2), .val (.int (6 : Int32)), .val (.int (1 : Int32)), .unset, .unset, .unset, .unset, .unset] [(.int p0)])
    refine Go.st (fun _ k => XS.goto X0.here hx rfl (pc0 := 24) (pc' := 28) rfl (hb hby at_24) (by decide) (by decide) k) ?_
    show Go _ _ _ _ _ _ _ s₁ (mkF m 28 #[.val (.int p0), .val (.int p1), .val (.int p2), .val (.int (6 : Int32)), .val (.int (1 : Int32)), .unset, .unset, .unset, .unset, .unset] [(.int p0)])
    refine Go.st (fun _ k => XS.istore X0.here hx rfl (hb hby at_28) rfl (l' := #[.val (.int p0), .val (.int p1), .val (.int p2), .val (.int (6 : Int32)), .val (.int (1 : Int32)), .val (.int p0), .unset, .unset, .unset, .unset]) rfl k) ?_
    show Go _ _ _ _ _ _ _ s₁ (mkF m 30 #[.val (.int p0), .val (.int p1), .val (.int p2), .val (.int (6 : Int32)), .val (.int (1 : Int32)), .val (.int p0), .unset, .unset, .unset, .unset] [])
    refine Go.st (fun _ k => XS.iloadN X0.here hx rfl (hb hby at_30) rfl k) ?_
    show Go _ _ _ _ _ _ _ s₁ (mkF m 31 #[.val (.int p0), .val (.int p1), .val (.int p2), .val (.int (6 : Int32)), .val (.int (1 : Int32)), .val (.int p0), .unset, .unset, .unset, .unset] [(.int (6 : Int32))])
    refine Go.st (fun _ k => XS.iconst X0.here hx rfl (hb hby at_31) k) ?_
    show Go _ _ _ _ _ _ _ s₁ (mkF m 32 #[.val (.int p0), .val (.int p1), .val (.int p2), .val (.int (6 : Int32)), .val (.int (1 : Int32)), .val (.int p0), .unset, .unset, .unset, .unset] [(.int (3 : Int32)), (.int (6 : Int32))])
    refine Go.st (fun _ k => XS.iand X0.here hx rfl (hb hby at_32) rfl k) ?_
    show Go _ _ _ _ _ _ _ s₁ (mkF m 33 #[.val (.int p0), .val (.int p1), .val (.int p2), .val (.int (6 : Int32)), .val (.int (1 : Int32)), .val (.int p0), .unset, .unset, .unset, .unset] [(.int ((6 : Int32) &&& (3 : Int32)))])
    refine Go.fr (f' := (mkF m 33 #[.val (.int p0), .val (.int p1), .val (.int p2), .val (.int (6 : Int32)), .val (.int (1 : Int32)), .val (.int p0), .unset, .unset, .unset, .unset] [(.int (2 : Int32))])) (by rw [show ((6 : Int32) &&& (3 : Int32)) = (2 : Int32) from by decide +kernel]) ?_
    show Go _ _ _ _ _ _ _ s₁ (mkF m 33 #[.val (.int p0), .val (.int p1), .val (.int p2), .val (.int (6 : Int32)), .val (.int (1 : Int32)), .val (.int p0), .unset, .unset, .unset, .unset] [(.int (2 : Int32))])
    refine Go.st (fun _ k => XS.istore X0.here hx rfl (hb hby at_33) rfl (l' := #[.val (.int p0), .val (.int p1), .val (.int p2), .val (.int (6 : Int32)), .val (.int (1 : Int32)), .val (.int p0), .val (.int (2 : Int32)), .unset, .unset, .unset]) rfl k) ?_
    show Go _ _ _ _ _ _ _ s₁ (mkF m 35 #[.val (.int p0), .val (.int p1), .val (.int p2), .val (.int (6 : Int32)), .val (.int (1 : Int32)), .val (.int p0), .val (.int (2 : Int32)), .unset, .unset, .unset] [])
    obtain ⟨T65, h65, X65, e65, E65, A65, D65, -, st65⟩ := newO X0 hx hZ hown (hw _ (List.mem_of_getElem? (i := 0) rfl)) (hw _ (List.mem_of_getElem? (i := 1) rfl)) (hw _ (List.mem_of_getElem? (i := 2) rfl)) e0 (g := (mkF m 35 #[.val (.int p0), .val (.int p1), .val (.int p2), .val (.int (6 : Int32)), .val (.int (1 : Int32)), .val (.int p0), .val (.int (2 : Int32)), .unset, .unset, .unset] [])) rfl (hb hby at_35) (by decide) (by decide)
    obtain ⟨b65, g65⟩ : ∃ z, z = h0.size := ⟨_, rfl⟩
    rw [← g65] at A65 D65 st65
    have ne66 : w_INT ≠ b65 := Nat.ne_of_lt (Nat.lt_of_lt_of_le E_INT.lt (Nat.le_of_eq g65.symm))
    have ne67 : w_c ≠ b65 := Nat.ne_of_lt (Nat.lt_of_lt_of_le Ar.lt (Nat.le_of_eq g65.symm))
    have g_b65 : n0 ≤ b65 := Nat.le_trans Z0 (Nat.le_of_eq g65.symm)
    have S_INT__65 := S_INT.ext E65
    have E_INT__65 := E_INT.ext E65
    have S_high__65 := S_high.ext E65
    have S_cache__65 := S_cache.ext E65
    have Z65 : n0 ≤ h65.size := Nat.le_trans Z0 E65.1
    have Ar__65 := Ar.ext E65
    have hC__65 : ∀ j : Int32, ¬ (j < 0 ∨ cl.slots.size ≤ j.toNatClampNeg) → ∃ r, cl.slots[j.toNatClampNeg]? = some (.ref r) ∧ Exa Z h65 r "java/lang/Integer" := fun j hj => by obtain ⟨r, hr, Er⟩ := hC j hj; exact ⟨r, hr, Er.ext E65⟩
    have F_value_b65 : Fld Z h65 b65 "com/example/prudent_checker/prudentchecker/language/IntegerLiteral" "value" "I" (.int (0 : Int32)) := D65 (Or.inr (hw _ (List.mem_of_getElem? (i := 15) rfl))) (ty := .int) (by decide)
    refine Go.st st65 ?_
    show Go _ _ _ _ _ _ _ T65 (mkF m 38 #[.val (.int p0), .val (.int p1), .val (.int p2), .val (.int (6 : Int32)), .val (.int (1 : Int32)), .val (.int p0), .val (.int (2 : Int32)), .unset, .unset, .unset] [(.ref b65)])
    refine Go.st (fun _ k => XS.dup X65.here hx rfl (hb hby at_38) rfl rfl k) ?_
    show Go _ _ _ _ _ _ _ T65 (mkF m 39 #[.val (.int p0), .val (.int p1), .val (.int p2), .val (.int (6 : Int32)), .val (.int (1 : Int32)), .val (.int p0), .val (.int (2 : Int32)), .unset, .unset, .unset] [(.ref b65), (.ref b65)])
    refine Go.st (fun _ k => XS.iloadN X65.here hx rfl (hb hby at_39) rfl k) ?_
    show Go _ _ _ _ _ _ _ T65 (mkF m 40 #[.val (.int p0), .val (.int p1), .val (.int p2), .val (.int (6 : Int32)), .val (.int (1 : Int32)), .val (.int p0), .val (.int (2 : Int32)), .unset, .unset, .unset] [(.int p0), (.ref b65), (.ref b65)])
    obtain ⟨_, _, ⟨T68, L68, k68, n68⟩, -, X68, ⟨Lc68, hQ68, l68, y68, z68⟩, st68⟩ := X65.specialBack hx (y := (⟨"com/example/prudent_checker/prudentchecker/language/IntegerLiteral", "<init>", "(I)V"⟩ : MethodName)) rfl hown (mvT hZ (hw _ (List.mem_of_getElem? (i := 3) rfl))) (mvT hZ (hw _ (List.mem_of_getElem? (i := 4) rfl))) (mvT hZ (hw _ (List.mem_of_getElem? (i := 5) rfl))) (by decide) (backOf (W := 1) (rm1 l Z a0 hw [] b65 p0 (0 : Int32) h65 n0 Z65 A65 F_value_b65 g_b65) hZ (hw _ (List.mem_of_getElem? (i := 5) rfl)) (hw _ (List.mem_of_getElem? (i := 2) rfl)) (by decide) (by decide)) (g := (mkF m 40 #[.val (.int p0), .val (.int p1), .val (.int p2), .val (.int (6 : Int32)), .val (.int (1 : Int32)), .val (.int p0), .val (.int (2 : Int32)), .unset, .unset, .unset] [(.int p0), (.ref b65), (.ref b65)])) rfl (by rw [hml]; rfl) (Steps.refl _) (a := b65) (argsL := [(.int p0)]) (rest := [(.ref b65)]) (lenOf pd_1 rfl) rfl (by show 2 * 0 + _ ≤ _; exact Nat.le_of_eq rfl) (hb hby at_40) (fun _ _ => ⟨rfl, e65, (by decide : 1 + 0 ≤ _), (by decide : 1 + 0 ≤ _)⟩)
    dsimp only [Pt.U, Pt.locs, Pt.cells, Pt.slots] at X68 l68 y68 z68 st68 hQ68
    subst l68 y68 z68
    generalize e68 : T68.heap = h68 at hQ68
    obtain ⟨rfl, N68q, K68, EE68, FF_value_68⟩ := hQ68
    have N68 := Fr.app N0 N68q
    refine Go.st (fun _ k => st68.trans k) ?_
    have S_INT__68 := own_sta S_INT__65 K68 (allS A65.cell (all0))
    have E_INT__68 := E_INT__65.keep K68
    have S_high__68 := own_sta S_high__65 K68 (allS A65.cell (all0))
    have S_cache__68 := own_sta S_cache__65 K68 (allS A65.cell (all0))
    have A65__68 := A65.keep K68
    have Z68 : n0 ≤ h68.size := Nat.le_trans Z65 K68.1
    have Ar__68 : Arr Z h68 w_c cl _ := own_arrk Ar__65 K68 (ninS ne67 (nin0))
    have hC__68 : ∀ j : Int32, ¬ (j < 0 ∨ cl.slots.size ≤ j.toNatClampNeg) → ∃ r, cl.slots[j.toNatClampNeg]? = some (.ref r) ∧ Exa Z h68 r "java/lang/Integer" := fun j hj => by obtain ⟨r, hr, Er⟩ := hC__65 j hj; exact ⟨r, hr, Er.keep K68⟩
    rw [show (val_1_value b65 p0 (0 : Int32)) = p0 from by unfold val_1_value; rfl] at FF_value_68
    have F_value_b65__68 := FF_value_68
    show Go _ _ _ _ _ _ _ T68 (mkF m 43 #[.val (.int p0), .val (.int p1), .val (.int p2), .val (.int (6 : Int32)), .val (.int (1 : Int32)), .val (.int p0), .val (.int (2 : Int32)), .unset, .unset, .unset] [(.ref b65)])
    refine Go.st (fun _ k => XS.astore X68.here hx rfl (hb hby at_43) rfl rfl (l' := #[.val (.int p0), .val (.int p1), .val (.int p2), .val (.int (6 : Int32)), .val (.int (1 : Int32)), .val (.int p0), .val (.int (2 : Int32)), .val (.ref b65), .unset, .unset]) rfl k) ?_
    show Go _ _ _ _ _ _ _ T68 (mkF m 45 #[.val (.int p0), .val (.int p1), .val (.int p2), .val (.int (6 : Int32)), .val (.int (1 : Int32)), .val (.int p0), .val (.int (2 : Int32)), .val (.ref b65), .unset, .unset] [])
    refine Go.st (fun _ k => XS.iload X68.here hx rfl (hb hby at_45) rfl k) ?_
    show Go _ _ _ _ _ _ _ T68 (mkF m 47 #[.val (.int p0), .val (.int p1), .val (.int p2), .val (.int (6 : Int32)), .val (.int (1 : Int32)), .val (.int p0), .val (.int (2 : Int32)), .val (.ref b65), .unset, .unset] [(.int (2 : Int32))])
    refine Go.st (fun _ k => XS.ifYes X68.here hx rfl (pc0 := 47) (pc' := 114) rfl (hb hby at_47) rfl ((if0 _ _).trans (feq (by decide : ¬ ((2 : Int32) = (0 : Int32)))).2) (by decide) (by decide) k) ?_
    show Go _ _ _ _ _ _ _ T68 (mkF m 114 #[.val (.int p0), .val (.int p1), .val (.int p2), .val (.int (6 : Int32)), .val (.int (1 : Int32)), .val (.int p0), .val (.int (2 : Int32)), .val (.ref b65), .unset, .unset] [])
    refine Go.st (fun _ k => XS.iload X68.here hx rfl (hb hby at_114) rfl k) ?_
    show Go _ _ _ _ _ _ _ T68 (mkF m 116 #[.val (.int p0), .val (.int p1), .val (.int p2), .val (.int (6 : Int32)), .val (.int (1 : Int32)), .val (.int p0), .val (.int (2 : Int32)), .val (.ref b65), .unset, .unset] [(.int (2 : Int32))])
    refine Go.st (fun _ k => XS.iconst X68.here hx rfl (hb hby at_116) k) ?_
    show Go _ _ _ _ _ _ _ T68 (mkF m 117 #[.val (.int p0), .val (.int p1), .val (.int p2), .val (.int (6 : Int32)), .val (.int (1 : Int32)), .val (.int p0), .val (.int (2 : Int32)), .val (.ref b65), .unset, .unset] [(.int (1 : Int32)), (.int (2 : Int32))])
    refine Go.st (fun _ k => XS.icmpYes X68.here hx rfl (pc0 := 117) (pc' := 149) rfl (hb hby at_117) rfl (feq (by decide : ¬ ((2 : Int32) = (1 : Int32)))).2 (by decide) (by decide) k) ?_
    show Go _ _ _ _ _ _ _ T68 (mkF m 149 #[.val (.int p0), .val (.int p1), .val (.int p2), .val (.int (6 : Int32)), .val (.int (1 : Int32)), .val (.int p0), .val (.int (2 : Int32)), .val (.ref b65), .unset, .unset] [])
    refine Go.st (fun _ k => XS.iload X68.here hx rfl (hb hby at_149) rfl k) ?_
    show Go _ _ _ _ _ _ _ T68 (mkF m 151 #[.val (.int p0), .val (.int p1), .val (.int p2), .val (.int (6 : Int32)), .val (.int (1 : Int32)), .val (.int p0), .val (.int (2 : Int32)), .val (.ref b65), .unset, .unset] [(.int (2 : Int32))])
    refine Go.st (fun _ k => XS.iconst X68.here hx rfl (hb hby at_151) k) ?_
    show Go _ _ _ _ _ _ _ T68 (mkF m 152 #[.val (.int p0), .val (.int p1), .val (.int p2), .val (.int (6 : Int32)), .val (.int (1 : Int32)), .val (.int p0), .val (.int (2 : Int32)), .val (.ref b65), .unset, .unset] [(.int (2 : Int32)), (.int (2 : Int32))])
    refine Go.st (fun _ k => XS.icmpNo X68.here hx rfl (hb hby at_152) rfl (teq (by decide : (2 : Int32) = (2 : Int32))).2 k) ?_
    show Go _ _ _ _ _ _ _ T68 (mkF m 155 #[.val (.int p0), .val (.int p1), .val (.int p2), .val (.int (6 : Int32)), .val (.int (1 : Int32)), .val (.int p0), .val (.int (2 : Int32)), .val (.ref b65), .unset, .unset] [])
    refine Go.st (fun _ k => XS.iloadN X68.here hx rfl (hb hby at_155) rfl k) ?_
    show Go _ _ _ _ _ _ _ T68 (mkF m 156 #[.val (.int p0), .val (.int p1), .val (.int p2), .val (.int (6 : Int32)), .val (.int (1 : Int32)), .val (.int p0), .val (.int (2 : Int32)), .val (.ref b65), .unset, .unset] [(.int p0)])
    obtain ⟨_, _, ⟨T69, L69, k69, n69⟩, -, X69, ⟨Lc69, hQ69, l69, y69, z69⟩, st69⟩ := Jvm.LawKit.callS X68 hx (y := (⟨"java/lang/Integer", "valueOf", "(I)Ljava/lang/Integer;"⟩ : MethodName)) hown (mvT hZ (hw _ (List.mem_of_getElem? (i := 16) rfl))) (mvT hZ (hw _ (List.mem_of_getElem? (i := 17) rfl))) (mvT hZ (hw _ (List.mem_of_getElem? (i := 18) rfl))) (mvT hZ (hw _ (List.mem_of_getElem? (i := 19) rfl))) (by decide) (backOf (W := 0) (rm4 l Z a0 hw [] p0 w_c cl h68 n0 Z68 S_high__68 S_cache__68 Ar__68 hsz hC__68) hZ (hw _ (List.mem_of_getElem? (i := 19) rfl)) (hw _ (List.mem_of_getElem? (i := 18) rfl)) (by decide) (by decide)) (g := (mkF m 156 #[.val (.int p0), .val (.int p1), .val (.int p2), .val (.int (6 : Int32)), .val (.int (1 : Int32)), .val (.int p0), .val (.int (2 : Int32)), .val (.ref b65), .unset, .unset] [(.int p0)])) rfl (by rw [hml]; rfl) (argsL := [(.int p0)]) (rest := []) (lenOf pd_3 rfl) rfl (by show 2 * 0 + _ ≤ _; exact Nat.le_of_eq rfl) (hb hby at_156) (fun _ _ => ⟨rfl, e68, (by decide : 1 + 1 ≤ _), (by decide : 1 + 1 ≤ _)⟩)
    dsimp only [Pt.U, Pt.locs, Pt.cells, Pt.slots] at X69 l69 y69 z69 st69 hQ69
    subst l69 y69 z69
    generalize e69 : T69.heap = h69 at hQ69
    obtain ⟨r69, rfl, N69q, K69, EE69⟩ := hQ69
    have N69 := Fr.app N68 N69q
    refine Go.st st69 ?_
    have S_INT__69 := own_sta S_INT__68 K69 (all0)
    have E_INT__69 := E_INT__68.keep K69
    have S_high__69 := own_sta S_high__68 K69 (all0)
    have S_cache__69 := own_sta S_cache__68 K69 (all0)
    have EE68__69 := EE68.keep K69
    have F_value_b65__69 := F_value_b65__68.keep K69 (nin0)
    have Z69 : n0 ≤ h69.size := Nat.le_trans Z68 K69.1
    have Ar__69 : Arr Z h69 w_c cl _ := own_arrk Ar__68 K69 (nin0)
    have hC__69 : ∀ j : Int32, ¬ (j < 0 ∨ cl.slots.size ≤ j.toNatClampNeg) → ∃ r, cl.slots[j.toNatClampNeg]? = some (.ref r) ∧ Exa Z h69 r "java/lang/Integer" := fun j hj => by obtain ⟨r, hr, Er⟩ := hC__68 j hj; exact ⟨r, hr, Er.keep K69⟩
    show Go _ _ _ _ _ _ _ T69 (mkF m 159 #[.val (.int p0), .val (.int p1), .val (.int p2), .val (.int (6 : Int32)), .val (.int (1 : Int32)), .val (.int p0), .val (.int (2 : Int32)), .val (.ref b65), .unset, .unset] [(.ref r69)])
    refine Go.st (fun _ k => XS.astore X69.here hx rfl (hb hby at_159) rfl rfl (l' := #[.val (.int p0), .val (.int p1), .val (.int p2), .val (.int (6 : Int32)), .val (.int (1 : Int32)), .val (.int p0), .val (.int (2 : Int32)), .val (.ref b65), .val (.ref r69), .unset]) rfl k) ?_
    show Go _ _ _ _ _ _ _ T69 (mkF m 161 #[.val (.int p0), .val (.int p1), .val (.int p2), .val (.int (6 : Int32)), .val (.int (1 : Int32)), .val (.int p0), .val (.int (2 : Int32)), .val (.ref b65), .val (.ref r69), .unset] [])
    refine Go.st (fun _ k => XS.aload X69.here hx rfl (hb hby at_161) rfl rfl k) ?_
    show Go _ _ _ _ _ _ _ T69 (mkF m 163 #[.val (.int p0), .val (.int p1), .val (.int p2), .val (.int (6 : Int32)), .val (.int (1 : Int32)), .val (.int p0), .val (.int (2 : Int32)), .val (.ref b65), .val (.ref r69), .unset] [(.ref b65)])
    refine Go.st (fun _ k => XS.aload X69.here hx rfl (hb hby at_163) rfl rfl k) ?_
    show Go _ _ _ _ _ _ _ T69 (mkF m 165 #[.val (.int p0), .val (.int p1), .val (.int p2), .val (.int (6 : Int32)), .val (.int (1 : Int32)), .val (.int p0), .val (.int (2 : Int32)), .val (.ref b65), .val (.ref r69), .unset] [(.ref r69), (.ref b65)])
    obtain ⟨cq70, kq70, q70a, q70b, q70c⟩ := isOf hZ e69 EE68__69
    obtain ⟨_, _, ⟨T70, L70, k70, n70⟩, -, X70, ⟨Lc70, hQ70, l70, y70, z70⟩, st70⟩ := X69.virtualBack hx (y := (⟨"com/example/prudent_checker/prudentchecker/language/IntegerLiteral", "equals", "(Ljava/lang/Object;)Z"⟩ : MethodName)) (z := (⟨"com/example/prudent_checker/prudentchecker/language/IntegerLiteral", "equals", "(Ljava/lang/Object;)Z"⟩ : MethodName)) hown (mvT hZ (hw _ (List.mem_of_getElem? (i := 23) rfl))) (mvT hZ (hw _ (List.mem_of_getElem? (i := 24) rfl))) (notFace_of_selects (args := #[]) (mvT hZ (hw _ (List.mem_of_getElem? (i := 26) rfl)))) (mvT hZ (hw _ (List.mem_of_getElem? (i := 26) rfl))) (mvT hZ (hw _ (List.mem_of_getElem? (i := 25) rfl))) (by decide) (backOf (W := 0) (rm5j l Z a0 hw [] b65 r69  h69 n0 Z69 EE69) hZ (hw _ (List.mem_of_getElem? (i := 27) rfl)) (hw _ (List.mem_of_getElem? (i := 2) rfl)) (by decide) (by decide)) q70a q70c (g := (mkF m 165 #[.val (.int p0), .val (.int p1), .val (.int p2), .val (.int (6 : Int32)), .val (.int (1 : Int32)), .val (.int p0), .val (.int (2 : Int32)), .val (.ref b65), .val (.ref r69), .unset] [(.ref r69), (.ref b65)])) rfl (by rw [hml]; rfl) (Steps.refl _) (argsL := [(.ref r69)]) (rest := []) (lenOf pd_2 rfl) rfl (by show 2 * 0 + _ ≤ _; exact Nat.le_of_eq rfl) (hb hby at_165) (fun _ _ => ⟨rfl, e69, (by decide : 2 + 0 ≤ _), (by decide : 2 + 0 ≤ _)⟩)
    dsimp only [Pt.U, Pt.locs, Pt.cells, Pt.slots] at X70 l70 y70 z70 st70 hQ70
    subst l70 y70 z70
    obtain ⟨rfl, N70q, e70⟩ := hQ70
    have N70 := Fr.app N69 N70q
    refine Go.st (fun _ k => st70.trans k) ?_
    show Go _ _ _ _ _ _ _ T70 (mkF m 168 #[.val (.int p0), .val (.int p1), .val (.int p2), .val (.int (6 : Int32)), .val (.int (1 : Int32)), .val (.int p0), .val (.int (2 : Int32)), .val (.ref b65), .val (.ref r69), .unset] [(.int (val_5j b65 r69))])
    rw [show (val_5j b65 r69) = (0 : Int32) from by unfold val_5j; rfl]
    show Go _ _ _ _ _ _ _ T70 (mkF m 168 #[.val (.int p0), .val (.int p1), .val (.int p2), .val (.int (6 : Int32)), .val (.int (1 : Int32)), .val (.int p0), .val (.int (2 : Int32)), .val (.ref b65), .val (.ref r69), .unset] [(.int (0 : Int32))])
    refine Go.st (fun _ k => XS.ifNo X70.here hx rfl (hb hby at_168) rfl ((if0 _ _).trans (teq (by decide : (0 : Int32) = (0 : Int32))).2) k) ?_
    show Go _ _ _ _ _ _ _ T70 (mkF m 171 #[.val (.int p0), .val (.int p1), .val (.int p2), .val (.int (6 : Int32)), .val (.int (1 : Int32)), .val (.int p0), .val (.int (2 : Int32)), .val (.ref b65), .val (.ref r69), .unset] [])
    refine Go.st (fun _ k => XS.iconst X70.here hx rfl (hb hby at_171) k) ?_
    show Go _ _ _ _ _ _ _ T70 (mkF m 172 #[.val (.int p0), .val (.int p1), .val (.int p2), .val (.int (6 : Int32)), .val (.int (1 : Int32)), .val (.int p0), .val (.int (2 : Int32)), .val (.ref b65), .val (.ref r69), .unset] [(.int (1 : Int32))])
    refine Go.st (fun _ k => XS.goto X70.here hx rfl (pc0 := 172) (pc' := 176) rfl (hb hby at_172) (by decide) (by decide) k) ?_
    show Go _ _ _ _ _ _ _ T70 (mkF m 176 #[.val (.int p0), .val (.int p1), .val (.int p2), .val (.int (6 : Int32)), .val (.int (1 : Int32)), .val (.int p0), .val (.int (2 : Int32)), .val (.ref b65), .val (.ref r69), .unset] [(.int (1 : Int32))])
    refine Go.ret X70 hlk (v := some (.int (1 : Int32))) (fun h => by rw [hret] at h; cases h) (fun fs hr => retN X70 hx (t := .boolean) hret (by simp) (hb hby at_176) hr) ?_ (by decide) (by decide)
    show Q0 Z p0 p1 p2 w_INT w_c cl h0 n0 (some (.int (1 : Int32))) T70.heap _
    rw [e70]
    exact ⟨rfl, N70⟩
  · rw [hk1]
    show Go _ _ _ _ _ _ _ s₁ (mkF m 4 #[.val (.int p0), .val (.int p1), .val (.int p2), .unset, .unset, .unset, .unset, .unset, .unset, .unset] [(.int (7 : Int32))])
    refine Go.st (fun _ k => XS.istoreN X0.here hx rfl (hb hby at_4) rfl (l' := #[.val (.int p0), .val (.int p1), .val (.int p2), .val (.int (7 : Int32)), .unset, .unset, .unset, .unset, .unset, .unset]) rfl k) ?_
    show Go _ _ _ _ _ _ _ s₁ (mkF m 5 #[.val (.int p0), .val (.int p1), .val (.int p2), .val (.int (7 : Int32)), .unset, .unset, .unset, .unset, .unset, .unset] [])
    refine Go.st (fun _ k => XS.iloadN X0.here hx rfl (hb hby at_5) rfl k) ?_
    show Go _ _ _ _ _ _ _ s₁ (mkF m 6 #[.val (.int p0), .val (.int p1), .val (.int p2), .val (.int (7 : Int32)), .unset, .unset, .unset, .unset, .unset, .unset] [(.int (7 : Int32))])
    refine Go.st (fun _ k => XS.iconst X0.here hx rfl (hb hby at_6) k) ?_
    show Go _ _ _ _ _ _ _ s₁ (mkF m 7 #[.val (.int p0), .val (.int p1), .val (.int p2), .val (.int (7 : Int32)), .unset, .unset, .unset, .unset, .unset, .unset] [(.int (4 : Int32)), (.int (7 : Int32))])
    refine Go.st (fun _ k => XS.iand X0.here hx rfl (hb hby at_7) rfl k) ?_
    show Go _ _ _ _ _ _ _ s₁ (mkF m 8 #[.val (.int p0), .val (.int p1), .val (.int p2), .val (.int (7 : Int32)), .unset, .unset, .unset, .unset, .unset, .unset] [(.int ((7 : Int32) &&& (4 : Int32)))])
    refine Go.fr (f' := (mkF m 8 #[.val (.int p0), .val (.int p1), .val (.int p2), .val (.int (7 : Int32)), .unset, .unset, .unset, .unset, .unset, .unset] [(.int (4 : Int32))])) (by rw [show ((7 : Int32) &&& (4 : Int32)) = (4 : Int32) from by decide +kernel]) ?_
    show Go _ _ _ _ _ _ _ s₁ (mkF m 8 #[.val (.int p0), .val (.int p1), .val (.int p2), .val (.int (7 : Int32)), .unset, .unset, .unset, .unset, .unset, .unset] [(.int (4 : Int32))])
    refine Go.st (fun _ k => XS.ifNo X0.here hx rfl (hb hby at_8) rfl ((if0 _ _).trans (feq (by decide : ¬ ((4 : Int32) = (0 : Int32)))).1) k) ?_
    show Go _ _ _ _ _ _ _ s₁ (mkF m 11 #[.val (.int p0), .val (.int p1), .val (.int p2), .val (.int (7 : Int32)), .unset, .unset, .unset, .unset, .unset, .unset] [])
    refine Go.st (fun _ k => XS.iconst X0.here hx rfl (hb hby at_11) k) ?_
    show Go _ _ _ _ _ _ _ s₁ (mkF m 12 #[.val (.int p0), .val (.int p1), .val (.int p2), .val (.int (7 : Int32)), .unset, .unset, .unset, .unset, .unset, .unset] [(.int (1 : Int32))])
    refine Go.st (fun _ k => XS.goto X0.here hx rfl (pc0 := 12) (pc' := 16) rfl (hb hby at_12) (by decide) (by decide) k) ?_
    show Go _ _ _ _ _ _ _ s₁ (mkF m 16 #[.val (.int p0), .val (.int p1), .val (.int p2), .val (.int (7 : Int32)), .unset, .unset, .unset, .unset, .unset, .unset] [(.int (1 : Int32))])
    refine Go.st (fun _ k => XS.istore X0.here hx rfl (hb hby at_16) rfl (l' := #[.val (.int p0), .val (.int p1), .val (.int p2), .val (.int (7 : Int32)), .val (.int (1 : Int32)), .unset, .unset, .unset, .unset, .unset]) rfl k) ?_
    show Go _ _ _ _ _ _ _ s₁ (mkF m 18 #[.val (.int p0), .val (.int p1), .val (.int p2), .val (.int (7 : Int32)), .val (.int (1 : Int32)), .unset, .unset, .unset, .unset, .unset] [])
    refine Go.st (fun _ k => XS.iload X0.here hx rfl (hb hby at_18) rfl k) ?_
    show Go _ _ _ _ _ _ _ s₁ (mkF m 20 #[.val (.int p0), .val (.int p1), .val (.int p2), .val (.int (7 : Int32)), .val (.int (1 : Int32)), .unset, .unset, .unset, .unset, .unset] [(.int (1 : Int32))])
    refine Go.st (fun _ k => XS.ifNo X0.here hx rfl (hb hby at_20) rfl ((if0 _ _).trans (feq (by decide : ¬ ((1 : Int32) = (0 : Int32)))).1) k) ?_
    show Go _ _ _ _ _ _ _ s₁ (mkF m 23 #[.val (.int p0), .val (.int p1), .val (.int p2), .val (.int (7 : Int32)), .val (.int (1 : Int32)), .unset, .unset, .unset, .unset, .unset] [])
    refine Go.st (fun _ k => XS.iloadN X0.here hx rfl (hb hby at_23) rfl k) ?_
    show Go _ _ _ _ _ _ _ s₁ (mkF m 24 #[.val (.int p0), .val (.int p1), .val (.int p2), .val (.int (7 : Int32)), .val (.int (1 : Int32)), .unset, .unset, .unset, .unset, .unset] [(.int p0)])
    refine Go.st (fun _ k => XS.goto X0.here hx rfl (pc0 := 24) (pc' := 28) rfl (hb hby at_24) (by decide) (by decide) k) ?_
    show Go _ _ _ _ _ _ _ s₁ (mkF m 28 #[.val (.int p0), .val (.int p1), .val (.int p2), .val (.int (7 : Int32)), .val (.int (1 : Int32)), .unset, .unset, .unset, .unset, .unset] [(.int p0)])
    refine Go.st (fun _ k => XS.istore X0.here hx rfl (hb hby at_28) rfl (l' := #[.val (.int p0), .val (.int p1), .val (.int p2), .val (.int (7 : Int32)), .val (.int (1 : Int32)), .val (.int p0), .unset, .unset, .unset, .unset]) rfl k) ?_
    show Go _ _ _ _ _ _ _ s₁ (mkF m 30 #[.val (.int p0), .val (.int p1), .val (.int p2), .val (.int (7 : Int32)), .val (.int (1 : Int32)), .val (.int p0), .unset, .unset, .unset, .unset] [])
    refine Go.st (fun _ k => XS.iloadN X0.here hx rfl (hb hby at_30) rfl k) ?_
    show Go _ _ _ _ _ _ _ s₁ (mkF m 31 #[.val (.int p0), .val (.int p1), .val (.int p2), .val (.int (7 : Int32)), .val (.int (1 : Int32)), .val (.int p0), .unset, .unset, .unset, .unset] [(.int (7 : Int32))])
    refine Go.st (fun _ k => XS.iconst X0.here hx rfl (hb hby at_31) k) ?_
    show Go _ _ _ _ _ _ _ s₁ (mkF m 32 #[.val (.int p0), .val (.int p1), .val (.int p2), .val (.int (7 : Int32)), .val (.int (1 : Int32)), .val (.int p0), .unset, .unset, .unset, .unset] [(.int (3 : Int32)), (.int (7 : Int32))])
    refine Go.st (fun _ k => XS.iand X0.here hx rfl (hb hby at_32) rfl k) ?_
    show Go _ _ _ _ _ _ _ s₁ (mkF m 33 #[.val (.int p0), .val (.int p1), .val (.int p2), .val (.int (7 : Int32)), .val (.int (1 : Int32)), .val (.int p0), .unset, .unset, .unset, .unset] [(.int ((7 : Int32) &&& (3 : Int32)))])
    refine Go.fr (f' := (mkF m 33 #[.val (.int p0), .val (.int p1), .val (.int p2), .val (.int (7 : Int32)), .val (.int (1 : Int32)), .val (.int p0), .unset, .unset, .unset, .unset] [(.int (3 : Int32))])) (by rw [show ((7 : Int32) &&& (3 : Int32)) = (3 : Int32) from by decide +kernel]) ?_
    show Go _ _ _ _ _ _ _ s₁ (mkF m 33 #[.val (.int p0), .val (.int p1), .val (.int p2), .val (.int (7 : Int32)), .val (.int (1 : Int32)), .val (.int p0), .unset, .unset, .unset, .unset] [(.int (3 : Int32))])
    refine Go.st (fun _ k => XS.istore X0.here hx rfl (hb hby at_33) rfl (l' := #[.val (.int p0), .val (.int p1), .val (.int p2), .val (.int (7 : Int32)), .val (.int (1 : Int32)), .val (.int p0), .val (.int (3 : Int32)), .unset, .unset, .unset]) rfl k) ?_
    show Go _ _ _ _ _ _ _ s₁ (mkF m 35 #[.val (.int p0), .val (.int p1), .val (.int p2), .val (.int (7 : Int32)), .val (.int (1 : Int32)), .val (.int p0), .val (.int (3 : Int32)), .unset, .unset, .unset] [])
    obtain ⟨T71, h71, X71, e71, E71, A71, D71, -, st71⟩ := newO X0 hx hZ hown (hw _ (List.mem_of_getElem? (i := 0) rfl)) (hw _ (List.mem_of_getElem? (i := 1) rfl)) (hw _ (List.mem_of_getElem? (i := 2) rfl)) e0 (g := (mkF m 35 #[.val (.int p0), .val (.int p1), .val (.int p2), .val (.int (7 : Int32)), .val (.int (1 : Int32)), .val (.int p0), .val (.int (3 : Int32)), .unset, .unset, .unset] [])) rfl (hb hby at_35) (by decide) (by decide)
    obtain ⟨b71, g71⟩ : ∃ z, z = h0.size := ⟨_, rfl⟩
    rw [← g71] at A71 D71 st71
    have ne72 : w_INT ≠ b71 := Nat.ne_of_lt (Nat.lt_of_lt_of_le E_INT.lt (Nat.le_of_eq g71.symm))
    have ne73 : w_c ≠ b71 := Nat.ne_of_lt (Nat.lt_of_lt_of_le Ar.lt (Nat.le_of_eq g71.symm))
    have g_b71 : n0 ≤ b71 := Nat.le_trans Z0 (Nat.le_of_eq g71.symm)
    have S_INT__71 := S_INT.ext E71
    have E_INT__71 := E_INT.ext E71
    have S_high__71 := S_high.ext E71
    have S_cache__71 := S_cache.ext E71
    have Z71 : n0 ≤ h71.size := Nat.le_trans Z0 E71.1
    have Ar__71 := Ar.ext E71
    have hC__71 : ∀ j : Int32, ¬ (j < 0 ∨ cl.slots.size ≤ j.toNatClampNeg) → ∃ r, cl.slots[j.toNatClampNeg]? = some (.ref r) ∧ Exa Z h71 r "java/lang/Integer" := fun j hj => by obtain ⟨r, hr, Er⟩ := hC j hj; exact ⟨r, hr, Er.ext E71⟩
    have F_value_b71 : Fld Z h71 b71 "com/example/prudent_checker/prudentchecker/language/IntegerLiteral" "value" "I" (.int (0 : Int32)) := D71 (Or.inr (hw _ (List.mem_of_getElem? (i := 15) rfl))) (ty := .int) (by decide)
    refine Go.st st71 ?_
    show Go _ _ _ _ _ _ _ T71 (mkF m 38 #[.val (.int p0), .val (.int p1), .val (.int p2), .val (.int (7 : Int32)), .val (.int (1 : Int32)), .val (.int p0), .val (.int (3 : Int32)), .unset, .unset, .unset] [(.ref b71)])
    refine Go.st (fun _ k => XS.dup X71.here hx rfl (hb hby at_38) rfl rfl k) ?_
    show Go _ _ _ _ _ _ _ T71 (mkF m 39 #[.val (.int p0), .val (.int p1), .val (.int p2), .val (.int (7 : Int32)), .val (.int (1 : Int32)), .val (.int p0), .val (.int (3 : Int32)), .unset, .unset, .unset] [(.ref b71), (.ref b71)])
    refine Go.st (fun _ k => XS.iloadN X71.here hx rfl (hb hby at_39) rfl k) ?_
    show Go _ _ _ _ _ _ _ T71 (mkF m 40 #[.val (.int p0), .val (.int p1), .val (.int p2), .val (.int (7 : Int32)), .val (.int (1 : Int32)), .val (.int p0), .val (.int (3 : Int32)), .unset, .unset, .unset] [(.int p0), (.ref b71), (.ref b71)])
    obtain ⟨_, _, ⟨T74, L74, k74, n74⟩, -, X74, ⟨Lc74, hQ74, l74, y74, z74⟩, st74⟩ := X71.specialBack hx (y := (⟨"com/example/prudent_checker/prudentchecker/language/IntegerLiteral", "<init>", "(I)V"⟩ : MethodName)) rfl hown (mvT hZ (hw _ (List.mem_of_getElem? (i := 3) rfl))) (mvT hZ (hw _ (List.mem_of_getElem? (i := 4) rfl))) (mvT hZ (hw _ (List.mem_of_getElem? (i := 5) rfl))) (by decide) (backOf (W := 1) (rm1 l Z a0 hw [] b71 p0 (0 : Int32) h71 n0 Z71 A71 F_value_b71 g_b71) hZ (hw _ (List.mem_of_getElem? (i := 5) rfl)) (hw _ (List.mem_of_getElem? (i := 2) rfl)) (by decide) (by decide)) (g := (mkF m 40 #[.val (.int p0), .val (.int p1), .val (.int p2), .val (.int (7 : Int32)), .val (.int (1 : Int32)), .val (.int p0), .val (.int (3 : Int32)), .unset, .unset, .unset] [(.int p0), (.ref b71), (.ref b71)])) rfl (by rw [hml]; rfl) (Steps.refl _) (a := b71) (argsL := [(.int p0)]) (rest := [(.ref b71)]) (lenOf pd_1 rfl) rfl (by show 2 * 0 + _ ≤ _; exact Nat.le_of_eq rfl) (hb hby at_40) (fun _ _ => ⟨rfl, e71, (by decide : 1 + 0 ≤ _), (by decide : 1 + 0 ≤ _)⟩)
    dsimp only [Pt.U, Pt.locs, Pt.cells, Pt.slots] at X74 l74 y74 z74 st74 hQ74
    subst l74 y74 z74
    generalize e74 : T74.heap = h74 at hQ74
    obtain ⟨rfl, N74q, K74, EE74, FF_value_74⟩ := hQ74
    have N74 := Fr.app N0 N74q
    refine Go.st (fun _ k => st74.trans k) ?_
    have S_INT__74 := own_sta S_INT__71 K74 (allS A71.cell (all0))
    have E_INT__74 := E_INT__71.keep K74
    have S_high__74 := own_sta S_high__71 K74 (allS A71.cell (all0))
    have S_cache__74 := own_sta S_cache__71 K74 (allS A71.cell (all0))
    have A71__74 := A71.keep K74
    have Z74 : n0 ≤ h74.size := Nat.le_trans Z71 K74.1
    have Ar__74 : Arr Z h74 w_c cl _ := own_arrk Ar__71 K74 (ninS ne73 (nin0))
    have hC__74 : ∀ j : Int32, ¬ (j < 0 ∨ cl.slots.size ≤ j.toNatClampNeg) → ∃ r, cl.slots[j.toNatClampNeg]? = some (.ref r) ∧ Exa Z h74 r "java/lang/Integer" := fun j hj => by obtain ⟨r, hr, Er⟩ := hC__71 j hj; exact ⟨r, hr, Er.keep K74⟩
    rw [show (val_1_value b71 p0 (0 : Int32)) = p0 from by unfold val_1_value; rfl] at FF_value_74
    have F_value_b71__74 := FF_value_74
    show Go _ _ _ _ _ _ _ T74 (mkF m 43 #[.val (.int p0), .val (.int p1), .val (.int p2), .val (.int (7 : Int32)), .val (.int (1 : Int32)), .val (.int p0), .val (.int (3 : Int32)), .unset, .unset, .unset] [(.ref b71)])
    refine Go.st (fun _ k => XS.astore X74.here hx rfl (hb hby at_43) rfl rfl (l' := #[.val (.int p0), .val (.int p1), .val (.int p2), .val (.int (7 : Int32)), .val (.int (1 : Int32)), .val (.int p0), .val (.int (3 : Int32)), .val (.ref b71), .unset, .unset]) rfl k) ?_
    show Go _ _ _ _ _ _ _ T74 (mkF m 45 #[.val (.int p0), .val (.int p1), .val (.int p2), .val (.int (7 : Int32)), .val (.int (1 : Int32)), .val (.int p0), .val (.int (3 : Int32)), .val (.ref b71), .unset, .unset] [])
    refine Go.st (fun _ k => XS.iload X74.here hx rfl (hb hby at_45) rfl k) ?_
    show Go _ _ _ _ _ _ _ T74 (mkF m 47 #[.val (.int p0), .val (.int p1), .val (.int p2), .val (.int (7 : Int32)), .val (.int (1 : Int32)), .val (.int p0), .val (.int (3 : Int32)), .val (.ref b71), .unset, .unset] [(.int (3 : Int32))])
    refine Go.st (fun _ k => XS.ifYes X74.here hx rfl (pc0 := 47) (pc' := 114) rfl (hb hby at_47) rfl ((if0 _ _).trans (feq (by decide : ¬ ((3 : Int32) = (0 : Int32)))).2) (by decide) (by decide) k) ?_
    show Go _ _ _ _ _ _ _ T74 (mkF m 114 #[.val (.int p0), .val (.int p1), .val (.int p2), .val (.int (7 : Int32)), .val (.int (1 : Int32)), .val (.int p0), .val (.int (3 : Int32)), .val (.ref b71), .unset, .unset] [])
    refine Go.st (fun _ k => XS.iload X74.here hx rfl (hb hby at_114) rfl k) ?_
    show Go _ _ _ _ _ _ _ T74 (mkF m 116 #[.val (.int p0), .val (.int p1), .val (.int p2), .val (.int (7 : Int32)), .val (.int (1 : Int32)), .val (.int p0), .val (.int (3 : Int32)), .val (.ref b71), .unset, .unset] [(.int (3 : Int32))])
    refine Go.st (fun _ k => XS.iconst X74.here hx rfl (hb hby at_116) k) ?_
    show Go _ _ _ _ _ _ _ T74 (mkF m 117 #[.val (.int p0), .val (.int p1), .val (.int p2), .val (.int (7 : Int32)), .val (.int (1 : Int32)), .val (.int p0), .val (.int (3 : Int32)), .val (.ref b71), .unset, .unset] [(.int (1 : Int32)), (.int (3 : Int32))])
    refine Go.st (fun _ k => XS.icmpYes X74.here hx rfl (pc0 := 117) (pc' := 149) rfl (hb hby at_117) rfl (feq (by decide : ¬ ((3 : Int32) = (1 : Int32)))).2 (by decide) (by decide) k) ?_
    show Go _ _ _ _ _ _ _ T74 (mkF m 149 #[.val (.int p0), .val (.int p1), .val (.int p2), .val (.int (7 : Int32)), .val (.int (1 : Int32)), .val (.int p0), .val (.int (3 : Int32)), .val (.ref b71), .unset, .unset] [])
    refine Go.st (fun _ k => XS.iload X74.here hx rfl (hb hby at_149) rfl k) ?_
    show Go _ _ _ _ _ _ _ T74 (mkF m 151 #[.val (.int p0), .val (.int p1), .val (.int p2), .val (.int (7 : Int32)), .val (.int (1 : Int32)), .val (.int p0), .val (.int (3 : Int32)), .val (.ref b71), .unset, .unset] [(.int (3 : Int32))])
    refine Go.st (fun _ k => XS.iconst X74.here hx rfl (hb hby at_151) k) ?_
    show Go _ _ _ _ _ _ _ T74 (mkF m 152 #[.val (.int p0), .val (.int p1), .val (.int p2), .val (.int (7 : Int32)), .val (.int (1 : Int32)), .val (.int p0), .val (.int (3 : Int32)), .val (.ref b71), .unset, .unset] [(.int (2 : Int32)), (.int (3 : Int32))])
    refine Go.st (fun _ k => XS.icmpYes X74.here hx rfl (pc0 := 152) (pc' := 177) rfl (hb hby at_152) rfl (feq (by decide : ¬ ((3 : Int32) = (2 : Int32)))).2 (by decide) (by decide) k) ?_
    show Go _ _ _ _ _ _ _ T74 (mkF m 177 #[.val (.int p0), .val (.int p1), .val (.int p2), .val (.int (7 : Int32)), .val (.int (1 : Int32)), .val (.int p0), .val (.int (3 : Int32)), .val (.ref b71), .unset, .unset] [])
    obtain ⟨T75, h75, X75, e75, E75, A75, D75, -, st75⟩ := newO X74 hx hZ hown (hw _ (List.mem_of_getElem? (i := 32) rfl)) (hw _ (List.mem_of_getElem? (i := 33) rfl)) (hw _ (List.mem_of_getElem? (i := 34) rfl)) e74 (g := (mkF m 177 #[.val (.int p0), .val (.int p1), .val (.int p2), .val (.int (7 : Int32)), .val (.int (1 : Int32)), .val (.int p0), .val (.int (3 : Int32)), .val (.ref b71), .unset, .unset] [])) rfl (hb hby at_177) (by decide) (by decide)
    obtain ⟨b75, g75⟩ : ∃ z, z = h74.size := ⟨_, rfl⟩
    rw [← g75] at A75 D75 st75
    have ne76 : w_INT ≠ b75 := Nat.ne_of_lt (Nat.lt_of_lt_of_le E_INT__74.lt (Nat.le_of_eq g75.symm))
    have ne77 : b71 ≠ b75 := Nat.ne_of_lt (Nat.lt_of_lt_of_le EE74.lt (Nat.le_of_eq g75.symm))
    have ne78 : w_c ≠ b75 := Nat.ne_of_lt (Nat.lt_of_lt_of_le Ar__74.lt (Nat.le_of_eq g75.symm))
    have g_b75 : n0 ≤ b75 := Nat.le_trans Z74 (Nat.le_of_eq g75.symm)
    have S_INT__75 := S_INT__74.ext E75
    have E_INT__75 := E_INT__74.ext E75
    have S_high__75 := S_high__74.ext E75
    have S_cache__75 := S_cache__74.ext E75
    have EE74__75 := EE74.ext E75
    have F_value_b71__75 := F_value_b71__74.ext E75
    have Z75 : n0 ≤ h75.size := Nat.le_trans Z74 E75.1
    have Ar__75 := Ar__74.ext E75
    have hC__75 : ∀ j : Int32, ¬ (j < 0 ∨ cl.slots.size ≤ j.toNatClampNeg) → ∃ r, cl.slots[j.toNatClampNeg]? = some (.ref r) ∧ Exa Z h75 r "java/lang/Integer" := fun j hj => by obtain ⟨r, hr, Er⟩ := hC__74 j hj; exact ⟨r, hr, Er.ext E75⟩
    have F_type_b75 : Fld Z h75 b75 "com/example/prudent_checker/prudentchecker/language/StoredValue" "type" "Lcom/example/prudent_checker/prudentchecker/language/ScalarType;" .null := D75 (Or.inr (hw _ (List.mem_of_getElem? (i := 43) rfl))) (ty := (.object "com/example/prudent_checker/prudentchecker/language/ScalarType")) (by decide)
    have F_value_b75 : Fld Z h75 b75 "com/example/prudent_checker/prudentchecker/language/StoredValue" "value" "Lcom/example/prudent_checker/prudentchecker/language/Expression;" .null := D75 (Or.inr (hw _ (List.mem_of_getElem? (i := 45) rfl))) (ty := (.object "com/example/prudent_checker/prudentchecker/language/Expression")) (by decide)
    refine Go.st st75 ?_
    show Go _ _ _ _ _ _ _ T75 (mkF m 180 #[.val (.int p0), .val (.int p1), .val (.int p2), .val (.int (7 : Int32)), .val (.int (1 : Int32)), .val (.int p0), .val (.int (3 : Int32)), .val (.ref b71), .unset, .unset] [(.ref b75)])
    refine Go.st (fun _ k => XS.dup X75.here hx rfl (hb hby at_180) rfl rfl k) ?_
    show Go _ _ _ _ _ _ _ T75 (mkF m 181 #[.val (.int p0), .val (.int p1), .val (.int p2), .val (.int (7 : Int32)), .val (.int (1 : Int32)), .val (.int p0), .val (.int (3 : Int32)), .val (.ref b71), .unset, .unset] [(.ref b75), (.ref b75)])
    obtain ⟨T79, X79, e79, st79⟩ := getS2 X75 hx hZ hown (host := "") (Or.inl (hw _ (List.mem_of_getElem? (i := 35) rfl))) Via.refl e75 S_INT__75 (g := (mkF m 181 #[.val (.int p0), .val (.int p1), .val (.int p2), .val (.int (7 : Int32)), .val (.int (1 : Int32)), .val (.int p0), .val (.int (3 : Int32)), .val (.ref b71), .unset, .unset] [(.ref b75), (.ref b75)])) rfl (hb hby at_181)
    refine Go.st st79 ?_
    show Go _ _ _ _ _ _ _ T79 (mkF m 184 #[.val (.int p0), .val (.int p1), .val (.int p2), .val (.int (7 : Int32)), .val (.int (1 : Int32)), .val (.int p0), .val (.int (3 : Int32)), .val (.ref b71), .unset, .unset] [(.ref w_INT), (.ref b75), (.ref b75)])
    obtain ⟨T80, h80, X80, e80, E80, A80, D80, -, st80⟩ := newO X79 hx hZ hown (hw _ (List.mem_of_getElem? (i := 0) rfl)) (hw _ (List.mem_of_getElem? (i := 1) rfl)) (hw _ (List.mem_of_getElem? (i := 2) rfl)) e79 (g := (mkF m 184 #[.val (.int p0), .val (.int p1), .val (.int p2), .val (.int (7 : Int32)), .val (.int (1 : Int32)), .val (.int p0), .val (.int (3 : Int32)), .val (.ref b71), .unset, .unset] [(.ref w_INT), (.ref b75), (.ref b75)])) rfl (hb hby at_184) (by decide) (by decide)
    obtain ⟨b80, g80⟩ : ∃ z, z = h75.size := ⟨_, rfl⟩
    rw [← g80] at A80 D80 st80
    have ne81 : w_INT ≠ b80 := Nat.ne_of_lt (Nat.lt_of_lt_of_le E_INT__75.lt (Nat.le_of_eq g80.symm))
    have ne82 : b71 ≠ b80 := Nat.ne_of_lt (Nat.lt_of_lt_of_le EE74__75.lt (Nat.le_of_eq g80.symm))
    have ne83 : w_c ≠ b80 := Nat.ne_of_lt (Nat.lt_of_lt_of_le Ar__75.lt (Nat.le_of_eq g80.symm))
    have ne84 : b75 ≠ b80 := Nat.ne_of_lt (Nat.lt_of_lt_of_le A75.lt (Nat.le_of_eq g80.symm))
    have g_b80 : n0 ≤ b80 := Nat.le_trans Z75 (Nat.le_of_eq g80.symm)
    have S_INT__80 := S_INT__75.ext E80
    have E_INT__80 := E_INT__75.ext E80
    have S_high__80 := S_high__75.ext E80
    have S_cache__80 := S_cache__75.ext E80
    have EE74__80 := EE74__75.ext E80
    have F_value_b71__80 := F_value_b71__75.ext E80
    have A75__80 := A75.ext E80
    have F_type_b75__80 := F_type_b75.ext E80
    have F_value_b75__80 := F_value_b75.ext E80
    have Z80 : n0 ≤ h80.size := Nat.le_trans Z75 E80.1
    have Ar__80 := Ar__75.ext E80
    have hC__80 : ∀ j : Int32, ¬ (j < 0 ∨ cl.slots.size ≤ j.toNatClampNeg) → ∃ r, cl.slots[j.toNatClampNeg]? = some (.ref r) ∧ Exa Z h80 r "java/lang/Integer" := fun j hj => by obtain ⟨r, hr, Er⟩ := hC__75 j hj; exact ⟨r, hr, Er.ext E80⟩
    have F_value_b80 : Fld Z h80 b80 "com/example/prudent_checker/prudentchecker/language/IntegerLiteral" "value" "I" (.int (0 : Int32)) := D80 (Or.inr (hw _ (List.mem_of_getElem? (i := 15) rfl))) (ty := .int) (by decide)
    refine Go.st st80 ?_
    show Go _ _ _ _ _ _ _ T80 (mkF m 187 #[.val (.int p0), .val (.int p1), .val (.int p2), .val (.int (7 : Int32)), .val (.int (1 : Int32)), .val (.int p0), .val (.int (3 : Int32)), .val (.ref b71), .unset, .unset] [(.ref b80), (.ref w_INT), (.ref b75), (.ref b75)])
    refine Go.st (fun _ k => XS.dup X80.here hx rfl (hb hby at_187) rfl rfl k) ?_
    show Go _ _ _ _ _ _ _ T80 (mkF m 188 #[.val (.int p0), .val (.int p1), .val (.int p2), .val (.int (7 : Int32)), .val (.int (1 : Int32)), .val (.int p0), .val (.int (3 : Int32)), .val (.ref b71), .unset, .unset] [(.ref b80), (.ref b80), (.ref w_INT), (.ref b75), (.ref b75)])
    refine Go.st (fun _ k => XS.iloadN X80.here hx rfl (hb hby at_188) rfl k) ?_
    show Go _ _ _ _ _ _ _ T80 (mkF m 189 #[.val (.int p0), .val (.int p1), .val (.int p2), .val (.int (7 : Int32)), .val (.int (1 : Int32)), .val (.int p0), .val (.int (3 : Int32)), .val (.ref b71), .unset, .unset] [(.int p0), (.ref b80), (.ref b80), (.ref w_INT), (.ref b75), (.ref b75)])
    obtain ⟨_, _, ⟨T85, L85, k85, n85⟩, -, X85, ⟨Lc85, hQ85, l85, y85, z85⟩, st85⟩ := X80.specialBack hx (y := (⟨"com/example/prudent_checker/prudentchecker/language/IntegerLiteral", "<init>", "(I)V"⟩ : MethodName)) rfl hown (mvT hZ (hw _ (List.mem_of_getElem? (i := 3) rfl))) (mvT hZ (hw _ (List.mem_of_getElem? (i := 4) rfl))) (mvT hZ (hw _ (List.mem_of_getElem? (i := 5) rfl))) (by decide) (backOf (W := 4) (rm1 l Z a0 hw [] b80 p0 (0 : Int32) h80 n0 Z80 A80 F_value_b80 g_b80) hZ (hw _ (List.mem_of_getElem? (i := 5) rfl)) (hw _ (List.mem_of_getElem? (i := 2) rfl)) (by decide) (by decide)) (g := (mkF m 189 #[.val (.int p0), .val (.int p1), .val (.int p2), .val (.int (7 : Int32)), .val (.int (1 : Int32)), .val (.int p0), .val (.int (3 : Int32)), .val (.ref b71), .unset, .unset] [(.int p0), (.ref b80), (.ref b80), (.ref w_INT), (.ref b75), (.ref b75)])) rfl (by rw [hml]; rfl) (Steps.refl _) (a := b80) (argsL := [(.int p0)]) (rest := [(.ref b80), (.ref w_INT), (.ref b75), (.ref b75)]) (lenOf pd_1 rfl) rfl (by show 2 * 0 + _ ≤ _; exact Nat.le_of_eq rfl) (hb hby at_189) (fun _ _ => ⟨rfl, e80, (by decide : 3 + 0 ≤ _), (by decide : 4 + 0 ≤ _)⟩)
    dsimp only [Pt.U, Pt.locs, Pt.cells, Pt.slots] at X85 l85 y85 z85 st85 hQ85
    subst l85 y85 z85
    generalize e85 : T85.heap = h85 at hQ85
    obtain ⟨rfl, N85q, K85, EE85, FF_value_85⟩ := hQ85
    have N85 := Fr.app N74 N85q
    refine Go.st (fun _ k => st85.trans k) ?_
    have S_INT__85 := own_sta S_INT__80 K85 (allS A80.cell (all0))
    have E_INT__85 := E_INT__80.keep K85
    have S_high__85 := own_sta S_high__80 K85 (allS A80.cell (all0))
    have S_cache__85 := own_sta S_cache__80 K85 (allS A80.cell (all0))
    have EE74__85 := EE74__80.keep K85
    have F_value_b71__85 := F_value_b71__80.keep K85 (ninS ne82 (nin0))
    have A75__85 := A75__80.keep K85
    have F_type_b75__85 := F_type_b75__80.keep K85 (ninS ne84 (nin0))
    have F_value_b75__85 := F_value_b75__80.keep K85 (ninS ne84 (nin0))
    have A80__85 := A80.keep K85
    have Z85 : n0 ≤ h85.size := Nat.le_trans Z80 K85.1
    have Ar__85 : Arr Z h85 w_c cl _ := own_arrk Ar__80 K85 (ninS ne83 (nin0))
    have hC__85 : ∀ j : Int32, ¬ (j < 0 ∨ cl.slots.size ≤ j.toNatClampNeg) → ∃ r, cl.slots[j.toNatClampNeg]? = some (.ref r) ∧ Exa Z h85 r "java/lang/Integer" := fun j hj => by obtain ⟨r, hr, Er⟩ := hC__80 j hj; exact ⟨r, hr, Er.keep K85⟩
    rw [show (val_1_value b80 p0 (0 : Int32)) = p0 from by unfold val_1_value; rfl] at FF_value_85
    have F_value_b80__85 := FF_value_85
    show Go _ _ _ _ _ _ _ T85 (mkF m 192 #[.val (.int p0), .val (.int p1), .val (.int p2), .val (.int (7 : Int32)), .val (.int (1 : Int32)), .val (.int p0), .val (.int (3 : Int32)), .val (.ref b71), .unset, .unset] [(.ref b80), (.ref w_INT), (.ref b75), (.ref b75)])
    obtain ⟨_, _, ⟨T86, L86, k86, n86⟩, -, X86, ⟨Lc86, hQ86, l86, y86, z86⟩, st86⟩ := X85.specialBack hx (y := (⟨"com/example/prudent_checker/prudentchecker/language/StoredValue", "<init>", "(Lcom/example/prudent_checker/prudentchecker/language/ScalarType;Lcom/example/prudent_checker/prudentchecker/language/Expression;)V"⟩ : MethodName)) rfl hown (mvT hZ (hw _ (List.mem_of_getElem? (i := 38) rfl))) (mvT hZ (hw _ (List.mem_of_getElem? (i := 39) rfl))) (mvT hZ (hw _ (List.mem_of_getElem? (i := 40) rfl))) (by decide) (backOf (W := 1) (rm6 l Z a0 hw [] b75 w_INT b80 .null .null h85 n0 Z85 A75__85 F_type_b75__85 F_value_b75__85 g_b75) hZ (hw _ (List.mem_of_getElem? (i := 40) rfl)) (hw _ (List.mem_of_getElem? (i := 34) rfl)) (by decide) (by decide)) (g := (mkF m 192 #[.val (.int p0), .val (.int p1), .val (.int p2), .val (.int (7 : Int32)), .val (.int (1 : Int32)), .val (.int p0), .val (.int (3 : Int32)), .val (.ref b71), .unset, .unset] [(.ref b80), (.ref w_INT), (.ref b75), (.ref b75)])) rfl (by rw [hml]; rfl) (Steps.refl _) (a := b75) (argsL := [(.ref w_INT), (.ref b80)]) (rest := [(.ref b75)]) (lenOf pd_4 rfl) rfl (by show 2 * 0 + _ ≤ _; exact Nat.le_of_eq rfl) (hb hby at_192) (fun _ _ => ⟨rfl, e85, (by decide : 3 + 0 ≤ _), (by decide : 4 + 0 ≤ _)⟩)
    dsimp only [Pt.U, Pt.locs, Pt.cells, Pt.slots] at X86 l86 y86 z86 st86 hQ86
    subst l86 y86 z86
    generalize e86 : T86.heap = h86 at hQ86
    obtain ⟨rfl, N86q, K86, EE86, FF_type_86, FF_value_86⟩ := hQ86
    have N86 := Fr.app N85 N86q
    refine Go.st (fun _ k => st86.trans k) ?_
    have S_INT__86 := own_sta S_INT__85 K86 (allS A75__85.cell (all0))
    have E_INT__86 := E_INT__85.keep K86
    have S_high__86 := own_sta S_high__85 K86 (allS A75__85.cell (all0))
    have S_cache__86 := own_sta S_cache__85 K86 (allS A75__85.cell (all0))
    have EE74__86 := EE74__85.keep K86
    have F_value_b71__86 := F_value_b71__85.keep K86 (ninS ne77 (nin0))
    have A75__86 := A75__85.keep K86
    have EE85__86 := EE85.keep K86
    have F_value_b80__86 := F_value_b80__85.keep K86 (ninS (Ne.symm ne84) (nin0))
    have Z86 : n0 ≤ h86.size := Nat.le_trans Z85 K86.1
    have Ar__86 : Arr Z h86 w_c cl _ := own_arrk Ar__85 K86 (ninS ne78 (nin0))
    have hC__86 : ∀ j : Int32, ¬ (j < 0 ∨ cl.slots.size ≤ j.toNatClampNeg) → ∃ r, cl.slots[j.toNatClampNeg]? = some (.ref r) ∧ Exa Z h86 r "java/lang/Integer" := fun j hj => by obtain ⟨r, hr, Er⟩ := hC__85 j hj; exact ⟨r, hr, Er.keep K86⟩
    rw [show (val_6_type b75 w_INT b80 .null .null) = (.ref w_INT) from by unfold val_6_type; rfl] at FF_type_86
    have F_type_b75__86 := FF_type_86
    rw [show (val_6_value b75 w_INT b80 .null .null) = (.ref b80) from by unfold val_6_value; rfl] at FF_value_86
    have F_value_b75__86 := FF_value_86
    show Go _ _ _ _ _ _ _ T86 (mkF m 195 #[.val (.int p0), .val (.int p1), .val (.int p2), .val (.int (7 : Int32)), .val (.int (1 : Int32)), .val (.int p0), .val (.int (3 : Int32)), .val (.ref b71), .unset, .unset] [(.ref b75)])
    refine Go.st (fun _ k => XS.astore X86.here hx rfl (hb hby at_195) rfl rfl (l' := #[.val (.int p0), .val (.int p1), .val (.int p2), .val (.int (7 : Int32)), .val (.int (1 : Int32)), .val (.int p0), .val (.int (3 : Int32)), .val (.ref b71), .val (.ref b75), .unset]) rfl k) ?_
    show Go _ _ _ _ _ _ _ T86 (mkF m 197 #[.val (.int p0), .val (.int p1), .val (.int p2), .val (.int (7 : Int32)), .val (.int (1 : Int32)), .val (.int p0), .val (.int (3 : Int32)), .val (.ref b71), .val (.ref b75), .unset] [])
    refine Go.st (fun _ k => XS.aload X86.here hx rfl (hb hby at_197) rfl rfl k) ?_
    show Go _ _ _ _ _ _ _ T86 (mkF m 199 #[.val (.int p0), .val (.int p1), .val (.int p2), .val (.int (7 : Int32)), .val (.int (1 : Int32)), .val (.int p0), .val (.int (3 : Int32)), .val (.ref b71), .val (.ref b75), .unset] [(.ref b71)])
    refine Go.st (fun _ k => XS.aload X86.here hx rfl (hb hby at_199) rfl rfl k) ?_
    show Go _ _ _ _ _ _ _ T86 (mkF m 201 #[.val (.int p0), .val (.int p1), .val (.int p2), .val (.int (7 : Int32)), .val (.int (1 : Int32)), .val (.int p0), .val (.int (3 : Int32)), .val (.ref b71), .val (.ref b75), .unset] [(.ref b75), (.ref b71)])
    obtain ⟨cq87, kq87, q87a, q87b, q87c⟩ := isOf hZ e86 EE74__86
    obtain ⟨_, _, ⟨T87, L87, k87, n87⟩, -, X87, ⟨Lc87, hQ87, l87, y87, z87⟩, st87⟩ := X86.virtualBack hx (y := (⟨"com/example/prudent_checker/prudentchecker/language/IntegerLiteral", "equals", "(Ljava/lang/Object;)Z"⟩ : MethodName)) (z := (⟨"com/example/prudent_checker/prudentchecker/language/IntegerLiteral", "equals", "(Ljava/lang/Object;)Z"⟩ : MethodName)) hown (mvT hZ (hw _ (List.mem_of_getElem? (i := 23) rfl))) (mvT hZ (hw _ (List.mem_of_getElem? (i := 24) rfl))) (notFace_of_selects (args := #[]) (mvT hZ (hw _ (List.mem_of_getElem? (i := 26) rfl)))) (mvT hZ (hw _ (List.mem_of_getElem? (i := 26) rfl))) (mvT hZ (hw _ (List.mem_of_getElem? (i := 25) rfl))) (by decide) (backOf (W := 0) (rm5s l Z a0 hw [] b71 b75  h86 n0 Z86 EE86) hZ (hw _ (List.mem_of_getElem? (i := 27) rfl)) (hw _ (List.mem_of_getElem? (i := 2) rfl)) (by decide) (by decide)) q87a q87c (g := (mkF m 201 #[.val (.int p0), .val (.int p1), .val (.int p2), .val (.int (7 : Int32)), .val (.int (1 : Int32)), .val (.int p0), .val (.int (3 : Int32)), .val (.ref b71), .val (.ref b75), .unset] [(.ref b75), (.ref b71)])) rfl (by rw [hml]; rfl) (Steps.refl _) (argsL := [(.ref b75)]) (rest := []) (lenOf pd_2 rfl) rfl (by show 2 * 0 + _ ≤ _; exact Nat.le_of_eq rfl) (hb hby at_201) (fun _ _ => ⟨rfl, e86, (by decide : 3 + 0 ≤ _), (by decide : 4 + 0 ≤ _)⟩)
    dsimp only [Pt.U, Pt.locs, Pt.cells, Pt.slots] at X87 l87 y87 z87 st87 hQ87
    subst l87 y87 z87
    obtain ⟨rfl, N87q, e87⟩ := hQ87
    have N87 := Fr.app N86 N87q
    refine Go.st (fun _ k => st87.trans k) ?_
    show Go _ _ _ _ _ _ _ T87 (mkF m 204 #[.val (.int p0), .val (.int p1), .val (.int p2), .val (.int (7 : Int32)), .val (.int (1 : Int32)), .val (.int p0), .val (.int (3 : Int32)), .val (.ref b71), .val (.ref b75), .unset] [(.int (val_5s b71 b75))])
    rw [show (val_5s b71 b75) = (0 : Int32) from by unfold val_5s; rfl]
    show Go _ _ _ _ _ _ _ T87 (mkF m 204 #[.val (.int p0), .val (.int p1), .val (.int p2), .val (.int (7 : Int32)), .val (.int (1 : Int32)), .val (.int p0), .val (.int (3 : Int32)), .val (.ref b71), .val (.ref b75), .unset] [(.int (0 : Int32))])
    refine Go.st (fun _ k => XS.ifNo X87.here hx rfl (hb hby at_204) rfl ((if0 _ _).trans (teq (by decide : (0 : Int32) = (0 : Int32))).2) k) ?_
    show Go _ _ _ _ _ _ _ T87 (mkF m 207 #[.val (.int p0), .val (.int p1), .val (.int p2), .val (.int (7 : Int32)), .val (.int (1 : Int32)), .val (.int p0), .val (.int (3 : Int32)), .val (.ref b71), .val (.ref b75), .unset] [])
    refine Go.st (fun _ k => XS.iconst X87.here hx rfl (hb hby at_207) k) ?_
    show Go _ _ _ _ _ _ _ T87 (mkF m 208 #[.val (.int p0), .val (.int p1), .val (.int p2), .val (.int (7 : Int32)), .val (.int (1 : Int32)), .val (.int p0), .val (.int (3 : Int32)), .val (.ref b71), .val (.ref b75), .unset] [(.int (1 : Int32))])
    refine Go.st (fun _ k => XS.goto X87.here hx rfl (pc0 := 208) (pc' := 212) rfl (hb hby at_208) (by decide) (by decide) k) ?_
    show Go _ _ _ _ _ _ _ T87 (mkF m 212 #[.val (.int p0), .val (.int p1), .val (.int p2), .val (.int (7 : Int32)), .val (.int (1 : Int32)), .val (.int p0), .val (.int (3 : Int32)), .val (.ref b71), .val (.ref b75), .unset] [(.int (1 : Int32))])
    refine Go.ret X87 hlk (v := some (.int (1 : Int32))) (fun h => by rw [hret] at h; cases h) (fun fs hr => retN X87 hx (t := .boolean) hret (by simp) (hb hby at_212) hr) ?_ (by decide) (by decide)
    show Q0 Z p0 p1 p2 w_INT w_c cl h0 n0 (some (.int (1 : Int32))) T87.heap _
    rw [e87]
    exact ⟨rfl, N87⟩
set_option maxRecDepth 65536 in
set_option maxHeartbeats 40000000 in
theorem comes_1 {Post : Tables → Env → Array Value → State → Outcome → State → Prop} (hpost : ∀ tb e args s v u, (limb_1_1.after args s (.returned v) u = true ∧ limb_1_2.after args s (.returned v) u = true ∧ True) → FrameEnd s (.returned v) u (Jvm.fieldLocs frame_1_writes args s ++ Jvm.arrayLocs frame_1_arrays args s ++ Jvm.staticLocs frame_1_statics s) 16 128 → Post tb e args s (.returned v) u) :
    ArmFor flags0 classFile x code maxLocals ret World_1 tables_1 room_1 Calls_1 rest_1 Pre_1 Post := by
  intro l hfl _ _ p e ha hc hk s m args below hf hA hF happ hP
  obtain ⟨hcalls, hrest, hpre⟩ := hP
  obtain ⟨-, -, -, hnamed, -, -, -, hat⟩ := (Spec.applies_iff hf).mp happ
  obtain ⟨hg, hn⟩ := and_e (Cond.before_iff.mp (show (Jvm.Cond.and given_1 narrow_1).before args s = true from hpre))
  obtain ⟨g1, g2⟩ := and_e hg
  obtain ⟨g3, g4⟩ := and_e g2
  obtain ⟨g5, g6⟩ := and_e g4
  obtain ⟨w0, w1, w2, rfl⟩ : ∃ w0 w1 w2 : Value, args = #[w0, w1, w2] := by
    have hs : args.size = 3 := by simpa [Cond.value, given_1] using g1
    obtain ⟨L⟩ := args
    match L, hs with
    | [w0, w1, w2], _ => exact ⟨w0, w1, w2, rfl⟩
  have hw := fun d (hd : d ∈ tables_1) => atoms_spec (ws := Jvm.Cond.code x code maxLocals ret :: tables_1) hat d (List.mem_cons_of_mem _ hd)
  have hfit : Fit s := fun {y c} hc i hi => by
    obtain ⟨ha, rfl⟩ := Array.getElem?_eq_some_iff.mp hc
    have q := List.all_eq_true.mp ((Array.all_eq_true_iff_forall_mem.mp hF) _ (Array.getElem_mem ha)) i (List.mem_range.mpr hi)
    simpa [Array.getElem?_eq_getElem hi] using q
  obtain ⟨hsets, hown0⟩ := atoms_of _ (rest_1_c_eq ▸ (show rest_1_c.before _ s = true from hrest))
  obtain ⟨i0, ei0⟩ := is_v g3
  obtain rfl : w0 = (.int i0) := Option.some.inj ei0
  obtain ⟨i1, ei1⟩ := is_v g5
  obtain rfl : w1 = (.int i1) := Option.some.inj ei1
  obtain ⟨i2, ei2⟩ := is_v g6
  obtain rfl : w2 = (.int i2) := Option.some.inj ei2
  obtain ⟨w_INT, ev_INT⟩ := exa_v hn
  have S_INT := Sta.start ev_INT (Or.inr ⟨(hw _ (List.mem_of_getElem? (i := 36) rfl)), (hw _ (List.mem_of_getElem? (i := 37) rfl))⟩)
  have E_INT := Exa.start ev_INT hn
  have S_high : Sta s s.heap "java/lang/Integer$IntegerCache" "high" "I" (.int 127) := Sta.start (Cond.eq_int (hsets _ (List.mem_of_getElem? (i := 3) rfl)) rfl) (Or.inl (hsets _ (List.mem_of_getElem? (i := 1) rfl)))
  obtain ⟨w_c, evc⟩ := arr_v (Cond.before_iff.mp (hsets _ (List.mem_of_getElem? (i := 4) rfl)))
  obtain ⟨cl, Ar⟩ := Arr.start evc (Cond.before_iff.mp (hsets _ (List.mem_of_getElem? (i := 4) rfl)))
  have S_cache := Sta.start evc (Or.inr ⟨(hw _ (List.mem_of_getElem? (i := 21) rfl)), (hsets _ (List.mem_of_getElem? (i := 2) rfl))⟩)
  obtain ⟨hz1, hz2⟩ := IntBox.length_fwd (hsets _ (List.mem_of_getElem? (i := 6) rfl)) evc Ar.1 Ar.2.1 Ar.2.2
  have hsz : cl.slots.size = 256 := by
    have q := congrArg Int32.toInt hz2
    rw [len_toInt hz1] at q
    have q2 : (256 : Int32).toInt = 256 := by decide
    omega
  have hatc := IntBox.arrayAt_of Ar.1 Ar.2.1 Ar.2.2
  have hC : ∀ j : Int32, ¬ (j < 0 ∨ cl.slots.size ≤ j.toNatClampNeg) → ∃ r, cl.slots[j.toNatClampNeg]? = some (.ref r) ∧ Exa s s.heap r "java/lang/Integer" := by
    intro j hj
    have hb : j.toNatClampNeg < cl.slots.size := Nat.lt_of_not_le fun q => hj (Or.inr q)
    obtain ⟨q1, -⟩ := and_e (Cond.all_elim evc hatc (Cond.before_iff.mp (hsets _ (List.mem_of_getElem? (i := 7) rfl))) j.toNatClampNeg hb)
    obtain ⟨r, er⟩ := exa_v q1
    have hi : (Term.index 0).eval #[.int i0, .int i1, .int i2] s none [j.toNatClampNeg] s = some (.int j) := idx_at fun q => hj (Or.inl q)
    have q := elem_f (t := (Jvm.Term.static "java/lang/Integer$IntegerCache" "cache" "[Ljava/lang/Integer;")) (a := .index 0) (idx := [j.toNatClampNeg]) evc hi hatc fun q => hj (Or.inl q)
    exact ⟨r, q.symm.trans er, exa_at er q1⟩
  obtain ⟨n, o, h1, h2, h3, _, L, rfl, ⟨rfl, N⟩, hq⟩ := rm0 l s _ hw tables_1 i0 i1 i2 w_INT w_c cl s.heap s.heap.size (Nat.le_refl _) S_INT E_INT S_high S_cache Ar hsz hC p e ha hc hk s m _ below hf ((Spec.applies_iff_loose hf).mp happ).1 ⟨rfl, State.Warmed39.refl s, rfl⟩ trivial
  refine ⟨n, _, h1, h2, h3, hpost _ _ _ _ _ _ ⟨Cond.after_iff.mpr rfl, Cond.after_iff.mpr (eq_i res_at (Term.int_eval (1)) rfl), trivial⟩ ⟨hq.1, hq.2.1, (hq.2.2.sift fun y hy => Or.inr (N y hy)).mono (by decide) (by decide)⟩⟩
theorem main_1_1 : Claimed_1_1 := comes_1 fun _ _ _ _ _ _ h hF => ⟨h.1, hF⟩
theorem main_1_2 : Claimed_1_2 := comes_1 fun _ _ _ _ _ _ h hF => ⟨h.2.1, hF⟩
end Jvm.Pilot.@@N@@
namespace Jvm.Pilot.@@N@@
open Jvm Jvm.ClassFile Sem Op Lib Jvm.Free Jvm.Stand Jvm.Pilot.@@N@@.Jvm.D
/-! MADE BY PROGRAM (witnessworld.py) out of the Statement's table words and the real class files: 20 classes; the members and pool entries that the words name. The judged class is class 1, her method 1. -/
namespace start1
open Jvm.ClassFile
def u (s : String) : CpInfo := .utf8 (stringToUtf16 s)
/-- a pool by its gaps: so many unusable entries, then the entry; so many at the end -/
def gap : Nat → List CpInfo → List CpInfo
  | 0, r => r
  | n + 1, r => .unusable :: gap n r
def poolList (es : List (Nat × CpInfo)) (last : Nat) : List CpInfo := es.foldr (fun e r => gap e.1 (e.2 :: r)) (gap last [])
def pool (es : List (Nat × CpInfo)) (last : Nat) : Array CpInfo := ⟨poolList es last⟩
def fileOf (pool : Array CpInfo) (this : Nat) (attrs : Array Attribute := #[]) (ms : Array MethodInfo := #[]) (fl : Nat := 33) (sup : Nat := 0) (ifs : Array Nat := #[]) (fds : Array FieldInfo := #[]) : ClassFile where
  minorVersion := 0
  majorVersion := 65
  constantPool := pool
  accessFlags := fl
  thisClass := this
  superClass := sup
  interfaces := ifs
  fields := fds
  methods := ms
  attributes := attrs
def plain (name : String) (sup : Option ClassId) : Class where
  name := name
  kind := .ordinary
  loader := none
  accessFlags := 33
  super := sup
  interfaces := #[]
  cf := none
  fields := #[]
  methods := #[]
  instanceTypes := #[]
  staticTypes := #[]
  resolved := #[]
  callSites := []
  init := .initialized
  statics := none
  mirror := none

def pool0 : Array CpInfo := pool [(5, u "<init>"), (0, u "()V"), (1, .class_ 10), (1, u "java/lang/Object")] 113

def k0c0 : Code := { maxStack := 0, maxLocals := 1, code := object_method_1_code, exceptionTable := #[], attributes := #[] }
def k0m0 : Method := { name := "<init>", desc := "()V", sig := { parameters := [], returnType := none }, accessFlags := 1, code := some k0c0 }
/-- java/lang/Object -/
def k0 : Class := { plain "java/lang/Object" none with
  accessFlags := 33
  interfaces := #[]
  cf := some (fileOf pool0 8 #[] #[{ accessFlags := 1, nameIndex := 5, descriptorIndex := 6, attributes := #[] }] 33 0 #[] #[])
  fields := #[]
  methods := #[k0m0]
  instanceTypes := #[]
  staticTypes := #[]
  resolved := Array.replicate 124 none
  statics := none }

def pool1 : Array CpInfo := pool [(2, .class_ 4), (1, u "java/lang/Object"), (0, u "<init>"), (0, u "()V"), (0, .class_ 8), (0, u "com/example/prudent_checker/prudentchecker/language/IntegerLiteral"), (0, .methodref 7 10), (0, .nameAndType 5 11), (0, u "(I)V"), (0, .methodref 7 13), (0, .nameAndType 14 15), (0, u "equals"), (0, u "(Ljava/lang/Object;)Z"), (0, .methodref 17 18), (0, .class_ 19), (0, .nameAndType 20 21), (0, u "java/lang/Integer"), (0, u "valueOf"), (0, u "(I)Ljava/lang/Integer;"), (0, .class_ 23), (0, u "com/example/prudent_checker/prudentchecker/language/StoredValue"), (0, .fieldref 25 26), (0, .class_ 27), (0, .nameAndType 28 29), (0, u "com/example/prudent_checker/prudentchecker/language/ScalarType"), (0, u "INT"), (0, u "Lcom/example/prudent_checker/prudentchecker/language/ScalarType;"), (0, .methodref 22 31), (0, .nameAndType 5 32), (0, u "(Lcom/example/prudent_checker/prudentchecker/language/ScalarType;Lcom/example/prudent_checker/prudentchecker/language/Expression;)V"), (0, .class_ 34), (0, u "com/example/prudent_checker/prudentchecker/language/IntegerLiteralEqualsPinLaw"), (2, u "law"), (0, u "(III)Z")] 3

def k1m0 : Method := { name := "<init>", desc := "()V", sig := { parameters := [], returnType := none }, accessFlags := 2, code := none }
def k1c1 : Code := { maxStack := 6, maxLocals := 10, code := code, exceptionTable := #[], attributes := #[] }
def k1m1 : Method := { name := "law", desc := "(III)Z", sig := { parameters := [.int, .int, .int], returnType := some .boolean }, accessFlags := 9, code := some k1c1 }
/-- com/example/prudent_checker/prudentchecker/language/IntegerLiteralEqualsPinLaw -/
def k1 : Class := { plain "com/example/prudent_checker/prudentchecker/language/IntegerLiteralEqualsPinLaw" (some 0) with
  accessFlags := 49
  interfaces := #[]
  cf := some (fileOf pool1 33 #[] #[{ accessFlags := 2, nameIndex := 5, descriptorIndex := 6, attributes := #[] }, { accessFlags := 9, nameIndex := 37, descriptorIndex := 38, attributes := #[] }] 49 2 #[] #[])
  fields := #[]
  methods := #[k1m0, k1m1]
  instanceTypes := #[]
  staticTypes := #[]
  resolved := Array.replicate 42 none
  statics := none }

def pool2 : Array CpInfo := pool [(1, .methodref 2 3), (0, .class_ 4), (0, .nameAndType 5 6), (0, u "java/lang/Object"), (0, u "<init>"), (0, u "()V"), (1, .class_ 10), (1, u "com/example/prudent_checker/prudentchecker/language/Expression"), (18, .class_ 30), (0, u "com/example/prudent_checker/prudentchecker/language/Expression$VariablesOnly"), (57, u "ATOM_PRECEDENCE"), (0, u "I")] 39

def k2c0 : Code := { maxStack := 1, maxLocals := 1, code := prog_43_method_1_code, exceptionTable := #[], attributes := #[] }
def k2m0 : Method := { name := "<init>", desc := "()V", sig := { parameters := [], returnType := none }, accessFlags := 0, code := some k2c0 }
/-- com/example/prudent_checker/prudentchecker/language/Expression -/
def k2 : Class := { plain "com/example/prudent_checker/prudentchecker/language/Expression" (some 0) with
  accessFlags := 1057
  interfaces := #[]
  cf := some (fileOf pool2 8 #[.nestMembers #[29]] #[{ accessFlags := 0, nameIndex := 5, descriptorIndex := 6, attributes := #[] }] 1057 2 #[] #[{ accessFlags := 24, nameIndex := 88, descriptorIndex := 89, attributes := #[] }])
  fields := #[{ name := "ATOM_PRECEDENCE", type := .int, accessFlags := 24, slot := 0, constantValue := 0 }]
  methods := #[k2m0]
  instanceTypes := #[]
  staticTypes := #[.int]
  resolved := Array.replicate 129 none
  statics := none }

def pool3 : Array CpInfo := pool [(1, .methodref 2 3), (0, .class_ 4), (0, .nameAndType 5 6), (0, u "com/example/prudent_checker/prudentchecker/language/Expression"), (0, u "<init>"), (0, u "()V"), (0, .fieldref 8 9), (0, .class_ 10), (0, .nameAndType 11 12), (0, u "com/example/prudent_checker/prudentchecker/language/IntegerLiteral"), (0, u "value"), (0, u "I"), (10, u "(I)V"), (16, u "equals"), (0, u "(Ljava/lang/Object;)Z")] 3

def k3c0 : Code := { maxStack := 2, maxLocals := 2, code := prog_46_method_1_code, exceptionTable := #[], attributes := #[] }
def k3m0 : Method := { name := "<init>", desc := "(I)V", sig := { parameters := [.int], returnType := none }, accessFlags := 0, code := some k3c0 }
def k3c1 : Code := { maxStack := 2, maxLocals := 3, code := prog_46_method_7_code, exceptionTable := #[], attributes := #[] }
def k3m1 : Method := { name := "equals", desc := "(Ljava/lang/Object;)Z", sig := { parameters := [(.object "java/lang/Object")], returnType := some .boolean }, accessFlags := 1, code := some k3c1 }
/-- com/example/prudent_checker/prudentchecker/language/IntegerLiteral -/
def k3 : Class := { plain "com/example/prudent_checker/prudentchecker/language/IntegerLiteral" (some 2) with
  accessFlags := 49
  interfaces := #[]
  cf := some (fileOf pool3 8 #[] #[{ accessFlags := 0, nameIndex := 5, descriptorIndex := 23, attributes := #[] }, { accessFlags := 1, nameIndex := 40, descriptorIndex := 41, attributes := #[] }] 49 2 #[] #[{ accessFlags := 18, nameIndex := 11, descriptorIndex := 12, attributes := #[] }])
  fields := #[{ name := "value", type := .int, accessFlags := 18, slot := 0, constantValue := 0 }]
  methods := #[k3m0, k3m1]
  instanceTypes := #[.int]
  staticTypes := #[]
  resolved := Array.replicate 45 none
  statics := none }

def pool4 : Array CpInfo := pool [(1, .class_ 2), (0, u "java/io/Serializable"), (0, .class_ 4), (0, u "java/lang/Object")] 2

/-- java/io/Serializable -/
def k4 : Class := { plain "java/io/Serializable" (some 0) with
  accessFlags := 1537
  interfaces := #[]
  cf := some (fileOf pool4 1 #[] #[] 1537 3 #[] #[])
  fields := #[]
  methods := #[]
  instanceTypes := #[]
  staticTypes := #[]
  resolved := Array.replicate 7 none
  statics := none }

def pool5 : Array CpInfo := pool [(1, .methodref 2 3), (0, .class_ 4), (0, .nameAndType 5 6), (0, u "java/lang/Object"), (0, u "<init>"), (0, u "()V"), (1, .class_ 10), (1, u "java/lang/Number"), (2, .class_ 14), (0, u "java/io/Serializable"), (0, u "serialVersionUID"), (0, u "J")] 20

def k5c0 : Code := { maxStack := 1, maxLocals := 1, code := jdk_18_method_1_code, exceptionTable := #[], attributes := #[] }
def k5m0 : Method := { name := "<init>", desc := "()V", sig := { parameters := [], returnType := none }, accessFlags := 1, code := some k5c0 }
/-- java/lang/Number -/
def k5 : Class := { plain "java/lang/Number" (some 0) with
  accessFlags := 1057
  interfaces := #[4]
  cf := some (fileOf pool5 8 #[] #[{ accessFlags := 1, nameIndex := 5, descriptorIndex := 6, attributes := #[] }] 1057 2 #[13] #[{ accessFlags := 26, nameIndex := 15, descriptorIndex := 16, attributes := #[] }])
  fields := #[{ name := "serialVersionUID", type := .long, accessFlags := 26, slot := 0, constantValue := 0 }]
  methods := #[k5m0]
  instanceTypes := #[]
  staticTypes := #[.long]
  resolved := Array.replicate 37 none
  statics := none }

def pool6 : Array CpInfo := pool [(1, .class_ 2), (0, u "java/lang/Comparable"), (0, .class_ 4), (0, u "java/lang/Object")] 7

/-- java/lang/Comparable -/
def k6 : Class := { plain "java/lang/Comparable" (some 0) with
  accessFlags := 1537
  interfaces := #[]
  cf := some (fileOf pool6 1 #[] #[] 1537 3 #[] #[])
  fields := #[]
  methods := #[]
  instanceTypes := #[]
  staticTypes := #[]
  resolved := Array.replicate 12 none
  statics := none }

def pool7 : Array CpInfo := pool [(1, .class_ 2), (0, u "java/lang/constant/Constable"), (0, .class_ 4), (0, u "java/lang/Object")] 6

/-- java/lang/constant/Constable -/
def k7 : Class := { plain "java/lang/constant/Constable" (some 0) with
  accessFlags := 1537
  interfaces := #[]
  cf := some (fileOf pool7 1 #[] #[] 1537 3 #[] #[])
  fields := #[]
  methods := #[]
  instanceTypes := #[]
  staticTypes := #[]
  resolved := Array.replicate 11 none
  statics := none }

def pool8 : Array CpInfo := pool [(1, .class_ 2), (0, u "java/lang/constant/ConstantDesc"), (0, .class_ 4), (0, u "java/lang/Object")] 32

/-- java/lang/constant/ConstantDesc -/
def k8 : Class := { plain "java/lang/constant/ConstantDesc" (some 0) with
  accessFlags := 1537
  interfaces := #[]
  cf := some (fileOf pool8 1 #[] #[] 1537 3 #[] #[])
  fields := #[]
  methods := #[]
  instanceTypes := #[]
  staticTypes := #[]
  resolved := Array.replicate 37 none
  statics := none }

def pool9 : Array CpInfo := pool [(1, .class_ 2), (0, u "java/lang/Integer"), (16, u "digits"), (0, u "[C"), (46, u "<init>"), (17, u "DigitOnes"), (0, u "[B"), (2, u "DigitTens"), (10, .nameAndType 67 101), (0, u "()V"), (85, u "valueOf"), (0, u "(I)Ljava/lang/Integer;"), (0, .class_ 190), (0, u "java/lang/Integer$IntegerCache"), (0, .fieldref 189 192), (0, .nameAndType 193 194), (0, u "high"), (0, u "I"), (0, .fieldref 189 196), (0, .nameAndType 197 198), (0, u "cache"), (0, u "[Ljava/lang/Integer;"), (0, .methodref 1 200), (0, .nameAndType 67 201), (0, u "(I)V"), (0, .methodref 203 100), (0, .class_ 204), (0, u "java/lang/Number"), (0, .fieldref 1 206), (0, .nameAndType 207 194), (0, u "value"), (94, u "TYPE"), (0, u "Ljava/lang/Class;"), (0, .class_ 305), (0, u "java/lang/Comparable"), (0, .class_ 307), (0, u "java/lang/constant/Constable"), (0, .class_ 309), (0, u "java/lang/constant/ConstantDesc"), (0, u "MIN_VALUE"), (1, u "MAX_VALUE"), (3, u "SIZE"), (1, u "BYTES"), (1, u "serialVersionUID"), (0, u "J")] 131

def k9c0 : Code := { maxStack := 3, maxLocals := 1, code := jdk_33_method_22_code, exceptionTable := #[], attributes := #[] }
def k9m0 : Method := { name := "valueOf", desc := "(I)Ljava/lang/Integer;", sig := { parameters := [.int], returnType := some (.object "java/lang/Integer") }, accessFlags := 9, code := some k9c0 }
def k9c1 : Code := { maxStack := 2, maxLocals := 2, code := jdk_33_method_23_code, exceptionTable := #[], attributes := #[] }
def k9m1 : Method := { name := "<init>", desc := "(I)V", sig := { parameters := [.int], returnType := none }, accessFlags := 1, code := some k9c1 }
/-- java/lang/Integer -/
def k9 : Class := { plain "java/lang/Integer" (some 5) with
  accessFlags := 49
  interfaces := #[6, 7, 8]
  cf := some (fileOf pool9 1 #[.nestMembers #[189]] #[{ accessFlags := 9, nameIndex := 187, descriptorIndex := 188, attributes := #[] }, { accessFlags := 1, nameIndex := 67, descriptorIndex := 201, attributes := #[] }] 49 203 #[304, 306, 308] #[{ accessFlags := 25, nameIndex := 310, descriptorIndex := 194, attributes := #[] }, { accessFlags := 25, nameIndex := 312, descriptorIndex := 194, attributes := #[] }, { accessFlags := 25, nameIndex := 302, descriptorIndex := 303, attributes := #[] }, { accessFlags := 24, nameIndex := 19, descriptorIndex := 20, attributes := #[] }, { accessFlags := 24, nameIndex := 89, descriptorIndex := 86, attributes := #[] }, { accessFlags := 24, nameIndex := 85, descriptorIndex := 86, attributes := #[] }, { accessFlags := 18, nameIndex := 207, descriptorIndex := 194, attributes := #[] }, { accessFlags := 25, nameIndex := 316, descriptorIndex := 194, attributes := #[] }, { accessFlags := 25, nameIndex := 318, descriptorIndex := 194, attributes := #[] }, { accessFlags := 26, nameIndex := 320, descriptorIndex := 321, attributes := #[] }])
  fields := #[{ name := "MIN_VALUE", type := .int, accessFlags := 25, slot := 0, constantValue := 0 }, { name := "MAX_VALUE", type := .int, accessFlags := 25, slot := 1, constantValue := 0 }, { name := "TYPE", type := (.object "java/lang/Class"), accessFlags := 25, slot := 2, constantValue := 0 }, { name := "digits", type := (.array .char), accessFlags := 24, slot := 3, constantValue := 0 }, { name := "DigitTens", type := (.array .byte), accessFlags := 24, slot := 4, constantValue := 0 }, { name := "DigitOnes", type := (.array .byte), accessFlags := 24, slot := 5, constantValue := 0 }, { name := "value", type := .int, accessFlags := 18, slot := 0, constantValue := 0 }, { name := "SIZE", type := .int, accessFlags := 25, slot := 6, constantValue := 0 }, { name := "BYTES", type := .int, accessFlags := 25, slot := 7, constantValue := 0 }, { name := "serialVersionUID", type := .long, accessFlags := 26, slot := 8, constantValue := 0 }]
  methods := #[k9m0, k9m1]
  instanceTypes := #[.int]
  staticTypes := #[.int, .int, (.object "java/lang/Class"), (.array .char), (.array .byte), (.array .byte), .int, .int, .long]
  resolved := Array.replicate 453 none
  statics := none }

def pool10 : Array CpInfo := pool [(2, .class_ 4), (1, u "java/lang/Object"), (0, u "<init>"), (0, u "()V"), (0, .class_ 8), (0, u "java/lang/Integer"), (7, .class_ 18), (1, u "java/lang/Integer$IntegerCache"), (0, u "$assertionsDisabled"), (0, u "Z"), (26, u "high"), (0, u "I"), (8, u "archivedCache"), (0, u "[Ljava/lang/Integer;"), (12, u "cache"), (0, u "low")] 27

def k10m0 : Method := { name := "<init>", desc := "()V", sig := { parameters := [], returnType := none }, accessFlags := 2, code := none }
/-- java/lang/Integer$IntegerCache -/
def k10 : Class := { plain "java/lang/Integer$IntegerCache" (some 0) with
  accessFlags := 48
  interfaces := #[]
  cf := some (fileOf pool10 16 #[.nestHost 7] #[{ accessFlags := 2, nameIndex := 5, descriptorIndex := 6, attributes := #[] }] 48 2 #[] #[{ accessFlags := 24, nameIndex := 72, descriptorIndex := 48, attributes := #[] }, { accessFlags := 24, nameIndex := 47, descriptorIndex := 48, attributes := #[] }, { accessFlags := 24, nameIndex := 71, descriptorIndex := 58, attributes := #[] }, { accessFlags := 8, nameIndex := 57, descriptorIndex := 58, attributes := #[] }, { accessFlags := 4120, nameIndex := 19, descriptorIndex := 20, attributes := #[] }])
  fields := #[{ name := "low", type := .int, accessFlags := 24, slot := 0, constantValue := 0 }, { name := "high", type := .int, accessFlags := 24, slot := 1, constantValue := 0 }, { name := "cache", type := (.array (.object "java/lang/Integer")), accessFlags := 24, slot := 2, constantValue := 0 }, { name := "archivedCache", type := (.array (.object "java/lang/Integer")), accessFlags := 8, slot := 3, constantValue := 0 }, { name := "$assertionsDisabled", type := .boolean, accessFlags := 4120, slot := 4, constantValue := 0 }]
  methods := #[k10m0]
  instanceTypes := #[]
  staticTypes := #[.int, .int, (.array (.object "java/lang/Integer")), (.array (.object "java/lang/Integer")), .boolean]
  resolved := Array.replicate 100 none
  statics := some 0 }

def pool11 : Array CpInfo := pool [(1, .methodref 2 3), (0, .class_ 4), (0, .nameAndType 5 6), (0, u "com/example/prudent_checker/prudentchecker/language/Expression"), (0, u "<init>"), (0, u "()V"), (0, .fieldref 8 9), (0, .class_ 10), (0, .nameAndType 11 12), (0, u "com/example/prudent_checker/prudentchecker/language/StoredValue"), (0, u "type"), (0, u "Lcom/example/prudent_checker/prudentchecker/language/ScalarType;"), (0, .fieldref 8 14), (0, .nameAndType 15 16), (0, u "value"), (0, u "Lcom/example/prudent_checker/prudentchecker/language/Expression;"), (24, u "(Lcom/example/prudent_checker/prudentchecker/language/ScalarType;Lcom/example/prudent_checker/prudentchecker/language/Expression;)V")] 55

def k11c0 : Code := { maxStack := 2, maxLocals := 3, code := prog_63_method_1_code, exceptionTable := #[], attributes := #[] }
def k11m0 : Method := { name := "<init>", desc := "(Lcom/example/prudent_checker/prudentchecker/language/ScalarType;Lcom/example/prudent_checker/prudentchecker/language/Expression;)V", sig := { parameters := [(.object "com/example/prudent_checker/prudentchecker/language/ScalarType"), (.object "com/example/prudent_checker/prudentchecker/language/Expression")], returnType := none }, accessFlags := 0, code := some k11c0 }
/-- com/example/prudent_checker/prudentchecker/language/StoredValue -/
def k11 : Class := { plain "com/example/prudent_checker/prudentchecker/language/StoredValue" (some 2) with
  accessFlags := 49
  interfaces := #[]
  cf := some (fileOf pool11 8 #[] #[{ accessFlags := 0, nameIndex := 5, descriptorIndex := 41, attributes := #[] }] 49 2 #[] #[{ accessFlags := 18, nameIndex := 11, descriptorIndex := 12, attributes := #[] }, { accessFlags := 18, nameIndex := 15, descriptorIndex := 16, attributes := #[] }])
  fields := #[{ name := "type", type := (.object "com/example/prudent_checker/prudentchecker/language/ScalarType"), accessFlags := 18, slot := 0, constantValue := 0 }, { name := "value", type := (.object "com/example/prudent_checker/prudentchecker/language/Expression"), accessFlags := 18, slot := 1, constantValue := 0 }]
  methods := #[k11m0]
  instanceTypes := #[(.object "com/example/prudent_checker/prudentchecker/language/ScalarType"), (.object "com/example/prudent_checker/prudentchecker/language/Expression")]
  staticTypes := #[]
  resolved := Array.replicate 97 none
  statics := none }

def pool12 : Array CpInfo := pool [(2, .class_ 4), (1, u "java/lang/Enum"), (0, u "name"), (0, u "Ljava/lang/String;"), (2, u "ordinal"), (0, u "I"), (1, .class_ 14), (1, u "java/lang/Object"), (4, u "hash"), (86, .class_ 108), (1, u "java/lang/Enum$EnumDesc"), (2, .class_ 112), (0, u "java/lang/constant/Constable"), (0, .class_ 114), (0, u "java/lang/Comparable"), (0, .class_ 116), (0, u "java/io/Serializable")] 87

/-- java/lang/Enum -/
def k12 : Class := { plain "java/lang/Enum" (some 0) with
  accessFlags := 1057
  interfaces := #[7, 6, 4]
  cf := some (fileOf pool12 2 #[.nestMembers #[106]] #[] 1057 12 #[111, 113, 115] #[{ accessFlags := 18, nameIndex := 5, descriptorIndex := 6, attributes := #[] }, { accessFlags := 18, nameIndex := 9, descriptorIndex := 10, attributes := #[] }, { accessFlags := 2, nameIndex := 19, descriptorIndex := 10, attributes := #[] }])
  fields := #[{ name := "name", type := (.object "java/lang/String"), accessFlags := 18, slot := 0, constantValue := 0 }, { name := "ordinal", type := .int, accessFlags := 18, slot := 1, constantValue := 0 }, { name := "hash", type := .int, accessFlags := 2, slot := 2, constantValue := 0 }]
  methods := #[]
  instanceTypes := #[(.object "java/lang/String"), .int, .int]
  staticTypes := #[]
  resolved := Array.replicate 204 none
  statics := none }

def pool13 : Array CpInfo := pool [(1, .class_ 2), (0, u "com/example/prudent_checker/prudentchecker/language/ScalarType"), (2, u "BIT"), (0, u "Lcom/example/prudent_checker/prudentchecker/language/ScalarType;"), (2, u "BOOL"), (2, u "BYTE"), (2, u "SHORT"), (2, u "INT"), (2, u "$VALUES"), (0, u "[Lcom/example/prudent_checker/prudentchecker/language/ScalarType;"), (6, .class_ 31), (1, u "java/lang/Enum"), (8, u "keyword"), (0, u "Ljava/lang/String;"), (2, u "width"), (0, u "I"), (2, u "signed"), (0, u "Z")] 64

/-- com/example/prudent_checker/prudentchecker/language/ScalarType -/
def k13 : Class := { plain "com/example/prudent_checker/prudentchecker/language/ScalarType" (some 12) with
  accessFlags := 16433
  interfaces := #[]
  cf := some (fileOf pool13 1 #[] #[] 16433 29 #[] #[{ accessFlags := 16409, nameIndex := 5, descriptorIndex := 6, attributes := #[] }, { accessFlags := 16409, nameIndex := 9, descriptorIndex := 6, attributes := #[] }, { accessFlags := 16409, nameIndex := 12, descriptorIndex := 6, attributes := #[] }, { accessFlags := 16409, nameIndex := 15, descriptorIndex := 6, attributes := #[] }, { accessFlags := 16409, nameIndex := 18, descriptorIndex := 6, attributes := #[] }, { accessFlags := 18, nameIndex := 40, descriptorIndex := 41, attributes := #[] }, { accessFlags := 18, nameIndex := 44, descriptorIndex := 45, attributes := #[] }, { accessFlags := 18, nameIndex := 48, descriptorIndex := 49, attributes := #[] }, { accessFlags := 4122, nameIndex := 21, descriptorIndex := 22, attributes := #[] }])
  fields := #[{ name := "BIT", type := (.object "com/example/prudent_checker/prudentchecker/language/ScalarType"), accessFlags := 16409, slot := 0, constantValue := 0 }, { name := "BOOL", type := (.object "com/example/prudent_checker/prudentchecker/language/ScalarType"), accessFlags := 16409, slot := 1, constantValue := 0 }, { name := "BYTE", type := (.object "com/example/prudent_checker/prudentchecker/language/ScalarType"), accessFlags := 16409, slot := 2, constantValue := 0 }, { name := "SHORT", type := (.object "com/example/prudent_checker/prudentchecker/language/ScalarType"), accessFlags := 16409, slot := 3, constantValue := 0 }, { name := "INT", type := (.object "com/example/prudent_checker/prudentchecker/language/ScalarType"), accessFlags := 16409, slot := 4, constantValue := 0 }, { name := "keyword", type := (.object "java/lang/String"), accessFlags := 18, slot := 3, constantValue := 0 }, { name := "width", type := .int, accessFlags := 18, slot := 4, constantValue := 0 }, { name := "signed", type := .boolean, accessFlags := 18, slot := 5, constantValue := 0 }, { name := "$VALUES", type := (.array (.object "com/example/prudent_checker/prudentchecker/language/ScalarType")), accessFlags := 4122, slot := 5, constantValue := 0 }]
  methods := #[]
  instanceTypes := #[(.object "java/lang/String"), .int, .int, (.object "java/lang/String"), .int, .boolean]
  staticTypes := #[(.object "com/example/prudent_checker/prudentchecker/language/ScalarType"), (.object "com/example/prudent_checker/prudentchecker/language/ScalarType"), (.object "com/example/prudent_checker/prudentchecker/language/ScalarType"), (.object "com/example/prudent_checker/prudentchecker/language/ScalarType"), (.object "com/example/prudent_checker/prudentchecker/language/ScalarType"), (.array (.object "com/example/prudent_checker/prudentchecker/language/ScalarType"))]
  resolved := Array.replicate 114 none
  statics := some 1 }

def pool14 : Array CpInfo := pool [(1, u "java/lang/Cloneable"), (0, .class_ 1), (0, u "java/lang/Object"), (0, .class_ 3)] 3

/-- java/lang/Cloneable -/
def k14 : Class := { plain "java/lang/Cloneable" (some 0) with
  accessFlags := 1537
  interfaces := #[]
  cf := some (fileOf pool14 2 #[] #[] 1537 4 #[] #[])
  fields := #[]
  methods := #[]
  instanceTypes := #[]
  staticTypes := #[]
  resolved := Array.replicate 8 none
  statics := none }

/-- the primitive byte -/
def k15 : Class := { plain "byte" none with kind := .primitive 'B', accessFlags := 0x411 }
/-- [B -/
def k16 : Class := { plain "[B" (some 0) with kind := .array 15 .byte, interfaces := #[14, 4], accessFlags := 1041 }

/-- the primitive int -/
def k17 : Class := { plain "int" none with kind := .primitive 'I', accessFlags := 0x411 }
/-- [I -/
def k18 : Class := { plain "[I" (some 0) with kind := .array 17 .int, interfaces := #[14, 4], accessFlags := 1041 }

/-- [Ljava/lang/Integer; -/
def k19 : Class := { plain "[Ljava/lang/Integer;" (some 0) with kind := .array 9 (.object "java/lang/Integer"), interfaces := #[14, 4], accessFlags := 1041 }

def heap : Heap := #[{ cls := 10, slots := #[.int 0, .int 127, .ref 2, .null, .int 0], vm := .statics 10 },
  { cls := 13, slots := #[.null, .null, .null, .null, .ref 3, .null], vm := .statics 13 },
  { cls := 19, slots := #[.ref 4, .ref 5, .ref 6, .ref 7, .ref 8, .ref 9, .ref 10, .ref 11, .ref 12, .ref 13, .ref 14, .ref 15, .ref 16, .ref 17, .ref 18, .ref 19, .ref 20, .ref 21, .ref 22, .ref 23, .ref 24, .ref 25, .ref 26, .ref 27, .ref 28, .ref 29, .ref 30, .ref 31, .ref 32, .ref 33, .ref 34, .ref 35, .ref 36, .ref 37, .ref 38, .ref 39, .ref 40, .ref 41, .ref 42, .ref 43, .ref 44, .ref 45, .ref 46, .ref 47, .ref 48, .ref 49, .ref 50, .ref 51, .ref 52, .ref 53, .ref 54, .ref 55, .ref 56, .ref 57, .ref 58, .ref 59, .ref 60, .ref 61, .ref 62, .ref 63, .ref 64, .ref 65, .ref 66, .ref 67, .ref 68, .ref 69, .ref 70, .ref 71, .ref 72, .ref 73, .ref 74, .ref 75, .ref 76, .ref 77, .ref 78, .ref 79, .ref 80, .ref 81, .ref 82, .ref 83, .ref 84, .ref 85, .ref 86, .ref 87, .ref 88, .ref 89, .ref 90, .ref 91, .ref 92, .ref 93, .ref 94, .ref 95, .ref 96, .ref 97, .ref 98, .ref 99, .ref 100, .ref 101, .ref 102, .ref 103, .ref 104, .ref 105, .ref 106, .ref 107, .ref 108, .ref 109, .ref 110, .ref 111, .ref 112, .ref 113, .ref 114, .ref 115, .ref 116, .ref 117, .ref 118, .ref 119, .ref 120, .ref 121, .ref 122, .ref 123, .ref 124, .ref 125, .ref 126, .ref 127, .ref 128, .ref 129, .ref 130, .ref 131, .ref 132, .ref 133, .ref 134, .ref 135, .ref 136, .ref 137, .ref 138, .ref 139, .ref 140, .ref 141, .ref 142, .ref 143, .ref 144, .ref 145, .ref 146, .ref 147, .ref 148, .ref 149, .ref 150, .ref 151, .ref 152, .ref 153, .ref 154, .ref 155, .ref 156, .ref 157, .ref 158, .ref 159, .ref 160, .ref 161, .ref 162, .ref 163, .ref 164, .ref 165, .ref 166, .ref 167, .ref 168, .ref 169, .ref 170, .ref 171, .ref 172, .ref 173, .ref 174, .ref 175, .ref 176, .ref 177, .ref 178, .ref 179, .ref 180, .ref 181, .ref 182, .ref 183, .ref 184, .ref 185, .ref 186, .ref 187, .ref 188, .ref 189, .ref 190, .ref 191, .ref 192, .ref 193, .ref 194, .ref 195, .ref 196, .ref 197, .ref 198, .ref 199, .ref 200, .ref 201, .ref 202, .ref 203, .ref 204, .ref 205, .ref 206, .ref 207, .ref 208, .ref 209, .ref 210, .ref 211, .ref 212, .ref 213, .ref 214, .ref 215, .ref 216, .ref 217, .ref 218, .ref 219, .ref 220, .ref 221, .ref 222, .ref 223, .ref 224, .ref 225, .ref 226, .ref 227, .ref 228, .ref 229, .ref 230, .ref 231, .ref 232, .ref 233, .ref 234, .ref 235, .ref 236, .ref 237, .ref 238, .ref 239, .ref 240, .ref 241, .ref 242, .ref 243, .ref 244, .ref 245, .ref 246, .ref 247, .ref 248, .ref 249, .ref 250, .ref 251, .ref 252, .ref 253, .ref 254, .ref 255, .ref 256, .ref 257, .ref 258, .ref 259], vm := .none },
  { cls := 13, slots := #[.null, .int 0, .int 0, .null, .int 0, .int 0], vm := .none },
  { cls := 9, slots := #[.int (-128)], vm := .none },
  { cls := 9, slots := #[.int (-127)], vm := .none },
  { cls := 9, slots := #[.int (-126)], vm := .none },
  { cls := 9, slots := #[.int (-125)], vm := .none },
  { cls := 9, slots := #[.int (-124)], vm := .none },
  { cls := 9, slots := #[.int (-123)], vm := .none },
  { cls := 9, slots := #[.int (-122)], vm := .none },
  { cls := 9, slots := #[.int (-121)], vm := .none },
  { cls := 9, slots := #[.int (-120)], vm := .none },
  { cls := 9, slots := #[.int (-119)], vm := .none },
  { cls := 9, slots := #[.int (-118)], vm := .none },
  { cls := 9, slots := #[.int (-117)], vm := .none },
  { cls := 9, slots := #[.int (-116)], vm := .none },
  { cls := 9, slots := #[.int (-115)], vm := .none },
  { cls := 9, slots := #[.int (-114)], vm := .none },
  { cls := 9, slots := #[.int (-113)], vm := .none },
  { cls := 9, slots := #[.int (-112)], vm := .none },
  { cls := 9, slots := #[.int (-111)], vm := .none },
  { cls := 9, slots := #[.int (-110)], vm := .none },
  { cls := 9, slots := #[.int (-109)], vm := .none },
  { cls := 9, slots := #[.int (-108)], vm := .none },
  { cls := 9, slots := #[.int (-107)], vm := .none },
  { cls := 9, slots := #[.int (-106)], vm := .none },
  { cls := 9, slots := #[.int (-105)], vm := .none },
  { cls := 9, slots := #[.int (-104)], vm := .none },
  { cls := 9, slots := #[.int (-103)], vm := .none },
  { cls := 9, slots := #[.int (-102)], vm := .none },
  { cls := 9, slots := #[.int (-101)], vm := .none },
  { cls := 9, slots := #[.int (-100)], vm := .none },
  { cls := 9, slots := #[.int (-99)], vm := .none },
  { cls := 9, slots := #[.int (-98)], vm := .none },
  { cls := 9, slots := #[.int (-97)], vm := .none },
  { cls := 9, slots := #[.int (-96)], vm := .none },
  { cls := 9, slots := #[.int (-95)], vm := .none },
  { cls := 9, slots := #[.int (-94)], vm := .none },
  { cls := 9, slots := #[.int (-93)], vm := .none },
  { cls := 9, slots := #[.int (-92)], vm := .none },
  { cls := 9, slots := #[.int (-91)], vm := .none },
  { cls := 9, slots := #[.int (-90)], vm := .none },
  { cls := 9, slots := #[.int (-89)], vm := .none },
  { cls := 9, slots := #[.int (-88)], vm := .none },
  { cls := 9, slots := #[.int (-87)], vm := .none },
  { cls := 9, slots := #[.int (-86)], vm := .none },
  { cls := 9, slots := #[.int (-85)], vm := .none },
  { cls := 9, slots := #[.int (-84)], vm := .none },
  { cls := 9, slots := #[.int (-83)], vm := .none },
  { cls := 9, slots := #[.int (-82)], vm := .none },
  { cls := 9, slots := #[.int (-81)], vm := .none },
  { cls := 9, slots := #[.int (-80)], vm := .none },
  { cls := 9, slots := #[.int (-79)], vm := .none },
  { cls := 9, slots := #[.int (-78)], vm := .none },
  { cls := 9, slots := #[.int (-77)], vm := .none },
  { cls := 9, slots := #[.int (-76)], vm := .none },
  { cls := 9, slots := #[.int (-75)], vm := .none },
  { cls := 9, slots := #[.int (-74)], vm := .none },
  { cls := 9, slots := #[.int (-73)], vm := .none },
  { cls := 9, slots := #[.int (-72)], vm := .none },
  { cls := 9, slots := #[.int (-71)], vm := .none },
  { cls := 9, slots := #[.int (-70)], vm := .none },
  { cls := 9, slots := #[.int (-69)], vm := .none },
  { cls := 9, slots := #[.int (-68)], vm := .none },
  { cls := 9, slots := #[.int (-67)], vm := .none },
  { cls := 9, slots := #[.int (-66)], vm := .none },
  { cls := 9, slots := #[.int (-65)], vm := .none },
  { cls := 9, slots := #[.int (-64)], vm := .none },
  { cls := 9, slots := #[.int (-63)], vm := .none },
  { cls := 9, slots := #[.int (-62)], vm := .none },
  { cls := 9, slots := #[.int (-61)], vm := .none },
  { cls := 9, slots := #[.int (-60)], vm := .none },
  { cls := 9, slots := #[.int (-59)], vm := .none },
  { cls := 9, slots := #[.int (-58)], vm := .none },
  { cls := 9, slots := #[.int (-57)], vm := .none },
  { cls := 9, slots := #[.int (-56)], vm := .none },
  { cls := 9, slots := #[.int (-55)], vm := .none },
  { cls := 9, slots := #[.int (-54)], vm := .none },
  { cls := 9, slots := #[.int (-53)], vm := .none },
  { cls := 9, slots := #[.int (-52)], vm := .none },
  { cls := 9, slots := #[.int (-51)], vm := .none },
  { cls := 9, slots := #[.int (-50)], vm := .none },
  { cls := 9, slots := #[.int (-49)], vm := .none },
  { cls := 9, slots := #[.int (-48)], vm := .none },
  { cls := 9, slots := #[.int (-47)], vm := .none },
  { cls := 9, slots := #[.int (-46)], vm := .none },
  { cls := 9, slots := #[.int (-45)], vm := .none },
  { cls := 9, slots := #[.int (-44)], vm := .none },
  { cls := 9, slots := #[.int (-43)], vm := .none },
  { cls := 9, slots := #[.int (-42)], vm := .none },
  { cls := 9, slots := #[.int (-41)], vm := .none },
  { cls := 9, slots := #[.int (-40)], vm := .none },
  { cls := 9, slots := #[.int (-39)], vm := .none },
  { cls := 9, slots := #[.int (-38)], vm := .none },
  { cls := 9, slots := #[.int (-37)], vm := .none },
  { cls := 9, slots := #[.int (-36)], vm := .none },
  { cls := 9, slots := #[.int (-35)], vm := .none },
  { cls := 9, slots := #[.int (-34)], vm := .none },
  { cls := 9, slots := #[.int (-33)], vm := .none },
  { cls := 9, slots := #[.int (-32)], vm := .none },
  { cls := 9, slots := #[.int (-31)], vm := .none },
  { cls := 9, slots := #[.int (-30)], vm := .none },
  { cls := 9, slots := #[.int (-29)], vm := .none },
  { cls := 9, slots := #[.int (-28)], vm := .none },
  { cls := 9, slots := #[.int (-27)], vm := .none },
  { cls := 9, slots := #[.int (-26)], vm := .none },
  { cls := 9, slots := #[.int (-25)], vm := .none },
  { cls := 9, slots := #[.int (-24)], vm := .none },
  { cls := 9, slots := #[.int (-23)], vm := .none },
  { cls := 9, slots := #[.int (-22)], vm := .none },
  { cls := 9, slots := #[.int (-21)], vm := .none },
  { cls := 9, slots := #[.int (-20)], vm := .none },
  { cls := 9, slots := #[.int (-19)], vm := .none },
  { cls := 9, slots := #[.int (-18)], vm := .none },
  { cls := 9, slots := #[.int (-17)], vm := .none },
  { cls := 9, slots := #[.int (-16)], vm := .none },
  { cls := 9, slots := #[.int (-15)], vm := .none },
  { cls := 9, slots := #[.int (-14)], vm := .none },
  { cls := 9, slots := #[.int (-13)], vm := .none },
  { cls := 9, slots := #[.int (-12)], vm := .none },
  { cls := 9, slots := #[.int (-11)], vm := .none },
  { cls := 9, slots := #[.int (-10)], vm := .none },
  { cls := 9, slots := #[.int (-9)], vm := .none },
  { cls := 9, slots := #[.int (-8)], vm := .none },
  { cls := 9, slots := #[.int (-7)], vm := .none },
  { cls := 9, slots := #[.int (-6)], vm := .none },
  { cls := 9, slots := #[.int (-5)], vm := .none },
  { cls := 9, slots := #[.int (-4)], vm := .none },
  { cls := 9, slots := #[.int (-3)], vm := .none },
  { cls := 9, slots := #[.int (-2)], vm := .none },
  { cls := 9, slots := #[.int (-1)], vm := .none },
  { cls := 9, slots := #[.int 0], vm := .none },
  { cls := 9, slots := #[.int 1], vm := .none },
  { cls := 9, slots := #[.int 2], vm := .none },
  { cls := 9, slots := #[.int 3], vm := .none },
  { cls := 9, slots := #[.int 4], vm := .none },
  { cls := 9, slots := #[.int 5], vm := .none },
  { cls := 9, slots := #[.int 6], vm := .none },
  { cls := 9, slots := #[.int 7], vm := .none },
  { cls := 9, slots := #[.int 8], vm := .none },
  { cls := 9, slots := #[.int 9], vm := .none },
  { cls := 9, slots := #[.int 10], vm := .none },
  { cls := 9, slots := #[.int 11], vm := .none },
  { cls := 9, slots := #[.int 12], vm := .none },
  { cls := 9, slots := #[.int 13], vm := .none },
  { cls := 9, slots := #[.int 14], vm := .none },
  { cls := 9, slots := #[.int 15], vm := .none },
  { cls := 9, slots := #[.int 16], vm := .none },
  { cls := 9, slots := #[.int 17], vm := .none },
  { cls := 9, slots := #[.int 18], vm := .none },
  { cls := 9, slots := #[.int 19], vm := .none },
  { cls := 9, slots := #[.int 20], vm := .none },
  { cls := 9, slots := #[.int 21], vm := .none },
  { cls := 9, slots := #[.int 22], vm := .none },
  { cls := 9, slots := #[.int 23], vm := .none },
  { cls := 9, slots := #[.int 24], vm := .none },
  { cls := 9, slots := #[.int 25], vm := .none },
  { cls := 9, slots := #[.int 26], vm := .none },
  { cls := 9, slots := #[.int 27], vm := .none },
  { cls := 9, slots := #[.int 28], vm := .none },
  { cls := 9, slots := #[.int 29], vm := .none },
  { cls := 9, slots := #[.int 30], vm := .none },
  { cls := 9, slots := #[.int 31], vm := .none },
  { cls := 9, slots := #[.int 32], vm := .none },
  { cls := 9, slots := #[.int 33], vm := .none },
  { cls := 9, slots := #[.int 34], vm := .none },
  { cls := 9, slots := #[.int 35], vm := .none },
  { cls := 9, slots := #[.int 36], vm := .none },
  { cls := 9, slots := #[.int 37], vm := .none },
  { cls := 9, slots := #[.int 38], vm := .none },
  { cls := 9, slots := #[.int 39], vm := .none },
  { cls := 9, slots := #[.int 40], vm := .none },
  { cls := 9, slots := #[.int 41], vm := .none },
  { cls := 9, slots := #[.int 42], vm := .none },
  { cls := 9, slots := #[.int 43], vm := .none },
  { cls := 9, slots := #[.int 44], vm := .none },
  { cls := 9, slots := #[.int 45], vm := .none },
  { cls := 9, slots := #[.int 46], vm := .none },
  { cls := 9, slots := #[.int 47], vm := .none },
  { cls := 9, slots := #[.int 48], vm := .none },
  { cls := 9, slots := #[.int 49], vm := .none },
  { cls := 9, slots := #[.int 50], vm := .none },
  { cls := 9, slots := #[.int 51], vm := .none },
  { cls := 9, slots := #[.int 52], vm := .none },
  { cls := 9, slots := #[.int 53], vm := .none },
  { cls := 9, slots := #[.int 54], vm := .none },
  { cls := 9, slots := #[.int 55], vm := .none },
  { cls := 9, slots := #[.int 56], vm := .none },
  { cls := 9, slots := #[.int 57], vm := .none },
  { cls := 9, slots := #[.int 58], vm := .none },
  { cls := 9, slots := #[.int 59], vm := .none },
  { cls := 9, slots := #[.int 60], vm := .none },
  { cls := 9, slots := #[.int 61], vm := .none },
  { cls := 9, slots := #[.int 62], vm := .none },
  { cls := 9, slots := #[.int 63], vm := .none },
  { cls := 9, slots := #[.int 64], vm := .none },
  { cls := 9, slots := #[.int 65], vm := .none },
  { cls := 9, slots := #[.int 66], vm := .none },
  { cls := 9, slots := #[.int 67], vm := .none },
  { cls := 9, slots := #[.int 68], vm := .none },
  { cls := 9, slots := #[.int 69], vm := .none },
  { cls := 9, slots := #[.int 70], vm := .none },
  { cls := 9, slots := #[.int 71], vm := .none },
  { cls := 9, slots := #[.int 72], vm := .none },
  { cls := 9, slots := #[.int 73], vm := .none },
  { cls := 9, slots := #[.int 74], vm := .none },
  { cls := 9, slots := #[.int 75], vm := .none },
  { cls := 9, slots := #[.int 76], vm := .none },
  { cls := 9, slots := #[.int 77], vm := .none },
  { cls := 9, slots := #[.int 78], vm := .none },
  { cls := 9, slots := #[.int 79], vm := .none },
  { cls := 9, slots := #[.int 80], vm := .none },
  { cls := 9, slots := #[.int 81], vm := .none },
  { cls := 9, slots := #[.int 82], vm := .none },
  { cls := 9, slots := #[.int 83], vm := .none },
  { cls := 9, slots := #[.int 84], vm := .none },
  { cls := 9, slots := #[.int 85], vm := .none },
  { cls := 9, slots := #[.int 86], vm := .none },
  { cls := 9, slots := #[.int 87], vm := .none },
  { cls := 9, slots := #[.int 88], vm := .none },
  { cls := 9, slots := #[.int 89], vm := .none },
  { cls := 9, slots := #[.int 90], vm := .none },
  { cls := 9, slots := #[.int 91], vm := .none },
  { cls := 9, slots := #[.int 92], vm := .none },
  { cls := 9, slots := #[.int 93], vm := .none },
  { cls := 9, slots := #[.int 94], vm := .none },
  { cls := 9, slots := #[.int 95], vm := .none },
  { cls := 9, slots := #[.int 96], vm := .none },
  { cls := 9, slots := #[.int 97], vm := .none },
  { cls := 9, slots := #[.int 98], vm := .none },
  { cls := 9, slots := #[.int 99], vm := .none },
  { cls := 9, slots := #[.int 100], vm := .none },
  { cls := 9, slots := #[.int 101], vm := .none },
  { cls := 9, slots := #[.int 102], vm := .none },
  { cls := 9, slots := #[.int 103], vm := .none },
  { cls := 9, slots := #[.int 104], vm := .none },
  { cls := 9, slots := #[.int 105], vm := .none },
  { cls := 9, slots := #[.int 106], vm := .none },
  { cls := 9, slots := #[.int 107], vm := .none },
  { cls := 9, slots := #[.int 108], vm := .none },
  { cls := 9, slots := #[.int 109], vm := .none },
  { cls := 9, slots := #[.int 110], vm := .none },
  { cls := 9, slots := #[.int 111], vm := .none },
  { cls := 9, slots := #[.int 112], vm := .none },
  { cls := 9, slots := #[.int 113], vm := .none },
  { cls := 9, slots := #[.int 114], vm := .none },
  { cls := 9, slots := #[.int 115], vm := .none },
  { cls := 9, slots := #[.int 116], vm := .none },
  { cls := 9, slots := #[.int 117], vm := .none },
  { cls := 9, slots := #[.int 118], vm := .none },
  { cls := 9, slots := #[.int 119], vm := .none },
  { cls := 9, slots := #[.int 120], vm := .none },
  { cls := 9, slots := #[.int 121], vm := .none },
  { cls := 9, slots := #[.int 122], vm := .none },
  { cls := 9, slots := #[.int 123], vm := .none },
  { cls := 9, slots := #[.int 124], vm := .none },
  { cls := 9, slots := #[.int 125], vm := .none },
  { cls := 9, slots := #[.int 126], vm := .none },
  { cls := 9, slots := #[.int 127], vm := .none }]
def classes : Array Class := #[k0, k1, k2, k3, k4, k5, k6, k7, k8, k9, k10, k11, k12, k13, k14, k15, k16, k17, k18, k19]
def interned : List (Array UInt16 × Addr) := []
def slotsUsed : Nat := 529
def theMethod : MethodId := ⟨1, 1⟩
def args0 : Array Value := #[.int 5, .int 3, .int 2]
def aboutOver (below : List Frame) : State where
  vm := { classes := classes, interned := interned.toArray }
  heap := heap
  slotsUsed := slotsUsed
  threads := #[{ frames := .invoking theMethod args0 :: below }]
def below0 : List Frame := [.native { method := ⟨0, 0⟩, args := #[] }]
def about1 : State := aboutOver below0
def p0 : Program := .bare "" "" ""
def e0 : Env := launch0.env 0 0 0
theorem w_frames : about1.frames = Frame.invoking theMethod args0 :: below0 := rfl
set_option maxRecDepth 65536 in
theorem w_args : argsFit about1.vm theMethod args0 = true := by decide +kernel
set_option maxRecDepth 65536 in
theorem w_heap : heapFits about1 = true := by decide +kernel
set_option maxRecDepth 65536 in
theorem w_runnable : about1.curStatus? = some .runnable := by decide +kernel
set_option maxRecDepth 65536 in
theorem w_alone : about1.alone = true := by decide +kernel
set_option maxRecDepth 65536 in
theorem w_named : about1.methodNamed? x = some theMethod := by decide +kernel
set_option maxRecDepth 65536 in
theorem w_hears : about1.hears theMethod below0 = true := by decide +kernel
set_option maxRecDepth 65536 in
theorem w_ripe : about1.ripe theMethod args0 below0 = true := by decide +kernel
theorem w_running : about1.status = .running := rfl
set_option maxRecDepth 65536 in
theorem w_room : about1.hasRoom e0.platform room_1 = true :=
  launch0.hasRoom_least _ room_1 (by decide +kernel) (by decide +kernel) (by decide +kernel) (by decide +kernel) (by decide +kernel) (by decide +kernel)
theorem allAtoms_all (ts : List Jvm.Cond) (a : Array Jvm.Value) (st : Jvm.State) : (allAtoms ts).before a st = ts.all (fun c => c.before a st) := by
  induction ts with
  | nil => rfl
  | cons c t ih =>
    show (Jvm.Cond.and c (allAtoms t)).before a st = _
    rw [Jvm.Cond.before_and, ih, List.all_cons]
def words1 : List Jvm.Cond := Jvm.Cond.code x code maxLocals ret :: tables_1
/-- a 'code' word, met by the world's own term for the bytes: nothing is compared byte by byte -/
theorem code_word {y : MethodName} {bytes : ByteArray} {mx : Nat} {rt : Option FieldType} {a : Array Value} {s : State} {m : MethodId} {meth : Method} {c : Code} (h1 : s.methodNamed? y = some m) (h2 : s.vm.method? m = some meth) (h3 : meth.code = some c) (h4 : c.code = bytes)
    (h5 : (c.maxLocals == mx && c.exceptionTable.isEmpty && decide (c.maxStack ≤ mostOperands) && decide (meth.sig.returnType = rt) && !meth.locks && decide (parseMethodDescriptor y.desc = some meth.sig)) = true) : (Jvm.Cond.code y bytes mx rt).before a s = true := by
  simp only [Bool.and_eq_true, beq_iff_eq, Bool.not_eq_true', decide_eq_true_eq] at h5
  obtain ⟨⟨⟨⟨⟨g1, g2⟩, g3⟩, g4⟩, g5⟩, g6⟩ := h5
  simp [Cond.before, Cond.holds, Cond.value, h1, h2, h3, h4, g1, g2, g3, g4, g5, g6]
def isCode : Jvm.Cond → Bool
  | .code _ _ _ _ => true
  | _ => false
theorem all_split {L : List Jvm.Cond} {P : Jvm.Cond → Bool} (h1 : L.all (fun c => isCode c || P c) = true) (h2 : ∀ c ∈ L.filter isCode, P c = true) : L.all P = true := by
  refine List.all_eq_true.mpr fun c hc => ?_
  have h := List.all_eq_true.mp h1 c hc
  rcases Bool.eq_false_or_eq_true (isCode c) with hi | hi
  · exact h2 c (List.mem_filter.mpr ⟨hc, hi⟩)
  · simpa [hi] using h
set_option maxRecDepth 65536 in
theorem w_c0 : (Jvm.Cond.code x code maxLocals ret).before args0 about1 = true := code_word (m := ⟨1, 1⟩) (meth := k1m1) (c := k1c1) (by decide +kernel) rfl rfl rfl (by decide +kernel)
set_option maxRecDepth 65536 in
theorem w_c1 : (Jvm.Cond.code ({ cls := "com/example/prudent_checker/prudentchecker/language/IntegerLiteral", name := "<init>", desc := "(I)V" } : Jvm.MethodName) prog_46_method_1_code (2 : Nat) (Option.none : Option Jvm.ClassFile.FieldType)).before args0 about1 = true := code_word (m := ⟨3, 0⟩) (meth := k3m0) (c := k3c0) (by decide +kernel) rfl rfl rfl (by decide +kernel)
set_option maxRecDepth 65536 in
theorem w_c2 : (Jvm.Cond.code ({ cls := "com/example/prudent_checker/prudentchecker/language/Expression", name := "<init>", desc := "()V" } : Jvm.MethodName) prog_43_method_1_code (1 : Nat) (Option.none : Option Jvm.ClassFile.FieldType)).before args0 about1 = true := code_word (m := ⟨2, 0⟩) (meth := k2m0) (c := k2c0) (by decide +kernel) rfl rfl rfl (by decide +kernel)
set_option maxRecDepth 65536 in
theorem w_c3 : (Jvm.Cond.code ({ cls := "java/lang/Object", name := "<init>", desc := "()V" } : Jvm.MethodName) object_method_1_code (1 : Nat) (Option.none : Option Jvm.ClassFile.FieldType)).before args0 about1 = true := code_word (m := ⟨0, 0⟩) (meth := k0m0) (c := k0c0) (by decide +kernel) rfl rfl rfl (by decide +kernel)
set_option maxRecDepth 65536 in
theorem w_c4 : (Jvm.Cond.code ({ cls := "java/lang/Integer", name := "valueOf", desc := "(I)Ljava/lang/Integer;" } : Jvm.MethodName) jdk_33_method_22_code (1 : Nat) (Option.some (Jvm.ClassFile.FieldType.object "java/lang/Integer"))).before args0 about1 = true := code_word (m := ⟨9, 0⟩) (meth := k9m0) (c := k9c0) (by decide +kernel) rfl rfl rfl (by decide +kernel)
set_option maxRecDepth 65536 in
theorem w_c5 : (Jvm.Cond.code ({ cls := "com/example/prudent_checker/prudentchecker/language/IntegerLiteral", name := "equals", desc := "(Ljava/lang/Object;)Z" } : Jvm.MethodName) prog_46_method_7_code (3 : Nat) (Option.some Jvm.ClassFile.FieldType.boolean)).before args0 about1 = true := code_word (m := ⟨3, 1⟩) (meth := k3m1) (c := k3c1) (by decide +kernel) rfl rfl rfl (by decide +kernel)
set_option maxRecDepth 65536 in
theorem w_c6 : (Jvm.Cond.code ({ cls := "com/example/prudent_checker/prudentchecker/language/StoredValue", name := "<init>", desc := "(Lcom/example/prudent_checker/prudentchecker/language/ScalarType;Lcom/example/prudent_checker/prudentchecker/language/Expression;)V" } : Jvm.MethodName) prog_63_method_1_code (3 : Nat) (Option.none : Option Jvm.ClassFile.FieldType)).before args0 about1 = true := code_word (m := ⟨11, 0⟩) (meth := k11m0) (c := k11c0) (by decide +kernel) rfl rfl rfl (by decide +kernel)
set_option maxRecDepth 65536 in
theorem w_c7 : (Jvm.Cond.code ({ cls := "java/lang/Integer", name := "<init>", desc := "(I)V" } : Jvm.MethodName) jdk_33_method_23_code (2 : Nat) (Option.none : Option Jvm.ClassFile.FieldType)).before args0 about1 = true := code_word (m := ⟨9, 1⟩) (meth := k9m1) (c := k9c1) (by decide +kernel) rfl rfl rfl (by decide +kernel)
set_option maxRecDepth 65536 in
theorem w_c8 : (Jvm.Cond.code ({ cls := "java/lang/Number", name := "<init>", desc := "()V" } : Jvm.MethodName) jdk_18_method_1_code (1 : Nat) (Option.none : Option Jvm.ClassFile.FieldType)).before args0 about1 = true := code_word (m := ⟨5, 0⟩) (meth := k5m0) (c := k5c0) (by decide +kernel) rfl rfl rfl (by decide +kernel)
def codes1 : List Jvm.Cond := [Jvm.Cond.code x code maxLocals ret, Jvm.Cond.code ({ cls := "com/example/prudent_checker/prudentchecker/language/IntegerLiteral", name := "<init>", desc := "(I)V" } : Jvm.MethodName) prog_46_method_1_code (2 : Nat) (Option.none : Option Jvm.ClassFile.FieldType), Jvm.Cond.code ({ cls := "com/example/prudent_checker/prudentchecker/language/Expression", name := "<init>", desc := "()V" } : Jvm.MethodName) prog_43_method_1_code (1 : Nat) (Option.none : Option Jvm.ClassFile.FieldType), Jvm.Cond.code ({ cls := "java/lang/Object", name := "<init>", desc := "()V" } : Jvm.MethodName) object_method_1_code (1 : Nat) (Option.none : Option Jvm.ClassFile.FieldType), Jvm.Cond.code ({ cls := "java/lang/Integer", name := "valueOf", desc := "(I)Ljava/lang/Integer;" } : Jvm.MethodName) jdk_33_method_22_code (1 : Nat) (Option.some (Jvm.ClassFile.FieldType.object "java/lang/Integer")), Jvm.Cond.code ({ cls := "com/example/prudent_checker/prudentchecker/language/IntegerLiteral", name := "equals", desc := "(Ljava/lang/Object;)Z" } : Jvm.MethodName) prog_46_method_7_code (3 : Nat) (Option.some Jvm.ClassFile.FieldType.boolean), Jvm.Cond.code ({ cls := "com/example/prudent_checker/prudentchecker/language/StoredValue", name := "<init>", desc := "(Lcom/example/prudent_checker/prudentchecker/language/ScalarType;Lcom/example/prudent_checker/prudentchecker/language/Expression;)V" } : Jvm.MethodName) prog_63_method_1_code (3 : Nat) (Option.none : Option Jvm.ClassFile.FieldType), Jvm.Cond.code ({ cls := "java/lang/Integer", name := "<init>", desc := "(I)V" } : Jvm.MethodName) jdk_33_method_23_code (2 : Nat) (Option.none : Option Jvm.ClassFile.FieldType), Jvm.Cond.code ({ cls := "java/lang/Number", name := "<init>", desc := "()V" } : Jvm.MethodName) jdk_18_method_1_code (1 : Nat) (Option.none : Option Jvm.ClassFile.FieldType)]
set_option maxRecDepth 65536 in
theorem codes_eq : words1.filter isCode = codes1 := rfl
theorem w_codes : ∀ c ∈ words1.filter isCode, c.before args0 about1 = true := by
  rw [codes_eq]
  intro c hc
  simp only [codes1, List.mem_cons, List.not_mem_nil, or_false] at hc
  rcases hc with rfl | rfl | rfl | rfl | rfl | rfl | rfl | rfl | rfl
  · exact w_c0
  · exact w_c1
  · exact w_c2
  · exact w_c3
  · exact w_c4
  · exact w_c5
  · exact w_c6
  · exact w_c7
  · exact w_c8
set_option maxRecDepth 65536 in
theorem w_t1 : (words1.take 24).all (fun c => isCode c || c.before args0 about1) = true := by decide +kernel
set_option maxRecDepth 65536 in
theorem w_t2 : ((words1.drop 24).take 24).all (fun c => isCode c || c.before args0 about1) = true := by decide +kernel
set_option maxRecDepth 65536 in
theorem w_t3 : ((words1.drop 24).drop 24).all (fun c => isCode c || c.before args0 about1) = true := by decide +kernel
theorem w_tables : (allAtoms (Jvm.Cond.code x code maxLocals ret :: tables_1)).before args0 about1 = true := by
  rw [allAtoms_all]
  show words1.all (fun c => c.before args0 about1) = true
  refine all_split ?_ w_codes
  rw [← List.take_append_drop 24 words1, List.all_append, w_t1, ← List.take_append_drop 24 (words1.drop 24), List.all_append, w_t2, w_t3]
  rfl
set_option maxRecDepth 65536 in
theorem w_rest : rest_1_c.before args0 about1 = true := by decide +kernel
set_option maxRecDepth 65536 in
theorem w_case : (Jvm.Cond.and given_1 narrow_1).before args0 about1 = true := by decide +kernel
theorem w_applies : (headSpec (Jvm.Cond.code x code maxLocals ret :: tables_1) room_1).applies x e0.platform about1 = true :=
  (Spec.applies_iff w_frames).mpr ⟨w_running, w_runnable, w_alone, w_named, w_hears, w_ripe, w_room, w_tables⟩
theorem atStart : AtStart classFile x code maxLocals ret World_1 tables_1 room_1 Calls_1 rest_1 Pre_1 launch0 p0 e0 about1 theMethod args0 below0 :=
  ⟨lists_1, trivial, launch0.admits_env _ _ _, launch0.least_env, fairChoices_fair.cas, fairChoices_fair.clock, w_frames, w_args, w_heap, w_applies, trivial, w_rest, w_case⟩
end start1
theorem witness_1 : WitnessClaimed_1 := ⟨start1.p0, start1.e0, start1.about1, start1.theMethod, start1.args0, start1.below0, start1.atStart⟩
end Jvm.Pilot.@@N@@
