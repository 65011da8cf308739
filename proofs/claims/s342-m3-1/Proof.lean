import JvmDerived
import JvmDerived.Pilot.@@N@@Statement
import JvmDerived.Pilot.@@N@@Code
set_option linter.unusedVariables false
set_option linter.unusedSimpArgs false
namespace Jvm.Pilot.@@N@@
open Jvm Jvm.ClassFile Sem Op Lib Jvm.Free Jvm.Stand Jvm.LawKit Jvm.RoadKit Bundle Jvm.Pilot.@@N@@.Jvm.D
section Own
variable {p : Program} {l : Launch} {e : Env} {R : Room} {s : State} {m : MethodId} {args : Array Value} {below : List Frame} {meth : Method} {c : Code} {T T' : State} {locs : List Loc} {cells slots : Nat}
/-- from the frame f on the run returns, and what it leaves is said by Q -/
def Go (p : Program) (e : Env) (below : List Frame) (s : State) (Q : Option Value → Heap → List Loc → Prop) (cs ss : Nat) (T : State) (f : JFrame) : Prop :=
  ∃ s₂ o, Steps p.tables e below (T.setTop f) s₂ ∧ s₂.status = .running ∧ Ended s₂ below o ∧ ∃ v L, o = .returned v ∧ Q v s₂.heap L ∧ FrameEnd s o s₂ L cs ss
theorem Go.st {Q : Option Value → Heap → List Loc → Prop} {cs ss : Nat} {f f' : JFrame} (k : ∀ t, Steps p.tables e below (T'.setTop f') t → Steps p.tables e below (T.setTop f) t) (h : Go p e below s Q cs ss T' f') : Go p e below s Q cs ss T f := by
  obtain ⟨s₂, o, h1, h2⟩ := h
  exact ⟨s₂, o, k _ h1, h2⟩
theorem Go.start {Q : Option Value → Heap → List Loc → Prop} {cs ss ml : Nat} {f : JFrame} (hf : entryFrame m args ml = f) (h : Go p e below s Q cs ss T f) :
    ∃ s₂ o, Steps p.tables e below (T.setTop (entryFrame m args ml)) s₂ ∧ s₂.status = .running ∧ Ended s₂ below o ∧ ∃ v L, o = .returned v ∧ Q v s₂.heap L ∧ FrameEnd s o s₂ L cs ss := by
  subst hf; exact h
theorem Go.fr {Q : Option Value → Heap → List Loc → Prop} {cs ss : Nat} {f f' : JFrame} (q : f = f') (h : Go p e below s Q cs ss T f') : Go p e below s Q cs ss T f := by
  subst q; exact h
theorem Go.ret {Q : Option Value → Heap → List Loc → Prop} {cs ss : Nat} {f : JFrame} (X : Stand p l e R s m args below meth c T locs cells slots) (hlk : meth.locks = false) {v : Option Value} (hv : meth.sig.returnType = none → v = none)
    (k : ∀ fs, (∀ (f : JFrame) (acts : List Action), f.method = m → f.locked = none → f.entered = [] → (doReturn e (T.setTop f) acts v).1 = T.setFrames fs) → Steps p.tables e below (T.setTop f) (T.setFrames fs))
    (hQ : Q v T.heap locs) (hc : cells ≤ cs) (hs : slots ≤ ss) : Go p e below s Q cs ss T f := by
  obtain ⟨fs, hr, hrun, hended, hW, hsame⟩ := X.leave (v := v) hv hlk
  exact ⟨_, _, k fs hr, hrun, hended, _, _, rfl, hQ, ⟨_, rfl⟩, hW, hsame.mono hc hs⟩
theorem own_fld {t : Term} {a : Addr} {C n d : String} {k : Int32} (ev : t.eval args s none [] s = some (.ref a)) (h : (Jvm.Cond.eq (.field t C n d) (.int k)).value args s none s [] = some true) : Fld s s.heap a C n d (.int k) := by
  have q : (Term.field t C n d).eval args s none [] s = s.fieldOf? a C n d := fld_at ev
  have q2 : (Term.field t C n d).eval args s none [] s = some (.int k) := Cond.eq_int (Cond.before_iff.mpr h) rfl
  exact Fld.start (q.symm.trans q2)
theorem own_sta {Z : State} {h h' : Heap} {C n d : String} {v : Value} {ws : List Addr} (F : Sta Z h C n d v) (K : Keep h h' ws) (q : ∀ x ∈ ws, ∃ c : Cell, h[x]? = some c ∧ ∀ q, c.vm ≠ .statics q) : Sta Z h' C n d v := by
  obtain ⟨cf, i, k, f, st, cell, h1, h2, h3, h4, h5, h6, h7⟩ := F
  refine ⟨cf, i, k, f, st, cell, h1, h2, h3, h4, K.2.1 st cell h5 fun hm => ?_, h6, h7⟩
  obtain ⟨c, hc, hn⟩ := q st hm
  cases hc.symm.trans h5
  cases hv : cell.vm <;> simp [hv, VmData.isStatics] at h6 hn
theorem own_bb (x : Int32) : x.toInt8.toInt32.toInt8.toInt32 = x.toInt8.toInt32 := by simp
theorem own_arvcell {Z : State} {h : Heap} {a : Addr} {k : ClassId} {ty : FieldType} {z : Int32} {vs : List Value} {dv : Value} (F : Arv Z h a k ty z vs dv) : ∃ c : Cell, h[a]? = some c ∧ ∀ q, c.vm ≠ .statics q := by
  obtain ⟨c, A, -⟩ := F
  exact ⟨c, A.1, fun q hq => by have := A.plain; simp [hq, VmData.isStatics] at this⟩
/-- a static that holds a reference or null -/
def StaR (Z : State) (h : Heap) (C n d : String) : Prop := Sta Z h C n d .null ∨ ∃ a, Sta Z h C n d (.ref a)
theorem StaR.ext {Z : State} {h h' : Heap} {C n d : String} (F : StaR Z h C n d) (E : Ext h h') : StaR Z h' C n d := F.imp (fun q => q.ext E) fun ⟨a, q⟩ => ⟨a, q.ext E⟩
theorem StaR.wr {Z : State} {h h' : Heap} {C n d : String} {a : Addr} {sl : Nat} {v : Value} (F : StaR Z h C n d) (W : Wr h h' a sl v) : StaR Z h' C n d := F.imp (fun q => q.wr W) fun ⟨a, q⟩ => ⟨a, q.wr W⟩
theorem own_staR {Z : State} {h h' : Heap} {C n d : String} {ws : List Addr} (F : StaR Z h C n d) (K : Keep h h' ws) (q : ∀ x ∈ ws, ∃ c : Cell, h[x]? = some c ∧ ∀ q, c.vm ≠ .statics q) : StaR Z h' C n d := F.imp (fun r => own_sta r K q) fun ⟨a, r⟩ => ⟨a, own_sta r K q⟩
end Own
theorem pn_com_example_gatefold_gatefold_ConditionOverlapsPinLaw : plainName "com/example/gatefold/gatefold/ConditionOverlapsPinLaw" = true := by first | (simp [plainName, overriddenIn]; done) | decide +kernel
theorem pn_java_lang_Enum : plainName "java/lang/Enum" = true := by first | (simp [plainName, overriddenIn]; done) | decide +kernel
theorem pd_0 : parseMethodDescriptor "()I" = some ⟨[], some .int⟩ := by decide +kernel
theorem pn_com_example_gatefold_gatefold_Condition : plainName "com/example/gatefold/gatefold/Condition" = true := by first | (simp [plainName, overriddenIn]; done) | decide +kernel
theorem pd_1 : parseMethodDescriptor "(Z)Z" = some ⟨[.boolean], some .boolean⟩ := by decide +kernel
theorem pd_2 : parseMethodDescriptor "(I)I" = some ⟨[.int], some .int⟩ := by decide +kernel
theorem pd_3 : parseMethodDescriptor "(I)Lcom/example/gatefold/gatefold/Condition;" = some ⟨[.int], some (.object "com/example/gatefold/gatefold/Condition")⟩ := by decide +kernel
theorem pd_4 : parseMethodDescriptor "(Lcom/example/gatefold/gatefold/Condition;)Z" = some ⟨[(.object "com/example/gatefold/gatefold/Condition")], some .boolean⟩ := by decide +kernel
theorem own_rem (x k : Int32) (hk : 0 < k.toInt) : 0 ≤ ((x &&& 2147483647) % k).toInt ∧ ((x &&& 2147483647) % k).toInt < k.toInt := by
  have h := c_mask x 2147483647 31 (by decide) (by decide)
  have h0 : 0 ≤ (x &&& 2147483647).toInt := by rw [h]; omega
  have h2 := (c_iremV (x &&& 2147483647) k).1 h0 hk
  exact ⟨h2.1, h2.2.1⟩
theorem own_i32 {x : Int32} {k : Int} (h : x.toInt = k) (y : Int32) (hy : y.toInt = k) : x = y := Int32.toInt_inj.mp (h.trans hy.symm)
theorem own_mod3 (x : Int32) : (x &&& 2147483647) % 3 = 0 ∨ (x &&& 2147483647) % 3 = 1 ∨ (x &&& 2147483647) % 3 = 2 := by
  have h := own_rem x 3 (by decide)
  have h3 : (3 : Int32).toInt = 3 := by decide
  rw [h3] at h
  generalize (x &&& 2147483647) % 3 = y at h ⊢
  have : y.toInt = 0 ∨ y.toInt = 1 ∨ y.toInt = 2 := by omega
  rcases this with h | h | h
  · exact Or.inl (own_i32 h 0 (by decide))
  · exact Or.inr (Or.inl (own_i32 h 1 (by decide)))
  · exact Or.inr (Or.inr ((own_i32 h 2 (by decide))))
theorem d1_0 : decode method_2_code 0 = .ok (.iload_n 0, 1) := by decide +kernel
theorem d1_1 : decode method_2_code 1 = .ok (.ldc 7, 2) := by decide +kernel
theorem d1_3 : decode method_2_code 3 = .ok (.iand, 1) := by decide +kernel
theorem d1_4 : decode method_2_code 4 = .ok (.iconst 3, 1) := by decide +kernel
theorem d1_5 : decode method_2_code 5 = .ok (.irem, 1) := by decide +kernel
theorem d1_6 : decode method_2_code 6 = .ok (.ireturn, 1) := by decide +kernel
def val_1 (p0 : Int32) : Int32 := ((p0 &&& (2147483647 : Int32)) % (3 : Int32))
theorem ef_1 (m : MethodId) (p0 : Int32) : entryFrame m #[(.int p0)] 1 = mkF m 0 #[.val (.int p0)] [] := by first | (simp [entryFrame, mkF, argsToLocals, Value.category]; done) | rfl
def Q1 (Z : State) (p0 : Int32) (h0 : Heap) (n0 : Nat) (v : Option Value) (h : Heap) (L : List Loc) : Prop := v = some (.int (val_1 p0)) ∧ Fr n0 L ∧ h = h0
set_option maxRecDepth 65536 in
set_option maxHeartbeats 40000000 in
theorem rm1 (l : Launch) (Z : State) (a0 : Array Value) (hw : ∀ d ∈ tables_1, d.before a0 Z = true) (ws : List Jvm.Cond) (p0 : Int32) (h0 : Heap) (n0 : Nat) (Z0 : n0 ≤ h0.size) :
    MetFree l (⟨"com/example/gatefold/gatefold/ConditionOverlapsPinLaw", "index", "(I)I"⟩ : MethodName) (head1 (Jvm.Cond.code (⟨"com/example/gatefold/gatefold/ConditionOverlapsPinLaw", "index", "(I)I"⟩ : MethodName) method_2_code 1 (some .int) :: ws) ({ frames := 0, cells := 0, slots := 0, locals := 0 } : Room)) (fun a U => a = #[(.int p0)] ∧ Z.Warmed39 U.vm ∧ U.heap = h0) (fun _ _ _ _ _ => True) (fun _ U o U' => ∃ v L, o = .returned v ∧ Q1 Z p0 h0 n0 v U'.heap L ∧ FrameEnd U o U' L ({ frames := 0, cells := 0, slots := 0, locals := 0 } : Room).cells ({ frames := 0, cells := 0, slots := 0, locals := 0 } : Room).slots) := by
  refine MetFree.of_bodySF (plainFor_of_name pn_com_example_gatefold_gatefold_ConditionOverlapsPinLaw) hisR ?_
  intro p e s m args below meth c s₁ Bd hml0 hP hK
  obtain ⟨rfl, hZ, hh⟩ := hP
  have hx := Bd.exec
  have hby := Bd.bytes
  have hlk : meth.locks = false := BodyLoose.notSynchronized Bd
  have hret := Bd.returns
  have hml : c.maxLocals = 1 := hml0
  have hown : s.vm.findClass "com/example/gatefold/gatefold/ConditionOverlapsPinLaw" = some m.cls := findClass_of_methodNamed Bd.named
  have hnm := (name_of_methodNamed Bd.named Bd.method).1
  have X0 : Stand p l e ({ frames := 0, cells := 0, slots := 0, locals := 0 } : Room) s m #[(.int p0)] below meth c s₁ [] 0 0 := Stand.of_body Bd
  have e0 : s₁.heap = h0 := by rw [← hh, Bd.state]; rfl
  have N0 := Fr.nil n0
  refine Go.start (Q := Q1 Z p0 h0 n0) (ef_1 m p0) ?_
  show Go _ _ _ _ _ _ _ s₁ (mkF m 0 #[.val (.int p0)] [])
  refine Go.st (fun _ k => XS.iloadN X0.here hx rfl (hb hby d1_0) rfl k) ?_
  show Go _ _ _ _ _ _ _ s₁ (mkF m 1 #[.val (.int p0)] [(.int p0)])
  refine Go.st (fun _ k => Jvm.Stand.ldcI X0 hx hown (mvT hZ (hw _ (List.mem_of_getElem? (i := 4) rfl))) rfl (hb hby d1_1) k) ?_
  show Go _ _ _ _ _ _ _ s₁ (mkF m 3 #[.val (.int p0)] [(.int (2147483647 : Int32)), (.int p0)])
  refine Go.st (fun _ k => XS.iand X0.here hx rfl (hb hby d1_3) rfl k) ?_
  show Go _ _ _ _ _ _ _ s₁ (mkF m 4 #[.val (.int p0)] [(.int (p0 &&& (2147483647 : Int32)))])
  refine Go.st (fun _ k => XS.iconst X0.here hx rfl (hb hby d1_4) k) ?_
  show Go _ _ _ _ _ _ _ s₁ (mkF m 5 #[.val (.int p0)] [(.int (3 : Int32)), (.int (p0 &&& (2147483647 : Int32)))])
  refine Go.st (fun _ k => iremM (g := (mkF m 5 #[.val (.int p0)] [(.int (3 : Int32)), (.int (p0 &&& (2147483647 : Int32)))])) X0 hx rfl (hb hby d1_5) rfl (by decide) k) ?_
  show Go _ _ _ _ _ _ _ s₁ (mkF m 6 #[.val (.int p0)] [(.int ((p0 &&& (2147483647 : Int32)) % (3 : Int32)))])
  refine Go.ret X0 hlk (v := some (.int ((p0 &&& (2147483647 : Int32)) % (3 : Int32)))) (fun h => by rw [hret] at h; cases h) (fun fs hr => retOut X0 hx (t := .int) (i := .ireturn) hret rfl (Or.inl ⟨rfl, Or.inl rfl, _, rfl⟩) (hb hby d1_6) hr) ?_ (by decide) (by decide)
  show Q1 Z p0 h0 n0 (some (.int ((p0 &&& (2147483647 : Int32)) % (3 : Int32)))) s₁.heap _
  rw [e0]
  refine ⟨?_, N0, rfl⟩
  unfold val_1
  rfl
theorem d2_0 : decode method_3_code 0 = .ok (.iload_n 0, 1) := by decide +kernel
theorem d2_1 : decode method_3_code 1 = .ok (.ifCond .ne 7, 3) := by decide +kernel
theorem d2_4 : decode method_3_code 4 = .ok (.getstatic 8, 3) := by decide +kernel
theorem d2_7 : decode method_3_code 7 = .ok (.areturn, 1) := by decide +kernel
theorem d2_8 : decode method_3_code 8 = .ok (.iload_n 0, 1) := by decide +kernel
theorem d2_9 : decode method_3_code 9 = .ok (.iconst 1, 1) := by decide +kernel
theorem d2_10 : decode method_3_code 10 = .ok (.if_icmp .ne 7, 3) := by decide +kernel
theorem d2_13 : decode method_3_code 13 = .ok (.getstatic 14, 3) := by decide +kernel
theorem d2_16 : decode method_3_code 16 = .ok (.areturn, 1) := by decide +kernel
theorem d2_17 : decode method_3_code 17 = .ok (.getstatic 17, 3) := by decide +kernel
theorem d2_20 : decode method_3_code 20 = .ok (.areturn, 1) := by decide +kernel
def val_2 (p0 : Int32) (w_ALWAYS : Addr) (w_IF_EXTERNAL : Addr) (w_IF_NOT_EXTERNAL : Addr) : Addr := (if p0 = (0 : Int32) then w_ALWAYS else (if p0 = (1 : Int32) then w_IF_EXTERNAL else w_IF_NOT_EXTERNAL))
theorem ef_2 (m : MethodId) (p0 : Int32) : entryFrame m #[(.int p0)] 1 = mkF m 0 #[.val (.int p0)] [] := by first | (simp [entryFrame, mkF, argsToLocals, Value.category]; done) | rfl
def Q2 (Z : State) (p0 : Int32) (w_ALWAYS : Addr) (w_IF_EXTERNAL : Addr) (w_IF_NOT_EXTERNAL : Addr) (h0 : Heap) (n0 : Nat) (v : Option Value) (h : Heap) (L : List Loc) : Prop := v = some (.ref (val_2 p0 w_ALWAYS w_IF_EXTERNAL w_IF_NOT_EXTERNAL)) ∧ Fr n0 L ∧ h = h0
set_option maxRecDepth 65536 in
set_option maxHeartbeats 40000000 in
theorem rm2 (l : Launch) (Z : State) (a0 : Array Value) (hw : ∀ d ∈ tables_1, d.before a0 Z = true) (ws : List Jvm.Cond) (p0 : Int32) (w_ALWAYS : Addr) (w_IF_EXTERNAL : Addr) (w_IF_NOT_EXTERNAL : Addr) (h0 : Heap) (n0 : Nat) (Z0 : n0 ≤ h0.size) (S_ALWAYS : Sta Z h0 "com/example/gatefold/gatefold/Condition" "ALWAYS" "Lcom/example/gatefold/gatefold/Condition;" (.ref w_ALWAYS)) (S_IF_EXTERNAL : Sta Z h0 "com/example/gatefold/gatefold/Condition" "IF_EXTERNAL" "Lcom/example/gatefold/gatefold/Condition;" (.ref w_IF_EXTERNAL)) (S_IF_NOT_EXTERNAL : Sta Z h0 "com/example/gatefold/gatefold/Condition" "IF_NOT_EXTERNAL" "Lcom/example/gatefold/gatefold/Condition;" (.ref w_IF_NOT_EXTERNAL)) :
    MetFree l (⟨"com/example/gatefold/gatefold/ConditionOverlapsPinLaw", "pick", "(I)Lcom/example/gatefold/gatefold/Condition;"⟩ : MethodName) (head1 (Jvm.Cond.code (⟨"com/example/gatefold/gatefold/ConditionOverlapsPinLaw", "pick", "(I)Lcom/example/gatefold/gatefold/Condition;"⟩ : MethodName) method_3_code 1 (some (.object "com/example/gatefold/gatefold/Condition")) :: ws) ({ frames := 0, cells := 0, slots := 0, locals := 0 } : Room)) (fun a U => a = #[(.int p0)] ∧ Z.Warmed39 U.vm ∧ U.heap = h0) (fun _ _ _ _ _ => True) (fun _ U o U' => ∃ v L, o = .returned v ∧ Q2 Z p0 w_ALWAYS w_IF_EXTERNAL w_IF_NOT_EXTERNAL h0 n0 v U'.heap L ∧ FrameEnd U o U' L ({ frames := 0, cells := 0, slots := 0, locals := 0 } : Room).cells ({ frames := 0, cells := 0, slots := 0, locals := 0 } : Room).slots) := by
  refine MetFree.of_bodySF (plainFor_of_name pn_com_example_gatefold_gatefold_ConditionOverlapsPinLaw) hisR ?_
  intro p e s m args below meth c s₁ Bd hml0 hP hK
  obtain ⟨rfl, hZ, hh⟩ := hP
  have hx := Bd.exec
  have hby := Bd.bytes
  have hlk : meth.locks = false := BodyLoose.notSynchronized Bd
  have hret := Bd.returns
  have hml : c.maxLocals = 1 := hml0
  have hown : s.vm.findClass "com/example/gatefold/gatefold/ConditionOverlapsPinLaw" = some m.cls := findClass_of_methodNamed Bd.named
  have hnm := (name_of_methodNamed Bd.named Bd.method).1
  have X0 : Stand p l e ({ frames := 0, cells := 0, slots := 0, locals := 0 } : Room) s m #[(.int p0)] below meth c s₁ [] 0 0 := Stand.of_body Bd
  have e0 : s₁.heap = h0 := by rw [← hh, Bd.state]; rfl
  have N0 := Fr.nil n0
  refine Go.start (Q := Q2 Z p0 w_ALWAYS w_IF_EXTERNAL w_IF_NOT_EXTERNAL h0 n0) (ef_2 m p0) ?_
  show Go _ _ _ _ _ _ _ s₁ (mkF m 0 #[.val (.int p0)] [])
  refine Go.st (fun _ k => XS.iloadN X0.here hx rfl (hb hby d2_0) rfl k) ?_
  show Go _ _ _ _ _ _ _ s₁ (mkF m 1 #[.val (.int p0)] [(.int p0)])
  by_cases hc1 : p0 = (0 : Int32)
  · refine Go.st (fun _ k => XS.ifNo X0.here hx rfl (hb hby d2_1) rfl ((if0 _ _).trans (teq hc1).2) k) ?_
    show Go _ _ _ _ _ _ _ s₁ (mkF m 4 #[.val (.int p0)] [])
    obtain ⟨T2, X2, e2, st2⟩ := getS2 X0 hx hZ hown (host := "") (Or.inl (hw _ (List.mem_of_getElem? (i := 8) rfl))) Via.refl e0 S_ALWAYS (g := (mkF m 4 #[.val (.int p0)] [])) rfl (hb hby d2_4)
    refine Go.st st2 ?_
    show Go _ _ _ _ _ _ _ T2 (mkF m 7 #[.val (.int p0)] [(.ref w_ALWAYS)])
    refine Go.ret X2 hlk (v := some (.ref w_ALWAYS)) (fun h => by rw [hret] at h; cases h) (fun fs hr => retOut X2 hx (i := .areturn) hret rfl (Or.inr (Or.inr (Or.inr (Or.inr ⟨rfl, rfl, rfl⟩)))) (hb hby d2_7) hr) ?_ (by decide) (by decide)
    show Q2 Z p0 w_ALWAYS w_IF_EXTERNAL w_IF_NOT_EXTERNAL h0 n0 (some (.ref w_ALWAYS)) T2.heap _
    rw [e2]
    refine ⟨?_, N0, rfl⟩
    unfold val_2
    rw [if_pos hc1]
  · refine Go.st (fun _ k => XS.ifYes X0.here hx rfl (pc0 := 1) (pc' := 8) rfl (hb hby d2_1) rfl ((if0 _ _).trans (feq hc1).2) (by decide) (by decide) k) ?_
    show Go _ _ _ _ _ _ _ s₁ (mkF m 8 #[.val (.int p0)] [])
    refine Go.st (fun _ k => XS.iloadN X0.here hx rfl (hb hby d2_8) rfl k) ?_
    show Go _ _ _ _ _ _ _ s₁ (mkF m 9 #[.val (.int p0)] [(.int p0)])
    refine Go.st (fun _ k => XS.iconst X0.here hx rfl (hb hby d2_9) k) ?_
    show Go _ _ _ _ _ _ _ s₁ (mkF m 10 #[.val (.int p0)] [(.int (1 : Int32)), (.int p0)])
    by_cases hc3 : p0 = (1 : Int32)
    · refine Go.st (fun _ k => XS.icmpNo X0.here hx rfl (hb hby d2_10) rfl (teq hc3).2 k) ?_
      show Go _ _ _ _ _ _ _ s₁ (mkF m 13 #[.val (.int p0)] [])
      obtain ⟨T4, X4, e4, st4⟩ := getS2 X0 hx hZ hown (host := "") (Or.inl (hw _ (List.mem_of_getElem? (i := 32) rfl))) Via.refl e0 S_IF_EXTERNAL (g := (mkF m 13 #[.val (.int p0)] [])) rfl (hb hby d2_13)
      refine Go.st st4 ?_
      show Go _ _ _ _ _ _ _ T4 (mkF m 16 #[.val (.int p0)] [(.ref w_IF_EXTERNAL)])
      refine Go.ret X4 hlk (v := some (.ref w_IF_EXTERNAL)) (fun h => by rw [hret] at h; cases h) (fun fs hr => retOut X4 hx (i := .areturn) hret rfl (Or.inr (Or.inr (Or.inr (Or.inr ⟨rfl, rfl, rfl⟩)))) (hb hby d2_16) hr) ?_ (by decide) (by decide)
      show Q2 Z p0 w_ALWAYS w_IF_EXTERNAL w_IF_NOT_EXTERNAL h0 n0 (some (.ref w_IF_EXTERNAL)) T4.heap _
      rw [e4]
      refine ⟨?_, N0, rfl⟩
      unfold val_2
      rw [if_neg hc1, if_pos hc3]
    · refine Go.st (fun _ k => XS.icmpYes X0.here hx rfl (pc0 := 10) (pc' := 17) rfl (hb hby d2_10) rfl (feq hc3).2 (by decide) (by decide) k) ?_
      show Go _ _ _ _ _ _ _ s₁ (mkF m 17 #[.val (.int p0)] [])
      obtain ⟨T5, X5, e5, st5⟩ := getS2 X0 hx hZ hown (host := "") (Or.inl (hw _ (List.mem_of_getElem? (i := 30) rfl))) Via.refl e0 S_IF_NOT_EXTERNAL (g := (mkF m 17 #[.val (.int p0)] [])) rfl (hb hby d2_17)
      refine Go.st st5 ?_
      show Go _ _ _ _ _ _ _ T5 (mkF m 20 #[.val (.int p0)] [(.ref w_IF_NOT_EXTERNAL)])
      refine Go.ret X5 hlk (v := some (.ref w_IF_NOT_EXTERNAL)) (fun h => by rw [hret] at h; cases h) (fun fs hr => retOut X5 hx (i := .areturn) hret rfl (Or.inr (Or.inr (Or.inr (Or.inr ⟨rfl, rfl, rfl⟩)))) (hb hby d2_20) hr) ?_ (by decide) (by decide)
      show Q2 Z p0 w_ALWAYS w_IF_EXTERNAL w_IF_NOT_EXTERNAL h0 n0 (some (.ref w_IF_NOT_EXTERNAL)) T5.heap _
      rw [e5]
      refine ⟨?_, N0, rfl⟩
      unfold val_2
      rw [if_neg hc1, if_neg hc3]
theorem d5_0 : decode jdk_37_method_2_code 0 = .ok (.aload_n 0, 1) := by decide +kernel
theorem d5_1 : decode jdk_37_method_2_code 1 = .ok (.getfield 7, 3) := by decide +kernel
theorem d5_4 : decode jdk_37_method_2_code 4 = .ok (.ireturn, 1) := by decide +kernel
def val_5 (o0 : Addr) (od : Int32) : Int32 := od
theorem ef_5 (m : MethodId) (o0 : Addr) : entryFrame m #[(.ref o0)] 1 = mkF m 0 #[.val (.ref o0)] [] := by first | (simp [entryFrame, mkF, argsToLocals, Value.category]; done) | rfl
def Q5 (Z : State) (o0 : Addr) (od : Int32) (h0 : Heap) (n0 : Nat) (v : Option Value) (h : Heap) (L : List Loc) : Prop := v = some (.int (val_5 o0 od)) ∧ Fr n0 L ∧ h = h0
set_option maxRecDepth 65536 in
set_option maxHeartbeats 40000000 in
theorem rm5 (l : Launch) (Z : State) (a0 : Array Value) (hw : ∀ d ∈ tables_1, d.before a0 Z = true) (ws : List Jvm.Cond) (o0 : Addr) (od : Int32) (h0 : Heap) (n0 : Nat) (Z0 : n0 ≤ h0.size) (F_ordinal_o0 : Fld Z h0 o0 "java/lang/Enum" "ordinal" "I" (.int od)) :
    MetFree l (⟨"java/lang/Enum", "ordinal", "()I"⟩ : MethodName) (head1 (Jvm.Cond.code (⟨"java/lang/Enum", "ordinal", "()I"⟩ : MethodName) jdk_37_method_2_code 1 (some .int) :: ws) ({ frames := 0, cells := 0, slots := 0, locals := 0 } : Room)) (fun a U => a = #[(.ref o0)] ∧ Z.Warmed39 U.vm ∧ U.heap = h0) (fun _ _ _ _ _ => True) (fun _ U o U' => ∃ v L, o = .returned v ∧ Q5 Z o0 od h0 n0 v U'.heap L ∧ FrameEnd U o U' L ({ frames := 0, cells := 0, slots := 0, locals := 0 } : Room).cells ({ frames := 0, cells := 0, slots := 0, locals := 0 } : Room).slots) := by
  refine MetFree.of_bodySF (plainFor_of_name pn_java_lang_Enum) hisR ?_
  intro p e s m args below meth c s₁ Bd hml0 hP hK
  obtain ⟨rfl, hZ, hh⟩ := hP
  have hx := Bd.exec
  have hby := Bd.bytes
  have hlk : meth.locks = false := BodyLoose.notSynchronized Bd
  have hret := Bd.returns
  have hml : c.maxLocals = 1 := hml0
  have hown : s.vm.findClass "java/lang/Enum" = some m.cls := findClass_of_methodNamed Bd.named
  have hnm := (name_of_methodNamed Bd.named Bd.method).1
  have X0 : Stand p l e ({ frames := 0, cells := 0, slots := 0, locals := 0 } : Room) s m #[(.ref o0)] below meth c s₁ [] 0 0 := Stand.of_body Bd
  have e0 : s₁.heap = h0 := by rw [← hh, Bd.state]; rfl
  have N0 := Fr.nil n0
  refine Go.start (Q := Q5 Z o0 od h0 n0) (ef_5 m o0) ?_
  show Go _ _ _ _ _ _ _ s₁ (mkF m 0 #[.val (.ref o0)] [])
  refine Go.st (fun _ k => XS.aloadN X0.here hx rfl (hb hby d5_0) rfl rfl k) ?_
  show Go _ _ _ _ _ _ _ s₁ (mkF m 1 #[.val (.ref o0)] [(.ref o0)])
  obtain ⟨T1, X1, e1, st1⟩ := getF X0 hx hZ hown (host := "") (Or.inl (hw _ (List.mem_of_getElem? (i := 28) rfl))) Via.refl e0 F_ordinal_o0 (g := (mkF m 1 #[.val (.ref o0)] [(.ref o0)])) rfl rfl (hb hby d5_1)
  refine Go.st st1 ?_
  show Go _ _ _ _ _ _ _ T1 (mkF m 4 #[.val (.ref o0)] [(.int od)])
  refine Go.ret X1 hlk (v := some (.int od)) (fun h => by rw [hret] at h; cases h) (fun fs hr => retOut X1 hx (t := .int) (i := .ireturn) hret rfl (Or.inl ⟨rfl, Or.inl rfl, _, rfl⟩) (hb hby d5_4) hr) ?_ (by decide) (by decide)
  show Q5 Z o0 od h0 n0 (some (.int od)) T1.heap _
  rw [e1]
  refine ⟨?_, N0, rfl⟩
  unfold val_5
  rfl
theorem d4_0 : decode prog_1_method_4_code 0 = .ok (.aload_n 0, 1) := by decide +kernel
theorem d4_1 : decode prog_1_method_4_code 1 = .ok (.invokevirtual 32, 3) := by decide +kernel
theorem d4_4 : decode prog_1_method_4_code 4 = .ok (.tableswitch 28 0 2 #[38, 42, 46], 28) := by decide +kernel
theorem d4_42 : decode prog_1_method_4_code 42 = .ok (.iconst 1, 1) := by decide +kernel
theorem d4_43 : decode prog_1_method_4_code 43 = .ok (.goto 16, 3) := by decide +kernel
theorem d4_46 : decode prog_1_method_4_code 46 = .ok (.iload_n 1, 1) := by decide +kernel
theorem d4_47 : decode prog_1_method_4_code 47 = .ok (.goto 12, 3) := by decide +kernel
theorem d4_50 : decode prog_1_method_4_code 50 = .ok (.iload_n 1, 1) := by decide +kernel
theorem d4_51 : decode prog_1_method_4_code 51 = .ok (.ifCond .ne 7, 3) := by decide +kernel
theorem d4_54 : decode prog_1_method_4_code 54 = .ok (.iconst 1, 1) := by decide +kernel
theorem d4_55 : decode prog_1_method_4_code 55 = .ok (.goto 4, 3) := by decide +kernel
theorem d4_58 : decode prog_1_method_4_code 58 = .ok (.iconst 0, 1) := by decide +kernel
theorem d4_59 : decode prog_1_method_4_code 59 = .ok (.ireturn, 1) := by decide +kernel
def val_4 (o0 : Addr) (p1 : Int32) (od : Int32) : Int32 := (if od = (0 : Int32) then (1 : Int32) else (if od = (1 : Int32) then (nar .boolean p1) else (if p1 = (0 : Int32) then (1 : Int32) else (0 : Int32))))
theorem ef_4 (m : MethodId) (o0 : Addr) (p1 : Int32) : entryFrame m #[(.ref o0), (.int p1)] 2 = mkF m 0 #[.val (.ref o0), .val (.int p1)] [] := by first | (simp [entryFrame, mkF, argsToLocals, Value.category]; done) | rfl
def Q4 (Z : State) (o0 : Addr) (p1 : Int32) (od : Int32) (h0 : Heap) (n0 : Nat) (v : Option Value) (h : Heap) (L : List Loc) : Prop := v = some (.int (val_4 o0 p1 od)) ∧ Fr n0 L ∧ h = h0
set_option maxRecDepth 65536 in
set_option maxHeartbeats 40000000 in
theorem rm4 (l : Launch) (Z : State) (a0 : Array Value) (hw : ∀ d ∈ tables_1, d.before a0 Z = true) (ws : List Jvm.Cond) (o0 : Addr) (p1 : Int32) (od : Int32) (h0 : Heap) (n0 : Nat) (Z0 : n0 ≤ h0.size) (E_o0 : Exa Z h0 o0 "com/example/gatefold/gatefold/Condition") (F_ordinal_o0 : Fld Z h0 o0 "java/lang/Enum" "ordinal" "I" (.int od)) (V_od : od = 0 ∨ od = 1 ∨ od = 2) :
    MetFree l (⟨"com/example/gatefold/gatefold/Condition", "holdsFor", "(Z)Z"⟩ : MethodName) (head1 (Jvm.Cond.code (⟨"com/example/gatefold/gatefold/Condition", "holdsFor", "(Z)Z"⟩ : MethodName) prog_1_method_4_code 2 (some .boolean) :: ws) ({ frames := 1, cells := 0, slots := 0, locals := 12 } : Room)) (fun a U => a = #[(.ref o0), (.int p1)] ∧ Z.Warmed39 U.vm ∧ U.heap = h0) (fun _ _ _ _ _ => True) (fun _ U o U' => ∃ v L, o = .returned v ∧ Q4 Z o0 p1 od h0 n0 v U'.heap L ∧ FrameEnd U o U' L ({ frames := 1, cells := 0, slots := 0, locals := 12 } : Room).cells ({ frames := 1, cells := 0, slots := 0, locals := 12 } : Room).slots) := by
  refine MetFree.of_bodySF (plainFor_of_name pn_com_example_gatefold_gatefold_Condition) hisR ?_
  intro p e s m args below meth c s₁ Bd hml0 hP hK
  obtain ⟨rfl, hZ, hh⟩ := hP
  have hx := Bd.exec
  have hby := Bd.bytes
  have hlk : meth.locks = false := BodyLoose.notSynchronized Bd
  have hret := Bd.returns
  have hml : c.maxLocals = 2 := hml0
  have hown : s.vm.findClass "com/example/gatefold/gatefold/Condition" = some m.cls := findClass_of_methodNamed Bd.named
  have hnm := (name_of_methodNamed Bd.named Bd.method).1
  have X0 : Stand p l e ({ frames := 1, cells := 0, slots := 0, locals := 12 } : Room) s m #[(.ref o0), (.int p1)] below meth c s₁ [] 0 0 := Stand.of_body Bd
  have e0 : s₁.heap = h0 := by rw [← hh, Bd.state]; rfl
  have N0 := Fr.nil n0
  refine Go.start (Q := Q4 Z o0 p1 od h0 n0) (ef_4 m o0 p1) ?_
  show Go _ _ _ _ _ _ _ s₁ (mkF m 0 #[.val (.ref o0), .val (.int p1)] [])
  refine Go.st (fun _ k => XS.aloadN X0.here hx rfl (hb hby d4_0) rfl rfl k) ?_
  show Go _ _ _ _ _ _ _ s₁ (mkF m 1 #[.val (.ref o0), .val (.int p1)] [(.ref o0)])
  obtain ⟨cq1, kq1, q1a, q1b, q1c⟩ := isOf hZ e0 E_o0
  obtain ⟨_, _, ⟨T1, L1, k1, n1⟩, -, X1, ⟨Lc1, hQ1, l1, y1, z1⟩, st1⟩ := X0.virtualBackUp hx (owner := "java/lang/Enum") (x := (⟨"com/example/gatefold/gatefold/Condition", "ordinal", "()I"⟩ : MethodName)) (y := (⟨"java/lang/Enum", "ordinal", "()I"⟩ : MethodName)) hown (mvT hZ (hw _ (List.mem_of_getElem? (i := 21) rfl))) (mvT hZ (hw _ (List.mem_of_getElem? (i := 22) rfl))) (mvT hZ (hw _ (List.mem_of_getElem? (i := 23) rfl))) (by decide) (mvT hZ (hw _ (List.mem_of_getElem? (i := 25) rfl))) (mvT hZ (hw _ (List.mem_of_getElem? (i := 24) rfl))) (backOf (W := 0) (rm5 l Z a0 hw [] o0 od h0 n0 Z0 F_ordinal_o0) hZ (hw _ (List.mem_of_getElem? (i := 27) rfl)) (hw _ (List.mem_of_getElem? (i := 26) rfl)) (by decide) (by decide)) q1a q1c (g := (mkF m 1 #[.val (.ref o0), .val (.int p1)] [(.ref o0)])) rfl (by rw [hml]; rfl) (Steps.refl _) (argsL := []) (rest := []) (lenOf pd_0 rfl) rfl (by show 2 * 0 + _ ≤ _; exact Nat.le_of_eq rfl) (hb hby d4_1) (fun _ _ => ⟨rfl, e0, (by decide : 0 + 0 ≤ _), (by decide : 0 + 0 ≤ _)⟩)
  dsimp only [Pt.U, Pt.locs, Pt.cells, Pt.slots] at X1 l1 y1 z1 st1 hQ1
  subst l1 y1 z1
  obtain ⟨rfl, N1q, e1⟩ := hQ1
  have N1 := Fr.app N0 N1q
  refine Go.st (fun _ k => st1.trans k) ?_
  show Go _ _ _ _ _ _ _ T1 (mkF m 4 #[.val (.ref o0), .val (.int p1)] [(.int (val_5 o0 od))])
  rw [show (val_5 o0 od) = od from by unfold val_5; rfl]
  show Go _ _ _ _ _ _ _ T1 (mkF m 4 #[.val (.ref o0), .val (.int p1)] [(.int od)])
  rcases id (V_od) with hv | hv | hv
  · have hv2 := hv
    refine Go.st (fun _ k => XS.tswIn X1.here hx rfl (pc0 := 4) (pc' := 42) (o := 38) rfl (hb hby d4_4) rfl (by rw [hv2]; decide) (by rw [hv2]; decide) (by decide) (by decide) k) ?_
    show Go _ _ _ _ _ _ _ T1 (mkF m 42 #[.val (.ref o0), .val (.int p1)] [])
    refine Go.st (fun _ k => XS.iconst X1.here hx rfl (hb hby d4_42) k) ?_
    show Go _ _ _ _ _ _ _ T1 (mkF m 43 #[.val (.ref o0), .val (.int p1)] [(.int (1 : Int32))])
    refine Go.st (fun _ k => XS.goto X1.here hx rfl (pc0 := 43) (pc' := 59) rfl (hb hby d4_43) (by decide) (by decide) k) ?_
    show Go _ _ _ _ _ _ _ T1 (mkF m 59 #[.val (.ref o0), .val (.int p1)] [(.int (1 : Int32))])
    refine Go.ret X1 hlk (v := some (.int (1 : Int32))) (fun h => by rw [hret] at h; cases h) (fun fs hr => retN X1 hx (t := .boolean) hret (by simp) (hb hby d4_59) hr) ?_ (by decide) (by decide)
    show Q4 Z o0 p1 od h0 n0 (some (.int (1 : Int32))) T1.heap _
    rw [e1]
    refine ⟨?_, N1, rfl⟩
    unfold val_4
    rw [if_pos hv2]
  · have hv3 := hv
    refine Go.st (fun _ k => XS.tswIn X1.here hx rfl (pc0 := 4) (pc' := 46) (o := 42) rfl (hb hby d4_4) rfl (by rw [hv3]; decide) (by rw [hv3]; decide) (by decide) (by decide) k) ?_
    show Go _ _ _ _ _ _ _ T1 (mkF m 46 #[.val (.ref o0), .val (.int p1)] [])
    refine Go.st (fun _ k => XS.iloadN X1.here hx rfl (hb hby d4_46) rfl k) ?_
    show Go _ _ _ _ _ _ _ T1 (mkF m 47 #[.val (.ref o0), .val (.int p1)] [(.int p1)])
    refine Go.st (fun _ k => XS.goto X1.here hx rfl (pc0 := 47) (pc' := 59) rfl (hb hby d4_47) (by decide) (by decide) k) ?_
    show Go _ _ _ _ _ _ _ T1 (mkF m 59 #[.val (.ref o0), .val (.int p1)] [(.int p1)])
    refine Go.ret X1 hlk (v := some (.int (nar .boolean p1))) (fun h => by rw [hret] at h; cases h) (fun fs hr => retN X1 hx (t := .boolean) hret (by simp) (hb hby d4_59) hr) ?_ (by decide) (by decide)
    show Q4 Z o0 p1 od h0 n0 (some (.int (nar .boolean p1))) T1.heap _
    rw [e1]
    refine ⟨?_, N1, rfl⟩
    unfold val_4
    rw [if_neg (by rw [hv3]; decide : ¬ (od = (0 : Int32))), if_pos hv3]
  · have hv4 := hv
    refine Go.st (fun _ k => XS.tswIn X1.here hx rfl (pc0 := 4) (pc' := 50) (o := 46) rfl (hb hby d4_4) rfl (by rw [hv4]; decide) (by rw [hv4]; decide) (by decide) (by decide) k) ?_
    show Go _ _ _ _ _ _ _ T1 (mkF m 50 #[.val (.ref o0), .val (.int p1)] [])
    refine Go.st (fun _ k => XS.iloadN X1.here hx rfl (hb hby d4_50) rfl k) ?_
    show Go _ _ _ _ _ _ _ T1 (mkF m 51 #[.val (.ref o0), .val (.int p1)] [(.int p1)])
    by_cases hc5 : p1 = (0 : Int32)
    · refine Go.st (fun _ k => XS.ifNo X1.here hx rfl (hb hby d4_51) rfl ((if0 _ _).trans (teq hc5).2) k) ?_
      show Go _ _ _ _ _ _ _ T1 (mkF m 54 #[.val (.ref o0), .val (.int p1)] [])
      refine Go.st (fun _ k => XS.iconst X1.here hx rfl (hb hby d4_54) k) ?_
      show Go _ _ _ _ _ _ _ T1 (mkF m 55 #[.val (.ref o0), .val (.int p1)] [(.int (1 : Int32))])
      refine Go.st (fun _ k => XS.goto X1.here hx rfl (pc0 := 55) (pc' := 59) rfl (hb hby d4_55) (by decide) (by decide) k) ?_
      show Go _ _ _ _ _ _ _ T1 (mkF m 59 #[.val (.ref o0), .val (.int p1)] [(.int (1 : Int32))])
      refine Go.ret X1 hlk (v := some (.int (1 : Int32))) (fun h => by rw [hret] at h; cases h) (fun fs hr => retN X1 hx (t := .boolean) hret (by simp) (hb hby d4_59) hr) ?_ (by decide) (by decide)
      show Q4 Z o0 p1 od h0 n0 (some (.int (1 : Int32))) T1.heap _
      rw [e1]
      refine ⟨?_, N1, rfl⟩
      unfold val_4
      rw [if_neg (by rw [hv4]; decide : ¬ (od = (0 : Int32))), if_neg (by rw [hv4]; decide : ¬ (od = (1 : Int32))), if_pos hc5]
    · refine Go.st (fun _ k => XS.ifYes X1.here hx rfl (pc0 := 51) (pc' := 58) rfl (hb hby d4_51) rfl ((if0 _ _).trans (feq hc5).2) (by decide) (by decide) k) ?_
      show Go _ _ _ _ _ _ _ T1 (mkF m 58 #[.val (.ref o0), .val (.int p1)] [])
      refine Go.st (fun _ k => XS.iconst X1.here hx rfl (hb hby d4_58) k) ?_
      show Go _ _ _ _ _ _ _ T1 (mkF m 59 #[.val (.ref o0), .val (.int p1)] [(.int (0 : Int32))])
      refine Go.ret X1 hlk (v := some (.int (0 : Int32))) (fun h => by rw [hret] at h; cases h) (fun fs hr => retN X1 hx (t := .boolean) hret (by simp) (hb hby d4_59) hr) ?_ (by decide) (by decide)
      show Q4 Z o0 p1 od h0 n0 (some (.int (0 : Int32))) T1.heap _
      rw [e1]
      refine ⟨?_, N1, rfl⟩
      unfold val_4
      rw [if_neg (by rw [hv4]; decide : ¬ (od = (0 : Int32))), if_neg (by rw [hv4]; decide : ¬ (od = (1 : Int32))), if_neg hc5]
theorem d3_0 : decode prog_1_method_5_code 0 = .ok (.aload_n 0, 1) := by decide +kernel
theorem d3_1 : decode prog_1_method_5_code 1 = .ok (.iconst 1, 1) := by decide +kernel
theorem d3_2 : decode prog_1_method_5_code 2 = .ok (.invokevirtual 41, 3) := by decide +kernel
theorem d3_5 : decode prog_1_method_5_code 5 = .ok (.ifCond .eq 11, 3) := by decide +kernel
theorem d3_8 : decode prog_1_method_5_code 8 = .ok (.aload_n 1, 1) := by decide +kernel
theorem d3_9 : decode prog_1_method_5_code 9 = .ok (.iconst 1, 1) := by decide +kernel
theorem d3_10 : decode prog_1_method_5_code 10 = .ok (.invokevirtual 41, 3) := by decide +kernel
theorem d3_13 : decode prog_1_method_5_code 13 = .ok (.ifCond .ne 19, 3) := by decide +kernel
theorem d3_16 : decode prog_1_method_5_code 16 = .ok (.aload_n 0, 1) := by decide +kernel
theorem d3_17 : decode prog_1_method_5_code 17 = .ok (.iconst 0, 1) := by decide +kernel
theorem d3_18 : decode prog_1_method_5_code 18 = .ok (.invokevirtual 41, 3) := by decide +kernel
theorem d3_21 : decode prog_1_method_5_code 21 = .ok (.ifCond .eq 15, 3) := by decide +kernel
theorem d3_24 : decode prog_1_method_5_code 24 = .ok (.aload_n 1, 1) := by decide +kernel
theorem d3_25 : decode prog_1_method_5_code 25 = .ok (.iconst 0, 1) := by decide +kernel
theorem d3_26 : decode prog_1_method_5_code 26 = .ok (.invokevirtual 41, 3) := by decide +kernel
theorem d3_29 : decode prog_1_method_5_code 29 = .ok (.ifCond .eq 7, 3) := by decide +kernel
theorem d3_32 : decode prog_1_method_5_code 32 = .ok (.iconst 1, 1) := by decide +kernel
theorem d3_33 : decode prog_1_method_5_code 33 = .ok (.goto 4, 3) := by decide +kernel
theorem d3_36 : decode prog_1_method_5_code 36 = .ok (.iconst 0, 1) := by decide +kernel
theorem d3_37 : decode prog_1_method_5_code 37 = .ok (.ireturn, 1) := by decide +kernel
def val_3 (o0 : Addr) (o1 : Addr) (od : Int32) (oe : Int32) : Int32 := (if od = (0 : Int32) then (1 : Int32) else (if od = (1 : Int32) then (if oe = (0 : Int32) then (1 : Int32) else (if oe = (1 : Int32) then (1 : Int32) else (0 : Int32))) else (if oe = (0 : Int32) then (1 : Int32) else (if oe = (1 : Int32) then (0 : Int32) else (1 : Int32)))))
theorem ef_3 (m : MethodId) (o0 : Addr) (o1 : Addr) : entryFrame m #[(.ref o0), (.ref o1)] 2 = mkF m 0 #[.val (.ref o0), .val (.ref o1)] [] := by first | (simp [entryFrame, mkF, argsToLocals, Value.category]; done) | rfl
def Q3 (Z : State) (o0 : Addr) (o1 : Addr) (od : Int32) (oe : Int32) (h0 : Heap) (n0 : Nat) (v : Option Value) (h : Heap) (L : List Loc) : Prop := v = some (.int (val_3 o0 o1 od oe)) ∧ Fr n0 L ∧ h = h0
set_option maxRecDepth 65536 in
set_option maxHeartbeats 40000000 in
theorem rm3 (l : Launch) (Z : State) (a0 : Array Value) (hw : ∀ d ∈ tables_1, d.before a0 Z = true) (ws : List Jvm.Cond) (o0 : Addr) (o1 : Addr) (od : Int32) (oe : Int32) (h0 : Heap) (n0 : Nat) (Z0 : n0 ≤ h0.size) (E_o0 : Exa Z h0 o0 "com/example/gatefold/gatefold/Condition") (E_o1 : Exa Z h0 o1 "com/example/gatefold/gatefold/Condition") (F_ordinal_o0 : Fld Z h0 o0 "java/lang/Enum" "ordinal" "I" (.int od)) (F_ordinal_o1 : Fld Z h0 o1 "java/lang/Enum" "ordinal" "I" (.int oe)) (V_od : od = 0 ∨ od = 1 ∨ od = 2) (V_oe : oe = 0 ∨ oe = 1 ∨ oe = 2) :
    MetFree l (⟨"com/example/gatefold/gatefold/Condition", "overlaps", "(Lcom/example/gatefold/gatefold/Condition;)Z"⟩ : MethodName) (head1 (Jvm.Cond.code (⟨"com/example/gatefold/gatefold/Condition", "overlaps", "(Lcom/example/gatefold/gatefold/Condition;)Z"⟩ : MethodName) prog_1_method_5_code 2 (some .boolean) :: ws) ({ frames := 2, cells := 0, slots := 0, locals := 25 } : Room)) (fun a U => a = #[(.ref o0), (.ref o1)] ∧ Z.Warmed39 U.vm ∧ U.heap = h0) (fun _ _ _ _ _ => True) (fun _ U o U' => ∃ v L, o = .returned v ∧ Q3 Z o0 o1 od oe h0 n0 v U'.heap L ∧ FrameEnd U o U' L ({ frames := 2, cells := 0, slots := 0, locals := 25 } : Room).cells ({ frames := 2, cells := 0, slots := 0, locals := 25 } : Room).slots) := by
  refine MetFree.of_bodySF (plainFor_of_name pn_com_example_gatefold_gatefold_Condition) hisR ?_
  intro p e s m args below meth c s₁ Bd hml0 hP hK
  obtain ⟨rfl, hZ, hh⟩ := hP
  have hx := Bd.exec
  have hby := Bd.bytes
  have hlk : meth.locks = false := BodyLoose.notSynchronized Bd
  have hret := Bd.returns
  have hml : c.maxLocals = 2 := hml0
  have hown : s.vm.findClass "com/example/gatefold/gatefold/Condition" = some m.cls := findClass_of_methodNamed Bd.named
  have hnm := (name_of_methodNamed Bd.named Bd.method).1
  have X0 : Stand p l e ({ frames := 2, cells := 0, slots := 0, locals := 25 } : Room) s m #[(.ref o0), (.ref o1)] below meth c s₁ [] 0 0 := Stand.of_body Bd
  have e0 : s₁.heap = h0 := by rw [← hh, Bd.state]; rfl
  have N0 := Fr.nil n0
  refine Go.start (Q := Q3 Z o0 o1 od oe h0 n0) (ef_3 m o0 o1) ?_
  rcases id V_od with hv1 | hv1 | hv1
  · rcases id V_oe with hv2 | hv2 | hv2
    · show Go _ _ _ _ _ _ _ s₁ (mkF m 0 #[.val (.ref o0), .val (.ref o1)] [])
      refine Go.st (fun _ k => XS.aloadN X0.here hx rfl (hb hby d3_0) rfl rfl k) ?_
      show Go _ _ _ _ _ _ _ s₁ (mkF m 1 #[.val (.ref o0), .val (.ref o1)] [(.ref o0)])
      refine Go.st (fun _ k => XS.iconst X0.here hx rfl (hb hby d3_1) k) ?_
      show Go _ _ _ _ _ _ _ s₁ (mkF m 2 #[.val (.ref o0), .val (.ref o1)] [(.int (1 : Int32)), (.ref o0)])
      obtain ⟨cq3, kq3, q3a, q3b, q3c⟩ := isOf hZ e0 E_o0
      obtain ⟨_, _, ⟨T3, L3, k3, n3⟩, -, X3, ⟨Lc3, hQ3, l3, y3, z3⟩, st3⟩ := X0.virtualBack hx (y := (⟨"com/example/gatefold/gatefold/Condition", "holdsFor", "(Z)Z"⟩ : MethodName)) (z := (⟨"com/example/gatefold/gatefold/Condition", "holdsFor", "(Z)Z"⟩ : MethodName)) hown (mvT hZ (hw _ (List.mem_of_getElem? (i := 16) rfl))) (mvT hZ (hw _ (List.mem_of_getElem? (i := 17) rfl))) (notFace_of_selects (args := #[]) (mvT hZ (hw _ (List.mem_of_getElem? (i := 19) rfl)))) (mvT hZ (hw _ (List.mem_of_getElem? (i := 19) rfl))) (mvT hZ (hw _ (List.mem_of_getElem? (i := 18) rfl))) (by decide) (backOf (W := 0) (rm4 l Z a0 hw [] o0 (1 : Int32) od h0 n0 Z0 E_o0 F_ordinal_o0 V_od) hZ (hw _ (List.mem_of_getElem? (i := 20) rfl)) (hw _ (List.mem_of_getElem? (i := 9) rfl)) (by decide) (by decide)) q3a q3c (g := (mkF m 2 #[.val (.ref o0), .val (.ref o1)] [(.int (1 : Int32)), (.ref o0)])) rfl (by rw [hml]; rfl) (Steps.refl _) (argsL := [(.int (1 : Int32))]) (rest := []) (lenOf pd_1 rfl) rfl (by show 2 * 0 + _ ≤ _; exact Nat.le_of_eq rfl) (hb hby d3_2) (fun _ _ => ⟨rfl, e0, (by decide : 0 + 0 ≤ _), (by decide : 0 + 0 ≤ _)⟩)
      dsimp only [Pt.U, Pt.locs, Pt.cells, Pt.slots] at X3 l3 y3 z3 st3 hQ3
      subst l3 y3 z3
      obtain ⟨rfl, N3q, e3⟩ := hQ3
      have N3 := Fr.app N0 N3q
      refine Go.st (fun _ k => st3.trans k) ?_
      show Go _ _ _ _ _ _ _ T3 (mkF m 5 #[.val (.ref o0), .val (.ref o1)] [(.int (val_4 o0 (1 : Int32) od))])
      rw [show (val_4 o0 (1 : Int32) od) = (1 : Int32) from by unfold val_4; rw [if_pos hv1]]
      show Go _ _ _ _ _ _ _ T3 (mkF m 5 #[.val (.ref o0), .val (.ref o1)] [(.int (1 : Int32))])
      refine Go.st (fun _ k => XS.ifNo X3.here hx rfl (hb hby d3_5) rfl ((if0 _ _).trans (feq (by decide : ¬ ((1 : Int32) = (0 : Int32)))).1) k) ?_
      show Go _ _ _ _ _ _ _ T3 (mkF m 8 #[.val (.ref o0), .val (.ref o1)] [])
      refine Go.st (fun _ k => XS.aloadN X3.here hx rfl (hb hby d3_8) rfl rfl k) ?_
      show Go _ _ _ _ _ _ _ T3 (mkF m 9 #[.val (.ref o0), .val (.ref o1)] [(.ref o1)])
      refine Go.st (fun _ k => XS.iconst X3.here hx rfl (hb hby d3_9) k) ?_
      show Go _ _ _ _ _ _ _ T3 (mkF m 10 #[.val (.ref o0), .val (.ref o1)] [(.int (1 : Int32)), (.ref o1)])
      obtain ⟨cq4, kq4, q4a, q4b, q4c⟩ := isOf hZ e3 E_o1
      obtain ⟨_, _, ⟨T4, L4, k4, n4⟩, -, X4, ⟨Lc4, hQ4, l4, y4, z4⟩, st4⟩ := X3.virtualBack hx (y := (⟨"com/example/gatefold/gatefold/Condition", "holdsFor", "(Z)Z"⟩ : MethodName)) (z := (⟨"com/example/gatefold/gatefold/Condition", "holdsFor", "(Z)Z"⟩ : MethodName)) hown (mvT hZ (hw _ (List.mem_of_getElem? (i := 16) rfl))) (mvT hZ (hw _ (List.mem_of_getElem? (i := 17) rfl))) (notFace_of_selects (args := #[]) (mvT hZ (hw _ (List.mem_of_getElem? (i := 19) rfl)))) (mvT hZ (hw _ (List.mem_of_getElem? (i := 19) rfl))) (mvT hZ (hw _ (List.mem_of_getElem? (i := 18) rfl))) (by decide) (backOf (W := 0) (rm4 l Z a0 hw [] o1 (1 : Int32) oe h0 n0 Z0 E_o1 F_ordinal_o1 V_oe) hZ (hw _ (List.mem_of_getElem? (i := 20) rfl)) (hw _ (List.mem_of_getElem? (i := 9) rfl)) (by decide) (by decide)) q4a q4c (g := (mkF m 10 #[.val (.ref o0), .val (.ref o1)] [(.int (1 : Int32)), (.ref o1)])) rfl (by rw [hml]; rfl) (Steps.refl _) (argsL := [(.int (1 : Int32))]) (rest := []) (lenOf pd_1 rfl) rfl (by show 2 * 0 + _ ≤ _; exact Nat.le_of_eq rfl) (hb hby d3_10) (fun _ _ => ⟨rfl, e3, (by decide : 0 + 0 ≤ _), (by decide : 0 + 0 ≤ _)⟩)
      dsimp only [Pt.U, Pt.locs, Pt.cells, Pt.slots] at X4 l4 y4 z4 st4 hQ4
      subst l4 y4 z4
      obtain ⟨rfl, N4q, e4⟩ := hQ4
      have N4 := Fr.app N3 N4q
      refine Go.st (fun _ k => st4.trans k) ?_
      show Go _ _ _ _ _ _ _ T4 (mkF m 13 #[.val (.ref o0), .val (.ref o1)] [(.int (val_4 o1 (1 : Int32) oe))])
      rw [show (val_4 o1 (1 : Int32) oe) = (1 : Int32) from by unfold val_4; rw [if_pos hv2]]
      show Go _ _ _ _ _ _ _ T4 (mkF m 13 #[.val (.ref o0), .val (.ref o1)] [(.int (1 : Int32))])
      refine Go.st (fun _ k => XS.ifYes X4.here hx rfl (pc0 := 13) (pc' := 32) rfl (hb hby d3_13) rfl ((if0 _ _).trans (feq (by decide : ¬ ((1 : Int32) = (0 : Int32)))).2) (by decide) (by decide) k) ?_
      show Go _ _ _ _ _ _ _ T4 (mkF m 32 #[.val (.ref o0), .val (.ref o1)] [])
      refine Go.st (fun _ k => XS.iconst X4.here hx rfl (hb hby d3_32) k) ?_
      show Go _ _ _ _ _ _ _ T4 (mkF m 33 #[.val (.ref o0), .val (.ref o1)] [(.int (1 : Int32))])
      refine Go.st (fun _ k => XS.goto X4.here hx rfl (pc0 := 33) (pc' := 37) rfl (hb hby d3_33) (by decide) (by decide) k) ?_
      show Go _ _ _ _ _ _ _ T4 (mkF m 37 #[.val (.ref o0), .val (.ref o1)] [(.int (1 : Int32))])
      refine Go.ret X4 hlk (v := some (.int (1 : Int32))) (fun h => by rw [hret] at h; cases h) (fun fs hr => retN X4 hx (t := .boolean) hret (by simp) (hb hby d3_37) hr) ?_ (by decide) (by decide)
      show Q3 Z o0 o1 od oe h0 n0 (some (.int (1 : Int32))) T4.heap _
      rw [e4]
      refine ⟨?_, N4, rfl⟩
      unfold val_3
      rw [if_pos hv1]
    · show Go _ _ _ _ _ _ _ s₁ (mkF m 0 #[.val (.ref o0), .val (.ref o1)] [])
      refine Go.st (fun _ k => XS.aloadN X0.here hx rfl (hb hby d3_0) rfl rfl k) ?_
      show Go _ _ _ _ _ _ _ s₁ (mkF m 1 #[.val (.ref o0), .val (.ref o1)] [(.ref o0)])
      refine Go.st (fun _ k => XS.iconst X0.here hx rfl (hb hby d3_1) k) ?_
      show Go _ _ _ _ _ _ _ s₁ (mkF m 2 #[.val (.ref o0), .val (.ref o1)] [(.int (1 : Int32)), (.ref o0)])
      obtain ⟨cq5, kq5, q5a, q5b, q5c⟩ := isOf hZ e0 E_o0
      obtain ⟨_, _, ⟨T5, L5, k5, n5⟩, -, X5, ⟨Lc5, hQ5, l5, y5, z5⟩, st5⟩ := X0.virtualBack hx (y := (⟨"com/example/gatefold/gatefold/Condition", "holdsFor", "(Z)Z"⟩ : MethodName)) (z := (⟨"com/example/gatefold/gatefold/Condition", "holdsFor", "(Z)Z"⟩ : MethodName)) hown (mvT hZ (hw _ (List.mem_of_getElem? (i := 16) rfl))) (mvT hZ (hw _ (List.mem_of_getElem? (i := 17) rfl))) (notFace_of_selects (args := #[]) (mvT hZ (hw _ (List.mem_of_getElem? (i := 19) rfl)))) (mvT hZ (hw _ (List.mem_of_getElem? (i := 19) rfl))) (mvT hZ (hw _ (List.mem_of_getElem? (i := 18) rfl))) (by decide) (backOf (W := 0) (rm4 l Z a0 hw [] o0 (1 : Int32) od h0 n0 Z0 E_o0 F_ordinal_o0 V_od) hZ (hw _ (List.mem_of_getElem? (i := 20) rfl)) (hw _ (List.mem_of_getElem? (i := 9) rfl)) (by decide) (by decide)) q5a q5c (g := (mkF m 2 #[.val (.ref o0), .val (.ref o1)] [(.int (1 : Int32)), (.ref o0)])) rfl (by rw [hml]; rfl) (Steps.refl _) (argsL := [(.int (1 : Int32))]) (rest := []) (lenOf pd_1 rfl) rfl (by show 2 * 0 + _ ≤ _; exact Nat.le_of_eq rfl) (hb hby d3_2) (fun _ _ => ⟨rfl, e0, (by decide : 0 + 0 ≤ _), (by decide : 0 + 0 ≤ _)⟩)
      dsimp only [Pt.U, Pt.locs, Pt.cells, Pt.slots] at X5 l5 y5 z5 st5 hQ5
      subst l5 y5 z5
      obtain ⟨rfl, N5q, e5⟩ := hQ5
      have N5 := Fr.app N0 N5q
      refine Go.st (fun _ k => st5.trans k) ?_
      show Go _ _ _ _ _ _ _ T5 (mkF m 5 #[.val (.ref o0), .val (.ref o1)] [(.int (val_4 o0 (1 : Int32) od))])
      rw [show (val_4 o0 (1 : Int32) od) = (1 : Int32) from by unfold val_4; rw [if_pos hv1]]
      show Go _ _ _ _ _ _ _ T5 (mkF m 5 #[.val (.ref o0), .val (.ref o1)] [(.int (1 : Int32))])
      refine Go.st (fun _ k => XS.ifNo X5.here hx rfl (hb hby d3_5) rfl ((if0 _ _).trans (feq (by decide : ¬ ((1 : Int32) = (0 : Int32)))).1) k) ?_
      show Go _ _ _ _ _ _ _ T5 (mkF m 8 #[.val (.ref o0), .val (.ref o1)] [])
      refine Go.st (fun _ k => XS.aloadN X5.here hx rfl (hb hby d3_8) rfl rfl k) ?_
      show Go _ _ _ _ _ _ _ T5 (mkF m 9 #[.val (.ref o0), .val (.ref o1)] [(.ref o1)])
      refine Go.st (fun _ k => XS.iconst X5.here hx rfl (hb hby d3_9) k) ?_
      show Go _ _ _ _ _ _ _ T5 (mkF m 10 #[.val (.ref o0), .val (.ref o1)] [(.int (1 : Int32)), (.ref o1)])
      obtain ⟨cq6, kq6, q6a, q6b, q6c⟩ := isOf hZ e5 E_o1
      obtain ⟨_, _, ⟨T6, L6, k6, n6⟩, -, X6, ⟨Lc6, hQ6, l6, y6, z6⟩, st6⟩ := X5.virtualBack hx (y := (⟨"com/example/gatefold/gatefold/Condition", "holdsFor", "(Z)Z"⟩ : MethodName)) (z := (⟨"com/example/gatefold/gatefold/Condition", "holdsFor", "(Z)Z"⟩ : MethodName)) hown (mvT hZ (hw _ (List.mem_of_getElem? (i := 16) rfl))) (mvT hZ (hw _ (List.mem_of_getElem? (i := 17) rfl))) (notFace_of_selects (args := #[]) (mvT hZ (hw _ (List.mem_of_getElem? (i := 19) rfl)))) (mvT hZ (hw _ (List.mem_of_getElem? (i := 19) rfl))) (mvT hZ (hw _ (List.mem_of_getElem? (i := 18) rfl))) (by decide) (backOf (W := 0) (rm4 l Z a0 hw [] o1 (1 : Int32) oe h0 n0 Z0 E_o1 F_ordinal_o1 V_oe) hZ (hw _ (List.mem_of_getElem? (i := 20) rfl)) (hw _ (List.mem_of_getElem? (i := 9) rfl)) (by decide) (by decide)) q6a q6c (g := (mkF m 10 #[.val (.ref o0), .val (.ref o1)] [(.int (1 : Int32)), (.ref o1)])) rfl (by rw [hml]; rfl) (Steps.refl _) (argsL := [(.int (1 : Int32))]) (rest := []) (lenOf pd_1 rfl) rfl (by show 2 * 0 + _ ≤ _; exact Nat.le_of_eq rfl) (hb hby d3_10) (fun _ _ => ⟨rfl, e5, (by decide : 0 + 0 ≤ _), (by decide : 0 + 0 ≤ _)⟩)
      dsimp only [Pt.U, Pt.locs, Pt.cells, Pt.slots] at X6 l6 y6 z6 st6 hQ6
      subst l6 y6 z6
      obtain ⟨rfl, N6q, e6⟩ := hQ6
      have N6 := Fr.app N5 N6q
      refine Go.st (fun _ k => st6.trans k) ?_
      show Go _ _ _ _ _ _ _ T6 (mkF m 13 #[.val (.ref o0), .val (.ref o1)] [(.int (val_4 o1 (1 : Int32) oe))])
      rw [show (val_4 o1 (1 : Int32) oe) = (1 : Int32) from by unfold val_4; rw [if_neg (by rw [hv2]; decide : ¬ (oe = (0 : Int32))), if_pos hv2]; decide +kernel]
      show Go _ _ _ _ _ _ _ T6 (mkF m 13 #[.val (.ref o0), .val (.ref o1)] [(.int (1 : Int32))])
      refine Go.st (fun _ k => XS.ifYes X6.here hx rfl (pc0 := 13) (pc' := 32) rfl (hb hby d3_13) rfl ((if0 _ _).trans (feq (by decide : ¬ ((1 : Int32) = (0 : Int32)))).2) (by decide) (by decide) k) ?_
      show Go _ _ _ _ _ _ _ T6 (mkF m 32 #[.val (.ref o0), .val (.ref o1)] [])
      refine Go.st (fun _ k => XS.iconst X6.here hx rfl (hb hby d3_32) k) ?_
      show Go _ _ _ _ _ _ _ T6 (mkF m 33 #[.val (.ref o0), .val (.ref o1)] [(.int (1 : Int32))])
      refine Go.st (fun _ k => XS.goto X6.here hx rfl (pc0 := 33) (pc' := 37) rfl (hb hby d3_33) (by decide) (by decide) k) ?_
      show Go _ _ _ _ _ _ _ T6 (mkF m 37 #[.val (.ref o0), .val (.ref o1)] [(.int (1 : Int32))])
      refine Go.ret X6 hlk (v := some (.int (1 : Int32))) (fun h => by rw [hret] at h; cases h) (fun fs hr => retN X6 hx (t := .boolean) hret (by simp) (hb hby d3_37) hr) ?_ (by decide) (by decide)
      show Q3 Z o0 o1 od oe h0 n0 (some (.int (1 : Int32))) T6.heap _
      rw [e6]
      refine ⟨?_, N6, rfl⟩
      unfold val_3
      rw [if_pos hv1]
    · show Go _ _ _ _ _ _ _ s₁ (mkF m 0 #[.val (.ref o0), .val (.ref o1)] [])
      refine Go.st (fun _ k => XS.aloadN X0.here hx rfl (hb hby d3_0) rfl rfl k) ?_
      show Go _ _ _ _ _ _ _ s₁ (mkF m 1 #[.val (.ref o0), .val (.ref o1)] [(.ref o0)])
      refine Go.st (fun _ k => XS.iconst X0.here hx rfl (hb hby d3_1) k) ?_
      show Go _ _ _ _ _ _ _ s₁ (mkF m 2 #[.val (.ref o0), .val (.ref o1)] [(.int (1 : Int32)), (.ref o0)])
      obtain ⟨cq7, kq7, q7a, q7b, q7c⟩ := isOf hZ e0 E_o0
      obtain ⟨_, _, ⟨T7, L7, k7, n7⟩, -, X7, ⟨Lc7, hQ7, l7, y7, z7⟩, st7⟩ := X0.virtualBack hx (y := (⟨"com/example/gatefold/gatefold/Condition", "holdsFor", "(Z)Z"⟩ : MethodName)) (z := (⟨"com/example/gatefold/gatefold/Condition", "holdsFor", "(Z)Z"⟩ : MethodName)) hown (mvT hZ (hw _ (List.mem_of_getElem? (i := 16) rfl))) (mvT hZ (hw _ (List.mem_of_getElem? (i := 17) rfl))) (notFace_of_selects (args := #[]) (mvT hZ (hw _ (List.mem_of_getElem? (i := 19) rfl)))) (mvT hZ (hw _ (List.mem_of_getElem? (i := 19) rfl))) (mvT hZ (hw _ (List.mem_of_getElem? (i := 18) rfl))) (by decide) (backOf (W := 0) (rm4 l Z a0 hw [] o0 (1 : Int32) od h0 n0 Z0 E_o0 F_ordinal_o0 V_od) hZ (hw _ (List.mem_of_getElem? (i := 20) rfl)) (hw _ (List.mem_of_getElem? (i := 9) rfl)) (by decide) (by decide)) q7a q7c (g := (mkF m 2 #[.val (.ref o0), .val (.ref o1)] [(.int (1 : Int32)), (.ref o0)])) rfl (by rw [hml]; rfl) (Steps.refl _) (argsL := [(.int (1 : Int32))]) (rest := []) (lenOf pd_1 rfl) rfl (by show 2 * 0 + _ ≤ _; exact Nat.le_of_eq rfl) (hb hby d3_2) (fun _ _ => ⟨rfl, e0, (by decide : 0 + 0 ≤ _), (by decide : 0 + 0 ≤ _)⟩)
      dsimp only [Pt.U, Pt.locs, Pt.cells, Pt.slots] at X7 l7 y7 z7 st7 hQ7
      subst l7 y7 z7
      obtain ⟨rfl, N7q, e7⟩ := hQ7
      have N7 := Fr.app N0 N7q
      refine Go.st (fun _ k => st7.trans k) ?_
      show Go _ _ _ _ _ _ _ T7 (mkF m 5 #[.val (.ref o0), .val (.ref o1)] [(.int (val_4 o0 (1 : Int32) od))])
      rw [show (val_4 o0 (1 : Int32) od) = (1 : Int32) from by unfold val_4; rw [if_pos hv1]]
      show Go _ _ _ _ _ _ _ T7 (mkF m 5 #[.val (.ref o0), .val (.ref o1)] [(.int (1 : Int32))])
      refine Go.st (fun _ k => XS.ifNo X7.here hx rfl (hb hby d3_5) rfl ((if0 _ _).trans (feq (by decide : ¬ ((1 : Int32) = (0 : Int32)))).1) k) ?_
      show Go _ _ _ _ _ _ _ T7 (mkF m 8 #[.val (.ref o0), .val (.ref o1)] [])
      refine Go.st (fun _ k => XS.aloadN X7.here hx rfl (hb hby d3_8) rfl rfl k) ?_
      show Go _ _ _ _ _ _ _ T7 (mkF m 9 #[.val (.ref o0), .val (.ref o1)] [(.ref o1)])
      refine Go.st (fun _ k => XS.iconst X7.here hx rfl (hb hby d3_9) k) ?_
      show Go _ _ _ _ _ _ _ T7 (mkF m 10 #[.val (.ref o0), .val (.ref o1)] [(.int (1 : Int32)), (.ref o1)])
      obtain ⟨cq8, kq8, q8a, q8b, q8c⟩ := isOf hZ e7 E_o1
      obtain ⟨_, _, ⟨T8, L8, k8, n8⟩, -, X8, ⟨Lc8, hQ8, l8, y8, z8⟩, st8⟩ := X7.virtualBack hx (y := (⟨"com/example/gatefold/gatefold/Condition", "holdsFor", "(Z)Z"⟩ : MethodName)) (z := (⟨"com/example/gatefold/gatefold/Condition", "holdsFor", "(Z)Z"⟩ : MethodName)) hown (mvT hZ (hw _ (List.mem_of_getElem? (i := 16) rfl))) (mvT hZ (hw _ (List.mem_of_getElem? (i := 17) rfl))) (notFace_of_selects (args := #[]) (mvT hZ (hw _ (List.mem_of_getElem? (i := 19) rfl)))) (mvT hZ (hw _ (List.mem_of_getElem? (i := 19) rfl))) (mvT hZ (hw _ (List.mem_of_getElem? (i := 18) rfl))) (by decide) (backOf (W := 0) (rm4 l Z a0 hw [] o1 (1 : Int32) oe h0 n0 Z0 E_o1 F_ordinal_o1 V_oe) hZ (hw _ (List.mem_of_getElem? (i := 20) rfl)) (hw _ (List.mem_of_getElem? (i := 9) rfl)) (by decide) (by decide)) q8a q8c (g := (mkF m 10 #[.val (.ref o0), .val (.ref o1)] [(.int (1 : Int32)), (.ref o1)])) rfl (by rw [hml]; rfl) (Steps.refl _) (argsL := [(.int (1 : Int32))]) (rest := []) (lenOf pd_1 rfl) rfl (by show 2 * 0 + _ ≤ _; exact Nat.le_of_eq rfl) (hb hby d3_10) (fun _ _ => ⟨rfl, e7, (by decide : 0 + 0 ≤ _), (by decide : 0 + 0 ≤ _)⟩)
      dsimp only [Pt.U, Pt.locs, Pt.cells, Pt.slots] at X8 l8 y8 z8 st8 hQ8
      subst l8 y8 z8
      obtain ⟨rfl, N8q, e8⟩ := hQ8
      have N8 := Fr.app N7 N8q
      refine Go.st (fun _ k => st8.trans k) ?_
      show Go _ _ _ _ _ _ _ T8 (mkF m 13 #[.val (.ref o0), .val (.ref o1)] [(.int (val_4 o1 (1 : Int32) oe))])
      rw [show (val_4 o1 (1 : Int32) oe) = (0 : Int32) from by unfold val_4; rw [if_neg (by rw [hv2]; decide : ¬ (oe = (0 : Int32))), if_neg (by rw [hv2]; decide : ¬ (oe = (1 : Int32))), if_neg (by decide +kernel : ¬ ((1 : Int32) = (0 : Int32)))]]
      show Go _ _ _ _ _ _ _ T8 (mkF m 13 #[.val (.ref o0), .val (.ref o1)] [(.int (0 : Int32))])
      refine Go.st (fun _ k => XS.ifNo X8.here hx rfl (hb hby d3_13) rfl ((if0 _ _).trans (teq (by decide : (0 : Int32) = (0 : Int32))).2) k) ?_
      show Go _ _ _ _ _ _ _ T8 (mkF m 16 #[.val (.ref o0), .val (.ref o1)] [])
      refine Go.st (fun _ k => XS.aloadN X8.here hx rfl (hb hby d3_16) rfl rfl k) ?_
      show Go _ _ _ _ _ _ _ T8 (mkF m 17 #[.val (.ref o0), .val (.ref o1)] [(.ref o0)])
      refine Go.st (fun _ k => XS.iconst X8.here hx rfl (hb hby d3_17) k) ?_
      show Go _ _ _ _ _ _ _ T8 (mkF m 18 #[.val (.ref o0), .val (.ref o1)] [(.int (0 : Int32)), (.ref o0)])
      obtain ⟨cq9, kq9, q9a, q9b, q9c⟩ := isOf hZ e8 E_o0
      obtain ⟨_, _, ⟨T9, L9, k9, n9⟩, -, X9, ⟨Lc9, hQ9, l9, y9, z9⟩, st9⟩ := X8.virtualBack hx (y := (⟨"com/example/gatefold/gatefold/Condition", "holdsFor", "(Z)Z"⟩ : MethodName)) (z := (⟨"com/example/gatefold/gatefold/Condition", "holdsFor", "(Z)Z"⟩ : MethodName)) hown (mvT hZ (hw _ (List.mem_of_getElem? (i := 16) rfl))) (mvT hZ (hw _ (List.mem_of_getElem? (i := 17) rfl))) (notFace_of_selects (args := #[]) (mvT hZ (hw _ (List.mem_of_getElem? (i := 19) rfl)))) (mvT hZ (hw _ (List.mem_of_getElem? (i := 19) rfl))) (mvT hZ (hw _ (List.mem_of_getElem? (i := 18) rfl))) (by decide) (backOf (W := 0) (rm4 l Z a0 hw [] o0 (0 : Int32) od h0 n0 Z0 E_o0 F_ordinal_o0 V_od) hZ (hw _ (List.mem_of_getElem? (i := 20) rfl)) (hw _ (List.mem_of_getElem? (i := 9) rfl)) (by decide) (by decide)) q9a q9c (g := (mkF m 18 #[.val (.ref o0), .val (.ref o1)] [(.int (0 : Int32)), (.ref o0)])) rfl (by rw [hml]; rfl) (Steps.refl _) (argsL := [(.int (0 : Int32))]) (rest := []) (lenOf pd_1 rfl) rfl (by show 2 * 0 + _ ≤ _; exact Nat.le_of_eq rfl) (hb hby d3_18) (fun _ _ => ⟨rfl, e8, (by decide : 0 + 0 ≤ _), (by decide : 0 + 0 ≤ _)⟩)
      dsimp only [Pt.U, Pt.locs, Pt.cells, Pt.slots] at X9 l9 y9 z9 st9 hQ9
      subst l9 y9 z9
      obtain ⟨rfl, N9q, e9⟩ := hQ9
      have N9 := Fr.app N8 N9q
      refine Go.st (fun _ k => st9.trans k) ?_
      show Go _ _ _ _ _ _ _ T9 (mkF m 21 #[.val (.ref o0), .val (.ref o1)] [(.int (val_4 o0 (0 : Int32) od))])
      rw [show (val_4 o0 (0 : Int32) od) = (1 : Int32) from by unfold val_4; rw [if_pos hv1]]
      show Go _ _ _ _ _ _ _ T9 (mkF m 21 #[.val (.ref o0), .val (.ref o1)] [(.int (1 : Int32))])
      refine Go.st (fun _ k => XS.ifNo X9.here hx rfl (hb hby d3_21) rfl ((if0 _ _).trans (feq (by decide : ¬ ((1 : Int32) = (0 : Int32)))).1) k) ?_
      show Go _ _ _ _ _ _ _ T9 (mkF m 24 #[.val (.ref o0), .val (.ref o1)] [])
      refine Go.st (fun _ k => XS.aloadN X9.here hx rfl (hb hby d3_24) rfl rfl k) ?_
      show Go _ _ _ _ _ _ _ T9 (mkF m 25 #[.val (.ref o0), .val (.ref o1)] [(.ref o1)])
      refine Go.st (fun _ k => XS.iconst X9.here hx rfl (hb hby d3_25) k) ?_
      show Go _ _ _ _ _ _ _ T9 (mkF m 26 #[.val (.ref o0), .val (.ref o1)] [(.int (0 : Int32)), (.ref o1)])
      obtain ⟨cq10, kq10, q10a, q10b, q10c⟩ := isOf hZ e9 E_o1
      obtain ⟨_, _, ⟨T10, L10, k10, n10⟩, -, X10, ⟨Lc10, hQ10, l10, y10, z10⟩, st10⟩ := X9.virtualBack hx (y := (⟨"com/example/gatefold/gatefold/Condition", "holdsFor", "(Z)Z"⟩ : MethodName)) (z := (⟨"com/example/gatefold/gatefold/Condition", "holdsFor", "(Z)Z"⟩ : MethodName)) hown (mvT hZ (hw _ (List.mem_of_getElem? (i := 16) rfl))) (mvT hZ (hw _ (List.mem_of_getElem? (i := 17) rfl))) (notFace_of_selects (args := #[]) (mvT hZ (hw _ (List.mem_of_getElem? (i := 19) rfl)))) (mvT hZ (hw _ (List.mem_of_getElem? (i := 19) rfl))) (mvT hZ (hw _ (List.mem_of_getElem? (i := 18) rfl))) (by decide) (backOf (W := 0) (rm4 l Z a0 hw [] o1 (0 : Int32) oe h0 n0 Z0 E_o1 F_ordinal_o1 V_oe) hZ (hw _ (List.mem_of_getElem? (i := 20) rfl)) (hw _ (List.mem_of_getElem? (i := 9) rfl)) (by decide) (by decide)) q10a q10c (g := (mkF m 26 #[.val (.ref o0), .val (.ref o1)] [(.int (0 : Int32)), (.ref o1)])) rfl (by rw [hml]; rfl) (Steps.refl _) (argsL := [(.int (0 : Int32))]) (rest := []) (lenOf pd_1 rfl) rfl (by show 2 * 0 + _ ≤ _; exact Nat.le_of_eq rfl) (hb hby d3_26) (fun _ _ => ⟨rfl, e9, (by decide : 0 + 0 ≤ _), (by decide : 0 + 0 ≤ _)⟩)
      dsimp only [Pt.U, Pt.locs, Pt.cells, Pt.slots] at X10 l10 y10 z10 st10 hQ10
      subst l10 y10 z10
      obtain ⟨rfl, N10q, e10⟩ := hQ10
      have N10 := Fr.app N9 N10q
      refine Go.st (fun _ k => st10.trans k) ?_
      show Go _ _ _ _ _ _ _ T10 (mkF m 29 #[.val (.ref o0), .val (.ref o1)] [(.int (val_4 o1 (0 : Int32) oe))])
      rw [show (val_4 o1 (0 : Int32) oe) = (1 : Int32) from by unfold val_4; rw [if_neg (by rw [hv2]; decide : ¬ (oe = (0 : Int32))), if_neg (by rw [hv2]; decide : ¬ (oe = (1 : Int32))), if_pos (by decide +kernel : (0 : Int32) = (0 : Int32))]]
      show Go _ _ _ _ _ _ _ T10 (mkF m 29 #[.val (.ref o0), .val (.ref o1)] [(.int (1 : Int32))])
      refine Go.st (fun _ k => XS.ifNo X10.here hx rfl (hb hby d3_29) rfl ((if0 _ _).trans (feq (by decide : ¬ ((1 : Int32) = (0 : Int32)))).1) k) ?_
      show Go _ _ _ _ _ _ _ T10 (mkF m 32 #[.val (.ref o0), .val (.ref o1)] [])
      refine Go.st (fun _ k => XS.iconst X10.here hx rfl (hb hby d3_32) k) ?_
      show Go _ _ _ _ _ _ _ T10 (mkF m 33 #[.val (.ref o0), .val (.ref o1)] [(.int (1 : Int32))])
      refine Go.st (fun _ k => XS.goto X10.here hx rfl (pc0 := 33) (pc' := 37) rfl (hb hby d3_33) (by decide) (by decide) k) ?_
      show Go _ _ _ _ _ _ _ T10 (mkF m 37 #[.val (.ref o0), .val (.ref o1)] [(.int (1 : Int32))])
      refine Go.ret X10 hlk (v := some (.int (1 : Int32))) (fun h => by rw [hret] at h; cases h) (fun fs hr => retN X10 hx (t := .boolean) hret (by simp) (hb hby d3_37) hr) ?_ (by decide) (by decide)
      show Q3 Z o0 o1 od oe h0 n0 (some (.int (1 : Int32))) T10.heap _
      rw [e10]
      refine ⟨?_, N10, rfl⟩
      unfold val_3
      rw [if_pos hv1]
  · rcases id V_oe with hv11 | hv11 | hv11
    · show Go _ _ _ _ _ _ _ s₁ (mkF m 0 #[.val (.ref o0), .val (.ref o1)] [])
      refine Go.st (fun _ k => XS.aloadN X0.here hx rfl (hb hby d3_0) rfl rfl k) ?_
      show Go _ _ _ _ _ _ _ s₁ (mkF m 1 #[.val (.ref o0), .val (.ref o1)] [(.ref o0)])
      refine Go.st (fun _ k => XS.iconst X0.here hx rfl (hb hby d3_1) k) ?_
      show Go _ _ _ _ _ _ _ s₁ (mkF m 2 #[.val (.ref o0), .val (.ref o1)] [(.int (1 : Int32)), (.ref o0)])
      obtain ⟨cq12, kq12, q12a, q12b, q12c⟩ := isOf hZ e0 E_o0
      obtain ⟨_, _, ⟨T12, L12, k12, n12⟩, -, X12, ⟨Lc12, hQ12, l12, y12, z12⟩, st12⟩ := X0.virtualBack hx (y := (⟨"com/example/gatefold/gatefold/Condition", "holdsFor", "(Z)Z"⟩ : MethodName)) (z := (⟨"com/example/gatefold/gatefold/Condition", "holdsFor", "(Z)Z"⟩ : MethodName)) hown (mvT hZ (hw _ (List.mem_of_getElem? (i := 16) rfl))) (mvT hZ (hw _ (List.mem_of_getElem? (i := 17) rfl))) (notFace_of_selects (args := #[]) (mvT hZ (hw _ (List.mem_of_getElem? (i := 19) rfl)))) (mvT hZ (hw _ (List.mem_of_getElem? (i := 19) rfl))) (mvT hZ (hw _ (List.mem_of_getElem? (i := 18) rfl))) (by decide) (backOf (W := 0) (rm4 l Z a0 hw [] o0 (1 : Int32) od h0 n0 Z0 E_o0 F_ordinal_o0 V_od) hZ (hw _ (List.mem_of_getElem? (i := 20) rfl)) (hw _ (List.mem_of_getElem? (i := 9) rfl)) (by decide) (by decide)) q12a q12c (g := (mkF m 2 #[.val (.ref o0), .val (.ref o1)] [(.int (1 : Int32)), (.ref o0)])) rfl (by rw [hml]; rfl) (Steps.refl _) (argsL := [(.int (1 : Int32))]) (rest := []) (lenOf pd_1 rfl) rfl (by show 2 * 0 + _ ≤ _; exact Nat.le_of_eq rfl) (hb hby d3_2) (fun _ _ => ⟨rfl, e0, (by decide : 0 + 0 ≤ _), (by decide : 0 + 0 ≤ _)⟩)
      dsimp only [Pt.U, Pt.locs, Pt.cells, Pt.slots] at X12 l12 y12 z12 st12 hQ12
      subst l12 y12 z12
      obtain ⟨rfl, N12q, e12⟩ := hQ12
      have N12 := Fr.app N0 N12q
      refine Go.st (fun _ k => st12.trans k) ?_
      show Go _ _ _ _ _ _ _ T12 (mkF m 5 #[.val (.ref o0), .val (.ref o1)] [(.int (val_4 o0 (1 : Int32) od))])
      rw [show (val_4 o0 (1 : Int32) od) = (1 : Int32) from by unfold val_4; rw [if_neg (by rw [hv1]; decide : ¬ (od = (0 : Int32))), if_pos hv1]; decide +kernel]
      show Go _ _ _ _ _ _ _ T12 (mkF m 5 #[.val (.ref o0), .val (.ref o1)] [(.int (1 : Int32))])
      refine Go.st (fun _ k => XS.ifNo X12.here hx rfl (hb hby d3_5) rfl ((if0 _ _).trans (feq (by decide : ¬ ((1 : Int32) = (0 : Int32)))).1) k) ?_
      show Go _ _ _ _ _ _ _ T12 (mkF m 8 #[.val (.ref o0), .val (.ref o1)] [])
      refine Go.st (fun _ k => XS.aloadN X12.here hx rfl (hb hby d3_8) rfl rfl k) ?_
      show Go _ _ _ _ _ _ _ T12 (mkF m 9 #[.val (.ref o0), .val (.ref o1)] [(.ref o1)])
      refine Go.st (fun _ k => XS.iconst X12.here hx rfl (hb hby d3_9) k) ?_
      show Go _ _ _ _ _ _ _ T12 (mkF m 10 #[.val (.ref o0), .val (.ref o1)] [(.int (1 : Int32)), (.ref o1)])
      obtain ⟨cq13, kq13, q13a, q13b, q13c⟩ := isOf hZ e12 E_o1
      obtain ⟨_, _, ⟨T13, L13, k13, n13⟩, -, X13, ⟨Lc13, hQ13, l13, y13, z13⟩, st13⟩ := X12.virtualBack hx (y := (⟨"com/example/gatefold/gatefold/Condition", "holdsFor", "(Z)Z"⟩ : MethodName)) (z := (⟨"com/example/gatefold/gatefold/Condition", "holdsFor", "(Z)Z"⟩ : MethodName)) hown (mvT hZ (hw _ (List.mem_of_getElem? (i := 16) rfl))) (mvT hZ (hw _ (List.mem_of_getElem? (i := 17) rfl))) (notFace_of_selects (args := #[]) (mvT hZ (hw _ (List.mem_of_getElem? (i := 19) rfl)))) (mvT hZ (hw _ (List.mem_of_getElem? (i := 19) rfl))) (mvT hZ (hw _ (List.mem_of_getElem? (i := 18) rfl))) (by decide) (backOf (W := 0) (rm4 l Z a0 hw [] o1 (1 : Int32) oe h0 n0 Z0 E_o1 F_ordinal_o1 V_oe) hZ (hw _ (List.mem_of_getElem? (i := 20) rfl)) (hw _ (List.mem_of_getElem? (i := 9) rfl)) (by decide) (by decide)) q13a q13c (g := (mkF m 10 #[.val (.ref o0), .val (.ref o1)] [(.int (1 : Int32)), (.ref o1)])) rfl (by rw [hml]; rfl) (Steps.refl _) (argsL := [(.int (1 : Int32))]) (rest := []) (lenOf pd_1 rfl) rfl (by show 2 * 0 + _ ≤ _; exact Nat.le_of_eq rfl) (hb hby d3_10) (fun _ _ => ⟨rfl, e12, (by decide : 0 + 0 ≤ _), (by decide : 0 + 0 ≤ _)⟩)
      dsimp only [Pt.U, Pt.locs, Pt.cells, Pt.slots] at X13 l13 y13 z13 st13 hQ13
      subst l13 y13 z13
      obtain ⟨rfl, N13q, e13⟩ := hQ13
      have N13 := Fr.app N12 N13q
      refine Go.st (fun _ k => st13.trans k) ?_
      show Go _ _ _ _ _ _ _ T13 (mkF m 13 #[.val (.ref o0), .val (.ref o1)] [(.int (val_4 o1 (1 : Int32) oe))])
      rw [show (val_4 o1 (1 : Int32) oe) = (1 : Int32) from by unfold val_4; rw [if_pos hv11]]
      show Go _ _ _ _ _ _ _ T13 (mkF m 13 #[.val (.ref o0), .val (.ref o1)] [(.int (1 : Int32))])
      refine Go.st (fun _ k => XS.ifYes X13.here hx rfl (pc0 := 13) (pc' := 32) rfl (hb hby d3_13) rfl ((if0 _ _).trans (feq (by decide : ¬ ((1 : Int32) = (0 : Int32)))).2) (by decide) (by decide) k) ?_
      show Go _ _ _ _ _ _ _ T13 (mkF m 32 #[.val (.ref o0), .val (.ref o1)] [])
      refine Go.st (fun _ k => XS.iconst X13.here hx rfl (hb hby d3_32) k) ?_
      show Go _ _ _ _ _ _ _ T13 (mkF m 33 #[.val (.ref o0), .val (.ref o1)] [(.int (1 : Int32))])
      refine Go.st (fun _ k => XS.goto X13.here hx rfl (pc0 := 33) (pc' := 37) rfl (hb hby d3_33) (by decide) (by decide) k) ?_
      show Go _ _ _ _ _ _ _ T13 (mkF m 37 #[.val (.ref o0), .val (.ref o1)] [(.int (1 : Int32))])
      refine Go.ret X13 hlk (v := some (.int (1 : Int32))) (fun h => by rw [hret] at h; cases h) (fun fs hr => retN X13 hx (t := .boolean) hret (by simp) (hb hby d3_37) hr) ?_ (by decide) (by decide)
      show Q3 Z o0 o1 od oe h0 n0 (some (.int (1 : Int32))) T13.heap _
      rw [e13]
      refine ⟨?_, N13, rfl⟩
      unfold val_3
      rw [if_neg (by rw [hv1]; decide : ¬ (od = (0 : Int32))), if_pos hv1, if_pos hv11]
    · show Go _ _ _ _ _ _ _ s₁ (mkF m 0 #[.val (.ref o0), .val (.ref o1)] [])
      refine Go.st (fun _ k => XS.aloadN X0.here hx rfl (hb hby d3_0) rfl rfl k) ?_
      show Go _ _ _ _ _ _ _ s₁ (mkF m 1 #[.val (.ref o0), .val (.ref o1)] [(.ref o0)])
      refine Go.st (fun _ k => XS.iconst X0.here hx rfl (hb hby d3_1) k) ?_
      show Go _ _ _ _ _ _ _ s₁ (mkF m 2 #[.val (.ref o0), .val (.ref o1)] [(.int (1 : Int32)), (.ref o0)])
      obtain ⟨cq14, kq14, q14a, q14b, q14c⟩ := isOf hZ e0 E_o0
      obtain ⟨_, _, ⟨T14, L14, k14, n14⟩, -, X14, ⟨Lc14, hQ14, l14, y14, z14⟩, st14⟩ := X0.virtualBack hx (y := (⟨"com/example/gatefold/gatefold/Condition", "holdsFor", "(Z)Z"⟩ : MethodName)) (z := (⟨"com/example/gatefold/gatefold/Condition", "holdsFor", "(Z)Z"⟩ : MethodName)) hown (mvT hZ (hw _ (List.mem_of_getElem? (i := 16) rfl))) (mvT hZ (hw _ (List.mem_of_getElem? (i := 17) rfl))) (notFace_of_selects (args := #[]) (mvT hZ (hw _ (List.mem_of_getElem? (i := 19) rfl)))) (mvT hZ (hw _ (List.mem_of_getElem? (i := 19) rfl))) (mvT hZ (hw _ (List.mem_of_getElem? (i := 18) rfl))) (by decide) (backOf (W := 0) (rm4 l Z a0 hw [] o0 (1 : Int32) od h0 n0 Z0 E_o0 F_ordinal_o0 V_od) hZ (hw _ (List.mem_of_getElem? (i := 20) rfl)) (hw _ (List.mem_of_getElem? (i := 9) rfl)) (by decide) (by decide)) q14a q14c (g := (mkF m 2 #[.val (.ref o0), .val (.ref o1)] [(.int (1 : Int32)), (.ref o0)])) rfl (by rw [hml]; rfl) (Steps.refl _) (argsL := [(.int (1 : Int32))]) (rest := []) (lenOf pd_1 rfl) rfl (by show 2 * 0 + _ ≤ _; exact Nat.le_of_eq rfl) (hb hby d3_2) (fun _ _ => ⟨rfl, e0, (by decide : 0 + 0 ≤ _), (by decide : 0 + 0 ≤ _)⟩)
      dsimp only [Pt.U, Pt.locs, Pt.cells, Pt.slots] at X14 l14 y14 z14 st14 hQ14
      subst l14 y14 z14
      obtain ⟨rfl, N14q, e14⟩ := hQ14
      have N14 := Fr.app N0 N14q
      refine Go.st (fun _ k => st14.trans k) ?_
      show Go _ _ _ _ _ _ _ T14 (mkF m 5 #[.val (.ref o0), .val (.ref o1)] [(.int (val_4 o0 (1 : Int32) od))])
      rw [show (val_4 o0 (1 : Int32) od) = (1 : Int32) from by unfold val_4; rw [if_neg (by rw [hv1]; decide : ¬ (od = (0 : Int32))), if_pos hv1]; decide +kernel]
      show Go _ _ _ _ _ _ _ T14 (mkF m 5 #[.val (.ref o0), .val (.ref o1)] [(.int (1 : Int32))])
      refine Go.st (fun _ k => XS.ifNo X14.here hx rfl (hb hby d3_5) rfl ((if0 _ _).trans (feq (by decide : ¬ ((1 : Int32) = (0 : Int32)))).1) k) ?_
      show Go _ _ _ _ _ _ _ T14 (mkF m 8 #[.val (.ref o0), .val (.ref o1)] [])
      refine Go.st (fun _ k => XS.aloadN X14.here hx rfl (hb hby d3_8) rfl rfl k) ?_
      show Go _ _ _ _ _ _ _ T14 (mkF m 9 #[.val (.ref o0), .val (.ref o1)] [(.ref o1)])
      refine Go.st (fun _ k => XS.iconst X14.here hx rfl (hb hby d3_9) k) ?_
      show Go _ _ _ _ _ _ _ T14 (mkF m 10 #[.val (.ref o0), .val (.ref o1)] [(.int (1 : Int32)), (.ref o1)])
      obtain ⟨cq15, kq15, q15a, q15b, q15c⟩ := isOf hZ e14 E_o1
      obtain ⟨_, _, ⟨T15, L15, k15, n15⟩, -, X15, ⟨Lc15, hQ15, l15, y15, z15⟩, st15⟩ := X14.virtualBack hx (y := (⟨"com/example/gatefold/gatefold/Condition", "holdsFor", "(Z)Z"⟩ : MethodName)) (z := (⟨"com/example/gatefold/gatefold/Condition", "holdsFor", "(Z)Z"⟩ : MethodName)) hown (mvT hZ (hw _ (List.mem_of_getElem? (i := 16) rfl))) (mvT hZ (hw _ (List.mem_of_getElem? (i := 17) rfl))) (notFace_of_selects (args := #[]) (mvT hZ (hw _ (List.mem_of_getElem? (i := 19) rfl)))) (mvT hZ (hw _ (List.mem_of_getElem? (i := 19) rfl))) (mvT hZ (hw _ (List.mem_of_getElem? (i := 18) rfl))) (by decide) (backOf (W := 0) (rm4 l Z a0 hw [] o1 (1 : Int32) oe h0 n0 Z0 E_o1 F_ordinal_o1 V_oe) hZ (hw _ (List.mem_of_getElem? (i := 20) rfl)) (hw _ (List.mem_of_getElem? (i := 9) rfl)) (by decide) (by decide)) q15a q15c (g := (mkF m 10 #[.val (.ref o0), .val (.ref o1)] [(.int (1 : Int32)), (.ref o1)])) rfl (by rw [hml]; rfl) (Steps.refl _) (argsL := [(.int (1 : Int32))]) (rest := []) (lenOf pd_1 rfl) rfl (by show 2 * 0 + _ ≤ _; exact Nat.le_of_eq rfl) (hb hby d3_10) (fun _ _ => ⟨rfl, e14, (by decide : 0 + 0 ≤ _), (by decide : 0 + 0 ≤ _)⟩)
      dsimp only [Pt.U, Pt.locs, Pt.cells, Pt.slots] at X15 l15 y15 z15 st15 hQ15
      subst l15 y15 z15
      obtain ⟨rfl, N15q, e15⟩ := hQ15
      have N15 := Fr.app N14 N15q
      refine Go.st (fun _ k => st15.trans k) ?_
      show Go _ _ _ _ _ _ _ T15 (mkF m 13 #[.val (.ref o0), .val (.ref o1)] [(.int (val_4 o1 (1 : Int32) oe))])
      rw [show (val_4 o1 (1 : Int32) oe) = (1 : Int32) from by unfold val_4; rw [if_neg (by rw [hv11]; decide : ¬ (oe = (0 : Int32))), if_pos hv11]; decide +kernel]
      show Go _ _ _ _ _ _ _ T15 (mkF m 13 #[.val (.ref o0), .val (.ref o1)] [(.int (1 : Int32))])
      refine Go.st (fun _ k => XS.ifYes X15.here hx rfl (pc0 := 13) (pc' := 32) rfl (hb hby d3_13) rfl ((if0 _ _).trans (feq (by decide : ¬ ((1 : Int32) = (0 : Int32)))).2) (by decide) (by decide) k) ?_
      show Go _ _ _ _ _ _ _ T15 (mkF m 32 #[.val (.ref o0), .val (.ref o1)] [])
      refine Go.st (fun _ k => XS.iconst X15.here hx rfl (hb hby d3_32) k) ?_
      show Go _ _ _ _ _ _ _ T15 (mkF m 33 #[.val (.ref o0), .val (.ref o1)] [(.int (1 : Int32))])
      refine Go.st (fun _ k => XS.goto X15.here hx rfl (pc0 := 33) (pc' := 37) rfl (hb hby d3_33) (by decide) (by decide) k) ?_
      show Go _ _ _ _ _ _ _ T15 (mkF m 37 #[.val (.ref o0), .val (.ref o1)] [(.int (1 : Int32))])
      refine Go.ret X15 hlk (v := some (.int (1 : Int32))) (fun h => by rw [hret] at h; cases h) (fun fs hr => retN X15 hx (t := .boolean) hret (by simp) (hb hby d3_37) hr) ?_ (by decide) (by decide)
      show Q3 Z o0 o1 od oe h0 n0 (some (.int (1 : Int32))) T15.heap _
      rw [e15]
      refine ⟨?_, N15, rfl⟩
      unfold val_3
      rw [if_neg (by rw [hv1]; decide : ¬ (od = (0 : Int32))), if_pos hv1, if_neg (by rw [hv11]; decide : ¬ (oe = (0 : Int32))), if_pos hv11]
    · show Go _ _ _ _ _ _ _ s₁ (mkF m 0 #[.val (.ref o0), .val (.ref o1)] [])
      refine Go.st (fun _ k => XS.aloadN X0.here hx rfl (hb hby d3_0) rfl rfl k) ?_
      show Go _ _ _ _ _ _ _ s₁ (mkF m 1 #[.val (.ref o0), .val (.ref o1)] [(.ref o0)])
      refine Go.st (fun _ k => XS.iconst X0.here hx rfl (hb hby d3_1) k) ?_
      show Go _ _ _ _ _ _ _ s₁ (mkF m 2 #[.val (.ref o0), .val (.ref o1)] [(.int (1 : Int32)), (.ref o0)])
      obtain ⟨cq16, kq16, q16a, q16b, q16c⟩ := isOf hZ e0 E_o0
      obtain ⟨_, _, ⟨T16, L16, k16, n16⟩, -, X16, ⟨Lc16, hQ16, l16, y16, z16⟩, st16⟩ := X0.virtualBack hx (y := (⟨"com/example/gatefold/gatefold/Condition", "holdsFor", "(Z)Z"⟩ : MethodName)) (z := (⟨"com/example/gatefold/gatefold/Condition", "holdsFor", "(Z)Z"⟩ : MethodName)) hown (mvT hZ (hw _ (List.mem_of_getElem? (i := 16) rfl))) (mvT hZ (hw _ (List.mem_of_getElem? (i := 17) rfl))) (notFace_of_selects (args := #[]) (mvT hZ (hw _ (List.mem_of_getElem? (i := 19) rfl)))) (mvT hZ (hw _ (List.mem_of_getElem? (i := 19) rfl))) (mvT hZ (hw _ (List.mem_of_getElem? (i := 18) rfl))) (by decide) (backOf (W := 0) (rm4 l Z a0 hw [] o0 (1 : Int32) od h0 n0 Z0 E_o0 F_ordinal_o0 V_od) hZ (hw _ (List.mem_of_getElem? (i := 20) rfl)) (hw _ (List.mem_of_getElem? (i := 9) rfl)) (by decide) (by decide)) q16a q16c (g := (mkF m 2 #[.val (.ref o0), .val (.ref o1)] [(.int (1 : Int32)), (.ref o0)])) rfl (by rw [hml]; rfl) (Steps.refl _) (argsL := [(.int (1 : Int32))]) (rest := []) (lenOf pd_1 rfl) rfl (by show 2 * 0 + _ ≤ _; exact Nat.le_of_eq rfl) (hb hby d3_2) (fun _ _ => ⟨rfl, e0, (by decide : 0 + 0 ≤ _), (by decide : 0 + 0 ≤ _)⟩)
      dsimp only [Pt.U, Pt.locs, Pt.cells, Pt.slots] at X16 l16 y16 z16 st16 hQ16
      subst l16 y16 z16
      obtain ⟨rfl, N16q, e16⟩ := hQ16
      have N16 := Fr.app N0 N16q
      refine Go.st (fun _ k => st16.trans k) ?_
      show Go _ _ _ _ _ _ _ T16 (mkF m 5 #[.val (.ref o0), .val (.ref o1)] [(.int (val_4 o0 (1 : Int32) od))])
      rw [show (val_4 o0 (1 : Int32) od) = (1 : Int32) from by unfold val_4; rw [if_neg (by rw [hv1]; decide : ¬ (od = (0 : Int32))), if_pos hv1]; decide +kernel]
      show Go _ _ _ _ _ _ _ T16 (mkF m 5 #[.val (.ref o0), .val (.ref o1)] [(.int (1 : Int32))])
      refine Go.st (fun _ k => XS.ifNo X16.here hx rfl (hb hby d3_5) rfl ((if0 _ _).trans (feq (by decide : ¬ ((1 : Int32) = (0 : Int32)))).1) k) ?_
      show Go _ _ _ _ _ _ _ T16 (mkF m 8 #[.val (.ref o0), .val (.ref o1)] [])
      refine Go.st (fun _ k => XS.aloadN X16.here hx rfl (hb hby d3_8) rfl rfl k) ?_
      show Go _ _ _ _ _ _ _ T16 (mkF m 9 #[.val (.ref o0), .val (.ref o1)] [(.ref o1)])
      refine Go.st (fun _ k => XS.iconst X16.here hx rfl (hb hby d3_9) k) ?_
      show Go _ _ _ _ _ _ _ T16 (mkF m 10 #[.val (.ref o0), .val (.ref o1)] [(.int (1 : Int32)), (.ref o1)])
      obtain ⟨cq17, kq17, q17a, q17b, q17c⟩ := isOf hZ e16 E_o1
      obtain ⟨_, _, ⟨T17, L17, k17, n17⟩, -, X17, ⟨Lc17, hQ17, l17, y17, z17⟩, st17⟩ := X16.virtualBack hx (y := (⟨"com/example/gatefold/gatefold/Condition", "holdsFor", "(Z)Z"⟩ : MethodName)) (z := (⟨"com/example/gatefold/gatefold/Condition", "holdsFor", "(Z)Z"⟩ : MethodName)) hown (mvT hZ (hw _ (List.mem_of_getElem? (i := 16) rfl))) (mvT hZ (hw _ (List.mem_of_getElem? (i := 17) rfl))) (notFace_of_selects (args := #[]) (mvT hZ (hw _ (List.mem_of_getElem? (i := 19) rfl)))) (mvT hZ (hw _ (List.mem_of_getElem? (i := 19) rfl))) (mvT hZ (hw _ (List.mem_of_getElem? (i := 18) rfl))) (by decide) (backOf (W := 0) (rm4 l Z a0 hw [] o1 (1 : Int32) oe h0 n0 Z0 E_o1 F_ordinal_o1 V_oe) hZ (hw _ (List.mem_of_getElem? (i := 20) rfl)) (hw _ (List.mem_of_getElem? (i := 9) rfl)) (by decide) (by decide)) q17a q17c (g := (mkF m 10 #[.val (.ref o0), .val (.ref o1)] [(.int (1 : Int32)), (.ref o1)])) rfl (by rw [hml]; rfl) (Steps.refl _) (argsL := [(.int (1 : Int32))]) (rest := []) (lenOf pd_1 rfl) rfl (by show 2 * 0 + _ ≤ _; exact Nat.le_of_eq rfl) (hb hby d3_10) (fun _ _ => ⟨rfl, e16, (by decide : 0 + 0 ≤ _), (by decide : 0 + 0 ≤ _)⟩)
      dsimp only [Pt.U, Pt.locs, Pt.cells, Pt.slots] at X17 l17 y17 z17 st17 hQ17
      subst l17 y17 z17
      obtain ⟨rfl, N17q, e17⟩ := hQ17
      have N17 := Fr.app N16 N17q
      refine Go.st (fun _ k => st17.trans k) ?_
      show Go _ _ _ _ _ _ _ T17 (mkF m 13 #[.val (.ref o0), .val (.ref o1)] [(.int (val_4 o1 (1 : Int32) oe))])
      rw [show (val_4 o1 (1 : Int32) oe) = (0 : Int32) from by unfold val_4; rw [if_neg (by rw [hv11]; decide : ¬ (oe = (0 : Int32))), if_neg (by rw [hv11]; decide : ¬ (oe = (1 : Int32))), if_neg (by decide +kernel : ¬ ((1 : Int32) = (0 : Int32)))]]
      show Go _ _ _ _ _ _ _ T17 (mkF m 13 #[.val (.ref o0), .val (.ref o1)] [(.int (0 : Int32))])
      refine Go.st (fun _ k => XS.ifNo X17.here hx rfl (hb hby d3_13) rfl ((if0 _ _).trans (teq (by decide : (0 : Int32) = (0 : Int32))).2) k) ?_
      show Go _ _ _ _ _ _ _ T17 (mkF m 16 #[.val (.ref o0), .val (.ref o1)] [])
      refine Go.st (fun _ k => XS.aloadN X17.here hx rfl (hb hby d3_16) rfl rfl k) ?_
      show Go _ _ _ _ _ _ _ T17 (mkF m 17 #[.val (.ref o0), .val (.ref o1)] [(.ref o0)])
      refine Go.st (fun _ k => XS.iconst X17.here hx rfl (hb hby d3_17) k) ?_
      show Go _ _ _ _ _ _ _ T17 (mkF m 18 #[.val (.ref o0), .val (.ref o1)] [(.int (0 : Int32)), (.ref o0)])
      obtain ⟨cq18, kq18, q18a, q18b, q18c⟩ := isOf hZ e17 E_o0
      obtain ⟨_, _, ⟨T18, L18, k18, n18⟩, -, X18, ⟨Lc18, hQ18, l18, y18, z18⟩, st18⟩ := X17.virtualBack hx (y := (⟨"com/example/gatefold/gatefold/Condition", "holdsFor", "(Z)Z"⟩ : MethodName)) (z := (⟨"com/example/gatefold/gatefold/Condition", "holdsFor", "(Z)Z"⟩ : MethodName)) hown (mvT hZ (hw _ (List.mem_of_getElem? (i := 16) rfl))) (mvT hZ (hw _ (List.mem_of_getElem? (i := 17) rfl))) (notFace_of_selects (args := #[]) (mvT hZ (hw _ (List.mem_of_getElem? (i := 19) rfl)))) (mvT hZ (hw _ (List.mem_of_getElem? (i := 19) rfl))) (mvT hZ (hw _ (List.mem_of_getElem? (i := 18) rfl))) (by decide) (backOf (W := 0) (rm4 l Z a0 hw [] o0 (0 : Int32) od h0 n0 Z0 E_o0 F_ordinal_o0 V_od) hZ (hw _ (List.mem_of_getElem? (i := 20) rfl)) (hw _ (List.mem_of_getElem? (i := 9) rfl)) (by decide) (by decide)) q18a q18c (g := (mkF m 18 #[.val (.ref o0), .val (.ref o1)] [(.int (0 : Int32)), (.ref o0)])) rfl (by rw [hml]; rfl) (Steps.refl _) (argsL := [(.int (0 : Int32))]) (rest := []) (lenOf pd_1 rfl) rfl (by show 2 * 0 + _ ≤ _; exact Nat.le_of_eq rfl) (hb hby d3_18) (fun _ _ => ⟨rfl, e17, (by decide : 0 + 0 ≤ _), (by decide : 0 + 0 ≤ _)⟩)
      dsimp only [Pt.U, Pt.locs, Pt.cells, Pt.slots] at X18 l18 y18 z18 st18 hQ18
      subst l18 y18 z18
      obtain ⟨rfl, N18q, e18⟩ := hQ18
      have N18 := Fr.app N17 N18q
      refine Go.st (fun _ k => st18.trans k) ?_
      show Go _ _ _ _ _ _ _ T18 (mkF m 21 #[.val (.ref o0), .val (.ref o1)] [(.int (val_4 o0 (0 : Int32) od))])
      rw [show (val_4 o0 (0 : Int32) od) = (0 : Int32) from by unfold val_4; rw [if_neg (by rw [hv1]; decide : ¬ (od = (0 : Int32))), if_pos hv1]; decide +kernel]
      show Go _ _ _ _ _ _ _ T18 (mkF m 21 #[.val (.ref o0), .val (.ref o1)] [(.int (0 : Int32))])
      refine Go.st (fun _ k => XS.ifYes X18.here hx rfl (pc0 := 21) (pc' := 36) rfl (hb hby d3_21) rfl ((if0 _ _).trans (teq (by decide : (0 : Int32) = (0 : Int32))).1) (by decide) (by decide) k) ?_
      show Go _ _ _ _ _ _ _ T18 (mkF m 36 #[.val (.ref o0), .val (.ref o1)] [])
      refine Go.st (fun _ k => XS.iconst X18.here hx rfl (hb hby d3_36) k) ?_
      show Go _ _ _ _ _ _ _ T18 (mkF m 37 #[.val (.ref o0), .val (.ref o1)] [(.int (0 : Int32))])
      refine Go.ret X18 hlk (v := some (.int (0 : Int32))) (fun h => by rw [hret] at h; cases h) (fun fs hr => retN X18 hx (t := .boolean) hret (by simp) (hb hby d3_37) hr) ?_ (by decide) (by decide)
      show Q3 Z o0 o1 od oe h0 n0 (some (.int (0 : Int32))) T18.heap _
      rw [e18]
      refine ⟨?_, N18, rfl⟩
      unfold val_3
      rw [if_neg (by rw [hv1]; decide : ¬ (od = (0 : Int32))), if_pos hv1, if_neg (by rw [hv11]; decide : ¬ (oe = (0 : Int32))), if_neg (by rw [hv11]; decide : ¬ (oe = (1 : Int32)))]
  · rcases id V_oe with hv19 | hv19 | hv19
    · show Go _ _ _ _ _ _ _ s₁ (mkF m 0 #[.val (.ref o0), .val (.ref o1)] [])
      refine Go.st (fun _ k => XS.aloadN X0.here hx rfl (hb hby d3_0) rfl rfl k) ?_
      show Go _ _ _ _ _ _ _ s₁ (mkF m 1 #[.val (.ref o0), .val (.ref o1)] [(.ref o0)])
      refine Go.st (fun _ k => XS.iconst X0.here hx rfl (hb hby d3_1) k) ?_
      show Go _ _ _ _ _ _ _ s₁ (mkF m 2 #[.val (.ref o0), .val (.ref o1)] [(.int (1 : Int32)), (.ref o0)])
      obtain ⟨cq20, kq20, q20a, q20b, q20c⟩ := isOf hZ e0 E_o0
      obtain ⟨_, _, ⟨T20, L20, k20, n20⟩, -, X20, ⟨Lc20, hQ20, l20, y20, z20⟩, st20⟩ := X0.virtualBack hx (y := (⟨"com/example/gatefold/gatefold/Condition", "holdsFor", "(Z)Z"⟩ : MethodName)) (z := (⟨"com/example/gatefold/gatefold/Condition", "holdsFor", "(Z)Z"⟩ : MethodName)) hown (mvT hZ (hw _ (List.mem_of_getElem? (i := 16) rfl))) (mvT hZ (hw _ (List.mem_of_getElem? (i := 17) rfl))) (notFace_of_selects (args := #[]) (mvT hZ (hw _ (List.mem_of_getElem? (i := 19) rfl)))) (mvT hZ (hw _ (List.mem_of_getElem? (i := 19) rfl))) (mvT hZ (hw _ (List.mem_of_getElem? (i := 18) rfl))) (by decide) (backOf (W := 0) (rm4 l Z a0 hw [] o0 (1 : Int32) od h0 n0 Z0 E_o0 F_ordinal_o0 V_od) hZ (hw _ (List.mem_of_getElem? (i := 20) rfl)) (hw _ (List.mem_of_getElem? (i := 9) rfl)) (by decide) (by decide)) q20a q20c (g := (mkF m 2 #[.val (.ref o0), .val (.ref o1)] [(.int (1 : Int32)), (.ref o0)])) rfl (by rw [hml]; rfl) (Steps.refl _) (argsL := [(.int (1 : Int32))]) (rest := []) (lenOf pd_1 rfl) rfl (by show 2 * 0 + _ ≤ _; exact Nat.le_of_eq rfl) (hb hby d3_2) (fun _ _ => ⟨rfl, e0, (by decide : 0 + 0 ≤ _), (by decide : 0 + 0 ≤ _)⟩)
      dsimp only [Pt.U, Pt.locs, Pt.cells, Pt.slots] at X20 l20 y20 z20 st20 hQ20
      subst l20 y20 z20
      obtain ⟨rfl, N20q, e20⟩ := hQ20
      have N20 := Fr.app N0 N20q
      refine Go.st (fun _ k => st20.trans k) ?_
      show Go _ _ _ _ _ _ _ T20 (mkF m 5 #[.val (.ref o0), .val (.ref o1)] [(.int (val_4 o0 (1 : Int32) od))])
      rw [show (val_4 o0 (1 : Int32) od) = (0 : Int32) from by unfold val_4; rw [if_neg (by rw [hv1]; decide : ¬ (od = (0 : Int32))), if_neg (by rw [hv1]; decide : ¬ (od = (1 : Int32))), if_neg (by decide +kernel : ¬ ((1 : Int32) = (0 : Int32)))]]
      show Go _ _ _ _ _ _ _ T20 (mkF m 5 #[.val (.ref o0), .val (.ref o1)] [(.int (0 : Int32))])
      refine Go.st (fun _ k => XS.ifYes X20.here hx rfl (pc0 := 5) (pc' := 16) rfl (hb hby d3_5) rfl ((if0 _ _).trans (teq (by decide : (0 : Int32) = (0 : Int32))).1) (by decide) (by decide) k) ?_
      show Go _ _ _ _ _ _ _ T20 (mkF m 16 #[.val (.ref o0), .val (.ref o1)] [])
      refine Go.st (fun _ k => XS.aloadN X20.here hx rfl (hb hby d3_16) rfl rfl k) ?_
      show Go _ _ _ _ _ _ _ T20 (mkF m 17 #[.val (.ref o0), .val (.ref o1)] [(.ref o0)])
      refine Go.st (fun _ k => XS.iconst X20.here hx rfl (hb hby d3_17) k) ?_
      show Go _ _ _ _ _ _ _ T20 (mkF m 18 #[.val (.ref o0), .val (.ref o1)] [(.int (0 : Int32)), (.ref o0)])
      obtain ⟨cq21, kq21, q21a, q21b, q21c⟩ := isOf hZ e20 E_o0
      obtain ⟨_, _, ⟨T21, L21, k21, n21⟩, -, X21, ⟨Lc21, hQ21, l21, y21, z21⟩, st21⟩ := X20.virtualBack hx (y := (⟨"com/example/gatefold/gatefold/Condition", "holdsFor", "(Z)Z"⟩ : MethodName)) (z := (⟨"com/example/gatefold/gatefold/Condition", "holdsFor", "(Z)Z"⟩ : MethodName)) hown (mvT hZ (hw _ (List.mem_of_getElem? (i := 16) rfl))) (mvT hZ (hw _ (List.mem_of_getElem? (i := 17) rfl))) (notFace_of_selects (args := #[]) (mvT hZ (hw _ (List.mem_of_getElem? (i := 19) rfl)))) (mvT hZ (hw _ (List.mem_of_getElem? (i := 19) rfl))) (mvT hZ (hw _ (List.mem_of_getElem? (i := 18) rfl))) (by decide) (backOf (W := 0) (rm4 l Z a0 hw [] o0 (0 : Int32) od h0 n0 Z0 E_o0 F_ordinal_o0 V_od) hZ (hw _ (List.mem_of_getElem? (i := 20) rfl)) (hw _ (List.mem_of_getElem? (i := 9) rfl)) (by decide) (by decide)) q21a q21c (g := (mkF m 18 #[.val (.ref o0), .val (.ref o1)] [(.int (0 : Int32)), (.ref o0)])) rfl (by rw [hml]; rfl) (Steps.refl _) (argsL := [(.int (0 : Int32))]) (rest := []) (lenOf pd_1 rfl) rfl (by show 2 * 0 + _ ≤ _; exact Nat.le_of_eq rfl) (hb hby d3_18) (fun _ _ => ⟨rfl, e20, (by decide : 0 + 0 ≤ _), (by decide : 0 + 0 ≤ _)⟩)
      dsimp only [Pt.U, Pt.locs, Pt.cells, Pt.slots] at X21 l21 y21 z21 st21 hQ21
      subst l21 y21 z21
      obtain ⟨rfl, N21q, e21⟩ := hQ21
      have N21 := Fr.app N20 N21q
      refine Go.st (fun _ k => st21.trans k) ?_
      show Go _ _ _ _ _ _ _ T21 (mkF m 21 #[.val (.ref o0), .val (.ref o1)] [(.int (val_4 o0 (0 : Int32) od))])
      rw [show (val_4 o0 (0 : Int32) od) = (1 : Int32) from by unfold val_4; rw [if_neg (by rw [hv1]; decide : ¬ (od = (0 : Int32))), if_neg (by rw [hv1]; decide : ¬ (od = (1 : Int32))), if_pos (by decide +kernel : (0 : Int32) = (0 : Int32))]]
      show Go _ _ _ _ _ _ _ T21 (mkF m 21 #[.val (.ref o0), .val (.ref o1)] [(.int (1 : Int32))])
      refine Go.st (fun _ k => XS.ifNo X21.here hx rfl (hb hby d3_21) rfl ((if0 _ _).trans (feq (by decide : ¬ ((1 : Int32) = (0 : Int32)))).1) k) ?_
      show Go _ _ _ _ _ _ _ T21 (mkF m 24 #[.val (.ref o0), .val (.ref o1)] [])
      refine Go.st (fun _ k => XS.aloadN X21.here hx rfl (hb hby d3_24) rfl rfl k) ?_
      show Go _ _ _ _ _ _ _ T21 (mkF m 25 #[.val (.ref o0), .val (.ref o1)] [(.ref o1)])
      refine Go.st (fun _ k => XS.iconst X21.here hx rfl (hb hby d3_25) k) ?_
      show Go _ _ _ _ _ _ _ T21 (mkF m 26 #[.val (.ref o0), .val (.ref o1)] [(.int (0 : Int32)), (.ref o1)])
      obtain ⟨cq22, kq22, q22a, q22b, q22c⟩ := isOf hZ e21 E_o1
      obtain ⟨_, _, ⟨T22, L22, k22, n22⟩, -, X22, ⟨Lc22, hQ22, l22, y22, z22⟩, st22⟩ := X21.virtualBack hx (y := (⟨"com/example/gatefold/gatefold/Condition", "holdsFor", "(Z)Z"⟩ : MethodName)) (z := (⟨"com/example/gatefold/gatefold/Condition", "holdsFor", "(Z)Z"⟩ : MethodName)) hown (mvT hZ (hw _ (List.mem_of_getElem? (i := 16) rfl))) (mvT hZ (hw _ (List.mem_of_getElem? (i := 17) rfl))) (notFace_of_selects (args := #[]) (mvT hZ (hw _ (List.mem_of_getElem? (i := 19) rfl)))) (mvT hZ (hw _ (List.mem_of_getElem? (i := 19) rfl))) (mvT hZ (hw _ (List.mem_of_getElem? (i := 18) rfl))) (by decide) (backOf (W := 0) (rm4 l Z a0 hw [] o1 (0 : Int32) oe h0 n0 Z0 E_o1 F_ordinal_o1 V_oe) hZ (hw _ (List.mem_of_getElem? (i := 20) rfl)) (hw _ (List.mem_of_getElem? (i := 9) rfl)) (by decide) (by decide)) q22a q22c (g := (mkF m 26 #[.val (.ref o0), .val (.ref o1)] [(.int (0 : Int32)), (.ref o1)])) rfl (by rw [hml]; rfl) (Steps.refl _) (argsL := [(.int (0 : Int32))]) (rest := []) (lenOf pd_1 rfl) rfl (by show 2 * 0 + _ ≤ _; exact Nat.le_of_eq rfl) (hb hby d3_26) (fun _ _ => ⟨rfl, e21, (by decide : 0 + 0 ≤ _), (by decide : 0 + 0 ≤ _)⟩)
      dsimp only [Pt.U, Pt.locs, Pt.cells, Pt.slots] at X22 l22 y22 z22 st22 hQ22
      subst l22 y22 z22
      obtain ⟨rfl, N22q, e22⟩ := hQ22
      have N22 := Fr.app N21 N22q
      refine Go.st (fun _ k => st22.trans k) ?_
      show Go _ _ _ _ _ _ _ T22 (mkF m 29 #[.val (.ref o0), .val (.ref o1)] [(.int (val_4 o1 (0 : Int32) oe))])
      rw [show (val_4 o1 (0 : Int32) oe) = (1 : Int32) from by unfold val_4; rw [if_pos hv19]]
      show Go _ _ _ _ _ _ _ T22 (mkF m 29 #[.val (.ref o0), .val (.ref o1)] [(.int (1 : Int32))])
      refine Go.st (fun _ k => XS.ifNo X22.here hx rfl (hb hby d3_29) rfl ((if0 _ _).trans (feq (by decide : ¬ ((1 : Int32) = (0 : Int32)))).1) k) ?_
      show Go _ _ _ _ _ _ _ T22 (mkF m 32 #[.val (.ref o0), .val (.ref o1)] [])
      refine Go.st (fun _ k => XS.iconst X22.here hx rfl (hb hby d3_32) k) ?_
      show Go _ _ _ _ _ _ _ T22 (mkF m 33 #[.val (.ref o0), .val (.ref o1)] [(.int (1 : Int32))])
      refine Go.st (fun _ k => XS.goto X22.here hx rfl (pc0 := 33) (pc' := 37) rfl (hb hby d3_33) (by decide) (by decide) k) ?_
      show Go _ _ _ _ _ _ _ T22 (mkF m 37 #[.val (.ref o0), .val (.ref o1)] [(.int (1 : Int32))])
      refine Go.ret X22 hlk (v := some (.int (1 : Int32))) (fun h => by rw [hret] at h; cases h) (fun fs hr => retN X22 hx (t := .boolean) hret (by simp) (hb hby d3_37) hr) ?_ (by decide) (by decide)
      show Q3 Z o0 o1 od oe h0 n0 (some (.int (1 : Int32))) T22.heap _
      rw [e22]
      refine ⟨?_, N22, rfl⟩
      unfold val_3
      rw [if_neg (by rw [hv1]; decide : ¬ (od = (0 : Int32))), if_neg (by rw [hv1]; decide : ¬ (od = (1 : Int32))), if_pos hv19]
    · show Go _ _ _ _ _ _ _ s₁ (mkF m 0 #[.val (.ref o0), .val (.ref o1)] [])
      refine Go.st (fun _ k => XS.aloadN X0.here hx rfl (hb hby d3_0) rfl rfl k) ?_
      show Go _ _ _ _ _ _ _ s₁ (mkF m 1 #[.val (.ref o0), .val (.ref o1)] [(.ref o0)])
      refine Go.st (fun _ k => XS.iconst X0.here hx rfl (hb hby d3_1) k) ?_
      show Go _ _ _ _ _ _ _ s₁ (mkF m 2 #[.val (.ref o0), .val (.ref o1)] [(.int (1 : Int32)), (.ref o0)])
      obtain ⟨cq23, kq23, q23a, q23b, q23c⟩ := isOf hZ e0 E_o0
      obtain ⟨_, _, ⟨T23, L23, k23, n23⟩, -, X23, ⟨Lc23, hQ23, l23, y23, z23⟩, st23⟩ := X0.virtualBack hx (y := (⟨"com/example/gatefold/gatefold/Condition", "holdsFor", "(Z)Z"⟩ : MethodName)) (z := (⟨"com/example/gatefold/gatefold/Condition", "holdsFor", "(Z)Z"⟩ : MethodName)) hown (mvT hZ (hw _ (List.mem_of_getElem? (i := 16) rfl))) (mvT hZ (hw _ (List.mem_of_getElem? (i := 17) rfl))) (notFace_of_selects (args := #[]) (mvT hZ (hw _ (List.mem_of_getElem? (i := 19) rfl)))) (mvT hZ (hw _ (List.mem_of_getElem? (i := 19) rfl))) (mvT hZ (hw _ (List.mem_of_getElem? (i := 18) rfl))) (by decide) (backOf (W := 0) (rm4 l Z a0 hw [] o0 (1 : Int32) od h0 n0 Z0 E_o0 F_ordinal_o0 V_od) hZ (hw _ (List.mem_of_getElem? (i := 20) rfl)) (hw _ (List.mem_of_getElem? (i := 9) rfl)) (by decide) (by decide)) q23a q23c (g := (mkF m 2 #[.val (.ref o0), .val (.ref o1)] [(.int (1 : Int32)), (.ref o0)])) rfl (by rw [hml]; rfl) (Steps.refl _) (argsL := [(.int (1 : Int32))]) (rest := []) (lenOf pd_1 rfl) rfl (by show 2 * 0 + _ ≤ _; exact Nat.le_of_eq rfl) (hb hby d3_2) (fun _ _ => ⟨rfl, e0, (by decide : 0 + 0 ≤ _), (by decide : 0 + 0 ≤ _)⟩)
      dsimp only [Pt.U, Pt.locs, Pt.cells, Pt.slots] at X23 l23 y23 z23 st23 hQ23
      subst l23 y23 z23
      obtain ⟨rfl, N23q, e23⟩ := hQ23
      have N23 := Fr.app N0 N23q
      refine Go.st (fun _ k => st23.trans k) ?_
      show Go _ _ _ _ _ _ _ T23 (mkF m 5 #[.val (.ref o0), .val (.ref o1)] [(.int (val_4 o0 (1 : Int32) od))])
      rw [show (val_4 o0 (1 : Int32) od) = (0 : Int32) from by unfold val_4; rw [if_neg (by rw [hv1]; decide : ¬ (od = (0 : Int32))), if_neg (by rw [hv1]; decide : ¬ (od = (1 : Int32))), if_neg (by decide +kernel : ¬ ((1 : Int32) = (0 : Int32)))]]
      show Go _ _ _ _ _ _ _ T23 (mkF m 5 #[.val (.ref o0), .val (.ref o1)] [(.int (0 : Int32))])
      refine Go.st (fun _ k => XS.ifYes X23.here hx rfl (pc0 := 5) (pc' := 16) rfl (hb hby d3_5) rfl ((if0 _ _).trans (teq (by decide : (0 : Int32) = (0 : Int32))).1) (by decide) (by decide) k) ?_
      show Go _ _ _ _ _ _ _ T23 (mkF m 16 #[.val (.ref o0), .val (.ref o1)] [])
      refine Go.st (fun _ k => XS.aloadN X23.here hx rfl (hb hby d3_16) rfl rfl k) ?_
      show Go _ _ _ _ _ _ _ T23 (mkF m 17 #[.val (.ref o0), .val (.ref o1)] [(.ref o0)])
      refine Go.st (fun _ k => XS.iconst X23.here hx rfl (hb hby d3_17) k) ?_
      show Go _ _ _ _ _ _ _ T23 (mkF m 18 #[.val (.ref o0), .val (.ref o1)] [(.int (0 : Int32)), (.ref o0)])
      obtain ⟨cq24, kq24, q24a, q24b, q24c⟩ := isOf hZ e23 E_o0
      obtain ⟨_, _, ⟨T24, L24, k24, n24⟩, -, X24, ⟨Lc24, hQ24, l24, y24, z24⟩, st24⟩ := X23.virtualBack hx (y := (⟨"com/example/gatefold/gatefold/Condition", "holdsFor", "(Z)Z"⟩ : MethodName)) (z := (⟨"com/example/gatefold/gatefold/Condition", "holdsFor", "(Z)Z"⟩ : MethodName)) hown (mvT hZ (hw _ (List.mem_of_getElem? (i := 16) rfl))) (mvT hZ (hw _ (List.mem_of_getElem? (i := 17) rfl))) (notFace_of_selects (args := #[]) (mvT hZ (hw _ (List.mem_of_getElem? (i := 19) rfl)))) (mvT hZ (hw _ (List.mem_of_getElem? (i := 19) rfl))) (mvT hZ (hw _ (List.mem_of_getElem? (i := 18) rfl))) (by decide) (backOf (W := 0) (rm4 l Z a0 hw [] o0 (0 : Int32) od h0 n0 Z0 E_o0 F_ordinal_o0 V_od) hZ (hw _ (List.mem_of_getElem? (i := 20) rfl)) (hw _ (List.mem_of_getElem? (i := 9) rfl)) (by decide) (by decide)) q24a q24c (g := (mkF m 18 #[.val (.ref o0), .val (.ref o1)] [(.int (0 : Int32)), (.ref o0)])) rfl (by rw [hml]; rfl) (Steps.refl _) (argsL := [(.int (0 : Int32))]) (rest := []) (lenOf pd_1 rfl) rfl (by show 2 * 0 + _ ≤ _; exact Nat.le_of_eq rfl) (hb hby d3_18) (fun _ _ => ⟨rfl, e23, (by decide : 0 + 0 ≤ _), (by decide : 0 + 0 ≤ _)⟩)
      dsimp only [Pt.U, Pt.locs, Pt.cells, Pt.slots] at X24 l24 y24 z24 st24 hQ24
      subst l24 y24 z24
      obtain ⟨rfl, N24q, e24⟩ := hQ24
      have N24 := Fr.app N23 N24q
      refine Go.st (fun _ k => st24.trans k) ?_
      show Go _ _ _ _ _ _ _ T24 (mkF m 21 #[.val (.ref o0), .val (.ref o1)] [(.int (val_4 o0 (0 : Int32) od))])
      rw [show (val_4 o0 (0 : Int32) od) = (1 : Int32) from by unfold val_4; rw [if_neg (by rw [hv1]; decide : ¬ (od = (0 : Int32))), if_neg (by rw [hv1]; decide : ¬ (od = (1 : Int32))), if_pos (by decide +kernel : (0 : Int32) = (0 : Int32))]]
      show Go _ _ _ _ _ _ _ T24 (mkF m 21 #[.val (.ref o0), .val (.ref o1)] [(.int (1 : Int32))])
      refine Go.st (fun _ k => XS.ifNo X24.here hx rfl (hb hby d3_21) rfl ((if0 _ _).trans (feq (by decide : ¬ ((1 : Int32) = (0 : Int32)))).1) k) ?_
      show Go _ _ _ _ _ _ _ T24 (mkF m 24 #[.val (.ref o0), .val (.ref o1)] [])
      refine Go.st (fun _ k => XS.aloadN X24.here hx rfl (hb hby d3_24) rfl rfl k) ?_
      show Go _ _ _ _ _ _ _ T24 (mkF m 25 #[.val (.ref o0), .val (.ref o1)] [(.ref o1)])
      refine Go.st (fun _ k => XS.iconst X24.here hx rfl (hb hby d3_25) k) ?_
      show Go _ _ _ _ _ _ _ T24 (mkF m 26 #[.val (.ref o0), .val (.ref o1)] [(.int (0 : Int32)), (.ref o1)])
      obtain ⟨cq25, kq25, q25a, q25b, q25c⟩ := isOf hZ e24 E_o1
      obtain ⟨_, _, ⟨T25, L25, k25, n25⟩, -, X25, ⟨Lc25, hQ25, l25, y25, z25⟩, st25⟩ := X24.virtualBack hx (y := (⟨"com/example/gatefold/gatefold/Condition", "holdsFor", "(Z)Z"⟩ : MethodName)) (z := (⟨"com/example/gatefold/gatefold/Condition", "holdsFor", "(Z)Z"⟩ : MethodName)) hown (mvT hZ (hw _ (List.mem_of_getElem? (i := 16) rfl))) (mvT hZ (hw _ (List.mem_of_getElem? (i := 17) rfl))) (notFace_of_selects (args := #[]) (mvT hZ (hw _ (List.mem_of_getElem? (i := 19) rfl)))) (mvT hZ (hw _ (List.mem_of_getElem? (i := 19) rfl))) (mvT hZ (hw _ (List.mem_of_getElem? (i := 18) rfl))) (by decide) (backOf (W := 0) (rm4 l Z a0 hw [] o1 (0 : Int32) oe h0 n0 Z0 E_o1 F_ordinal_o1 V_oe) hZ (hw _ (List.mem_of_getElem? (i := 20) rfl)) (hw _ (List.mem_of_getElem? (i := 9) rfl)) (by decide) (by decide)) q25a q25c (g := (mkF m 26 #[.val (.ref o0), .val (.ref o1)] [(.int (0 : Int32)), (.ref o1)])) rfl (by rw [hml]; rfl) (Steps.refl _) (argsL := [(.int (0 : Int32))]) (rest := []) (lenOf pd_1 rfl) rfl (by show 2 * 0 + _ ≤ _; exact Nat.le_of_eq rfl) (hb hby d3_26) (fun _ _ => ⟨rfl, e24, (by decide : 0 + 0 ≤ _), (by decide : 0 + 0 ≤ _)⟩)
      dsimp only [Pt.U, Pt.locs, Pt.cells, Pt.slots] at X25 l25 y25 z25 st25 hQ25
      subst l25 y25 z25
      obtain ⟨rfl, N25q, e25⟩ := hQ25
      have N25 := Fr.app N24 N25q
      refine Go.st (fun _ k => st25.trans k) ?_
      show Go _ _ _ _ _ _ _ T25 (mkF m 29 #[.val (.ref o0), .val (.ref o1)] [(.int (val_4 o1 (0 : Int32) oe))])
      rw [show (val_4 o1 (0 : Int32) oe) = (0 : Int32) from by unfold val_4; rw [if_neg (by rw [hv19]; decide : ¬ (oe = (0 : Int32))), if_pos hv19]; decide +kernel]
      show Go _ _ _ _ _ _ _ T25 (mkF m 29 #[.val (.ref o0), .val (.ref o1)] [(.int (0 : Int32))])
      refine Go.st (fun _ k => XS.ifYes X25.here hx rfl (pc0 := 29) (pc' := 36) rfl (hb hby d3_29) rfl ((if0 _ _).trans (teq (by decide : (0 : Int32) = (0 : Int32))).1) (by decide) (by decide) k) ?_
      show Go _ _ _ _ _ _ _ T25 (mkF m 36 #[.val (.ref o0), .val (.ref o1)] [])
      refine Go.st (fun _ k => XS.iconst X25.here hx rfl (hb hby d3_36) k) ?_
      show Go _ _ _ _ _ _ _ T25 (mkF m 37 #[.val (.ref o0), .val (.ref o1)] [(.int (0 : Int32))])
      refine Go.ret X25 hlk (v := some (.int (0 : Int32))) (fun h => by rw [hret] at h; cases h) (fun fs hr => retN X25 hx (t := .boolean) hret (by simp) (hb hby d3_37) hr) ?_ (by decide) (by decide)
      show Q3 Z o0 o1 od oe h0 n0 (some (.int (0 : Int32))) T25.heap _
      rw [e25]
      refine ⟨?_, N25, rfl⟩
      unfold val_3
      rw [if_neg (by rw [hv1]; decide : ¬ (od = (0 : Int32))), if_neg (by rw [hv1]; decide : ¬ (od = (1 : Int32))), if_neg (by rw [hv19]; decide : ¬ (oe = (0 : Int32))), if_pos hv19]
    · show Go _ _ _ _ _ _ _ s₁ (mkF m 0 #[.val (.ref o0), .val (.ref o1)] [])
      refine Go.st (fun _ k => XS.aloadN X0.here hx rfl (hb hby d3_0) rfl rfl k) ?_
      show Go _ _ _ _ _ _ _ s₁ (mkF m 1 #[.val (.ref o0), .val (.ref o1)] [(.ref o0)])
      refine Go.st (fun _ k => XS.iconst X0.here hx rfl (hb hby d3_1) k) ?_
      show Go _ _ _ _ _ _ _ s₁ (mkF m 2 #[.val (.ref o0), .val (.ref o1)] [(.int (1 : Int32)), (.ref o0)])
      obtain ⟨cq26, kq26, q26a, q26b, q26c⟩ := isOf hZ e0 E_o0
      obtain ⟨_, _, ⟨T26, L26, k26, n26⟩, -, X26, ⟨Lc26, hQ26, l26, y26, z26⟩, st26⟩ := X0.virtualBack hx (y := (⟨"com/example/gatefold/gatefold/Condition", "holdsFor", "(Z)Z"⟩ : MethodName)) (z := (⟨"com/example/gatefold/gatefold/Condition", "holdsFor", "(Z)Z"⟩ : MethodName)) hown (mvT hZ (hw _ (List.mem_of_getElem? (i := 16) rfl))) (mvT hZ (hw _ (List.mem_of_getElem? (i := 17) rfl))) (notFace_of_selects (args := #[]) (mvT hZ (hw _ (List.mem_of_getElem? (i := 19) rfl)))) (mvT hZ (hw _ (List.mem_of_getElem? (i := 19) rfl))) (mvT hZ (hw _ (List.mem_of_getElem? (i := 18) rfl))) (by decide) (backOf (W := 0) (rm4 l Z a0 hw [] o0 (1 : Int32) od h0 n0 Z0 E_o0 F_ordinal_o0 V_od) hZ (hw _ (List.mem_of_getElem? (i := 20) rfl)) (hw _ (List.mem_of_getElem? (i := 9) rfl)) (by decide) (by decide)) q26a q26c (g := (mkF m 2 #[.val (.ref o0), .val (.ref o1)] [(.int (1 : Int32)), (.ref o0)])) rfl (by rw [hml]; rfl) (Steps.refl _) (argsL := [(.int (1 : Int32))]) (rest := []) (lenOf pd_1 rfl) rfl (by show 2 * 0 + _ ≤ _; exact Nat.le_of_eq rfl) (hb hby d3_2) (fun _ _ => ⟨rfl, e0, (by decide : 0 + 0 ≤ _), (by decide : 0 + 0 ≤ _)⟩)
      dsimp only [Pt.U, Pt.locs, Pt.cells, Pt.slots] at X26 l26 y26 z26 st26 hQ26
      subst l26 y26 z26
      obtain ⟨rfl, N26q, e26⟩ := hQ26
      have N26 := Fr.app N0 N26q
      refine Go.st (fun _ k => st26.trans k) ?_
      show Go _ _ _ _ _ _ _ T26 (mkF m 5 #[.val (.ref o0), .val (.ref o1)] [(.int (val_4 o0 (1 : Int32) od))])
      rw [show (val_4 o0 (1 : Int32) od) = (0 : Int32) from by unfold val_4; rw [if_neg (by rw [hv1]; decide : ¬ (od = (0 : Int32))), if_neg (by rw [hv1]; decide : ¬ (od = (1 : Int32))), if_neg (by decide +kernel : ¬ ((1 : Int32) = (0 : Int32)))]]
      show Go _ _ _ _ _ _ _ T26 (mkF m 5 #[.val (.ref o0), .val (.ref o1)] [(.int (0 : Int32))])
      refine Go.st (fun _ k => XS.ifYes X26.here hx rfl (pc0 := 5) (pc' := 16) rfl (hb hby d3_5) rfl ((if0 _ _).trans (teq (by decide : (0 : Int32) = (0 : Int32))).1) (by decide) (by decide) k) ?_
      show Go _ _ _ _ _ _ _ T26 (mkF m 16 #[.val (.ref o0), .val (.ref o1)] [])
      refine Go.st (fun _ k => XS.aloadN X26.here hx rfl (hb hby d3_16) rfl rfl k) ?_
      show Go _ _ _ _ _ _ _ T26 (mkF m 17 #[.val (.ref o0), .val (.ref o1)] [(.ref o0)])
      refine Go.st (fun _ k => XS.iconst X26.here hx rfl (hb hby d3_17) k) ?_
      show Go _ _ _ _ _ _ _ T26 (mkF m 18 #[.val (.ref o0), .val (.ref o1)] [(.int (0 : Int32)), (.ref o0)])
      obtain ⟨cq27, kq27, q27a, q27b, q27c⟩ := isOf hZ e26 E_o0
      obtain ⟨_, _, ⟨T27, L27, k27, n27⟩, -, X27, ⟨Lc27, hQ27, l27, y27, z27⟩, st27⟩ := X26.virtualBack hx (y := (⟨"com/example/gatefold/gatefold/Condition", "holdsFor", "(Z)Z"⟩ : MethodName)) (z := (⟨"com/example/gatefold/gatefold/Condition", "holdsFor", "(Z)Z"⟩ : MethodName)) hown (mvT hZ (hw _ (List.mem_of_getElem? (i := 16) rfl))) (mvT hZ (hw _ (List.mem_of_getElem? (i := 17) rfl))) (notFace_of_selects (args := #[]) (mvT hZ (hw _ (List.mem_of_getElem? (i := 19) rfl)))) (mvT hZ (hw _ (List.mem_of_getElem? (i := 19) rfl))) (mvT hZ (hw _ (List.mem_of_getElem? (i := 18) rfl))) (by decide) (backOf (W := 0) (rm4 l Z a0 hw [] o0 (0 : Int32) od h0 n0 Z0 E_o0 F_ordinal_o0 V_od) hZ (hw _ (List.mem_of_getElem? (i := 20) rfl)) (hw _ (List.mem_of_getElem? (i := 9) rfl)) (by decide) (by decide)) q27a q27c (g := (mkF m 18 #[.val (.ref o0), .val (.ref o1)] [(.int (0 : Int32)), (.ref o0)])) rfl (by rw [hml]; rfl) (Steps.refl _) (argsL := [(.int (0 : Int32))]) (rest := []) (lenOf pd_1 rfl) rfl (by show 2 * 0 + _ ≤ _; exact Nat.le_of_eq rfl) (hb hby d3_18) (fun _ _ => ⟨rfl, e26, (by decide : 0 + 0 ≤ _), (by decide : 0 + 0 ≤ _)⟩)
      dsimp only [Pt.U, Pt.locs, Pt.cells, Pt.slots] at X27 l27 y27 z27 st27 hQ27
      subst l27 y27 z27
      obtain ⟨rfl, N27q, e27⟩ := hQ27
      have N27 := Fr.app N26 N27q
      refine Go.st (fun _ k => st27.trans k) ?_
      show Go _ _ _ _ _ _ _ T27 (mkF m 21 #[.val (.ref o0), .val (.ref o1)] [(.int (val_4 o0 (0 : Int32) od))])
      rw [show (val_4 o0 (0 : Int32) od) = (1 : Int32) from by unfold val_4; rw [if_neg (by rw [hv1]; decide : ¬ (od = (0 : Int32))), if_neg (by rw [hv1]; decide : ¬ (od = (1 : Int32))), if_pos (by decide +kernel : (0 : Int32) = (0 : Int32))]]
      show Go _ _ _ _ _ _ _ T27 (mkF m 21 #[.val (.ref o0), .val (.ref o1)] [(.int (1 : Int32))])
      refine Go.st (fun _ k => XS.ifNo X27.here hx rfl (hb hby d3_21) rfl ((if0 _ _).trans (feq (by decide : ¬ ((1 : Int32) = (0 : Int32)))).1) k) ?_
      show Go _ _ _ _ _ _ _ T27 (mkF m 24 #[.val (.ref o0), .val (.ref o1)] [])
      refine Go.st (fun _ k => XS.aloadN X27.here hx rfl (hb hby d3_24) rfl rfl k) ?_
      show Go _ _ _ _ _ _ _ T27 (mkF m 25 #[.val (.ref o0), .val (.ref o1)] [(.ref o1)])
      refine Go.st (fun _ k => XS.iconst X27.here hx rfl (hb hby d3_25) k) ?_
      show Go _ _ _ _ _ _ _ T27 (mkF m 26 #[.val (.ref o0), .val (.ref o1)] [(.int (0 : Int32)), (.ref o1)])
      obtain ⟨cq28, kq28, q28a, q28b, q28c⟩ := isOf hZ e27 E_o1
      obtain ⟨_, _, ⟨T28, L28, k28, n28⟩, -, X28, ⟨Lc28, hQ28, l28, y28, z28⟩, st28⟩ := X27.virtualBack hx (y := (⟨"com/example/gatefold/gatefold/Condition", "holdsFor", "(Z)Z"⟩ : MethodName)) (z := (⟨"com/example/gatefold/gatefold/Condition", "holdsFor", "(Z)Z"⟩ : MethodName)) hown (mvT hZ (hw _ (List.mem_of_getElem? (i := 16) rfl))) (mvT hZ (hw _ (List.mem_of_getElem? (i := 17) rfl))) (notFace_of_selects (args := #[]) (mvT hZ (hw _ (List.mem_of_getElem? (i := 19) rfl)))) (mvT hZ (hw _ (List.mem_of_getElem? (i := 19) rfl))) (mvT hZ (hw _ (List.mem_of_getElem? (i := 18) rfl))) (by decide) (backOf (W := 0) (rm4 l Z a0 hw [] o1 (0 : Int32) oe h0 n0 Z0 E_o1 F_ordinal_o1 V_oe) hZ (hw _ (List.mem_of_getElem? (i := 20) rfl)) (hw _ (List.mem_of_getElem? (i := 9) rfl)) (by decide) (by decide)) q28a q28c (g := (mkF m 26 #[.val (.ref o0), .val (.ref o1)] [(.int (0 : Int32)), (.ref o1)])) rfl (by rw [hml]; rfl) (Steps.refl _) (argsL := [(.int (0 : Int32))]) (rest := []) (lenOf pd_1 rfl) rfl (by show 2 * 0 + _ ≤ _; exact Nat.le_of_eq rfl) (hb hby d3_26) (fun _ _ => ⟨rfl, e27, (by decide : 0 + 0 ≤ _), (by decide : 0 + 0 ≤ _)⟩)
      dsimp only [Pt.U, Pt.locs, Pt.cells, Pt.slots] at X28 l28 y28 z28 st28 hQ28
      subst l28 y28 z28
      obtain ⟨rfl, N28q, e28⟩ := hQ28
      have N28 := Fr.app N27 N28q
      refine Go.st (fun _ k => st28.trans k) ?_
      show Go _ _ _ _ _ _ _ T28 (mkF m 29 #[.val (.ref o0), .val (.ref o1)] [(.int (val_4 o1 (0 : Int32) oe))])
      rw [show (val_4 o1 (0 : Int32) oe) = (1 : Int32) from by unfold val_4; rw [if_neg (by rw [hv19]; decide : ¬ (oe = (0 : Int32))), if_neg (by rw [hv19]; decide : ¬ (oe = (1 : Int32))), if_pos (by decide +kernel : (0 : Int32) = (0 : Int32))]]
      show Go _ _ _ _ _ _ _ T28 (mkF m 29 #[.val (.ref o0), .val (.ref o1)] [(.int (1 : Int32))])
      refine Go.st (fun _ k => XS.ifNo X28.here hx rfl (hb hby d3_29) rfl ((if0 _ _).trans (feq (by decide : ¬ ((1 : Int32) = (0 : Int32)))).1) k) ?_
      show Go _ _ _ _ _ _ _ T28 (mkF m 32 #[.val (.ref o0), .val (.ref o1)] [])
      refine Go.st (fun _ k => XS.iconst X28.here hx rfl (hb hby d3_32) k) ?_
      show Go _ _ _ _ _ _ _ T28 (mkF m 33 #[.val (.ref o0), .val (.ref o1)] [(.int (1 : Int32))])
      refine Go.st (fun _ k => XS.goto X28.here hx rfl (pc0 := 33) (pc' := 37) rfl (hb hby d3_33) (by decide) (by decide) k) ?_
      show Go _ _ _ _ _ _ _ T28 (mkF m 37 #[.val (.ref o0), .val (.ref o1)] [(.int (1 : Int32))])
      refine Go.ret X28 hlk (v := some (.int (1 : Int32))) (fun h => by rw [hret] at h; cases h) (fun fs hr => retN X28 hx (t := .boolean) hret (by simp) (hb hby d3_37) hr) ?_ (by decide) (by decide)
      show Q3 Z o0 o1 od oe h0 n0 (some (.int (1 : Int32))) T28.heap _
      rw [e28]
      refine ⟨?_, N28, rfl⟩
      unfold val_3
      rw [if_neg (by rw [hv1]; decide : ¬ (od = (0 : Int32))), if_neg (by rw [hv1]; decide : ¬ (od = (1 : Int32))), if_neg (by rw [hv19]; decide : ¬ (oe = (0 : Int32))), if_neg (by rw [hv19]; decide : ¬ (oe = (1 : Int32)))]
theorem ef_0 (m : MethodId) (p0 : Int32) (p1 : Int32) : entryFrame m #[(.int p0), (.int p1)] maxLocals = mkF m 0 #[.val (.int p0), .val (.int p1), .unset, .unset, .unset, .unset, .unset, .unset] [] := by first | (simp [entryFrame, mkF, argsToLocals, Value.category, maxLocals]; done) | rfl
def Q0 (Z : State) (p0 : Int32) (p1 : Int32) (w_ALWAYS : Addr) (w_IF_NOT_EXTERNAL : Addr) (w_IF_EXTERNAL : Addr) (h0 : Heap) (n0 : Nat) (v : Option Value) (h : Heap) (L : List Loc) : Prop := v = some (.int 1) ∧ Fr n0 L
set_option maxRecDepth 65536 in
set_option maxHeartbeats 40000000 in
theorem rm0 (l : Launch) (Z : State) (a0 : Array Value) (hw : ∀ d ∈ tables_1, d.before a0 Z = true) (ws : List Jvm.Cond) (p0 : Int32) (p1 : Int32) (w_ALWAYS : Addr) (w_IF_NOT_EXTERNAL : Addr) (w_IF_EXTERNAL : Addr) (h0 : Heap) (n0 : Nat) (Z0 : n0 ≤ h0.size) (S_ALWAYS : Sta Z h0 "com/example/gatefold/gatefold/Condition" "ALWAYS" "Lcom/example/gatefold/gatefold/Condition;" (.ref w_ALWAYS)) (E_ALWAYS : Exa Z h0 w_ALWAYS "com/example/gatefold/gatefold/Condition") (F_ALWAYS_ordinal : Fld Z h0 w_ALWAYS "java/lang/Enum" "ordinal" "I" (.int (0 : Int32))) (S_IF_NOT_EXTERNAL : Sta Z h0 "com/example/gatefold/gatefold/Condition" "IF_NOT_EXTERNAL" "Lcom/example/gatefold/gatefold/Condition;" (.ref w_IF_NOT_EXTERNAL)) (E_IF_NOT_EXTERNAL : Exa Z h0 w_IF_NOT_EXTERNAL "com/example/gatefold/gatefold/Condition") (S_IF_EXTERNAL : Sta Z h0 "com/example/gatefold/gatefold/Condition" "IF_EXTERNAL" "Lcom/example/gatefold/gatefold/Condition;" (.ref w_IF_EXTERNAL)) (E_IF_EXTERNAL : Exa Z h0 w_IF_EXTERNAL "com/example/gatefold/gatefold/Condition") (F_IF_NOT_EXTERNAL_ordinal : Fld Z h0 w_IF_NOT_EXTERNAL "java/lang/Enum" "ordinal" "I" (.int (2 : Int32))) (F_IF_EXTERNAL_ordinal : Fld Z h0 w_IF_EXTERNAL "java/lang/Enum" "ordinal" "I" (.int (1 : Int32))) :
    MetFree l x (head1 (Jvm.Cond.code x code maxLocals ret :: ws) room_1) (fun a U => a = #[(.int p0), (.int p1)] ∧ Z.Warmed39 U.vm ∧ U.heap = h0) (fun _ _ _ _ _ => True) (fun _ U o U' => ∃ v L, o = .returned v ∧ Q0 Z p0 p1 w_ALWAYS w_IF_NOT_EXTERNAL w_IF_EXTERNAL h0 n0 v U'.heap L ∧ FrameEnd U o U' L room_1.cells room_1.slots) := by
  refine MetFree.of_bodySF (plainFor_of_name pn_com_example_gatefold_gatefold_ConditionOverlapsPinLaw) hisR ?_
  intro p e s m args below meth c s₁ Bd hml0 hP hK
  obtain ⟨rfl, hZ, hh⟩ := hP
  have hx := Bd.exec
  have hby := Bd.bytes
  have hlk : meth.locks = false := BodyLoose.notSynchronized Bd
  have hret := Bd.returns
  have hml : c.maxLocals = 8 := hml0
  have hown : s.vm.findClass "com/example/gatefold/gatefold/ConditionOverlapsPinLaw" = some m.cls := findClass_of_methodNamed Bd.named
  have hnm := (name_of_methodNamed Bd.named Bd.method).1
  have X0 : Stand p l e room_1 s m #[(.int p0), (.int p1)] below meth c s₁ [] 0 0 := Stand.of_body Bd
  have e0 : s₁.heap = h0 := by rw [← hh, Bd.state]; rfl
  have N0 := Fr.nil n0
  refine Go.start (Q := Q0 Z p0 p1 w_ALWAYS w_IF_NOT_EXTERNAL w_IF_EXTERNAL h0 n0) (ef_0 m p0 p1) ?_
  have ne_w_ALWAYS_w_IF_NOT_EXTERNAL : w_ALWAYS ≠ w_IF_NOT_EXTERNAL := Fld.ne F_ALWAYS_ordinal F_IF_NOT_EXTERNAL_ordinal (by simp)
  have ne_w_ALWAYS_w_IF_EXTERNAL : w_ALWAYS ≠ w_IF_EXTERNAL := Fld.ne F_ALWAYS_ordinal F_IF_EXTERNAL_ordinal (by simp)
  have ne_w_IF_NOT_EXTERNAL_w_IF_EXTERNAL : w_IF_NOT_EXTERNAL ≠ w_IF_EXTERNAL := Fld.ne F_IF_NOT_EXTERNAL_ordinal F_IF_EXTERNAL_ordinal (by simp)
  show Go _ _ _ _ _ _ _ s₁ (mkF m 0 #[.val (.int p0), .val (.int p1), .unset, .unset, .unset, .unset, .unset, .unset] [])
  refine Go.st (fun _ k => XS.iloadN X0.here hx rfl (hb hby at_0) rfl k) ?_
  show Go _ _ _ _ _ _ _ s₁ (mkF m 1 #[.val (.int p0), .val (.int p1), .unset, .unset, .unset, .unset, .unset, .unset] [(.int p0)])
  obtain ⟨_, _, ⟨T1, L1, k1, n1⟩, -, X1, ⟨Lc1, hQ1, l1, y1, z1⟩, st1⟩ := Jvm.LawKit.callS X0 hx (y := (⟨"com/example/gatefold/gatefold/ConditionOverlapsPinLaw", "index", "(I)I"⟩ : MethodName)) hown (mvT hZ (hw _ (List.mem_of_getElem? (i := 0) rfl))) (mvT hZ (hw _ (List.mem_of_getElem? (i := 1) rfl))) (mvT hZ (hw _ (List.mem_of_getElem? (i := 2) rfl))) (mvT hZ (hw _ (List.mem_of_getElem? (i := 3) rfl))) (by decide) (backOf (W := 0) (rm1 l Z a0 hw [] p0  h0 n0 Z0 ) hZ (hw _ (List.mem_of_getElem? (i := 3) rfl)) (hw _ (List.mem_of_getElem? (i := 2) rfl)) (by decide) (by decide)) (g := (mkF m 1 #[.val (.int p0), .val (.int p1), .unset, .unset, .unset, .unset, .unset, .unset] [(.int p0)])) rfl (by rw [hml]; rfl) (argsL := [(.int p0)]) (rest := []) (lenOf pd_2 rfl) rfl (by show 2 * 0 + _ ≤ _; exact Nat.le_of_eq rfl) (hb hby at_1) (fun _ _ => ⟨rfl, e0, (by decide : 0 + 0 ≤ _), (by decide : 0 + 0 ≤ _)⟩)
  dsimp only [Pt.U, Pt.locs, Pt.cells, Pt.slots] at X1 l1 y1 z1 st1 hQ1
  subst l1 y1 z1
  obtain ⟨rfl, N1q, e1⟩ := hQ1
  have N1 := Fr.app N0 N1q
  refine Go.st st1 ?_
  show Go _ _ _ _ _ _ _ T1 (mkF m 4 #[.val (.int p0), .val (.int p1), .unset, .unset, .unset, .unset, .unset, .unset] [(.int (val_1 p0))])
  rw [show (val_1 p0) = ((p0 &&& (2147483647 : Int32)) % (3 : Int32)) from by unfold val_1; rfl]
  show Go _ _ _ _ _ _ _ T1 (mkF m 4 #[.val (.int p0), .val (.int p1), .unset, .unset, .unset, .unset, .unset, .unset] [(.int ((p0 &&& (2147483647 : Int32)) % (3 : Int32)))])
  rcases own_mod3 p0 with hk2 | hk2 | hk2
  · rw [hk2]
    show Go _ _ _ _ _ _ _ T1 (mkF m 4 #[.val (.int p0), .val (.int p1), .unset, .unset, .unset, .unset, .unset, .unset] [(.int (0 : Int32))])
    refine Go.st (fun _ k => XS.istoreN X1.here hx rfl (hb hby at_4) rfl (l' := #[.val (.int p0), .val (.int p1), .val (.int (0 : Int32)), .unset, .unset, .unset, .unset, .unset]) rfl k) ?_
    show Go _ _ _ _ _ _ _ T1 (mkF m 5 #[.val (.int p0), .val (.int p1), .val (.int (0 : Int32)), .unset, .unset, .unset, .unset, .unset] [])
    refine Go.st (fun _ k => XS.iloadN X1.here hx rfl (hb hby at_5) rfl k) ?_
    show Go _ _ _ _ _ _ _ T1 (mkF m 6 #[.val (.int p0), .val (.int p1), .val (.int (0 : Int32)), .unset, .unset, .unset, .unset, .unset] [(.int p1)])
    obtain ⟨_, _, ⟨T3, L3, k3, n3⟩, -, X3, ⟨Lc3, hQ3, l3, y3, z3⟩, st3⟩ := Jvm.LawKit.callS X1 hx (y := (⟨"com/example/gatefold/gatefold/ConditionOverlapsPinLaw", "index", "(I)I"⟩ : MethodName)) hown (mvT hZ (hw _ (List.mem_of_getElem? (i := 0) rfl))) (mvT hZ (hw _ (List.mem_of_getElem? (i := 1) rfl))) (mvT hZ (hw _ (List.mem_of_getElem? (i := 2) rfl))) (mvT hZ (hw _ (List.mem_of_getElem? (i := 3) rfl))) (by decide) (backOf (W := 0) (rm1 l Z a0 hw [] p1  h0 n0 Z0 ) hZ (hw _ (List.mem_of_getElem? (i := 3) rfl)) (hw _ (List.mem_of_getElem? (i := 2) rfl)) (by decide) (by decide)) (g := (mkF m 6 #[.val (.int p0), .val (.int p1), .val (.int (0 : Int32)), .unset, .unset, .unset, .unset, .unset] [(.int p1)])) rfl (by rw [hml]; rfl) (argsL := [(.int p1)]) (rest := []) (lenOf pd_2 rfl) rfl (by show 2 * 0 + _ ≤ _; exact Nat.le_of_eq rfl) (hb hby at_6) (fun _ _ => ⟨rfl, e1, (by decide : 0 + 0 ≤ _), (by decide : 0 + 0 ≤ _)⟩)
    dsimp only [Pt.U, Pt.locs, Pt.cells, Pt.slots] at X3 l3 y3 z3 st3 hQ3
    subst l3 y3 z3
    obtain ⟨rfl, N3q, e3⟩ := hQ3
    have N3 := Fr.app N1 N3q
    refine Go.st st3 ?_
    show Go _ _ _ _ _ _ _ T3 (mkF m 9 #[.val (.int p0), .val (.int p1), .val (.int (0 : Int32)), .unset, .unset, .unset, .unset, .unset] [(.int (val_1 p1))])
    rw [show (val_1 p1) = ((p1 &&& (2147483647 : Int32)) % (3 : Int32)) from by unfold val_1; rfl]
    show Go _ _ _ _ _ _ _ T3 (mkF m 9 #[.val (.int p0), .val (.int p1), .val (.int (0 : Int32)), .unset, .unset, .unset, .unset, .unset] [(.int ((p1 &&& (2147483647 : Int32)) % (3 : Int32)))])
    rcases own_mod3 p1 with hk4 | hk4 | hk4
    · rw [hk4]
      show Go _ _ _ _ _ _ _ T3 (mkF m 9 #[.val (.int p0), .val (.int p1), .val (.int (0 : Int32)), .unset, .unset, .unset, .unset, .unset] [(.int (0 : Int32))])
      refine Go.st (fun _ k => XS.istoreN X3.here hx rfl (hb hby at_9) rfl (l' := #[.val (.int p0), .val (.int p1), .val (.int (0 : Int32)), .val (.int (0 : Int32)), .unset, .unset, .unset, .unset]) rfl k) ?_
      show Go _ _ _ _ _ _ _ T3 (mkF m 10 #[.val (.int p0), .val (.int p1), .val (.int (0 : Int32)), .val (.int (0 : Int32)), .unset, .unset, .unset, .unset] [])
      refine Go.st (fun _ k => XS.iloadN X3.here hx rfl (hb hby at_10) rfl k) ?_
      show Go _ _ _ _ _ _ _ T3 (mkF m 11 #[.val (.int p0), .val (.int p1), .val (.int (0 : Int32)), .val (.int (0 : Int32)), .unset, .unset, .unset, .unset] [(.int (0 : Int32))])
      obtain ⟨_, _, ⟨T5, L5, k5, n5⟩, -, X5, ⟨Lc5, hQ5, l5, y5, z5⟩, st5⟩ := Jvm.LawKit.callS X3 hx (y := (⟨"com/example/gatefold/gatefold/ConditionOverlapsPinLaw", "pick", "(I)Lcom/example/gatefold/gatefold/Condition;"⟩ : MethodName)) hown (mvT hZ (hw _ (List.mem_of_getElem? (i := 5) rfl))) (mvT hZ (hw _ (List.mem_of_getElem? (i := 6) rfl))) (mvT hZ (hw _ (List.mem_of_getElem? (i := 2) rfl))) (mvT hZ (hw _ (List.mem_of_getElem? (i := 7) rfl))) (by decide) (backOf (W := 0) (rm2 l Z a0 hw [] (0 : Int32) w_ALWAYS w_IF_EXTERNAL w_IF_NOT_EXTERNAL h0 n0 Z0 S_ALWAYS S_IF_EXTERNAL S_IF_NOT_EXTERNAL) hZ (hw _ (List.mem_of_getElem? (i := 7) rfl)) (hw _ (List.mem_of_getElem? (i := 2) rfl)) (by decide) (by decide)) (g := (mkF m 11 #[.val (.int p0), .val (.int p1), .val (.int (0 : Int32)), .val (.int (0 : Int32)), .unset, .unset, .unset, .unset] [(.int (0 : Int32))])) rfl (by rw [hml]; rfl) (argsL := [(.int (0 : Int32))]) (rest := []) (lenOf pd_3 rfl) rfl (by show 2 * 0 + _ ≤ _; exact Nat.le_of_eq rfl) (hb hby at_11) (fun _ _ => ⟨rfl, e3, (by decide : 0 + 0 ≤ _), (by decide : 0 + 0 ≤ _)⟩)
      dsimp only [Pt.U, Pt.locs, Pt.cells, Pt.slots] at X5 l5 y5 z5 st5 hQ5
      subst l5 y5 z5
      obtain ⟨rfl, N5q, e5⟩ := hQ5
      have N5 := Fr.app N3 N5q
      refine Go.st st5 ?_
      show Go _ _ _ _ _ _ _ T5 (mkF m 14 #[.val (.int p0), .val (.int p1), .val (.int (0 : Int32)), .val (.int (0 : Int32)), .unset, .unset, .unset, .unset] [(.ref (val_2 (0 : Int32) w_ALWAYS w_IF_EXTERNAL w_IF_NOT_EXTERNAL))])
      rw [show (val_2 (0 : Int32) w_ALWAYS w_IF_EXTERNAL w_IF_NOT_EXTERNAL) = w_ALWAYS from by unfold val_2; rw [if_pos (by decide +kernel : (0 : Int32) = (0 : Int32))]]
      show Go _ _ _ _ _ _ _ T5 (mkF m 14 #[.val (.int p0), .val (.int p1), .val (.int (0 : Int32)), .val (.int (0 : Int32)), .unset, .unset, .unset, .unset] [(.ref w_ALWAYS)])
      refine Go.st (fun _ k => XS.astore X5.here hx rfl (hb hby at_14) rfl rfl (l' := #[.val (.int p0), .val (.int p1), .val (.int (0 : Int32)), .val (.int (0 : Int32)), .val (.ref w_ALWAYS), .unset, .unset, .unset]) rfl k) ?_
      show Go _ _ _ _ _ _ _ T5 (mkF m 16 #[.val (.int p0), .val (.int p1), .val (.int (0 : Int32)), .val (.int (0 : Int32)), .val (.ref w_ALWAYS), .unset, .unset, .unset] [])
      refine Go.st (fun _ k => XS.iloadN X5.here hx rfl (hb hby at_16) rfl k) ?_
      show Go _ _ _ _ _ _ _ T5 (mkF m 17 #[.val (.int p0), .val (.int p1), .val (.int (0 : Int32)), .val (.int (0 : Int32)), .val (.ref w_ALWAYS), .unset, .unset, .unset] [(.int (0 : Int32))])
      obtain ⟨_, _, ⟨T6, L6, k6, n6⟩, -, X6, ⟨Lc6, hQ6, l6, y6, z6⟩, st6⟩ := Jvm.LawKit.callS X5 hx (y := (⟨"com/example/gatefold/gatefold/ConditionOverlapsPinLaw", "pick", "(I)Lcom/example/gatefold/gatefold/Condition;"⟩ : MethodName)) hown (mvT hZ (hw _ (List.mem_of_getElem? (i := 5) rfl))) (mvT hZ (hw _ (List.mem_of_getElem? (i := 6) rfl))) (mvT hZ (hw _ (List.mem_of_getElem? (i := 2) rfl))) (mvT hZ (hw _ (List.mem_of_getElem? (i := 7) rfl))) (by decide) (backOf (W := 0) (rm2 l Z a0 hw [] (0 : Int32) w_ALWAYS w_IF_EXTERNAL w_IF_NOT_EXTERNAL h0 n0 Z0 S_ALWAYS S_IF_EXTERNAL S_IF_NOT_EXTERNAL) hZ (hw _ (List.mem_of_getElem? (i := 7) rfl)) (hw _ (List.mem_of_getElem? (i := 2) rfl)) (by decide) (by decide)) (g := (mkF m 17 #[.val (.int p0), .val (.int p1), .val (.int (0 : Int32)), .val (.int (0 : Int32)), .val (.ref w_ALWAYS), .unset, .unset, .unset] [(.int (0 : Int32))])) rfl (by rw [hml]; rfl) (argsL := [(.int (0 : Int32))]) (rest := []) (lenOf pd_3 rfl) rfl (by show 2 * 0 + _ ≤ _; exact Nat.le_of_eq rfl) (hb hby at_17) (fun _ _ => ⟨rfl, e5, (by decide : 0 + 0 ≤ _), (by decide : 0 + 0 ≤ _)⟩)
      dsimp only [Pt.U, Pt.locs, Pt.cells, Pt.slots] at X6 l6 y6 z6 st6 hQ6
      subst l6 y6 z6
      obtain ⟨rfl, N6q, e6⟩ := hQ6
      have N6 := Fr.app N5 N6q
      refine Go.st st6 ?_
      show Go _ _ _ _ _ _ _ T6 (mkF m 20 #[.val (.int p0), .val (.int p1), .val (.int (0 : Int32)), .val (.int (0 : Int32)), .val (.ref w_ALWAYS), .unset, .unset, .unset] [(.ref (val_2 (0 : Int32) w_ALWAYS w_IF_EXTERNAL w_IF_NOT_EXTERNAL))])
      rw [show (val_2 (0 : Int32) w_ALWAYS w_IF_EXTERNAL w_IF_NOT_EXTERNAL) = w_ALWAYS from by unfold val_2; rw [if_pos (by decide +kernel : (0 : Int32) = (0 : Int32))]]
      show Go _ _ _ _ _ _ _ T6 (mkF m 20 #[.val (.int p0), .val (.int p1), .val (.int (0 : Int32)), .val (.int (0 : Int32)), .val (.ref w_ALWAYS), .unset, .unset, .unset] [(.ref w_ALWAYS)])
      refine Go.st (fun _ k => XS.astore X6.here hx rfl (hb hby at_20) rfl rfl (l' := #[.val (.int p0), .val (.int p1), .val (.int (0 : Int32)), .val (.int (0 : Int32)), .val (.ref w_ALWAYS), .val (.ref w_ALWAYS), .unset, .unset]) rfl k) ?_
      show Go _ _ _ _ _ _ _ T6 (mkF m 22 #[.val (.int p0), .val (.int p1), .val (.int (0 : Int32)), .val (.int (0 : Int32)), .val (.ref w_ALWAYS), .val (.ref w_ALWAYS), .unset, .unset] [])
      refine Go.st (fun _ k => XS.iloadN X6.here hx rfl (hb hby at_22) rfl k) ?_
      show Go _ _ _ _ _ _ _ T6 (mkF m 23 #[.val (.int p0), .val (.int p1), .val (.int (0 : Int32)), .val (.int (0 : Int32)), .val (.ref w_ALWAYS), .val (.ref w_ALWAYS), .unset, .unset] [(.int (0 : Int32))])
      refine Go.st (fun _ k => XS.iconst X6.here hx rfl (hb hby at_23) k) ?_
      show Go _ _ _ _ _ _ _ T6 (mkF m 24 #[.val (.int p0), .val (.int p1), .val (.int (0 : Int32)), .val (.int (0 : Int32)), .val (.ref w_ALWAYS), .val (.ref w_ALWAYS), .unset, .unset] [(.int (1 : Int32)), (.int (0 : Int32))])
      refine Go.st (fun _ k => XS.icmpYes X6.here hx rfl (pc0 := 24) (pc' := 32) rfl (hb hby at_24) rfl (feq (by decide : ¬ ((0 : Int32) = (1 : Int32)))).2 (by decide) (by decide) k) ?_
      show Go _ _ _ _ _ _ _ T6 (mkF m 32 #[.val (.int p0), .val (.int p1), .val (.int (0 : Int32)), .val (.int (0 : Int32)), .val (.ref w_ALWAYS), .val (.ref w_ALWAYS), .unset, .unset] [])
      refine Go.st (fun _ k => XS.iloadN X6.here hx rfl (hb hby at_32) rfl k) ?_
      show Go _ _ _ _ _ _ _ T6 (mkF m 33 #[.val (.int p0), .val (.int p1), .val (.int (0 : Int32)), .val (.int (0 : Int32)), .val (.ref w_ALWAYS), .val (.ref w_ALWAYS), .unset, .unset] [(.int (0 : Int32))])
      refine Go.st (fun _ k => XS.iconst X6.here hx rfl (hb hby at_33) k) ?_
      show Go _ _ _ _ _ _ _ T6 (mkF m 34 #[.val (.int p0), .val (.int p1), .val (.int (0 : Int32)), .val (.int (0 : Int32)), .val (.ref w_ALWAYS), .val (.ref w_ALWAYS), .unset, .unset] [(.int (2 : Int32)), (.int (0 : Int32))])
      refine Go.st (fun _ k => XS.icmpYes X6.here hx rfl (pc0 := 34) (pc' := 46) rfl (hb hby at_34) rfl (feq (by decide : ¬ ((0 : Int32) = (2 : Int32)))).2 (by decide) (by decide) k) ?_
      show Go _ _ _ _ _ _ _ T6 (mkF m 46 #[.val (.int p0), .val (.int p1), .val (.int (0 : Int32)), .val (.int (0 : Int32)), .val (.ref w_ALWAYS), .val (.ref w_ALWAYS), .unset, .unset] [])
      refine Go.st (fun _ k => XS.iconst X6.here hx rfl (hb hby at_46) k) ?_
      show Go _ _ _ _ _ _ _ T6 (mkF m 47 #[.val (.int p0), .val (.int p1), .val (.int (0 : Int32)), .val (.int (0 : Int32)), .val (.ref w_ALWAYS), .val (.ref w_ALWAYS), .unset, .unset] [(.int (0 : Int32))])
      refine Go.st (fun _ k => XS.istore X6.here hx rfl (hb hby at_47) rfl (l' := #[.val (.int p0), .val (.int p1), .val (.int (0 : Int32)), .val (.int (0 : Int32)), .val (.ref w_ALWAYS), .val (.ref w_ALWAYS), .val (.int (0 : Int32)), .unset]) rfl k) ?_
      show Go _ _ _ _ _ _ _ T6 (mkF m 49 #[.val (.int p0), .val (.int p1), .val (.int (0 : Int32)), .val (.int (0 : Int32)), .val (.ref w_ALWAYS), .val (.ref w_ALWAYS), .val (.int (0 : Int32)), .unset] [])
      refine Go.st (fun _ k => XS.iload X6.here hx rfl (hb hby at_49) rfl k) ?_
      show Go _ _ _ _ _ _ _ T6 (mkF m 51 #[.val (.int p0), .val (.int p1), .val (.int (0 : Int32)), .val (.int (0 : Int32)), .val (.ref w_ALWAYS), .val (.ref w_ALWAYS), .val (.int (0 : Int32)), .unset] [(.int (0 : Int32))])
      refine Go.st (fun _ k => XS.ifNo X6.here hx rfl (hb hby at_51) rfl ((if0 _ _).trans (teq (by decide : (0 : Int32) = (0 : Int32))).2) k) ?_
      show Go _ _ _ _ _ _ _ T6 (mkF m 54 #[.val (.int p0), .val (.int p1), .val (.int (0 : Int32)), .val (.int (0 : Int32)), .val (.ref w_ALWAYS), .val (.ref w_ALWAYS), .val (.int (0 : Int32)), .unset] [])
      refine Go.st (fun _ k => XS.iconst X6.here hx rfl (hb hby at_54) k) ?_
      show Go _ _ _ _ _ _ _ T6 (mkF m 55 #[.val (.int p0), .val (.int p1), .val (.int (0 : Int32)), .val (.int (0 : Int32)), .val (.ref w_ALWAYS), .val (.ref w_ALWAYS), .val (.int (0 : Int32)), .unset] [(.int (1 : Int32))])
      refine Go.st (fun _ k => XS.goto X6.here hx rfl (pc0 := 55) (pc' := 59) rfl (hb hby at_55) (by decide) (by decide) k) ?_
      show Go _ _ _ _ _ _ _ T6 (mkF m 59 #[.val (.int p0), .val (.int p1), .val (.int (0 : Int32)), .val (.int (0 : Int32)), .val (.ref w_ALWAYS), .val (.ref w_ALWAYS), .val (.int (0 : Int32)), .unset] [(.int (1 : Int32))])
      refine Go.st (fun _ k => XS.istore X6.here hx rfl (hb hby at_59) rfl (l' := #[.val (.int p0), .val (.int p1), .val (.int (0 : Int32)), .val (.int (0 : Int32)), .val (.ref w_ALWAYS), .val (.ref w_ALWAYS), .val (.int (0 : Int32)), .val (.int (1 : Int32))]) rfl k) ?_
      show Go _ _ _ _ _ _ _ T6 (mkF m 61 #[.val (.int p0), .val (.int p1), .val (.int (0 : Int32)), .val (.int (0 : Int32)), .val (.ref w_ALWAYS), .val (.ref w_ALWAYS), .val (.int (0 : Int32)), .val (.int (1 : Int32))] [])
      refine Go.st (fun _ k => XS.aload X6.here hx rfl (hb hby at_61) rfl rfl k) ?_
      show Go _ _ _ _ _ _ _ T6 (mkF m 63 #[.val (.int p0), .val (.int p1), .val (.int (0 : Int32)), .val (.int (0 : Int32)), .val (.ref w_ALWAYS), .val (.ref w_ALWAYS), .val (.int (0 : Int32)), .val (.int (1 : Int32))] [(.ref w_ALWAYS)])
      refine Go.st (fun _ k => XS.aload X6.here hx rfl (hb hby at_63) rfl rfl k) ?_
      show Go _ _ _ _ _ _ _ T6 (mkF m 65 #[.val (.int p0), .val (.int p1), .val (.int (0 : Int32)), .val (.int (0 : Int32)), .val (.ref w_ALWAYS), .val (.ref w_ALWAYS), .val (.int (0 : Int32)), .val (.int (1 : Int32))] [(.ref w_ALWAYS), (.ref w_ALWAYS)])
      obtain ⟨cq7, kq7, q7a, q7b, q7c⟩ := isOf hZ e6 E_ALWAYS
      obtain ⟨_, _, ⟨T7, L7, k7, n7⟩, -, X7, ⟨Lc7, hQ7, l7, y7, z7⟩, st7⟩ := X6.virtualBack hx (y := (⟨"com/example/gatefold/gatefold/Condition", "overlaps", "(Lcom/example/gatefold/gatefold/Condition;)Z"⟩ : MethodName)) (z := (⟨"com/example/gatefold/gatefold/Condition", "overlaps", "(Lcom/example/gatefold/gatefold/Condition;)Z"⟩ : MethodName)) hown (mvT hZ (hw _ (List.mem_of_getElem? (i := 11) rfl))) (mvT hZ (hw _ (List.mem_of_getElem? (i := 12) rfl))) (notFace_of_selects (args := #[]) (mvT hZ (hw _ (List.mem_of_getElem? (i := 14) rfl)))) (mvT hZ (hw _ (List.mem_of_getElem? (i := 14) rfl))) (mvT hZ (hw _ (List.mem_of_getElem? (i := 13) rfl))) (by decide) (backOf (W := 0) (rm3 l Z a0 hw [] w_ALWAYS w_ALWAYS (0 : Int32) (0 : Int32) h0 n0 Z0 E_ALWAYS E_ALWAYS F_ALWAYS_ordinal F_ALWAYS_ordinal (Or.inl rfl) (Or.inl rfl)) hZ (hw _ (List.mem_of_getElem? (i := 15) rfl)) (hw _ (List.mem_of_getElem? (i := 9) rfl)) (by decide) (by decide)) q7a q7c (g := (mkF m 65 #[.val (.int p0), .val (.int p1), .val (.int (0 : Int32)), .val (.int (0 : Int32)), .val (.ref w_ALWAYS), .val (.ref w_ALWAYS), .val (.int (0 : Int32)), .val (.int (1 : Int32))] [(.ref w_ALWAYS), (.ref w_ALWAYS)])) rfl (by rw [hml]; rfl) (Steps.refl _) (argsL := [(.ref w_ALWAYS)]) (rest := []) (lenOf pd_4 rfl) rfl (by show 2 * 0 + _ ≤ _; exact Nat.le_of_eq rfl) (hb hby at_65) (fun _ _ => ⟨rfl, e6, (by decide : 0 + 0 ≤ _), (by decide : 0 + 0 ≤ _)⟩)
      dsimp only [Pt.U, Pt.locs, Pt.cells, Pt.slots] at X7 l7 y7 z7 st7 hQ7
      subst l7 y7 z7
      obtain ⟨rfl, N7q, e7⟩ := hQ7
      have N7 := Fr.app N6 N7q
      refine Go.st (fun _ k => st7.trans k) ?_
      show Go _ _ _ _ _ _ _ T7 (mkF m 68 #[.val (.int p0), .val (.int p1), .val (.int (0 : Int32)), .val (.int (0 : Int32)), .val (.ref w_ALWAYS), .val (.ref w_ALWAYS), .val (.int (0 : Int32)), .val (.int (1 : Int32))] [(.int (val_3 w_ALWAYS w_ALWAYS (0 : Int32) (0 : Int32)))])
      rw [show (val_3 w_ALWAYS w_ALWAYS (0 : Int32) (0 : Int32)) = (1 : Int32) from by unfold val_3; rw [if_pos (by decide +kernel : (0 : Int32) = (0 : Int32))]]
      show Go _ _ _ _ _ _ _ T7 (mkF m 68 #[.val (.int p0), .val (.int p1), .val (.int (0 : Int32)), .val (.int (0 : Int32)), .val (.ref w_ALWAYS), .val (.ref w_ALWAYS), .val (.int (0 : Int32)), .val (.int (1 : Int32))] [(.int (1 : Int32))])
      refine Go.st (fun _ k => XS.iload X7.here hx rfl (hb hby at_68) rfl k) ?_
      show Go _ _ _ _ _ _ _ T7 (mkF m 70 #[.val (.int p0), .val (.int p1), .val (.int (0 : Int32)), .val (.int (0 : Int32)), .val (.ref w_ALWAYS), .val (.ref w_ALWAYS), .val (.int (0 : Int32)), .val (.int (1 : Int32))] [(.int (1 : Int32)), (.int (1 : Int32))])
      refine Go.st (fun _ k => XS.icmpNo X7.here hx rfl (hb hby at_70) rfl (teq (by decide : (1 : Int32) = (1 : Int32))).2 k) ?_
      show Go _ _ _ _ _ _ _ T7 (mkF m 73 #[.val (.int p0), .val (.int p1), .val (.int (0 : Int32)), .val (.int (0 : Int32)), .val (.ref w_ALWAYS), .val (.ref w_ALWAYS), .val (.int (0 : Int32)), .val (.int (1 : Int32))] [])
      refine Go.st (fun _ k => XS.iconst X7.here hx rfl (hb hby at_73) k) ?_
      show Go _ _ _ _ _ _ _ T7 (mkF m 74 #[.val (.int p0), .val (.int p1), .val (.int (0 : Int32)), .val (.int (0 : Int32)), .val (.ref w_ALWAYS), .val (.ref w_ALWAYS), .val (.int (0 : Int32)), .val (.int (1 : Int32))] [(.int (1 : Int32))])
      refine Go.st (fun _ k => XS.goto X7.here hx rfl (pc0 := 74) (pc' := 78) rfl (hb hby at_74) (by decide) (by decide) k) ?_
      show Go _ _ _ _ _ _ _ T7 (mkF m 78 #[.val (.int p0), .val (.int p1), .val (.int (0 : Int32)), .val (.int (0 : Int32)), .val (.ref w_ALWAYS), .val (.ref w_ALWAYS), .val (.int (0 : Int32)), .val (.int (1 : Int32))] [(.int (1 : Int32))])
      refine Go.ret X7 hlk (v := some (.int (1 : Int32))) (fun h => by rw [hret] at h; cases h) (fun fs hr => retN X7 hx (t := .boolean) hret (by simp) (hb hby at_78) hr) ?_ (by decide) (by decide)
      show Q0 Z p0 p1 w_ALWAYS w_IF_NOT_EXTERNAL w_IF_EXTERNAL h0 n0 (some (.int (1 : Int32))) T7.heap _
      rw [e7]
      exact ⟨rfl, N7⟩
    · rw [hk4]
      show Go _ _ _ _ _ _ _ T3 (mkF m 9 #[.val (.int p0), .val (.int p1), .val (.int (0 : Int32)), .unset, .unset, .unset, .unset, .unset] [(.int (1 : Int32))])
      refine Go.st (fun _ k => XS.istoreN X3.here hx rfl (hb hby at_9) rfl (l' := #[.val (.int p0), .val (.int p1), .val (.int (0 : Int32)), .val (.int (1 : Int32)), .unset, .unset, .unset, .unset]) rfl k) ?_
      show Go _ _ _ _ _ _ _ T3 (mkF m 10 #[.val (.int p0), .val (.int p1), .val (.int (0 : Int32)), .val (.int (1 : Int32)), .unset, .unset, .unset, .unset] [])
      refine Go.st (fun _ k => XS.iloadN X3.here hx rfl (hb hby at_10) rfl k) ?_
      show Go _ _ _ _ _ _ _ T3 (mkF m 11 #[.val (.int p0), .val (.int p1), .val (.int (0 : Int32)), .val (.int (1 : Int32)), .unset, .unset, .unset, .unset] [(.int (0 : Int32))])
      obtain ⟨_, _, ⟨T8, L8, k8, n8⟩, -, X8, ⟨Lc8, hQ8, l8, y8, z8⟩, st8⟩ := Jvm.LawKit.callS X3 hx (y := (⟨"com/example/gatefold/gatefold/ConditionOverlapsPinLaw", "pick", "(I)Lcom/example/gatefold/gatefold/Condition;"⟩ : MethodName)) hown (mvT hZ (hw _ (List.mem_of_getElem? (i := 5) rfl))) (mvT hZ (hw _ (List.mem_of_getElem? (i := 6) rfl))) (mvT hZ (hw _ (List.mem_of_getElem? (i := 2) rfl))) (mvT hZ (hw _ (List.mem_of_getElem? (i := 7) rfl))) (by decide) (backOf (W := 0) (rm2 l Z a0 hw [] (0 : Int32) w_ALWAYS w_IF_EXTERNAL w_IF_NOT_EXTERNAL h0 n0 Z0 S_ALWAYS S_IF_EXTERNAL S_IF_NOT_EXTERNAL) hZ (hw _ (List.mem_of_getElem? (i := 7) rfl)) (hw _ (List.mem_of_getElem? (i := 2) rfl)) (by decide) (by decide)) (g := (mkF m 11 #[.val (.int p0), .val (.int p1), .val (.int (0 : Int32)), .val (.int (1 : Int32)), .unset, .unset, .unset, .unset] [(.int (0 : Int32))])) rfl (by rw [hml]; rfl) (argsL := [(.int (0 : Int32))]) (rest := []) (lenOf pd_3 rfl) rfl (by show 2 * 0 + _ ≤ _; exact Nat.le_of_eq rfl) (hb hby at_11) (fun _ _ => ⟨rfl, e3, (by decide : 0 + 0 ≤ _), (by decide : 0 + 0 ≤ _)⟩)
      dsimp only [Pt.U, Pt.locs, Pt.cells, Pt.slots] at X8 l8 y8 z8 st8 hQ8
      subst l8 y8 z8
      obtain ⟨rfl, N8q, e8⟩ := hQ8
      have N8 := Fr.app N3 N8q
      refine Go.st st8 ?_
      show Go _ _ _ _ _ _ _ T8 (mkF m 14 #[.val (.int p0), .val (.int p1), .val (.int (0 : Int32)), .val (.int (1 : Int32)), .unset, .unset, .unset, .unset] [(.ref (val_2 (0 : Int32) w_ALWAYS w_IF_EXTERNAL w_IF_NOT_EXTERNAL))])
      rw [show (val_2 (0 : Int32) w_ALWAYS w_IF_EXTERNAL w_IF_NOT_EXTERNAL) = w_ALWAYS from by unfold val_2; rw [if_pos (by decide +kernel : (0 : Int32) = (0 : Int32))]]
      show Go _ _ _ _ _ _ _ T8 (mkF m 14 #[.val (.int p0), .val (.int p1), .val (.int (0 : Int32)), .val (.int (1 : Int32)), .unset, .unset, .unset, .unset] [(.ref w_ALWAYS)])
      refine Go.st (fun _ k => XS.astore X8.here hx rfl (hb hby at_14) rfl rfl (l' := #[.val (.int p0), .val (.int p1), .val (.int (0 : Int32)), .val (.int (1 : Int32)), .val (.ref w_ALWAYS), .unset, .unset, .unset]) rfl k) ?_
      show Go _ _ _ _ _ _ _ T8 (mkF m 16 #[.val (.int p0), .val (.int p1), .val (.int (0 : Int32)), .val (.int (1 : Int32)), .val (.ref w_ALWAYS), .unset, .unset, .unset] [])
      refine Go.st (fun _ k => XS.iloadN X8.here hx rfl (hb hby at_16) rfl k) ?_
      show Go _ _ _ _ _ _ _ T8 (mkF m 17 #[.val (.int p0), .val (.int p1), .val (.int (0 : Int32)), .val (.int (1 : Int32)), .val (.ref w_ALWAYS), .unset, .unset, .unset] [(.int (1 : Int32))])
      obtain ⟨_, _, ⟨T9, L9, k9, n9⟩, -, X9, ⟨Lc9, hQ9, l9, y9, z9⟩, st9⟩ := Jvm.LawKit.callS X8 hx (y := (⟨"com/example/gatefold/gatefold/ConditionOverlapsPinLaw", "pick", "(I)Lcom/example/gatefold/gatefold/Condition;"⟩ : MethodName)) hown (mvT hZ (hw _ (List.mem_of_getElem? (i := 5) rfl))) (mvT hZ (hw _ (List.mem_of_getElem? (i := 6) rfl))) (mvT hZ (hw _ (List.mem_of_getElem? (i := 2) rfl))) (mvT hZ (hw _ (List.mem_of_getElem? (i := 7) rfl))) (by decide) (backOf (W := 0) (rm2 l Z a0 hw [] (1 : Int32) w_ALWAYS w_IF_EXTERNAL w_IF_NOT_EXTERNAL h0 n0 Z0 S_ALWAYS S_IF_EXTERNAL S_IF_NOT_EXTERNAL) hZ (hw _ (List.mem_of_getElem? (i := 7) rfl)) (hw _ (List.mem_of_getElem? (i := 2) rfl)) (by decide) (by decide)) (g := (mkF m 17 #[.val (.int p0), .val (.int p1), .val (.int (0 : Int32)), .val (.int (1 : Int32)), .val (.ref w_ALWAYS), .unset, .unset, .unset] [(.int (1 : Int32))])) rfl (by rw [hml]; rfl) (argsL := [(.int (1 : Int32))]) (rest := []) (lenOf pd_3 rfl) rfl (by show 2 * 0 + _ ≤ _; exact Nat.le_of_eq rfl) (hb hby at_17) (fun _ _ => ⟨rfl, e8, (by decide : 0 + 0 ≤ _), (by decide : 0 + 0 ≤ _)⟩)
      dsimp only [Pt.U, Pt.locs, Pt.cells, Pt.slots] at X9 l9 y9 z9 st9 hQ9
      subst l9 y9 z9
      obtain ⟨rfl, N9q, e9⟩ := hQ9
      have N9 := Fr.app N8 N9q
      refine Go.st st9 ?_
      show Go _ _ _ _ _ _ _ T9 (mkF m 20 #[.val (.int p0), .val (.int p1), .val (.int (0 : Int32)), .val (.int (1 : Int32)), .val (.ref w_ALWAYS), .unset, .unset, .unset] [(.ref (val_2 (1 : Int32) w_ALWAYS w_IF_EXTERNAL w_IF_NOT_EXTERNAL))])
      rw [show (val_2 (1 : Int32) w_ALWAYS w_IF_EXTERNAL w_IF_NOT_EXTERNAL) = w_IF_EXTERNAL from by unfold val_2; rw [if_neg (by decide +kernel : ¬ ((1 : Int32) = (0 : Int32))), if_pos (by decide +kernel : (1 : Int32) = (1 : Int32))]]
      show Go _ _ _ _ _ _ _ T9 (mkF m 20 #[.val (.int p0), .val (.int p1), .val (.int (0 : Int32)), .val (.int (1 : Int32)), .val (.ref w_ALWAYS), .unset, .unset, .unset] [(.ref w_IF_EXTERNAL)])
      refine Go.st (fun _ k => XS.astore X9.here hx rfl (hb hby at_20) rfl rfl (l' := #[.val (.int p0), .val (.int p1), .val (.int (0 : Int32)), .val (.int (1 : Int32)), .val (.ref w_ALWAYS), .val (.ref w_IF_EXTERNAL), .unset, .unset]) rfl k) ?_
      show Go _ _ _ _ _ _ _ T9 (mkF m 22 #[.val (.int p0), .val (.int p1), .val (.int (0 : Int32)), .val (.int (1 : Int32)), .val (.ref w_ALWAYS), .val (.ref w_IF_EXTERNAL), .unset, .unset] [])
      refine Go.st (fun _ k => XS.iloadN X9.here hx rfl (hb hby at_22) rfl k) ?_
      show Go _ _ _ _ _ _ _ T9 (mkF m 23 #[.val (.int p0), .val (.int p1), .val (.int (0 : Int32)), .val (.int (1 : Int32)), .val (.ref w_ALWAYS), .val (.ref w_IF_EXTERNAL), .unset, .unset] [(.int (0 : Int32))])
      refine Go.st (fun _ k => XS.iconst X9.here hx rfl (hb hby at_23) k) ?_
      show Go _ _ _ _ _ _ _ T9 (mkF m 24 #[.val (.int p0), .val (.int p1), .val (.int (0 : Int32)), .val (.int (1 : Int32)), .val (.ref w_ALWAYS), .val (.ref w_IF_EXTERNAL), .unset, .unset] [(.int (1 : Int32)), (.int (0 : Int32))])
      refine Go.st (fun _ k => XS.icmpYes X9.here hx rfl (pc0 := 24) (pc' := 32) rfl (hb hby at_24) rfl (feq (by decide : ¬ ((0 : Int32) = (1 : Int32)))).2 (by decide) (by decide) k) ?_
      show Go _ _ _ _ _ _ _ T9 (mkF m 32 #[.val (.int p0), .val (.int p1), .val (.int (0 : Int32)), .val (.int (1 : Int32)), .val (.ref w_ALWAYS), .val (.ref w_IF_EXTERNAL), .unset, .unset] [])
      refine Go.st (fun _ k => XS.iloadN X9.here hx rfl (hb hby at_32) rfl k) ?_
      show Go _ _ _ _ _ _ _ T9 (mkF m 33 #[.val (.int p0), .val (.int p1), .val (.int (0 : Int32)), .val (.int (1 : Int32)), .val (.ref w_ALWAYS), .val (.ref w_IF_EXTERNAL), .unset, .unset] [(.int (0 : Int32))])
      refine Go.st (fun _ k => XS.iconst X9.here hx rfl (hb hby at_33) k) ?_
      show Go _ _ _ _ _ _ _ T9 (mkF m 34 #[.val (.int p0), .val (.int p1), .val (.int (0 : Int32)), .val (.int (1 : Int32)), .val (.ref w_ALWAYS), .val (.ref w_IF_EXTERNAL), .unset, .unset] [(.int (2 : Int32)), (.int (0 : Int32))])
      refine Go.st (fun _ k => XS.icmpYes X9.here hx rfl (pc0 := 34) (pc' := 46) rfl (hb hby at_34) rfl (feq (by decide : ¬ ((0 : Int32) = (2 : Int32)))).2 (by decide) (by decide) k) ?_
      show Go _ _ _ _ _ _ _ T9 (mkF m 46 #[.val (.int p0), .val (.int p1), .val (.int (0 : Int32)), .val (.int (1 : Int32)), .val (.ref w_ALWAYS), .val (.ref w_IF_EXTERNAL), .unset, .unset] [])
      refine Go.st (fun _ k => XS.iconst X9.here hx rfl (hb hby at_46) k) ?_
      show Go _ _ _ _ _ _ _ T9 (mkF m 47 #[.val (.int p0), .val (.int p1), .val (.int (0 : Int32)), .val (.int (1 : Int32)), .val (.ref w_ALWAYS), .val (.ref w_IF_EXTERNAL), .unset, .unset] [(.int (0 : Int32))])
      refine Go.st (fun _ k => XS.istore X9.here hx rfl (hb hby at_47) rfl (l' := #[.val (.int p0), .val (.int p1), .val (.int (0 : Int32)), .val (.int (1 : Int32)), .val (.ref w_ALWAYS), .val (.ref w_IF_EXTERNAL), .val (.int (0 : Int32)), .unset]) rfl k) ?_
      show Go _ _ _ _ _ _ _ T9 (mkF m 49 #[.val (.int p0), .val (.int p1), .val (.int (0 : Int32)), .val (.int (1 : Int32)), .val (.ref w_ALWAYS), .val (.ref w_IF_EXTERNAL), .val (.int (0 : Int32)), .unset] [])
      refine Go.st (fun _ k => XS.iload X9.here hx rfl (hb hby at_49) rfl k) ?_
      show Go _ _ _ _ _ _ _ T9 (mkF m 51 #[.val (.int p0), .val (.int p1), .val (.int (0 : Int32)), .val (.int (1 : Int32)), .val (.ref w_ALWAYS), .val (.ref w_IF_EXTERNAL), .val (.int (0 : Int32)), .unset] [(.int (0 : Int32))])
      refine Go.st (fun _ k => XS.ifNo X9.here hx rfl (hb hby at_51) rfl ((if0 _ _).trans (teq (by decide : (0 : Int32) = (0 : Int32))).2) k) ?_
      show Go _ _ _ _ _ _ _ T9 (mkF m 54 #[.val (.int p0), .val (.int p1), .val (.int (0 : Int32)), .val (.int (1 : Int32)), .val (.ref w_ALWAYS), .val (.ref w_IF_EXTERNAL), .val (.int (0 : Int32)), .unset] [])
      refine Go.st (fun _ k => XS.iconst X9.here hx rfl (hb hby at_54) k) ?_
      show Go _ _ _ _ _ _ _ T9 (mkF m 55 #[.val (.int p0), .val (.int p1), .val (.int (0 : Int32)), .val (.int (1 : Int32)), .val (.ref w_ALWAYS), .val (.ref w_IF_EXTERNAL), .val (.int (0 : Int32)), .unset] [(.int (1 : Int32))])
      refine Go.st (fun _ k => XS.goto X9.here hx rfl (pc0 := 55) (pc' := 59) rfl (hb hby at_55) (by decide) (by decide) k) ?_
      show Go _ _ _ _ _ _ _ T9 (mkF m 59 #[.val (.int p0), .val (.int p1), .val (.int (0 : Int32)), .val (.int (1 : Int32)), .val (.ref w_ALWAYS), .val (.ref w_IF_EXTERNAL), .val (.int (0 : Int32)), .unset] [(.int (1 : Int32))])
      refine Go.st (fun _ k => XS.istore X9.here hx rfl (hb hby at_59) rfl (l' := #[.val (.int p0), .val (.int p1), .val (.int (0 : Int32)), .val (.int (1 : Int32)), .val (.ref w_ALWAYS), .val (.ref w_IF_EXTERNAL), .val (.int (0 : Int32)), .val (.int (1 : Int32))]) rfl k) ?_
      show Go _ _ _ _ _ _ _ T9 (mkF m 61 #[.val (.int p0), .val (.int p1), .val (.int (0 : Int32)), .val (.int (1 : Int32)), .val (.ref w_ALWAYS), .val (.ref w_IF_EXTERNAL), .val (.int (0 : Int32)), .val (.int (1 : Int32))] [])
      refine Go.st (fun _ k => XS.aload X9.here hx rfl (hb hby at_61) rfl rfl k) ?_
      show Go _ _ _ _ _ _ _ T9 (mkF m 63 #[.val (.int p0), .val (.int p1), .val (.int (0 : Int32)), .val (.int (1 : Int32)), .val (.ref w_ALWAYS), .val (.ref w_IF_EXTERNAL), .val (.int (0 : Int32)), .val (.int (1 : Int32))] [(.ref w_ALWAYS)])
      refine Go.st (fun _ k => XS.aload X9.here hx rfl (hb hby at_63) rfl rfl k) ?_
      show Go _ _ _ _ _ _ _ T9 (mkF m 65 #[.val (.int p0), .val (.int p1), .val (.int (0 : Int32)), .val (.int (1 : Int32)), .val (.ref w_ALWAYS), .val (.ref w_IF_EXTERNAL), .val (.int (0 : Int32)), .val (.int (1 : Int32))] [(.ref w_IF_EXTERNAL), (.ref w_ALWAYS)])
      obtain ⟨cq10, kq10, q10a, q10b, q10c⟩ := isOf hZ e9 E_ALWAYS
      obtain ⟨_, _, ⟨T10, L10, k10, n10⟩, -, X10, ⟨Lc10, hQ10, l10, y10, z10⟩, st10⟩ := X9.virtualBack hx (y := (⟨"com/example/gatefold/gatefold/Condition", "overlaps", "(Lcom/example/gatefold/gatefold/Condition;)Z"⟩ : MethodName)) (z := (⟨"com/example/gatefold/gatefold/Condition", "overlaps", "(Lcom/example/gatefold/gatefold/Condition;)Z"⟩ : MethodName)) hown (mvT hZ (hw _ (List.mem_of_getElem? (i := 11) rfl))) (mvT hZ (hw _ (List.mem_of_getElem? (i := 12) rfl))) (notFace_of_selects (args := #[]) (mvT hZ (hw _ (List.mem_of_getElem? (i := 14) rfl)))) (mvT hZ (hw _ (List.mem_of_getElem? (i := 14) rfl))) (mvT hZ (hw _ (List.mem_of_getElem? (i := 13) rfl))) (by decide) (backOf (W := 0) (rm3 l Z a0 hw [] w_ALWAYS w_IF_EXTERNAL (0 : Int32) (1 : Int32) h0 n0 Z0 E_ALWAYS E_IF_EXTERNAL F_ALWAYS_ordinal F_IF_EXTERNAL_ordinal (Or.inl rfl) (Or.inr (Or.inl rfl))) hZ (hw _ (List.mem_of_getElem? (i := 15) rfl)) (hw _ (List.mem_of_getElem? (i := 9) rfl)) (by decide) (by decide)) q10a q10c (g := (mkF m 65 #[.val (.int p0), .val (.int p1), .val (.int (0 : Int32)), .val (.int (1 : Int32)), .val (.ref w_ALWAYS), .val (.ref w_IF_EXTERNAL), .val (.int (0 : Int32)), .val (.int (1 : Int32))] [(.ref w_IF_EXTERNAL), (.ref w_ALWAYS)])) rfl (by rw [hml]; rfl) (Steps.refl _) (argsL := [(.ref w_IF_EXTERNAL)]) (rest := []) (lenOf pd_4 rfl) rfl (by show 2 * 0 + _ ≤ _; exact Nat.le_of_eq rfl) (hb hby at_65) (fun _ _ => ⟨rfl, e9, (by decide : 0 + 0 ≤ _), (by decide : 0 + 0 ≤ _)⟩)
      dsimp only [Pt.U, Pt.locs, Pt.cells, Pt.slots] at X10 l10 y10 z10 st10 hQ10
      subst l10 y10 z10
      obtain ⟨rfl, N10q, e10⟩ := hQ10
      have N10 := Fr.app N9 N10q
      refine Go.st (fun _ k => st10.trans k) ?_
      show Go _ _ _ _ _ _ _ T10 (mkF m 68 #[.val (.int p0), .val (.int p1), .val (.int (0 : Int32)), .val (.int (1 : Int32)), .val (.ref w_ALWAYS), .val (.ref w_IF_EXTERNAL), .val (.int (0 : Int32)), .val (.int (1 : Int32))] [(.int (val_3 w_ALWAYS w_IF_EXTERNAL (0 : Int32) (1 : Int32)))])
      rw [show (val_3 w_ALWAYS w_IF_EXTERNAL (0 : Int32) (1 : Int32)) = (1 : Int32) from by unfold val_3; rw [if_pos (by decide +kernel : (0 : Int32) = (0 : Int32))]]
      show Go _ _ _ _ _ _ _ T10 (mkF m 68 #[.val (.int p0), .val (.int p1), .val (.int (0 : Int32)), .val (.int (1 : Int32)), .val (.ref w_ALWAYS), .val (.ref w_IF_EXTERNAL), .val (.int (0 : Int32)), .val (.int (1 : Int32))] [(.int (1 : Int32))])
      refine Go.st (fun _ k => XS.iload X10.here hx rfl (hb hby at_68) rfl k) ?_
      show Go _ _ _ _ _ _ _ T10 (mkF m 70 #[.val (.int p0), .val (.int p1), .val (.int (0 : Int32)), .val (.int (1 : Int32)), .val (.ref w_ALWAYS), .val (.ref w_IF_EXTERNAL), .val (.int (0 : Int32)), .val (.int (1 : Int32))] [(.int (1 : Int32)), (.int (1 : Int32))])
      refine Go.st (fun _ k => XS.icmpNo X10.here hx rfl (hb hby at_70) rfl (teq (by decide : (1 : Int32) = (1 : Int32))).2 k) ?_
      show Go _ _ _ _ _ _ _ T10 (mkF m 73 #[.val (.int p0), .val (.int p1), .val (.int (0 : Int32)), .val (.int (1 : Int32)), .val (.ref w_ALWAYS), .val (.ref w_IF_EXTERNAL), .val (.int (0 : Int32)), .val (.int (1 : Int32))] [])
      refine Go.st (fun _ k => XS.iconst X10.here hx rfl (hb hby at_73) k) ?_
      show Go _ _ _ _ _ _ _ T10 (mkF m 74 #[.val (.int p0), .val (.int p1), .val (.int (0 : Int32)), .val (.int (1 : Int32)), .val (.ref w_ALWAYS), .val (.ref w_IF_EXTERNAL), .val (.int (0 : Int32)), .val (.int (1 : Int32))] [(.int (1 : Int32))])
      refine Go.st (fun _ k => XS.goto X10.here hx rfl (pc0 := 74) (pc' := 78) rfl (hb hby at_74) (by decide) (by decide) k) ?_
      show Go _ _ _ _ _ _ _ T10 (mkF m 78 #[.val (.int p0), .val (.int p1), .val (.int (0 : Int32)), .val (.int (1 : Int32)), .val (.ref w_ALWAYS), .val (.ref w_IF_EXTERNAL), .val (.int (0 : Int32)), .val (.int (1 : Int32))] [(.int (1 : Int32))])
      refine Go.ret X10 hlk (v := some (.int (1 : Int32))) (fun h => by rw [hret] at h; cases h) (fun fs hr => retN X10 hx (t := .boolean) hret (by simp) (hb hby at_78) hr) ?_ (by decide) (by decide)
      show Q0 Z p0 p1 w_ALWAYS w_IF_NOT_EXTERNAL w_IF_EXTERNAL h0 n0 (some (.int (1 : Int32))) T10.heap _
      rw [e10]
      exact ⟨rfl, N10⟩
    · rw [hk4]
      show Go _ _ _ _ _ _ _ T3 (mkF m 9 #[.val (.int p0), .val (.int p1), .val (.int (0 : Int32)), .unset, .unset, .unset, .unset, .unset] [(.int (2 : Int32))])
      refine Go.st (fun _ k => XS.istoreN X3.here hx rfl (hb hby at_9) rfl (l' := #[.val (.int p0), .val (.int p1), .val (.int (0 : Int32)), .val (.int (2 : Int32)), .unset, .unset, .unset, .unset]) rfl k) ?_
      show Go _ _ _ _ _ _ _ T3 (mkF m 10 #[.val (.int p0), .val (.int p1), .val (.int (0 : Int32)), .val (.int (2 : Int32)), .unset, .unset, .unset, .unset] [])
      refine Go.st (fun _ k => XS.iloadN X3.here hx rfl (hb hby at_10) rfl k) ?_
      show Go _ _ _ _ _ _ _ T3 (mkF m 11 #[.val (.int p0), .val (.int p1), .val (.int (0 : Int32)), .val (.int (2 : Int32)), .unset, .unset, .unset, .unset] [(.int (0 : Int32))])
      obtain ⟨_, _, ⟨T11, L11, k11, n11⟩, -, X11, ⟨Lc11, hQ11, l11, y11, z11⟩, st11⟩ := Jvm.LawKit.callS X3 hx (y := (⟨"com/example/gatefold/gatefold/ConditionOverlapsPinLaw", "pick", "(I)Lcom/example/gatefold/gatefold/Condition;"⟩ : MethodName)) hown (mvT hZ (hw _ (List.mem_of_getElem? (i := 5) rfl))) (mvT hZ (hw _ (List.mem_of_getElem? (i := 6) rfl))) (mvT hZ (hw _ (List.mem_of_getElem? (i := 2) rfl))) (mvT hZ (hw _ (List.mem_of_getElem? (i := 7) rfl))) (by decide) (backOf (W := 0) (rm2 l Z a0 hw [] (0 : Int32) w_ALWAYS w_IF_EXTERNAL w_IF_NOT_EXTERNAL h0 n0 Z0 S_ALWAYS S_IF_EXTERNAL S_IF_NOT_EXTERNAL) hZ (hw _ (List.mem_of_getElem? (i := 7) rfl)) (hw _ (List.mem_of_getElem? (i := 2) rfl)) (by decide) (by decide)) (g := (mkF m 11 #[.val (.int p0), .val (.int p1), .val (.int (0 : Int32)), .val (.int (2 : Int32)), .unset, .unset, .unset, .unset] [(.int (0 : Int32))])) rfl (by rw [hml]; rfl) (argsL := [(.int (0 : Int32))]) (rest := []) (lenOf pd_3 rfl) rfl (by show 2 * 0 + _ ≤ _; exact Nat.le_of_eq rfl) (hb hby at_11) (fun _ _ => ⟨rfl, e3, (by decide : 0 + 0 ≤ _), (by decide : 0 + 0 ≤ _)⟩)
      dsimp only [Pt.U, Pt.locs, Pt.cells, Pt.slots] at X11 l11 y11 z11 st11 hQ11
      subst l11 y11 z11
      obtain ⟨rfl, N11q, e11⟩ := hQ11
      have N11 := Fr.app N3 N11q
      refine Go.st st11 ?_
      show Go _ _ _ _ _ _ _ T11 (mkF m 14 #[.val (.int p0), .val (.int p1), .val (.int (0 : Int32)), .val (.int (2 : Int32)), .unset, .unset, .unset, .unset] [(.ref (val_2 (0 : Int32) w_ALWAYS w_IF_EXTERNAL w_IF_NOT_EXTERNAL))])
      rw [show (val_2 (0 : Int32) w_ALWAYS w_IF_EXTERNAL w_IF_NOT_EXTERNAL) = w_ALWAYS from by unfold val_2; rw [if_pos (by decide +kernel : (0 : Int32) = (0 : Int32))]]
      show Go _ _ _ _ _ _ _ T11 (mkF m 14 #[.val (.int p0), .val (.int p1), .val (.int (0 : Int32)), .val (.int (2 : Int32)), .unset, .unset, .unset, .unset] [(.ref w_ALWAYS)])
      refine Go.st (fun _ k => XS.astore X11.here hx rfl (hb hby at_14) rfl rfl (l' := #[.val (.int p0), .val (.int p1), .val (.int (0 : Int32)), .val (.int (2 : Int32)), .val (.ref w_ALWAYS), .unset, .unset, .unset]) rfl k) ?_
      show Go _ _ _ _ _ _ _ T11 (mkF m 16 #[.val (.int p0), .val (.int p1), .val (.int (0 : Int32)), .val (.int (2 : Int32)), .val (.ref w_ALWAYS), .unset, .unset, .unset] [])
      refine Go.st (fun _ k => XS.iloadN X11.here hx rfl (hb hby at_16) rfl k) ?_
      show Go _ _ _ _ _ _ _ T11 (mkF m 17 #[.val (.int p0), .val (.int p1), .val (.int (0 : Int32)), .val (.int (2 : Int32)), .val (.ref w_ALWAYS), .unset, .unset, .unset] [(.int (2 : Int32))])
      obtain ⟨_, _, ⟨T12, L12, k12, n12⟩, -, X12, ⟨Lc12, hQ12, l12, y12, z12⟩, st12⟩ := Jvm.LawKit.callS X11 hx (y := (⟨"com/example/gatefold/gatefold/ConditionOverlapsPinLaw", "pick", "(I)Lcom/example/gatefold/gatefold/Condition;"⟩ : MethodName)) hown (mvT hZ (hw _ (List.mem_of_getElem? (i := 5) rfl))) (mvT hZ (hw _ (List.mem_of_getElem? (i := 6) rfl))) (mvT hZ (hw _ (List.mem_of_getElem? (i := 2) rfl))) (mvT hZ (hw _ (List.mem_of_getElem? (i := 7) rfl))) (by decide) (backOf (W := 0) (rm2 l Z a0 hw [] (2 : Int32) w_ALWAYS w_IF_EXTERNAL w_IF_NOT_EXTERNAL h0 n0 Z0 S_ALWAYS S_IF_EXTERNAL S_IF_NOT_EXTERNAL) hZ (hw _ (List.mem_of_getElem? (i := 7) rfl)) (hw _ (List.mem_of_getElem? (i := 2) rfl)) (by decide) (by decide)) (g := (mkF m 17 #[.val (.int p0), .val (.int p1), .val (.int (0 : Int32)), .val (.int (2 : Int32)), .val (.ref w_ALWAYS), .unset, .unset, .unset] [(.int (2 : Int32))])) rfl (by rw [hml]; rfl) (argsL := [(.int (2 : Int32))]) (rest := []) (lenOf pd_3 rfl) rfl (by show 2 * 0 + _ ≤ _; exact Nat.le_of_eq rfl) (hb hby at_17) (fun _ _ => ⟨rfl, e11, (by decide : 0 + 0 ≤ _), (by decide : 0 + 0 ≤ _)⟩)
      dsimp only [Pt.U, Pt.locs, Pt.cells, Pt.slots] at X12 l12 y12 z12 st12 hQ12
      subst l12 y12 z12
      obtain ⟨rfl, N12q, e12⟩ := hQ12
      have N12 := Fr.app N11 N12q
      refine Go.st st12 ?_
      show Go _ _ _ _ _ _ _ T12 (mkF m 20 #[.val (.int p0), .val (.int p1), .val (.int (0 : Int32)), .val (.int (2 : Int32)), .val (.ref w_ALWAYS), .unset, .unset, .unset] [(.ref (val_2 (2 : Int32) w_ALWAYS w_IF_EXTERNAL w_IF_NOT_EXTERNAL))])
      rw [show (val_2 (2 : Int32) w_ALWAYS w_IF_EXTERNAL w_IF_NOT_EXTERNAL) = w_IF_NOT_EXTERNAL from by unfold val_2; rw [if_neg (by decide +kernel : ¬ ((2 : Int32) = (0 : Int32))), if_neg (by decide +kernel : ¬ ((2 : Int32) = (1 : Int32)))]]
      show Go _ _ _ _ _ _ _ T12 (mkF m 20 #[.val (.int p0), .val (.int p1), .val (.int (0 : Int32)), .val (.int (2 : Int32)), .val (.ref w_ALWAYS), .unset, .unset, .unset] [(.ref w_IF_NOT_EXTERNAL)])
      refine Go.st (fun _ k => XS.astore X12.here hx rfl (hb hby at_20) rfl rfl (l' := #[.val (.int p0), .val (.int p1), .val (.int (0 : Int32)), .val (.int (2 : Int32)), .val (.ref w_ALWAYS), .val (.ref w_IF_NOT_EXTERNAL), .unset, .unset]) rfl k) ?_
      show Go _ _ _ _ _ _ _ T12 (mkF m 22 #[.val (.int p0), .val (.int p1), .val (.int (0 : Int32)), .val (.int (2 : Int32)), .val (.ref w_ALWAYS), .val (.ref w_IF_NOT_EXTERNAL), .unset, .unset] [])
      refine Go.st (fun _ k => XS.iloadN X12.here hx rfl (hb hby at_22) rfl k) ?_
      show Go _ _ _ _ _ _ _ T12 (mkF m 23 #[.val (.int p0), .val (.int p1), .val (.int (0 : Int32)), .val (.int (2 : Int32)), .val (.ref w_ALWAYS), .val (.ref w_IF_NOT_EXTERNAL), .unset, .unset] [(.int (0 : Int32))])
      refine Go.st (fun _ k => XS.iconst X12.here hx rfl (hb hby at_23) k) ?_
      show Go _ _ _ _ _ _ _ T12 (mkF m 24 #[.val (.int p0), .val (.int p1), .val (.int (0 : Int32)), .val (.int (2 : Int32)), .val (.ref w_ALWAYS), .val (.ref w_IF_NOT_EXTERNAL), .unset, .unset] [(.int (1 : Int32)), (.int (0 : Int32))])
      refine Go.st (fun _ k => XS.icmpYes X12.here hx rfl (pc0 := 24) (pc' := 32) rfl (hb hby at_24) rfl (feq (by decide : ¬ ((0 : Int32) = (1 : Int32)))).2 (by decide) (by decide) k) ?_
      show Go _ _ _ _ _ _ _ T12 (mkF m 32 #[.val (.int p0), .val (.int p1), .val (.int (0 : Int32)), .val (.int (2 : Int32)), .val (.ref w_ALWAYS), .val (.ref w_IF_NOT_EXTERNAL), .unset, .unset] [])
      refine Go.st (fun _ k => XS.iloadN X12.here hx rfl (hb hby at_32) rfl k) ?_
      show Go _ _ _ _ _ _ _ T12 (mkF m 33 #[.val (.int p0), .val (.int p1), .val (.int (0 : Int32)), .val (.int (2 : Int32)), .val (.ref w_ALWAYS), .val (.ref w_IF_NOT_EXTERNAL), .unset, .unset] [(.int (0 : Int32))])
      refine Go.st (fun _ k => XS.iconst X12.here hx rfl (hb hby at_33) k) ?_
      show Go _ _ _ _ _ _ _ T12 (mkF m 34 #[.val (.int p0), .val (.int p1), .val (.int (0 : Int32)), .val (.int (2 : Int32)), .val (.ref w_ALWAYS), .val (.ref w_IF_NOT_EXTERNAL), .unset, .unset] [(.int (2 : Int32)), (.int (0 : Int32))])
      refine Go.st (fun _ k => XS.icmpYes X12.here hx rfl (pc0 := 34) (pc' := 46) rfl (hb hby at_34) rfl (feq (by decide : ¬ ((0 : Int32) = (2 : Int32)))).2 (by decide) (by decide) k) ?_
      show Go _ _ _ _ _ _ _ T12 (mkF m 46 #[.val (.int p0), .val (.int p1), .val (.int (0 : Int32)), .val (.int (2 : Int32)), .val (.ref w_ALWAYS), .val (.ref w_IF_NOT_EXTERNAL), .unset, .unset] [])
      refine Go.st (fun _ k => XS.iconst X12.here hx rfl (hb hby at_46) k) ?_
      show Go _ _ _ _ _ _ _ T12 (mkF m 47 #[.val (.int p0), .val (.int p1), .val (.int (0 : Int32)), .val (.int (2 : Int32)), .val (.ref w_ALWAYS), .val (.ref w_IF_NOT_EXTERNAL), .unset, .unset] [(.int (0 : Int32))])
      refine Go.st (fun _ k => XS.istore X12.here hx rfl (hb hby at_47) rfl (l' := #[.val (.int p0), .val (.int p1), .val (.int (0 : Int32)), .val (.int (2 : Int32)), .val (.ref w_ALWAYS), .val (.ref w_IF_NOT_EXTERNAL), .val (.int (0 : Int32)), .unset]) rfl k) ?_
      show Go _ _ _ _ _ _ _ T12 (mkF m 49 #[.val (.int p0), .val (.int p1), .val (.int (0 : Int32)), .val (.int (2 : Int32)), .val (.ref w_ALWAYS), .val (.ref w_IF_NOT_EXTERNAL), .val (.int (0 : Int32)), .unset] [])
      refine Go.st (fun _ k => XS.iload X12.here hx rfl (hb hby at_49) rfl k) ?_
      show Go _ _ _ _ _ _ _ T12 (mkF m 51 #[.val (.int p0), .val (.int p1), .val (.int (0 : Int32)), .val (.int (2 : Int32)), .val (.ref w_ALWAYS), .val (.ref w_IF_NOT_EXTERNAL), .val (.int (0 : Int32)), .unset] [(.int (0 : Int32))])
      refine Go.st (fun _ k => XS.ifNo X12.here hx rfl (hb hby at_51) rfl ((if0 _ _).trans (teq (by decide : (0 : Int32) = (0 : Int32))).2) k) ?_
      show Go _ _ _ _ _ _ _ T12 (mkF m 54 #[.val (.int p0), .val (.int p1), .val (.int (0 : Int32)), .val (.int (2 : Int32)), .val (.ref w_ALWAYS), .val (.ref w_IF_NOT_EXTERNAL), .val (.int (0 : Int32)), .unset] [])
      refine Go.st (fun _ k => XS.iconst X12.here hx rfl (hb hby at_54) k) ?_
      show Go _ _ _ _ _ _ _ T12 (mkF m 55 #[.val (.int p0), .val (.int p1), .val (.int (0 : Int32)), .val (.int (2 : Int32)), .val (.ref w_ALWAYS), .val (.ref w_IF_NOT_EXTERNAL), .val (.int (0 : Int32)), .unset] [(.int (1 : Int32))])
      refine Go.st (fun _ k => XS.goto X12.here hx rfl (pc0 := 55) (pc' := 59) rfl (hb hby at_55) (by decide) (by decide) k) ?_
      show Go _ _ _ _ _ _ _ T12 (mkF m 59 #[.val (.int p0), .val (.int p1), .val (.int (0 : Int32)), .val (.int (2 : Int32)), .val (.ref w_ALWAYS), .val (.ref w_IF_NOT_EXTERNAL), .val (.int (0 : Int32)), .unset] [(.int (1 : Int32))])
      refine Go.st (fun _ k => XS.istore X12.here hx rfl (hb hby at_59) rfl (l' := #[.val (.int p0), .val (.int p1), .val (.int (0 : Int32)), .val (.int (2 : Int32)), .val (.ref w_ALWAYS), .val (.ref w_IF_NOT_EXTERNAL), .val (.int (0 : Int32)), .val (.int (1 : Int32))]) rfl k) ?_
      show Go _ _ _ _ _ _ _ T12 (mkF m 61 #[.val (.int p0), .val (.int p1), .val (.int (0 : Int32)), .val (.int (2 : Int32)), .val (.ref w_ALWAYS), .val (.ref w_IF_NOT_EXTERNAL), .val (.int (0 : Int32)), .val (.int (1 : Int32))] [])
      refine Go.st (fun _ k => XS.aload X12.here hx rfl (hb hby at_61) rfl rfl k) ?_
      show Go _ _ _ _ _ _ _ T12 (mkF m 63 #[.val (.int p0), .val (.int p1), .val (.int (0 : Int32)), .val (.int (2 : Int32)), .val (.ref w_ALWAYS), .val (.ref w_IF_NOT_EXTERNAL), .val (.int (0 : Int32)), .val (.int (1 : Int32))] [(.ref w_ALWAYS)])
      refine Go.st (fun _ k => XS.aload X12.here hx rfl (hb hby at_63) rfl rfl k) ?_
      show Go _ _ _ _ _ _ _ T12 (mkF m 65 #[.val (.int p0), .val (.int p1), .val (.int (0 : Int32)), .val (.int (2 : Int32)), .val (.ref w_ALWAYS), .val (.ref w_IF_NOT_EXTERNAL), .val (.int (0 : Int32)), .val (.int (1 : Int32))] [(.ref w_IF_NOT_EXTERNAL), (.ref w_ALWAYS)])
      obtain ⟨cq13, kq13, q13a, q13b, q13c⟩ := isOf hZ e12 E_ALWAYS
      obtain ⟨_, _, ⟨T13, L13, k13, n13⟩, -, X13, ⟨Lc13, hQ13, l13, y13, z13⟩, st13⟩ := X12.virtualBack hx (y := (⟨"com/example/gatefold/gatefold/Condition", "overlaps", "(Lcom/example/gatefold/gatefold/Condition;)Z"⟩ : MethodName)) (z := (⟨"com/example/gatefold/gatefold/Condition", "overlaps", "(Lcom/example/gatefold/gatefold/Condition;)Z"⟩ : MethodName)) hown (mvT hZ (hw _ (List.mem_of_getElem? (i := 11) rfl))) (mvT hZ (hw _ (List.mem_of_getElem? (i := 12) rfl))) (notFace_of_selects (args := #[]) (mvT hZ (hw _ (List.mem_of_getElem? (i := 14) rfl)))) (mvT hZ (hw _ (List.mem_of_getElem? (i := 14) rfl))) (mvT hZ (hw _ (List.mem_of_getElem? (i := 13) rfl))) (by decide) (backOf (W := 0) (rm3 l Z a0 hw [] w_ALWAYS w_IF_NOT_EXTERNAL (0 : Int32) (2 : Int32) h0 n0 Z0 E_ALWAYS E_IF_NOT_EXTERNAL F_ALWAYS_ordinal F_IF_NOT_EXTERNAL_ordinal (Or.inl rfl) (Or.inr (Or.inr (rfl)))) hZ (hw _ (List.mem_of_getElem? (i := 15) rfl)) (hw _ (List.mem_of_getElem? (i := 9) rfl)) (by decide) (by decide)) q13a q13c (g := (mkF m 65 #[.val (.int p0), .val (.int p1), .val (.int (0 : Int32)), .val (.int (2 : Int32)), .val (.ref w_ALWAYS), .val (.ref w_IF_NOT_EXTERNAL), .val (.int (0 : Int32)), .val (.int (1 : Int32))] [(.ref w_IF_NOT_EXTERNAL), (.ref w_ALWAYS)])) rfl (by rw [hml]; rfl) (Steps.refl _) (argsL := [(.ref w_IF_NOT_EXTERNAL)]) (rest := []) (lenOf pd_4 rfl) rfl (by show 2 * 0 + _ ≤ _; exact Nat.le_of_eq rfl) (hb hby at_65) (fun _ _ => ⟨rfl, e12, (by decide : 0 + 0 ≤ _), (by decide : 0 + 0 ≤ _)⟩)
      dsimp only [Pt.U, Pt.locs, Pt.cells, Pt.slots] at X13 l13 y13 z13 st13 hQ13
      subst l13 y13 z13
      obtain ⟨rfl, N13q, e13⟩ := hQ13
      have N13 := Fr.app N12 N13q
      refine Go.st (fun _ k => st13.trans k) ?_
      show Go _ _ _ _ _ _ _ T13 (mkF m 68 #[.val (.int p0), .val (.int p1), .val (.int (0 : Int32)), .val (.int (2 : Int32)), .val (.ref w_ALWAYS), .val (.ref w_IF_NOT_EXTERNAL), .val (.int (0 : Int32)), .val (.int (1 : Int32))] [(.int (val_3 w_ALWAYS w_IF_NOT_EXTERNAL (0 : Int32) (2 : Int32)))])
      rw [show (val_3 w_ALWAYS w_IF_NOT_EXTERNAL (0 : Int32) (2 : Int32)) = (1 : Int32) from by unfold val_3; rw [if_pos (by decide +kernel : (0 : Int32) = (0 : Int32))]]
      show Go _ _ _ _ _ _ _ T13 (mkF m 68 #[.val (.int p0), .val (.int p1), .val (.int (0 : Int32)), .val (.int (2 : Int32)), .val (.ref w_ALWAYS), .val (.ref w_IF_NOT_EXTERNAL), .val (.int (0 : Int32)), .val (.int (1 : Int32))] [(.int (1 : Int32))])
      refine Go.st (fun _ k => XS.iload X13.here hx rfl (hb hby at_68) rfl k) ?_
      show Go _ _ _ _ _ _ _ T13 (mkF m 70 #[.val (.int p0), .val (.int p1), .val (.int (0 : Int32)), .val (.int (2 : Int32)), .val (.ref w_ALWAYS), .val (.ref w_IF_NOT_EXTERNAL), .val (.int (0 : Int32)), .val (.int (1 : Int32))] [(.int (1 : Int32)), (.int (1 : Int32))])
      refine Go.st (fun _ k => XS.icmpNo X13.here hx rfl (hb hby at_70) rfl (teq (by decide : (1 : Int32) = (1 : Int32))).2 k) ?_
      show Go _ _ _ _ _ _ _ T13 (mkF m 73 #[.val (.int p0), .val (.int p1), .val (.int (0 : Int32)), .val (.int (2 : Int32)), .val (.ref w_ALWAYS), .val (.ref w_IF_NOT_EXTERNAL), .val (.int (0 : Int32)), .val (.int (1 : Int32))] [])
      refine Go.st (fun _ k => XS.iconst X13.here hx rfl (hb hby at_73) k) ?_
      show Go _ _ _ _ _ _ _ T13 (mkF m 74 #[.val (.int p0), .val (.int p1), .val (.int (0 : Int32)), .val (.int (2 : Int32)), .val (.ref w_ALWAYS), .val (.ref w_IF_NOT_EXTERNAL), .val (.int (0 : Int32)), .val (.int (1 : Int32))] [(.int (1 : Int32))])
      refine Go.st (fun _ k => XS.goto X13.here hx rfl (pc0 := 74) (pc' := 78) rfl (hb hby at_74) (by decide) (by decide) k) ?_
      show Go _ _ _ _ _ _ _ T13 (mkF m 78 #[.val (.int p0), .val (.int p1), .val (.int (0 : Int32)), .val (.int (2 : Int32)), .val (.ref w_ALWAYS), .val (.ref w_IF_NOT_EXTERNAL), .val (.int (0 : Int32)), .val (.int (1 : Int32))] [(.int (1 : Int32))])
      refine Go.ret X13 hlk (v := some (.int (1 : Int32))) (fun h => by rw [hret] at h; cases h) (fun fs hr => retN X13 hx (t := .boolean) hret (by simp) (hb hby at_78) hr) ?_ (by decide) (by decide)
      show Q0 Z p0 p1 w_ALWAYS w_IF_NOT_EXTERNAL w_IF_EXTERNAL h0 n0 (some (.int (1 : Int32))) T13.heap _
      rw [e13]
      exact ⟨rfl, N13⟩
  · rw [hk2]
    show Go _ _ _ _ _ _ _ T1 (mkF m 4 #[.val (.int p0), .val (.int p1), .unset, .unset, .unset, .unset, .unset, .unset] [(.int (1 : Int32))])
    refine Go.st (fun _ k => XS.istoreN X1.here hx rfl (hb hby at_4) rfl (l' := #[.val (.int p0), .val (.int p1), .val (.int (1 : Int32)), .unset, .unset, .unset, .unset, .unset]) rfl k) ?_
    show Go _ _ _ _ _ _ _ T1 (mkF m 5 #[.val (.int p0), .val (.int p1), .val (.int (1 : Int32)), .unset, .unset, .unset, .unset, .unset] [])
    refine Go.st (fun _ k => XS.iloadN X1.here hx rfl (hb hby at_5) rfl k) ?_
    show Go _ _ _ _ _ _ _ T1 (mkF m 6 #[.val (.int p0), .val (.int p1), .val (.int (1 : Int32)), .unset, .unset, .unset, .unset, .unset] [(.int p1)])
    obtain ⟨_, _, ⟨T14, L14, k14, n14⟩, -, X14, ⟨Lc14, hQ14, l14, y14, z14⟩, st14⟩ := Jvm.LawKit.callS X1 hx (y := (⟨"com/example/gatefold/gatefold/ConditionOverlapsPinLaw", "index", "(I)I"⟩ : MethodName)) hown (mvT hZ (hw _ (List.mem_of_getElem? (i := 0) rfl))) (mvT hZ (hw _ (List.mem_of_getElem? (i := 1) rfl))) (mvT hZ (hw _ (List.mem_of_getElem? (i := 2) rfl))) (mvT hZ (hw _ (List.mem_of_getElem? (i := 3) rfl))) (by decide) (backOf (W := 0) (rm1 l Z a0 hw [] p1  h0 n0 Z0 ) hZ (hw _ (List.mem_of_getElem? (i := 3) rfl)) (hw _ (List.mem_of_getElem? (i := 2) rfl)) (by decide) (by decide)) (g := (mkF m 6 #[.val (.int p0), .val (.int p1), .val (.int (1 : Int32)), .unset, .unset, .unset, .unset, .unset] [(.int p1)])) rfl (by rw [hml]; rfl) (argsL := [(.int p1)]) (rest := []) (lenOf pd_2 rfl) rfl (by show 2 * 0 + _ ≤ _; exact Nat.le_of_eq rfl) (hb hby at_6) (fun _ _ => ⟨rfl, e1, (by decide : 0 + 0 ≤ _), (by decide : 0 + 0 ≤ _)⟩)
    dsimp only [Pt.U, Pt.locs, Pt.cells, Pt.slots] at X14 l14 y14 z14 st14 hQ14
    subst l14 y14 z14
    obtain ⟨rfl, N14q, e14⟩ := hQ14
    have N14 := Fr.app N1 N14q
    refine Go.st st14 ?_
    show Go _ _ _ _ _ _ _ T14 (mkF m 9 #[.val (.int p0), .val (.int p1), .val (.int (1 : Int32)), .unset, .unset, .unset, .unset, .unset] [(.int (val_1 p1))])
    rw [show (val_1 p1) = ((p1 &&& (2147483647 : Int32)) % (3 : Int32)) from by unfold val_1; rfl]
    show Go _ _ _ _ _ _ _ T14 (mkF m 9 #[.val (.int p0), .val (.int p1), .val (.int (1 : Int32)), .unset, .unset, .unset, .unset, .unset] [(.int ((p1 &&& (2147483647 : Int32)) % (3 : Int32)))])
    rcases own_mod3 p1 with hk15 | hk15 | hk15
    · rw [hk15]
      show Go _ _ _ _ _ _ _ T14 (mkF m 9 #[.val (.int p0), .val (.int p1), .val (.int (1 : Int32)), .unset, .unset, .unset, .unset, .unset] [(.int (0 : Int32))])
      refine Go.st (fun _ k => XS.istoreN X14.here hx rfl (hb hby at_9) rfl (l' := #[.val (.int p0), .val (.int p1), .val (.int (1 : Int32)), .val (.int (0 : Int32)), .unset, .unset, .unset, .unset]) rfl k) ?_
      show Go _ _ _ _ _ _ _ T14 (mkF m 10 #[.val (.int p0), .val (.int p1), .val (.int (1 : Int32)), .val (.int (0 : Int32)), .unset, .unset, .unset, .unset] [])
      refine Go.st (fun _ k => XS.iloadN X14.here hx rfl (hb hby at_10) rfl k) ?_
      show Go _ _ _ _ _ _ _ T14 (mkF m 11 #[.val (.int p0), .val (.int p1), .val (.int (1 : Int32)), .val (.int (0 : Int32)), .unset, .unset, .unset, .unset] [(.int (1 : Int32))])
      obtain ⟨_, _, ⟨T16, L16, k16, n16⟩, -, X16, ⟨Lc16, hQ16, l16, y16, z16⟩, st16⟩ := Jvm.LawKit.callS X14 hx (y := (⟨"com/example/gatefold/gatefold/ConditionOverlapsPinLaw", "pick", "(I)Lcom/example/gatefold/gatefold/Condition;"⟩ : MethodName)) hown (mvT hZ (hw _ (List.mem_of_getElem? (i := 5) rfl))) (mvT hZ (hw _ (List.mem_of_getElem? (i := 6) rfl))) (mvT hZ (hw _ (List.mem_of_getElem? (i := 2) rfl))) (mvT hZ (hw _ (List.mem_of_getElem? (i := 7) rfl))) (by decide) (backOf (W := 0) (rm2 l Z a0 hw [] (1 : Int32) w_ALWAYS w_IF_EXTERNAL w_IF_NOT_EXTERNAL h0 n0 Z0 S_ALWAYS S_IF_EXTERNAL S_IF_NOT_EXTERNAL) hZ (hw _ (List.mem_of_getElem? (i := 7) rfl)) (hw _ (List.mem_of_getElem? (i := 2) rfl)) (by decide) (by decide)) (g := (mkF m 11 #[.val (.int p0), .val (.int p1), .val (.int (1 : Int32)), .val (.int (0 : Int32)), .unset, .unset, .unset, .unset] [(.int (1 : Int32))])) rfl (by rw [hml]; rfl) (argsL := [(.int (1 : Int32))]) (rest := []) (lenOf pd_3 rfl) rfl (by show 2 * 0 + _ ≤ _; exact Nat.le_of_eq rfl) (hb hby at_11) (fun _ _ => ⟨rfl, e14, (by decide : 0 + 0 ≤ _), (by decide : 0 + 0 ≤ _)⟩)
      dsimp only [Pt.U, Pt.locs, Pt.cells, Pt.slots] at X16 l16 y16 z16 st16 hQ16
      subst l16 y16 z16
      obtain ⟨rfl, N16q, e16⟩ := hQ16
      have N16 := Fr.app N14 N16q
      refine Go.st st16 ?_
      show Go _ _ _ _ _ _ _ T16 (mkF m 14 #[.val (.int p0), .val (.int p1), .val (.int (1 : Int32)), .val (.int (0 : Int32)), .unset, .unset, .unset, .unset] [(.ref (val_2 (1 : Int32) w_ALWAYS w_IF_EXTERNAL w_IF_NOT_EXTERNAL))])
      rw [show (val_2 (1 : Int32) w_ALWAYS w_IF_EXTERNAL w_IF_NOT_EXTERNAL) = w_IF_EXTERNAL from by unfold val_2; rw [if_neg (by decide +kernel : ¬ ((1 : Int32) = (0 : Int32))), if_pos (by decide +kernel : (1 : Int32) = (1 : Int32))]]
      show Go _ _ _ _ _ _ _ T16 (mkF m 14 #[.val (.int p0), .val (.int p1), .val (.int (1 : Int32)), .val (.int (0 : Int32)), .unset, .unset, .unset, .unset] [(.ref w_IF_EXTERNAL)])
      refine Go.st (fun _ k => XS.astore X16.here hx rfl (hb hby at_14) rfl rfl (l' := #[.val (.int p0), .val (.int p1), .val (.int (1 : Int32)), .val (.int (0 : Int32)), .val (.ref w_IF_EXTERNAL), .unset, .unset, .unset]) rfl k) ?_
      show Go _ _ _ _ _ _ _ T16 (mkF m 16 #[.val (.int p0), .val (.int p1), .val (.int (1 : Int32)), .val (.int (0 : Int32)), .val (.ref w_IF_EXTERNAL), .unset, .unset, .unset] [])
      refine Go.st (fun _ k => XS.iloadN X16.here hx rfl (hb hby at_16) rfl k) ?_
      show Go _ _ _ _ _ _ _ T16 (mkF m 17 #[.val (.int p0), .val (.int p1), .val (.int (1 : Int32)), .val (.int (0 : Int32)), .val (.ref w_IF_EXTERNAL), .unset, .unset, .unset] [(.int (0 : Int32))])
      obtain ⟨_, _, ⟨T17, L17, k17, n17⟩, -, X17, ⟨Lc17, hQ17, l17, y17, z17⟩, st17⟩ := Jvm.LawKit.callS X16 hx (y := (⟨"com/example/gatefold/gatefold/ConditionOverlapsPinLaw", "pick", "(I)Lcom/example/gatefold/gatefold/Condition;"⟩ : MethodName)) hown (mvT hZ (hw _ (List.mem_of_getElem? (i := 5) rfl))) (mvT hZ (hw _ (List.mem_of_getElem? (i := 6) rfl))) (mvT hZ (hw _ (List.mem_of_getElem? (i := 2) rfl))) (mvT hZ (hw _ (List.mem_of_getElem? (i := 7) rfl))) (by decide) (backOf (W := 0) (rm2 l Z a0 hw [] (0 : Int32) w_ALWAYS w_IF_EXTERNAL w_IF_NOT_EXTERNAL h0 n0 Z0 S_ALWAYS S_IF_EXTERNAL S_IF_NOT_EXTERNAL) hZ (hw _ (List.mem_of_getElem? (i := 7) rfl)) (hw _ (List.mem_of_getElem? (i := 2) rfl)) (by decide) (by decide)) (g := (mkF m 17 #[.val (.int p0), .val (.int p1), .val (.int (1 : Int32)), .val (.int (0 : Int32)), .val (.ref w_IF_EXTERNAL), .unset, .unset, .unset] [(.int (0 : Int32))])) rfl (by rw [hml]; rfl) (argsL := [(.int (0 : Int32))]) (rest := []) (lenOf pd_3 rfl) rfl (by show 2 * 0 + _ ≤ _; exact Nat.le_of_eq rfl) (hb hby at_17) (fun _ _ => ⟨rfl, e16, (by decide : 0 + 0 ≤ _), (by decide : 0 + 0 ≤ _)⟩)
      dsimp only [Pt.U, Pt.locs, Pt.cells, Pt.slots] at X17 l17 y17 z17 st17 hQ17
      subst l17 y17 z17
      obtain ⟨rfl, N17q, e17⟩ := hQ17
      have N17 := Fr.app N16 N17q
      refine Go.st st17 ?_
      show Go _ _ _ _ _ _ _ T17 (mkF m 20 #[.val (.int p0), .val (.int p1), .val (.int (1 : Int32)), .val (.int (0 : Int32)), .val (.ref w_IF_EXTERNAL), .unset, .unset, .unset] [(.ref (val_2 (0 : Int32) w_ALWAYS w_IF_EXTERNAL w_IF_NOT_EXTERNAL))])
      rw [show (val_2 (0 : Int32) w_ALWAYS w_IF_EXTERNAL w_IF_NOT_EXTERNAL) = w_ALWAYS from by unfold val_2; rw [if_pos (by decide +kernel : (0 : Int32) = (0 : Int32))]]
      show Go _ _ _ _ _ _ _ T17 (mkF m 20 #[.val (.int p0), .val (.int p1), .val (.int (1 : Int32)), .val (.int (0 : Int32)), .val (.ref w_IF_EXTERNAL), .unset, .unset, .unset] [(.ref w_ALWAYS)])
      refine Go.st (fun _ k => XS.astore X17.here hx rfl (hb hby at_20) rfl rfl (l' := #[.val (.int p0), .val (.int p1), .val (.int (1 : Int32)), .val (.int (0 : Int32)), .val (.ref w_IF_EXTERNAL), .val (.ref w_ALWAYS), .unset, .unset]) rfl k) ?_
      show Go _ _ _ _ _ _ _ T17 (mkF m 22 #[.val (.int p0), .val (.int p1), .val (.int (1 : Int32)), .val (.int (0 : Int32)), .val (.ref w_IF_EXTERNAL), .val (.ref w_ALWAYS), .unset, .unset] [])
      refine Go.st (fun _ k => XS.iloadN X17.here hx rfl (hb hby at_22) rfl k) ?_
      show Go _ _ _ _ _ _ _ T17 (mkF m 23 #[.val (.int p0), .val (.int p1), .val (.int (1 : Int32)), .val (.int (0 : Int32)), .val (.ref w_IF_EXTERNAL), .val (.ref w_ALWAYS), .unset, .unset] [(.int (1 : Int32))])
      refine Go.st (fun _ k => XS.iconst X17.here hx rfl (hb hby at_23) k) ?_
      show Go _ _ _ _ _ _ _ T17 (mkF m 24 #[.val (.int p0), .val (.int p1), .val (.int (1 : Int32)), .val (.int (0 : Int32)), .val (.ref w_IF_EXTERNAL), .val (.ref w_ALWAYS), .unset, .unset] [(.int (1 : Int32)), (.int (1 : Int32))])
      refine Go.st (fun _ k => XS.icmpNo X17.here hx rfl (hb hby at_24) rfl (teq (by decide : (1 : Int32) = (1 : Int32))).2 k) ?_
      show Go _ _ _ _ _ _ _ T17 (mkF m 27 #[.val (.int p0), .val (.int p1), .val (.int (1 : Int32)), .val (.int (0 : Int32)), .val (.ref w_IF_EXTERNAL), .val (.ref w_ALWAYS), .unset, .unset] [])
      refine Go.st (fun _ k => XS.iloadN X17.here hx rfl (hb hby at_27) rfl k) ?_
      show Go _ _ _ _ _ _ _ T17 (mkF m 28 #[.val (.int p0), .val (.int p1), .val (.int (1 : Int32)), .val (.int (0 : Int32)), .val (.ref w_IF_EXTERNAL), .val (.ref w_ALWAYS), .unset, .unset] [(.int (0 : Int32))])
      refine Go.st (fun _ k => XS.iconst X17.here hx rfl (hb hby at_28) k) ?_
      show Go _ _ _ _ _ _ _ T17 (mkF m 29 #[.val (.int p0), .val (.int p1), .val (.int (1 : Int32)), .val (.int (0 : Int32)), .val (.ref w_IF_EXTERNAL), .val (.ref w_ALWAYS), .unset, .unset] [(.int (2 : Int32)), (.int (0 : Int32))])
      refine Go.st (fun _ k => XS.icmpNo X17.here hx rfl (hb hby at_29) rfl (feq (by decide : ¬ ((0 : Int32) = (2 : Int32)))).1 k) ?_
      show Go _ _ _ _ _ _ _ T17 (mkF m 32 #[.val (.int p0), .val (.int p1), .val (.int (1 : Int32)), .val (.int (0 : Int32)), .val (.ref w_IF_EXTERNAL), .val (.ref w_ALWAYS), .unset, .unset] [])
      refine Go.st (fun _ k => XS.iloadN X17.here hx rfl (hb hby at_32) rfl k) ?_
      show Go _ _ _ _ _ _ _ T17 (mkF m 33 #[.val (.int p0), .val (.int p1), .val (.int (1 : Int32)), .val (.int (0 : Int32)), .val (.ref w_IF_EXTERNAL), .val (.ref w_ALWAYS), .unset, .unset] [(.int (1 : Int32))])
      refine Go.st (fun _ k => XS.iconst X17.here hx rfl (hb hby at_33) k) ?_
      show Go _ _ _ _ _ _ _ T17 (mkF m 34 #[.val (.int p0), .val (.int p1), .val (.int (1 : Int32)), .val (.int (0 : Int32)), .val (.ref w_IF_EXTERNAL), .val (.ref w_ALWAYS), .unset, .unset] [(.int (2 : Int32)), (.int (1 : Int32))])
      refine Go.st (fun _ k => XS.icmpYes X17.here hx rfl (pc0 := 34) (pc' := 46) rfl (hb hby at_34) rfl (feq (by decide : ¬ ((1 : Int32) = (2 : Int32)))).2 (by decide) (by decide) k) ?_
      show Go _ _ _ _ _ _ _ T17 (mkF m 46 #[.val (.int p0), .val (.int p1), .val (.int (1 : Int32)), .val (.int (0 : Int32)), .val (.ref w_IF_EXTERNAL), .val (.ref w_ALWAYS), .unset, .unset] [])
      refine Go.st (fun _ k => XS.iconst X17.here hx rfl (hb hby at_46) k) ?_
      show Go _ _ _ _ _ _ _ T17 (mkF m 47 #[.val (.int p0), .val (.int p1), .val (.int (1 : Int32)), .val (.int (0 : Int32)), .val (.ref w_IF_EXTERNAL), .val (.ref w_ALWAYS), .unset, .unset] [(.int (0 : Int32))])
      refine Go.st (fun _ k => XS.istore X17.here hx rfl (hb hby at_47) rfl (l' := #[.val (.int p0), .val (.int p1), .val (.int (1 : Int32)), .val (.int (0 : Int32)), .val (.ref w_IF_EXTERNAL), .val (.ref w_ALWAYS), .val (.int (0 : Int32)), .unset]) rfl k) ?_
      show Go _ _ _ _ _ _ _ T17 (mkF m 49 #[.val (.int p0), .val (.int p1), .val (.int (1 : Int32)), .val (.int (0 : Int32)), .val (.ref w_IF_EXTERNAL), .val (.ref w_ALWAYS), .val (.int (0 : Int32)), .unset] [])
      refine Go.st (fun _ k => XS.iload X17.here hx rfl (hb hby at_49) rfl k) ?_
      show Go _ _ _ _ _ _ _ T17 (mkF m 51 #[.val (.int p0), .val (.int p1), .val (.int (1 : Int32)), .val (.int (0 : Int32)), .val (.ref w_IF_EXTERNAL), .val (.ref w_ALWAYS), .val (.int (0 : Int32)), .unset] [(.int (0 : Int32))])
      refine Go.st (fun _ k => XS.ifNo X17.here hx rfl (hb hby at_51) rfl ((if0 _ _).trans (teq (by decide : (0 : Int32) = (0 : Int32))).2) k) ?_
      show Go _ _ _ _ _ _ _ T17 (mkF m 54 #[.val (.int p0), .val (.int p1), .val (.int (1 : Int32)), .val (.int (0 : Int32)), .val (.ref w_IF_EXTERNAL), .val (.ref w_ALWAYS), .val (.int (0 : Int32)), .unset] [])
      refine Go.st (fun _ k => XS.iconst X17.here hx rfl (hb hby at_54) k) ?_
      show Go _ _ _ _ _ _ _ T17 (mkF m 55 #[.val (.int p0), .val (.int p1), .val (.int (1 : Int32)), .val (.int (0 : Int32)), .val (.ref w_IF_EXTERNAL), .val (.ref w_ALWAYS), .val (.int (0 : Int32)), .unset] [(.int (1 : Int32))])
      refine Go.st (fun _ k => XS.goto X17.here hx rfl (pc0 := 55) (pc' := 59) rfl (hb hby at_55) (by decide) (by decide) k) ?_
      show Go _ _ _ _ _ _ _ T17 (mkF m 59 #[.val (.int p0), .val (.int p1), .val (.int (1 : Int32)), .val (.int (0 : Int32)), .val (.ref w_IF_EXTERNAL), .val (.ref w_ALWAYS), .val (.int (0 : Int32)), .unset] [(.int (1 : Int32))])
      refine Go.st (fun _ k => XS.istore X17.here hx rfl (hb hby at_59) rfl (l' := #[.val (.int p0), .val (.int p1), .val (.int (1 : Int32)), .val (.int (0 : Int32)), .val (.ref w_IF_EXTERNAL), .val (.ref w_ALWAYS), .val (.int (0 : Int32)), .val (.int (1 : Int32))]) rfl k) ?_
      show Go _ _ _ _ _ _ _ T17 (mkF m 61 #[.val (.int p0), .val (.int p1), .val (.int (1 : Int32)), .val (.int (0 : Int32)), .val (.ref w_IF_EXTERNAL), .val (.ref w_ALWAYS), .val (.int (0 : Int32)), .val (.int (1 : Int32))] [])
      refine Go.st (fun _ k => XS.aload X17.here hx rfl (hb hby at_61) rfl rfl k) ?_
      show Go _ _ _ _ _ _ _ T17 (mkF m 63 #[.val (.int p0), .val (.int p1), .val (.int (1 : Int32)), .val (.int (0 : Int32)), .val (.ref w_IF_EXTERNAL), .val (.ref w_ALWAYS), .val (.int (0 : Int32)), .val (.int (1 : Int32))] [(.ref w_IF_EXTERNAL)])
      refine Go.st (fun _ k => XS.aload X17.here hx rfl (hb hby at_63) rfl rfl k) ?_
      show Go _ _ _ _ _ _ _ T17 (mkF m 65 #[.val (.int p0), .val (.int p1), .val (.int (1 : Int32)), .val (.int (0 : Int32)), .val (.ref w_IF_EXTERNAL), .val (.ref w_ALWAYS), .val (.int (0 : Int32)), .val (.int (1 : Int32))] [(.ref w_ALWAYS), (.ref w_IF_EXTERNAL)])
      obtain ⟨cq18, kq18, q18a, q18b, q18c⟩ := isOf hZ e17 E_IF_EXTERNAL
      obtain ⟨_, _, ⟨T18, L18, k18, n18⟩, -, X18, ⟨Lc18, hQ18, l18, y18, z18⟩, st18⟩ := X17.virtualBack hx (y := (⟨"com/example/gatefold/gatefold/Condition", "overlaps", "(Lcom/example/gatefold/gatefold/Condition;)Z"⟩ : MethodName)) (z := (⟨"com/example/gatefold/gatefold/Condition", "overlaps", "(Lcom/example/gatefold/gatefold/Condition;)Z"⟩ : MethodName)) hown (mvT hZ (hw _ (List.mem_of_getElem? (i := 11) rfl))) (mvT hZ (hw _ (List.mem_of_getElem? (i := 12) rfl))) (notFace_of_selects (args := #[]) (mvT hZ (hw _ (List.mem_of_getElem? (i := 14) rfl)))) (mvT hZ (hw _ (List.mem_of_getElem? (i := 14) rfl))) (mvT hZ (hw _ (List.mem_of_getElem? (i := 13) rfl))) (by decide) (backOf (W := 0) (rm3 l Z a0 hw [] w_IF_EXTERNAL w_ALWAYS (1 : Int32) (0 : Int32) h0 n0 Z0 E_IF_EXTERNAL E_ALWAYS F_IF_EXTERNAL_ordinal F_ALWAYS_ordinal (Or.inr (Or.inl rfl)) (Or.inl rfl)) hZ (hw _ (List.mem_of_getElem? (i := 15) rfl)) (hw _ (List.mem_of_getElem? (i := 9) rfl)) (by decide) (by decide)) q18a q18c (g := (mkF m 65 #[.val (.int p0), .val (.int p1), .val (.int (1 : Int32)), .val (.int (0 : Int32)), .val (.ref w_IF_EXTERNAL), .val (.ref w_ALWAYS), .val (.int (0 : Int32)), .val (.int (1 : Int32))] [(.ref w_ALWAYS), (.ref w_IF_EXTERNAL)])) rfl (by rw [hml]; rfl) (Steps.refl _) (argsL := [(.ref w_ALWAYS)]) (rest := []) (lenOf pd_4 rfl) rfl (by show 2 * 0 + _ ≤ _; exact Nat.le_of_eq rfl) (hb hby at_65) (fun _ _ => ⟨rfl, e17, (by decide : 0 + 0 ≤ _), (by decide : 0 + 0 ≤ _)⟩)
      dsimp only [Pt.U, Pt.locs, Pt.cells, Pt.slots] at X18 l18 y18 z18 st18 hQ18
      subst l18 y18 z18
      obtain ⟨rfl, N18q, e18⟩ := hQ18
      have N18 := Fr.app N17 N18q
      refine Go.st (fun _ k => st18.trans k) ?_
      show Go _ _ _ _ _ _ _ T18 (mkF m 68 #[.val (.int p0), .val (.int p1), .val (.int (1 : Int32)), .val (.int (0 : Int32)), .val (.ref w_IF_EXTERNAL), .val (.ref w_ALWAYS), .val (.int (0 : Int32)), .val (.int (1 : Int32))] [(.int (val_3 w_IF_EXTERNAL w_ALWAYS (1 : Int32) (0 : Int32)))])
      rw [show (val_3 w_IF_EXTERNAL w_ALWAYS (1 : Int32) (0 : Int32)) = (1 : Int32) from by unfold val_3; rw [if_neg (by decide +kernel : ¬ ((1 : Int32) = (0 : Int32))), if_pos (by decide +kernel : (1 : Int32) = (1 : Int32)), if_pos (by decide +kernel : (0 : Int32) = (0 : Int32))]]
      show Go _ _ _ _ _ _ _ T18 (mkF m 68 #[.val (.int p0), .val (.int p1), .val (.int (1 : Int32)), .val (.int (0 : Int32)), .val (.ref w_IF_EXTERNAL), .val (.ref w_ALWAYS), .val (.int (0 : Int32)), .val (.int (1 : Int32))] [(.int (1 : Int32))])
      refine Go.st (fun _ k => XS.iload X18.here hx rfl (hb hby at_68) rfl k) ?_
      show Go _ _ _ _ _ _ _ T18 (mkF m 70 #[.val (.int p0), .val (.int p1), .val (.int (1 : Int32)), .val (.int (0 : Int32)), .val (.ref w_IF_EXTERNAL), .val (.ref w_ALWAYS), .val (.int (0 : Int32)), .val (.int (1 : Int32))] [(.int (1 : Int32)), (.int (1 : Int32))])
      refine Go.st (fun _ k => XS.icmpNo X18.here hx rfl (hb hby at_70) rfl (teq (by decide : (1 : Int32) = (1 : Int32))).2 k) ?_
      show Go _ _ _ _ _ _ _ T18 (mkF m 73 #[.val (.int p0), .val (.int p1), .val (.int (1 : Int32)), .val (.int (0 : Int32)), .val (.ref w_IF_EXTERNAL), .val (.ref w_ALWAYS), .val (.int (0 : Int32)), .val (.int (1 : Int32))] [])
      refine Go.st (fun _ k => XS.iconst X18.here hx rfl (hb hby at_73) k) ?_
      show Go _ _ _ _ _ _ _ T18 (mkF m 74 #[.val (.int p0), .val (.int p1), .val (.int (1 : Int32)), .val (.int (0 : Int32)), .val (.ref w_IF_EXTERNAL), .val (.ref w_ALWAYS), .val (.int (0 : Int32)), .val (.int (1 : Int32))] [(.int (1 : Int32))])
      refine Go.st (fun _ k => XS.goto X18.here hx rfl (pc0 := 74) (pc' := 78) rfl (hb hby at_74) (by decide) (by decide) k) ?_
      show Go _ _ _ _ _ _ _ T18 (mkF m 78 #[.val (.int p0), .val (.int p1), .val (.int (1 : Int32)), .val (.int (0 : Int32)), .val (.ref w_IF_EXTERNAL), .val (.ref w_ALWAYS), .val (.int (0 : Int32)), .val (.int (1 : Int32))] [(.int (1 : Int32))])
      refine Go.ret X18 hlk (v := some (.int (1 : Int32))) (fun h => by rw [hret] at h; cases h) (fun fs hr => retN X18 hx (t := .boolean) hret (by simp) (hb hby at_78) hr) ?_ (by decide) (by decide)
      show Q0 Z p0 p1 w_ALWAYS w_IF_NOT_EXTERNAL w_IF_EXTERNAL h0 n0 (some (.int (1 : Int32))) T18.heap _
      rw [e18]
      exact ⟨rfl, N18⟩
    · rw [hk15]
      show Go _ _ _ _ _ _ _ T14 (mkF m 9 #[.val (.int p0), .val (.int p1), .val (.int (1 : Int32)), .unset, .unset, .unset, .unset, .unset] [(.int (1 : Int32))])
      refine Go.st (fun _ k => XS.istoreN X14.here hx rfl (hb hby at_9) rfl (l' := #[.val (.int p0), .val (.int p1), .val (.int (1 : Int32)), .val (.int (1 : Int32)), .unset, .unset, .unset, .unset]) rfl k) ?_
      show Go _ _ _ _ _ _ _ T14 (mkF m 10 #[.val (.int p0), .val (.int p1), .val (.int (1 : Int32)), .val (.int (1 : Int32)), .unset, .unset, .unset, .unset] [])
      refine Go.st (fun _ k => XS.iloadN X14.here hx rfl (hb hby at_10) rfl k) ?_
      show Go _ _ _ _ _ _ _ T14 (mkF m 11 #[.val (.int p0), .val (.int p1), .val (.int (1 : Int32)), .val (.int (1 : Int32)), .unset, .unset, .unset, .unset] [(.int (1 : Int32))])
      obtain ⟨_, _, ⟨T19, L19, k19, n19⟩, -, X19, ⟨Lc19, hQ19, l19, y19, z19⟩, st19⟩ := Jvm.LawKit.callS X14 hx (y := (⟨"com/example/gatefold/gatefold/ConditionOverlapsPinLaw", "pick", "(I)Lcom/example/gatefold/gatefold/Condition;"⟩ : MethodName)) hown (mvT hZ (hw _ (List.mem_of_getElem? (i := 5) rfl))) (mvT hZ (hw _ (List.mem_of_getElem? (i := 6) rfl))) (mvT hZ (hw _ (List.mem_of_getElem? (i := 2) rfl))) (mvT hZ (hw _ (List.mem_of_getElem? (i := 7) rfl))) (by decide) (backOf (W := 0) (rm2 l Z a0 hw [] (1 : Int32) w_ALWAYS w_IF_EXTERNAL w_IF_NOT_EXTERNAL h0 n0 Z0 S_ALWAYS S_IF_EXTERNAL S_IF_NOT_EXTERNAL) hZ (hw _ (List.mem_of_getElem? (i := 7) rfl)) (hw _ (List.mem_of_getElem? (i := 2) rfl)) (by decide) (by decide)) (g := (mkF m 11 #[.val (.int p0), .val (.int p1), .val (.int (1 : Int32)), .val (.int (1 : Int32)), .unset, .unset, .unset, .unset] [(.int (1 : Int32))])) rfl (by rw [hml]; rfl) (argsL := [(.int (1 : Int32))]) (rest := []) (lenOf pd_3 rfl) rfl (by show 2 * 0 + _ ≤ _; exact Nat.le_of_eq rfl) (hb hby at_11) (fun _ _ => ⟨rfl, e14, (by decide : 0 + 0 ≤ _), (by decide : 0 + 0 ≤ _)⟩)
      dsimp only [Pt.U, Pt.locs, Pt.cells, Pt.slots] at X19 l19 y19 z19 st19 hQ19
      subst l19 y19 z19
      obtain ⟨rfl, N19q, e19⟩ := hQ19
      have N19 := Fr.app N14 N19q
      refine Go.st st19 ?_
      show Go _ _ _ _ _ _ _ T19 (mkF m 14 #[.val (.int p0), .val (.int p1), .val (.int (1 : Int32)), .val (.int (1 : Int32)), .unset, .unset, .unset, .unset] [(.ref (val_2 (1 : Int32) w_ALWAYS w_IF_EXTERNAL w_IF_NOT_EXTERNAL))])
      rw [show (val_2 (1 : Int32) w_ALWAYS w_IF_EXTERNAL w_IF_NOT_EXTERNAL) = w_IF_EXTERNAL from by unfold val_2; rw [if_neg (by decide +kernel : ¬ ((1 : Int32) = (0 : Int32))), if_pos (by decide +kernel : (1 : Int32) = (1 : Int32))]]
      show Go _ _ _ _ _ _ _ T19 (mkF m 14 #[.val (.int p0), .val (.int p1), .val (.int (1 : Int32)), .val (.int (1 : Int32)), .unset, .unset, .unset, .unset] [(.ref w_IF_EXTERNAL)])
      refine Go.st (fun _ k => XS.astore X19.here hx rfl (hb hby at_14) rfl rfl (l' := #[.val (.int p0), .val (.int p1), .val (.int (1 : Int32)), .val (.int (1 : Int32)), .val (.ref w_IF_EXTERNAL), .unset, .unset, .unset]) rfl k) ?_
      show Go _ _ _ _ _ _ _ T19 (mkF m 16 #[.val (.int p0), .val (.int p1), .val (.int (1 : Int32)), .val (.int (1 : Int32)), .val (.ref w_IF_EXTERNAL), .unset, .unset, .unset] [])
      refine Go.st (fun _ k => XS.iloadN X19.here hx rfl (hb hby at_16) rfl k) ?_
      show Go _ _ _ _ _ _ _ T19 (mkF m 17 #[.val (.int p0), .val (.int p1), .val (.int (1 : Int32)), .val (.int (1 : Int32)), .val (.ref w_IF_EXTERNAL), .unset, .unset, .unset] [(.int (1 : Int32))])
      obtain ⟨_, _, ⟨T20, L20, k20, n20⟩, -, X20, ⟨Lc20, hQ20, l20, y20, z20⟩, st20⟩ := Jvm.LawKit.callS X19 hx (y := (⟨"com/example/gatefold/gatefold/ConditionOverlapsPinLaw", "pick", "(I)Lcom/example/gatefold/gatefold/Condition;"⟩ : MethodName)) hown (mvT hZ (hw _ (List.mem_of_getElem? (i := 5) rfl))) (mvT hZ (hw _ (List.mem_of_getElem? (i := 6) rfl))) (mvT hZ (hw _ (List.mem_of_getElem? (i := 2) rfl))) (mvT hZ (hw _ (List.mem_of_getElem? (i := 7) rfl))) (by decide) (backOf (W := 0) (rm2 l Z a0 hw [] (1 : Int32) w_ALWAYS w_IF_EXTERNAL w_IF_NOT_EXTERNAL h0 n0 Z0 S_ALWAYS S_IF_EXTERNAL S_IF_NOT_EXTERNAL) hZ (hw _ (List.mem_of_getElem? (i := 7) rfl)) (hw _ (List.mem_of_getElem? (i := 2) rfl)) (by decide) (by decide)) (g := (mkF m 17 #[.val (.int p0), .val (.int p1), .val (.int (1 : Int32)), .val (.int (1 : Int32)), .val (.ref w_IF_EXTERNAL), .unset, .unset, .unset] [(.int (1 : Int32))])) rfl (by rw [hml]; rfl) (argsL := [(.int (1 : Int32))]) (rest := []) (lenOf pd_3 rfl) rfl (by show 2 * 0 + _ ≤ _; exact Nat.le_of_eq rfl) (hb hby at_17) (fun _ _ => ⟨rfl, e19, (by decide : 0 + 0 ≤ _), (by decide : 0 + 0 ≤ _)⟩)
      dsimp only [Pt.U, Pt.locs, Pt.cells, Pt.slots] at X20 l20 y20 z20 st20 hQ20
      subst l20 y20 z20
      obtain ⟨rfl, N20q, e20⟩ := hQ20
      have N20 := Fr.app N19 N20q
      refine Go.st st20 ?_
      show Go _ _ _ _ _ _ _ T20 (mkF m 20 #[.val (.int p0), .val (.int p1), .val (.int (1 : Int32)), .val (.int (1 : Int32)), .val (.ref w_IF_EXTERNAL), .unset, .unset, .unset] [(.ref (val_2 (1 : Int32) w_ALWAYS w_IF_EXTERNAL w_IF_NOT_EXTERNAL))])
      rw [show (val_2 (1 : Int32) w_ALWAYS w_IF_EXTERNAL w_IF_NOT_EXTERNAL) = w_IF_EXTERNAL from by unfold val_2; rw [if_neg (by decide +kernel : ¬ ((1 : Int32) = (0 : Int32))), if_pos (by decide +kernel : (1 : Int32) = (1 : Int32))]]
      show Go _ _ _ _ _ _ _ T20 (mkF m 20 #[.val (.int p0), .val (.int p1), .val (.int (1 : Int32)), .val (.int (1 : Int32)), .val (.ref w_IF_EXTERNAL), .unset, .unset, .unset] [(.ref w_IF_EXTERNAL)])
      refine Go.st (fun _ k => XS.astore X20.here hx rfl (hb hby at_20) rfl rfl (l' := #[.val (.int p0), .val (.int p1), .val (.int (1 : Int32)), .val (.int (1 : Int32)), .val (.ref w_IF_EXTERNAL), .val (.ref w_IF_EXTERNAL), .unset, .unset]) rfl k) ?_
      show Go _ _ _ _ _ _ _ T20 (mkF m 22 #[.val (.int p0), .val (.int p1), .val (.int (1 : Int32)), .val (.int (1 : Int32)), .val (.ref w_IF_EXTERNAL), .val (.ref w_IF_EXTERNAL), .unset, .unset] [])
      refine Go.st (fun _ k => XS.iloadN X20.here hx rfl (hb hby at_22) rfl k) ?_
      show Go _ _ _ _ _ _ _ T20 (mkF m 23 #[.val (.int p0), .val (.int p1), .val (.int (1 : Int32)), .val (.int (1 : Int32)), .val (.ref w_IF_EXTERNAL), .val (.ref w_IF_EXTERNAL), .unset, .unset] [(.int (1 : Int32))])
      refine Go.st (fun _ k => XS.iconst X20.here hx rfl (hb hby at_23) k) ?_
      show Go _ _ _ _ _ _ _ T20 (mkF m 24 #[.val (.int p0), .val (.int p1), .val (.int (1 : Int32)), .val (.int (1 : Int32)), .val (.ref w_IF_EXTERNAL), .val (.ref w_IF_EXTERNAL), .unset, .unset] [(.int (1 : Int32)), (.int (1 : Int32))])
      refine Go.st (fun _ k => XS.icmpNo X20.here hx rfl (hb hby at_24) rfl (teq (by decide : (1 : Int32) = (1 : Int32))).2 k) ?_
      show Go _ _ _ _ _ _ _ T20 (mkF m 27 #[.val (.int p0), .val (.int p1), .val (.int (1 : Int32)), .val (.int (1 : Int32)), .val (.ref w_IF_EXTERNAL), .val (.ref w_IF_EXTERNAL), .unset, .unset] [])
      refine Go.st (fun _ k => XS.iloadN X20.here hx rfl (hb hby at_27) rfl k) ?_
      show Go _ _ _ _ _ _ _ T20 (mkF m 28 #[.val (.int p0), .val (.int p1), .val (.int (1 : Int32)), .val (.int (1 : Int32)), .val (.ref w_IF_EXTERNAL), .val (.ref w_IF_EXTERNAL), .unset, .unset] [(.int (1 : Int32))])
      refine Go.st (fun _ k => XS.iconst X20.here hx rfl (hb hby at_28) k) ?_
      show Go _ _ _ _ _ _ _ T20 (mkF m 29 #[.val (.int p0), .val (.int p1), .val (.int (1 : Int32)), .val (.int (1 : Int32)), .val (.ref w_IF_EXTERNAL), .val (.ref w_IF_EXTERNAL), .unset, .unset] [(.int (2 : Int32)), (.int (1 : Int32))])
      refine Go.st (fun _ k => XS.icmpNo X20.here hx rfl (hb hby at_29) rfl (feq (by decide : ¬ ((1 : Int32) = (2 : Int32)))).1 k) ?_
      show Go _ _ _ _ _ _ _ T20 (mkF m 32 #[.val (.int p0), .val (.int p1), .val (.int (1 : Int32)), .val (.int (1 : Int32)), .val (.ref w_IF_EXTERNAL), .val (.ref w_IF_EXTERNAL), .unset, .unset] [])
      refine Go.st (fun _ k => XS.iloadN X20.here hx rfl (hb hby at_32) rfl k) ?_
      show Go _ _ _ _ _ _ _ T20 (mkF m 33 #[.val (.int p0), .val (.int p1), .val (.int (1 : Int32)), .val (.int (1 : Int32)), .val (.ref w_IF_EXTERNAL), .val (.ref w_IF_EXTERNAL), .unset, .unset] [(.int (1 : Int32))])
      refine Go.st (fun _ k => XS.iconst X20.here hx rfl (hb hby at_33) k) ?_
      show Go _ _ _ _ _ _ _ T20 (mkF m 34 #[.val (.int p0), .val (.int p1), .val (.int (1 : Int32)), .val (.int (1 : Int32)), .val (.ref w_IF_EXTERNAL), .val (.ref w_IF_EXTERNAL), .unset, .unset] [(.int (2 : Int32)), (.int (1 : Int32))])
      refine Go.st (fun _ k => XS.icmpYes X20.here hx rfl (pc0 := 34) (pc' := 46) rfl (hb hby at_34) rfl (feq (by decide : ¬ ((1 : Int32) = (2 : Int32)))).2 (by decide) (by decide) k) ?_
      show Go _ _ _ _ _ _ _ T20 (mkF m 46 #[.val (.int p0), .val (.int p1), .val (.int (1 : Int32)), .val (.int (1 : Int32)), .val (.ref w_IF_EXTERNAL), .val (.ref w_IF_EXTERNAL), .unset, .unset] [])
      refine Go.st (fun _ k => XS.iconst X20.here hx rfl (hb hby at_46) k) ?_
      show Go _ _ _ _ _ _ _ T20 (mkF m 47 #[.val (.int p0), .val (.int p1), .val (.int (1 : Int32)), .val (.int (1 : Int32)), .val (.ref w_IF_EXTERNAL), .val (.ref w_IF_EXTERNAL), .unset, .unset] [(.int (0 : Int32))])
      refine Go.st (fun _ k => XS.istore X20.here hx rfl (hb hby at_47) rfl (l' := #[.val (.int p0), .val (.int p1), .val (.int (1 : Int32)), .val (.int (1 : Int32)), .val (.ref w_IF_EXTERNAL), .val (.ref w_IF_EXTERNAL), .val (.int (0 : Int32)), .unset]) rfl k) ?_
      show Go _ _ _ _ _ _ _ T20 (mkF m 49 #[.val (.int p0), .val (.int p1), .val (.int (1 : Int32)), .val (.int (1 : Int32)), .val (.ref w_IF_EXTERNAL), .val (.ref w_IF_EXTERNAL), .val (.int (0 : Int32)), .unset] [])
      refine Go.st (fun _ k => XS.iload X20.here hx rfl (hb hby at_49) rfl k) ?_
      show Go _ _ _ _ _ _ _ T20 (mkF m 51 #[.val (.int p0), .val (.int p1), .val (.int (1 : Int32)), .val (.int (1 : Int32)), .val (.ref w_IF_EXTERNAL), .val (.ref w_IF_EXTERNAL), .val (.int (0 : Int32)), .unset] [(.int (0 : Int32))])
      refine Go.st (fun _ k => XS.ifNo X20.here hx rfl (hb hby at_51) rfl ((if0 _ _).trans (teq (by decide : (0 : Int32) = (0 : Int32))).2) k) ?_
      show Go _ _ _ _ _ _ _ T20 (mkF m 54 #[.val (.int p0), .val (.int p1), .val (.int (1 : Int32)), .val (.int (1 : Int32)), .val (.ref w_IF_EXTERNAL), .val (.ref w_IF_EXTERNAL), .val (.int (0 : Int32)), .unset] [])
      refine Go.st (fun _ k => XS.iconst X20.here hx rfl (hb hby at_54) k) ?_
      show Go _ _ _ _ _ _ _ T20 (mkF m 55 #[.val (.int p0), .val (.int p1), .val (.int (1 : Int32)), .val (.int (1 : Int32)), .val (.ref w_IF_EXTERNAL), .val (.ref w_IF_EXTERNAL), .val (.int (0 : Int32)), .unset] [(.int (1 : Int32))])
      refine Go.st (fun _ k => XS.goto X20.here hx rfl (pc0 := 55) (pc' := 59) rfl (hb hby at_55) (by decide) (by decide) k) ?_
      show Go _ _ _ _ _ _ _ T20 (mkF m 59 #[.val (.int p0), .val (.int p1), .val (.int (1 : Int32)), .val (.int (1 : Int32)), .val (.ref w_IF_EXTERNAL), .val (.ref w_IF_EXTERNAL), .val (.int (0 : Int32)), .unset] [(.int (1 : Int32))])
      refine Go.st (fun _ k => XS.istore X20.here hx rfl (hb hby at_59) rfl (l' := #[.val (.int p0), .val (.int p1), .val (.int (1 : Int32)), .val (.int (1 : Int32)), .val (.ref w_IF_EXTERNAL), .val (.ref w_IF_EXTERNAL), .val (.int (0 : Int32)), .val (.int (1 : Int32))]) rfl k) ?_
      show Go _ _ _ _ _ _ _ T20 (mkF m 61 #[.val (.int p0), .val (.int p1), .val (.int (1 : Int32)), .val (.int (1 : Int32)), .val (.ref w_IF_EXTERNAL), .val (.ref w_IF_EXTERNAL), .val (.int (0 : Int32)), .val (.int (1 : Int32))] [])
      refine Go.st (fun _ k => XS.aload X20.here hx rfl (hb hby at_61) rfl rfl k) ?_
      show Go _ _ _ _ _ _ _ T20 (mkF m 63 #[.val (.int p0), .val (.int p1), .val (.int (1 : Int32)), .val (.int (1 : Int32)), .val (.ref w_IF_EXTERNAL), .val (.ref w_IF_EXTERNAL), .val (.int (0 : Int32)), .val (.int (1 : Int32))] [(.ref w_IF_EXTERNAL)])
      refine Go.st (fun _ k => XS.aload X20.here hx rfl (hb hby at_63) rfl rfl k) ?_
      show Go _ _ _ _ _ _ _ T20 (mkF m 65 #[.val (.int p0), .val (.int p1), .val (.int (1 : Int32)), .val (.int (1 : Int32)), .val (.ref w_IF_EXTERNAL), .val (.ref w_IF_EXTERNAL), .val (.int (0 : Int32)), .val (.int (1 : Int32))] [(.ref w_IF_EXTERNAL), (.ref w_IF_EXTERNAL)])
      obtain ⟨cq21, kq21, q21a, q21b, q21c⟩ := isOf hZ e20 E_IF_EXTERNAL
      obtain ⟨_, _, ⟨T21, L21, k21, n21⟩, -, X21, ⟨Lc21, hQ21, l21, y21, z21⟩, st21⟩ := X20.virtualBack hx (y := (⟨"com/example/gatefold/gatefold/Condition", "overlaps", "(Lcom/example/gatefold/gatefold/Condition;)Z"⟩ : MethodName)) (z := (⟨"com/example/gatefold/gatefold/Condition", "overlaps", "(Lcom/example/gatefold/gatefold/Condition;)Z"⟩ : MethodName)) hown (mvT hZ (hw _ (List.mem_of_getElem? (i := 11) rfl))) (mvT hZ (hw _ (List.mem_of_getElem? (i := 12) rfl))) (notFace_of_selects (args := #[]) (mvT hZ (hw _ (List.mem_of_getElem? (i := 14) rfl)))) (mvT hZ (hw _ (List.mem_of_getElem? (i := 14) rfl))) (mvT hZ (hw _ (List.mem_of_getElem? (i := 13) rfl))) (by decide) (backOf (W := 0) (rm3 l Z a0 hw [] w_IF_EXTERNAL w_IF_EXTERNAL (1 : Int32) (1 : Int32) h0 n0 Z0 E_IF_EXTERNAL E_IF_EXTERNAL F_IF_EXTERNAL_ordinal F_IF_EXTERNAL_ordinal (Or.inr (Or.inl rfl)) (Or.inr (Or.inl rfl))) hZ (hw _ (List.mem_of_getElem? (i := 15) rfl)) (hw _ (List.mem_of_getElem? (i := 9) rfl)) (by decide) (by decide)) q21a q21c (g := (mkF m 65 #[.val (.int p0), .val (.int p1), .val (.int (1 : Int32)), .val (.int (1 : Int32)), .val (.ref w_IF_EXTERNAL), .val (.ref w_IF_EXTERNAL), .val (.int (0 : Int32)), .val (.int (1 : Int32))] [(.ref w_IF_EXTERNAL), (.ref w_IF_EXTERNAL)])) rfl (by rw [hml]; rfl) (Steps.refl _) (argsL := [(.ref w_IF_EXTERNAL)]) (rest := []) (lenOf pd_4 rfl) rfl (by show 2 * 0 + _ ≤ _; exact Nat.le_of_eq rfl) (hb hby at_65) (fun _ _ => ⟨rfl, e20, (by decide : 0 + 0 ≤ _), (by decide : 0 + 0 ≤ _)⟩)
      dsimp only [Pt.U, Pt.locs, Pt.cells, Pt.slots] at X21 l21 y21 z21 st21 hQ21
      subst l21 y21 z21
      obtain ⟨rfl, N21q, e21⟩ := hQ21
      have N21 := Fr.app N20 N21q
      refine Go.st (fun _ k => st21.trans k) ?_
      show Go _ _ _ _ _ _ _ T21 (mkF m 68 #[.val (.int p0), .val (.int p1), .val (.int (1 : Int32)), .val (.int (1 : Int32)), .val (.ref w_IF_EXTERNAL), .val (.ref w_IF_EXTERNAL), .val (.int (0 : Int32)), .val (.int (1 : Int32))] [(.int (val_3 w_IF_EXTERNAL w_IF_EXTERNAL (1 : Int32) (1 : Int32)))])
      rw [show (val_3 w_IF_EXTERNAL w_IF_EXTERNAL (1 : Int32) (1 : Int32)) = (1 : Int32) from by unfold val_3; rw [if_neg (by decide +kernel : ¬ ((1 : Int32) = (0 : Int32))), if_pos (by decide +kernel : (1 : Int32) = (1 : Int32)), if_neg (by decide +kernel : ¬ ((1 : Int32) = (0 : Int32))), if_pos (by decide +kernel : (1 : Int32) = (1 : Int32))]]
      show Go _ _ _ _ _ _ _ T21 (mkF m 68 #[.val (.int p0), .val (.int p1), .val (.int (1 : Int32)), .val (.int (1 : Int32)), .val (.ref w_IF_EXTERNAL), .val (.ref w_IF_EXTERNAL), .val (.int (0 : Int32)), .val (.int (1 : Int32))] [(.int (1 : Int32))])
      refine Go.st (fun _ k => XS.iload X21.here hx rfl (hb hby at_68) rfl k) ?_
      show Go _ _ _ _ _ _ _ T21 (mkF m 70 #[.val (.int p0), .val (.int p1), .val (.int (1 : Int32)), .val (.int (1 : Int32)), .val (.ref w_IF_EXTERNAL), .val (.ref w_IF_EXTERNAL), .val (.int (0 : Int32)), .val (.int (1 : Int32))] [(.int (1 : Int32)), (.int (1 : Int32))])
      refine Go.st (fun _ k => XS.icmpNo X21.here hx rfl (hb hby at_70) rfl (teq (by decide : (1 : Int32) = (1 : Int32))).2 k) ?_
      show Go _ _ _ _ _ _ _ T21 (mkF m 73 #[.val (.int p0), .val (.int p1), .val (.int (1 : Int32)), .val (.int (1 : Int32)), .val (.ref w_IF_EXTERNAL), .val (.ref w_IF_EXTERNAL), .val (.int (0 : Int32)), .val (.int (1 : Int32))] [])
      refine Go.st (fun _ k => XS.iconst X21.here hx rfl (hb hby at_73) k) ?_
      show Go _ _ _ _ _ _ _ T21 (mkF m 74 #[.val (.int p0), .val (.int p1), .val (.int (1 : Int32)), .val (.int (1 : Int32)), .val (.ref w_IF_EXTERNAL), .val (.ref w_IF_EXTERNAL), .val (.int (0 : Int32)), .val (.int (1 : Int32))] [(.int (1 : Int32))])
      refine Go.st (fun _ k => XS.goto X21.here hx rfl (pc0 := 74) (pc' := 78) rfl (hb hby at_74) (by decide) (by decide) k) ?_
      show Go _ _ _ _ _ _ _ T21 (mkF m 78 #[.val (.int p0), .val (.int p1), .val (.int (1 : Int32)), .val (.int (1 : Int32)), .val (.ref w_IF_EXTERNAL), .val (.ref w_IF_EXTERNAL), .val (.int (0 : Int32)), .val (.int (1 : Int32))] [(.int (1 : Int32))])
      refine Go.ret X21 hlk (v := some (.int (1 : Int32))) (fun h => by rw [hret] at h; cases h) (fun fs hr => retN X21 hx (t := .boolean) hret (by simp) (hb hby at_78) hr) ?_ (by decide) (by decide)
      show Q0 Z p0 p1 w_ALWAYS w_IF_NOT_EXTERNAL w_IF_EXTERNAL h0 n0 (some (.int (1 : Int32))) T21.heap _
      rw [e21]
      exact ⟨rfl, N21⟩
    · rw [hk15]
      show Go _ _ _ _ _ _ _ T14 (mkF m 9 #[.val (.int p0), .val (.int p1), .val (.int (1 : Int32)), .unset, .unset, .unset, .unset, .unset] [(.int (2 : Int32))])
      refine Go.st (fun _ k => XS.istoreN X14.here hx rfl (hb hby at_9) rfl (l' := #[.val (.int p0), .val (.int p1), .val (.int (1 : Int32)), .val (.int (2 : Int32)), .unset, .unset, .unset, .unset]) rfl k) ?_
      show Go _ _ _ _ _ _ _ T14 (mkF m 10 #[.val (.int p0), .val (.int p1), .val (.int (1 : Int32)), .val (.int (2 : Int32)), .unset, .unset, .unset, .unset] [])
      refine Go.st (fun _ k => XS.iloadN X14.here hx rfl (hb hby at_10) rfl k) ?_
      show Go _ _ _ _ _ _ _ T14 (mkF m 11 #[.val (.int p0), .val (.int p1), .val (.int (1 : Int32)), .val (.int (2 : Int32)), .unset, .unset, .unset, .unset] [(.int (1 : Int32))])
      obtain ⟨_, _, ⟨T22, L22, k22, n22⟩, -, X22, ⟨Lc22, hQ22, l22, y22, z22⟩, st22⟩ := Jvm.LawKit.callS X14 hx (y := (⟨"com/example/gatefold/gatefold/ConditionOverlapsPinLaw", "pick", "(I)Lcom/example/gatefold/gatefold/Condition;"⟩ : MethodName)) hown (mvT hZ (hw _ (List.mem_of_getElem? (i := 5) rfl))) (mvT hZ (hw _ (List.mem_of_getElem? (i := 6) rfl))) (mvT hZ (hw _ (List.mem_of_getElem? (i := 2) rfl))) (mvT hZ (hw _ (List.mem_of_getElem? (i := 7) rfl))) (by decide) (backOf (W := 0) (rm2 l Z a0 hw [] (1 : Int32) w_ALWAYS w_IF_EXTERNAL w_IF_NOT_EXTERNAL h0 n0 Z0 S_ALWAYS S_IF_EXTERNAL S_IF_NOT_EXTERNAL) hZ (hw _ (List.mem_of_getElem? (i := 7) rfl)) (hw _ (List.mem_of_getElem? (i := 2) rfl)) (by decide) (by decide)) (g := (mkF m 11 #[.val (.int p0), .val (.int p1), .val (.int (1 : Int32)), .val (.int (2 : Int32)), .unset, .unset, .unset, .unset] [(.int (1 : Int32))])) rfl (by rw [hml]; rfl) (argsL := [(.int (1 : Int32))]) (rest := []) (lenOf pd_3 rfl) rfl (by show 2 * 0 + _ ≤ _; exact Nat.le_of_eq rfl) (hb hby at_11) (fun _ _ => ⟨rfl, e14, (by decide : 0 + 0 ≤ _), (by decide : 0 + 0 ≤ _)⟩)
      dsimp only [Pt.U, Pt.locs, Pt.cells, Pt.slots] at X22 l22 y22 z22 st22 hQ22
      subst l22 y22 z22
      obtain ⟨rfl, N22q, e22⟩ := hQ22
      have N22 := Fr.app N14 N22q
      refine Go.st st22 ?_
      show Go _ _ _ _ _ _ _ T22 (mkF m 14 #[.val (.int p0), .val (.int p1), .val (.int (1 : Int32)), .val (.int (2 : Int32)), .unset, .unset, .unset, .unset] [(.ref (val_2 (1 : Int32) w_ALWAYS w_IF_EXTERNAL w_IF_NOT_EXTERNAL))])
      rw [show (val_2 (1 : Int32) w_ALWAYS w_IF_EXTERNAL w_IF_NOT_EXTERNAL) = w_IF_EXTERNAL from by unfold val_2; rw [if_neg (by decide +kernel : ¬ ((1 : Int32) = (0 : Int32))), if_pos (by decide +kernel : (1 : Int32) = (1 : Int32))]]
      show Go _ _ _ _ _ _ _ T22 (mkF m 14 #[.val (.int p0), .val (.int p1), .val (.int (1 : Int32)), .val (.int (2 : Int32)), .unset, .unset, .unset, .unset] [(.ref w_IF_EXTERNAL)])
      refine Go.st (fun _ k => XS.astore X22.here hx rfl (hb hby at_14) rfl rfl (l' := #[.val (.int p0), .val (.int p1), .val (.int (1 : Int32)), .val (.int (2 : Int32)), .val (.ref w_IF_EXTERNAL), .unset, .unset, .unset]) rfl k) ?_
      show Go _ _ _ _ _ _ _ T22 (mkF m 16 #[.val (.int p0), .val (.int p1), .val (.int (1 : Int32)), .val (.int (2 : Int32)), .val (.ref w_IF_EXTERNAL), .unset, .unset, .unset] [])
      refine Go.st (fun _ k => XS.iloadN X22.here hx rfl (hb hby at_16) rfl k) ?_
      show Go _ _ _ _ _ _ _ T22 (mkF m 17 #[.val (.int p0), .val (.int p1), .val (.int (1 : Int32)), .val (.int (2 : Int32)), .val (.ref w_IF_EXTERNAL), .unset, .unset, .unset] [(.int (2 : Int32))])
      obtain ⟨_, _, ⟨T23, L23, k23, n23⟩, -, X23, ⟨Lc23, hQ23, l23, y23, z23⟩, st23⟩ := Jvm.LawKit.callS X22 hx (y := (⟨"com/example/gatefold/gatefold/ConditionOverlapsPinLaw", "pick", "(I)Lcom/example/gatefold/gatefold/Condition;"⟩ : MethodName)) hown (mvT hZ (hw _ (List.mem_of_getElem? (i := 5) rfl))) (mvT hZ (hw _ (List.mem_of_getElem? (i := 6) rfl))) (mvT hZ (hw _ (List.mem_of_getElem? (i := 2) rfl))) (mvT hZ (hw _ (List.mem_of_getElem? (i := 7) rfl))) (by decide) (backOf (W := 0) (rm2 l Z a0 hw [] (2 : Int32) w_ALWAYS w_IF_EXTERNAL w_IF_NOT_EXTERNAL h0 n0 Z0 S_ALWAYS S_IF_EXTERNAL S_IF_NOT_EXTERNAL) hZ (hw _ (List.mem_of_getElem? (i := 7) rfl)) (hw _ (List.mem_of_getElem? (i := 2) rfl)) (by decide) (by decide)) (g := (mkF m 17 #[.val (.int p0), .val (.int p1), .val (.int (1 : Int32)), .val (.int (2 : Int32)), .val (.ref w_IF_EXTERNAL), .unset, .unset, .unset] [(.int (2 : Int32))])) rfl (by rw [hml]; rfl) (argsL := [(.int (2 : Int32))]) (rest := []) (lenOf pd_3 rfl) rfl (by show 2 * 0 + _ ≤ _; exact Nat.le_of_eq rfl) (hb hby at_17) (fun _ _ => ⟨rfl, e22, (by decide : 0 + 0 ≤ _), (by decide : 0 + 0 ≤ _)⟩)
      dsimp only [Pt.U, Pt.locs, Pt.cells, Pt.slots] at X23 l23 y23 z23 st23 hQ23
      subst l23 y23 z23
      obtain ⟨rfl, N23q, e23⟩ := hQ23
      have N23 := Fr.app N22 N23q
      refine Go.st st23 ?_
      show Go _ _ _ _ _ _ _ T23 (mkF m 20 #[.val (.int p0), .val (.int p1), .val (.int (1 : Int32)), .val (.int (2 : Int32)), .val (.ref w_IF_EXTERNAL), .unset, .unset, .unset] [(.ref (val_2 (2 : Int32) w_ALWAYS w_IF_EXTERNAL w_IF_NOT_EXTERNAL))])
      rw [show (val_2 (2 : Int32) w_ALWAYS w_IF_EXTERNAL w_IF_NOT_EXTERNAL) = w_IF_NOT_EXTERNAL from by unfold val_2; rw [if_neg (by decide +kernel : ¬ ((2 : Int32) = (0 : Int32))), if_neg (by decide +kernel : ¬ ((2 : Int32) = (1 : Int32)))]]
      show Go _ _ _ _ _ _ _ T23 (mkF m 20 #[.val (.int p0), .val (.int p1), .val (.int (1 : Int32)), .val (.int (2 : Int32)), .val (.ref w_IF_EXTERNAL), .unset, .unset, .unset] [(.ref w_IF_NOT_EXTERNAL)])
      refine Go.st (fun _ k => XS.astore X23.here hx rfl (hb hby at_20) rfl rfl (l' := #[.val (.int p0), .val (.int p1), .val (.int (1 : Int32)), .val (.int (2 : Int32)), .val (.ref w_IF_EXTERNAL), .val (.ref w_IF_NOT_EXTERNAL), .unset, .unset]) rfl k) ?_
      show Go _ _ _ _ _ _ _ T23 (mkF m 22 #[.val (.int p0), .val (.int p1), .val (.int (1 : Int32)), .val (.int (2 : Int32)), .val (.ref w_IF_EXTERNAL), .val (.ref w_IF_NOT_EXTERNAL), .unset, .unset] [])
      refine Go.st (fun _ k => XS.iloadN X23.here hx rfl (hb hby at_22) rfl k) ?_
      show Go _ _ _ _ _ _ _ T23 (mkF m 23 #[.val (.int p0), .val (.int p1), .val (.int (1 : Int32)), .val (.int (2 : Int32)), .val (.ref w_IF_EXTERNAL), .val (.ref w_IF_NOT_EXTERNAL), .unset, .unset] [(.int (1 : Int32))])
      refine Go.st (fun _ k => XS.iconst X23.here hx rfl (hb hby at_23) k) ?_
      show Go _ _ _ _ _ _ _ T23 (mkF m 24 #[.val (.int p0), .val (.int p1), .val (.int (1 : Int32)), .val (.int (2 : Int32)), .val (.ref w_IF_EXTERNAL), .val (.ref w_IF_NOT_EXTERNAL), .unset, .unset] [(.int (1 : Int32)), (.int (1 : Int32))])
      refine Go.st (fun _ k => XS.icmpNo X23.here hx rfl (hb hby at_24) rfl (teq (by decide : (1 : Int32) = (1 : Int32))).2 k) ?_
      show Go _ _ _ _ _ _ _ T23 (mkF m 27 #[.val (.int p0), .val (.int p1), .val (.int (1 : Int32)), .val (.int (2 : Int32)), .val (.ref w_IF_EXTERNAL), .val (.ref w_IF_NOT_EXTERNAL), .unset, .unset] [])
      refine Go.st (fun _ k => XS.iloadN X23.here hx rfl (hb hby at_27) rfl k) ?_
      show Go _ _ _ _ _ _ _ T23 (mkF m 28 #[.val (.int p0), .val (.int p1), .val (.int (1 : Int32)), .val (.int (2 : Int32)), .val (.ref w_IF_EXTERNAL), .val (.ref w_IF_NOT_EXTERNAL), .unset, .unset] [(.int (2 : Int32))])
      refine Go.st (fun _ k => XS.iconst X23.here hx rfl (hb hby at_28) k) ?_
      show Go _ _ _ _ _ _ _ T23 (mkF m 29 #[.val (.int p0), .val (.int p1), .val (.int (1 : Int32)), .val (.int (2 : Int32)), .val (.ref w_IF_EXTERNAL), .val (.ref w_IF_NOT_EXTERNAL), .unset, .unset] [(.int (2 : Int32)), (.int (2 : Int32))])
      refine Go.st (fun _ k => XS.icmpYes X23.here hx rfl (pc0 := 29) (pc' := 42) rfl (hb hby at_29) rfl (teq (by decide : (2 : Int32) = (2 : Int32))).1 (by decide) (by decide) k) ?_
      show Go _ _ _ _ _ _ _ T23 (mkF m 42 #[.val (.int p0), .val (.int p1), .val (.int (1 : Int32)), .val (.int (2 : Int32)), .val (.ref w_IF_EXTERNAL), .val (.ref w_IF_NOT_EXTERNAL), .unset, .unset] [])
      refine Go.st (fun _ k => XS.iconst X23.here hx rfl (hb hby at_42) k) ?_
      show Go _ _ _ _ _ _ _ T23 (mkF m 43 #[.val (.int p0), .val (.int p1), .val (.int (1 : Int32)), .val (.int (2 : Int32)), .val (.ref w_IF_EXTERNAL), .val (.ref w_IF_NOT_EXTERNAL), .unset, .unset] [(.int (1 : Int32))])
      refine Go.st (fun _ k => XS.goto X23.here hx rfl (pc0 := 43) (pc' := 47) rfl (hb hby at_43) (by decide) (by decide) k) ?_
      show Go _ _ _ _ _ _ _ T23 (mkF m 47 #[.val (.int p0), .val (.int p1), .val (.int (1 : Int32)), .val (.int (2 : Int32)), .val (.ref w_IF_EXTERNAL), .val (.ref w_IF_NOT_EXTERNAL), .unset, .unset] [(.int (1 : Int32))])
      refine Go.st (fun _ k => XS.istore X23.here hx rfl (hb hby at_47) rfl (l' := #[.val (.int p0), .val (.int p1), .val (.int (1 : Int32)), .val (.int (2 : Int32)), .val (.ref w_IF_EXTERNAL), .val (.ref w_IF_NOT_EXTERNAL), .val (.int (1 : Int32)), .unset]) rfl k) ?_
      show Go _ _ _ _ _ _ _ T23 (mkF m 49 #[.val (.int p0), .val (.int p1), .val (.int (1 : Int32)), .val (.int (2 : Int32)), .val (.ref w_IF_EXTERNAL), .val (.ref w_IF_NOT_EXTERNAL), .val (.int (1 : Int32)), .unset] [])
      refine Go.st (fun _ k => XS.iload X23.here hx rfl (hb hby at_49) rfl k) ?_
      show Go _ _ _ _ _ _ _ T23 (mkF m 51 #[.val (.int p0), .val (.int p1), .val (.int (1 : Int32)), .val (.int (2 : Int32)), .val (.ref w_IF_EXTERNAL), .val (.ref w_IF_NOT_EXTERNAL), .val (.int (1 : Int32)), .unset] [(.int (1 : Int32))])
      refine Go.st (fun _ k => XS.ifYes X23.here hx rfl (pc0 := 51) (pc' := 58) rfl (hb hby at_51) rfl ((if0 _ _).trans (feq (by decide : ¬ ((1 : Int32) = (0 : Int32)))).2) (by decide) (by decide) k) ?_
      show Go _ _ _ _ _ _ _ T23 (mkF m 58 #[.val (.int p0), .val (.int p1), .val (.int (1 : Int32)), .val (.int (2 : Int32)), .val (.ref w_IF_EXTERNAL), .val (.ref w_IF_NOT_EXTERNAL), .val (.int (1 : Int32)), .unset] [])
      refine Go.st (fun _ k => XS.iconst X23.here hx rfl (hb hby at_58) k) ?_
      show Go _ _ _ _ _ _ _ T23 (mkF m 59 #[.val (.int p0), .val (.int p1), .val (.int (1 : Int32)), .val (.int (2 : Int32)), .val (.ref w_IF_EXTERNAL), .val (.ref w_IF_NOT_EXTERNAL), .val (.int (1 : Int32)), .unset] [(.int (0 : Int32))])
      refine Go.st (fun _ k => XS.istore X23.here hx rfl (hb hby at_59) rfl (l' := #[.val (.int p0), .val (.int p1), .val (.int (1 : Int32)), .val (.int (2 : Int32)), .val (.ref w_IF_EXTERNAL), .val (.ref w_IF_NOT_EXTERNAL), .val (.int (1 : Int32)), .val (.int (0 : Int32))]) rfl k) ?_
      show Go _ _ _ _ _ _ _ T23 (mkF m 61 #[.val (.int p0), .val (.int p1), .val (.int (1 : Int32)), .val (.int (2 : Int32)), .val (.ref w_IF_EXTERNAL), .val (.ref w_IF_NOT_EXTERNAL), .val (.int (1 : Int32)), .val (.int (0 : Int32))] [])
      refine Go.st (fun _ k => XS.aload X23.here hx rfl (hb hby at_61) rfl rfl k) ?_
      show Go _ _ _ _ _ _ _ T23 (mkF m 63 #[.val (.int p0), .val (.int p1), .val (.int (1 : Int32)), .val (.int (2 : Int32)), .val (.ref w_IF_EXTERNAL), .val (.ref w_IF_NOT_EXTERNAL), .val (.int (1 : Int32)), .val (.int (0 : Int32))] [(.ref w_IF_EXTERNAL)])
      refine Go.st (fun _ k => XS.aload X23.here hx rfl (hb hby at_63) rfl rfl k) ?_
      show Go _ _ _ _ _ _ _ T23 (mkF m 65 #[.val (.int p0), .val (.int p1), .val (.int (1 : Int32)), .val (.int (2 : Int32)), .val (.ref w_IF_EXTERNAL), .val (.ref w_IF_NOT_EXTERNAL), .val (.int (1 : Int32)), .val (.int (0 : Int32))] [(.ref w_IF_NOT_EXTERNAL), (.ref w_IF_EXTERNAL)])
      obtain ⟨cq24, kq24, q24a, q24b, q24c⟩ := isOf hZ e23 E_IF_EXTERNAL
      obtain ⟨_, _, ⟨T24, L24, k24, n24⟩, -, X24, ⟨Lc24, hQ24, l24, y24, z24⟩, st24⟩ := X23.virtualBack hx (y := (⟨"com/example/gatefold/gatefold/Condition", "overlaps", "(Lcom/example/gatefold/gatefold/Condition;)Z"⟩ : MethodName)) (z := (⟨"com/example/gatefold/gatefold/Condition", "overlaps", "(Lcom/example/gatefold/gatefold/Condition;)Z"⟩ : MethodName)) hown (mvT hZ (hw _ (List.mem_of_getElem? (i := 11) rfl))) (mvT hZ (hw _ (List.mem_of_getElem? (i := 12) rfl))) (notFace_of_selects (args := #[]) (mvT hZ (hw _ (List.mem_of_getElem? (i := 14) rfl)))) (mvT hZ (hw _ (List.mem_of_getElem? (i := 14) rfl))) (mvT hZ (hw _ (List.mem_of_getElem? (i := 13) rfl))) (by decide) (backOf (W := 0) (rm3 l Z a0 hw [] w_IF_EXTERNAL w_IF_NOT_EXTERNAL (1 : Int32) (2 : Int32) h0 n0 Z0 E_IF_EXTERNAL E_IF_NOT_EXTERNAL F_IF_EXTERNAL_ordinal F_IF_NOT_EXTERNAL_ordinal (Or.inr (Or.inl rfl)) (Or.inr (Or.inr (rfl)))) hZ (hw _ (List.mem_of_getElem? (i := 15) rfl)) (hw _ (List.mem_of_getElem? (i := 9) rfl)) (by decide) (by decide)) q24a q24c (g := (mkF m 65 #[.val (.int p0), .val (.int p1), .val (.int (1 : Int32)), .val (.int (2 : Int32)), .val (.ref w_IF_EXTERNAL), .val (.ref w_IF_NOT_EXTERNAL), .val (.int (1 : Int32)), .val (.int (0 : Int32))] [(.ref w_IF_NOT_EXTERNAL), (.ref w_IF_EXTERNAL)])) rfl (by rw [hml]; rfl) (Steps.refl _) (argsL := [(.ref w_IF_NOT_EXTERNAL)]) (rest := []) (lenOf pd_4 rfl) rfl (by show 2 * 0 + _ ≤ _; exact Nat.le_of_eq rfl) (hb hby at_65) (fun _ _ => ⟨rfl, e23, (by decide : 0 + 0 ≤ _), (by decide : 0 + 0 ≤ _)⟩)
      dsimp only [Pt.U, Pt.locs, Pt.cells, Pt.slots] at X24 l24 y24 z24 st24 hQ24
      subst l24 y24 z24
      obtain ⟨rfl, N24q, e24⟩ := hQ24
      have N24 := Fr.app N23 N24q
      refine Go.st (fun _ k => st24.trans k) ?_
      show Go _ _ _ _ _ _ _ T24 (mkF m 68 #[.val (.int p0), .val (.int p1), .val (.int (1 : Int32)), .val (.int (2 : Int32)), .val (.ref w_IF_EXTERNAL), .val (.ref w_IF_NOT_EXTERNAL), .val (.int (1 : Int32)), .val (.int (0 : Int32))] [(.int (val_3 w_IF_EXTERNAL w_IF_NOT_EXTERNAL (1 : Int32) (2 : Int32)))])
      rw [show (val_3 w_IF_EXTERNAL w_IF_NOT_EXTERNAL (1 : Int32) (2 : Int32)) = (0 : Int32) from by unfold val_3; rw [if_neg (by decide +kernel : ¬ ((1 : Int32) = (0 : Int32))), if_pos (by decide +kernel : (1 : Int32) = (1 : Int32)), if_neg (by decide +kernel : ¬ ((2 : Int32) = (0 : Int32))), if_neg (by decide +kernel : ¬ ((2 : Int32) = (1 : Int32)))]]
      show Go _ _ _ _ _ _ _ T24 (mkF m 68 #[.val (.int p0), .val (.int p1), .val (.int (1 : Int32)), .val (.int (2 : Int32)), .val (.ref w_IF_EXTERNAL), .val (.ref w_IF_NOT_EXTERNAL), .val (.int (1 : Int32)), .val (.int (0 : Int32))] [(.int (0 : Int32))])
      refine Go.st (fun _ k => XS.iload X24.here hx rfl (hb hby at_68) rfl k) ?_
      show Go _ _ _ _ _ _ _ T24 (mkF m 70 #[.val (.int p0), .val (.int p1), .val (.int (1 : Int32)), .val (.int (2 : Int32)), .val (.ref w_IF_EXTERNAL), .val (.ref w_IF_NOT_EXTERNAL), .val (.int (1 : Int32)), .val (.int (0 : Int32))] [(.int (0 : Int32)), (.int (0 : Int32))])
      refine Go.st (fun _ k => XS.icmpNo X24.here hx rfl (hb hby at_70) rfl (teq (by decide : (0 : Int32) = (0 : Int32))).2 k) ?_
      show Go _ _ _ _ _ _ _ T24 (mkF m 73 #[.val (.int p0), .val (.int p1), .val (.int (1 : Int32)), .val (.int (2 : Int32)), .val (.ref w_IF_EXTERNAL), .val (.ref w_IF_NOT_EXTERNAL), .val (.int (1 : Int32)), .val (.int (0 : Int32))] [])
      refine Go.st (fun _ k => XS.iconst X24.here hx rfl (hb hby at_73) k) ?_
      show Go _ _ _ _ _ _ _ T24 (mkF m 74 #[.val (.int p0), .val (.int p1), .val (.int (1 : Int32)), .val (.int (2 : Int32)), .val (.ref w_IF_EXTERNAL), .val (.ref w_IF_NOT_EXTERNAL), .val (.int (1 : Int32)), .val (.int (0 : Int32))] [(.int (1 : Int32))])
      refine Go.st (fun _ k => XS.goto X24.here hx rfl (pc0 := 74) (pc' := 78) rfl (hb hby at_74) (by decide) (by decide) k) ?_
      show Go _ _ _ _ _ _ _ T24 (mkF m 78 #[.val (.int p0), .val (.int p1), .val (.int (1 : Int32)), .val (.int (2 : Int32)), .val (.ref w_IF_EXTERNAL), .val (.ref w_IF_NOT_EXTERNAL), .val (.int (1 : Int32)), .val (.int (0 : Int32))] [(.int (1 : Int32))])
      refine Go.ret X24 hlk (v := some (.int (1 : Int32))) (fun h => by rw [hret] at h; cases h) (fun fs hr => retN X24 hx (t := .boolean) hret (by simp) (hb hby at_78) hr) ?_ (by decide) (by decide)
      show Q0 Z p0 p1 w_ALWAYS w_IF_NOT_EXTERNAL w_IF_EXTERNAL h0 n0 (some (.int (1 : Int32))) T24.heap _
      rw [e24]
      exact ⟨rfl, N24⟩
  · rw [hk2]
    show Go _ _ _ _ _ _ _ T1 (mkF m 4 #[.val (.int p0), .val (.int p1), .unset, .unset, .unset, .unset, .unset, .unset] [(.int (2 : Int32))])
    refine Go.st (fun _ k => XS.istoreN X1.here hx rfl (hb hby at_4) rfl (l' := #[.val (.int p0), .val (.int p1), .val (.int (2 : Int32)), .unset, .unset, .unset, .unset, .unset]) rfl k) ?_
    show Go _ _ _ _ _ _ _ T1 (mkF m 5 #[.val (.int p0), .val (.int p1), .val (.int (2 : Int32)), .unset, .unset, .unset, .unset, .unset] [])
    refine Go.st (fun _ k => XS.iloadN X1.here hx rfl (hb hby at_5) rfl k) ?_
    show Go _ _ _ _ _ _ _ T1 (mkF m 6 #[.val (.int p0), .val (.int p1), .val (.int (2 : Int32)), .unset, .unset, .unset, .unset, .unset] [(.int p1)])
    obtain ⟨_, _, ⟨T25, L25, k25, n25⟩, -, X25, ⟨Lc25, hQ25, l25, y25, z25⟩, st25⟩ := Jvm.LawKit.callS X1 hx (y := (⟨"com/example/gatefold/gatefold/ConditionOverlapsPinLaw", "index", "(I)I"⟩ : MethodName)) hown (mvT hZ (hw _ (List.mem_of_getElem? (i := 0) rfl))) (mvT hZ (hw _ (List.mem_of_getElem? (i := 1) rfl))) (mvT hZ (hw _ (List.mem_of_getElem? (i := 2) rfl))) (mvT hZ (hw _ (List.mem_of_getElem? (i := 3) rfl))) (by decide) (backOf (W := 0) (rm1 l Z a0 hw [] p1  h0 n0 Z0 ) hZ (hw _ (List.mem_of_getElem? (i := 3) rfl)) (hw _ (List.mem_of_getElem? (i := 2) rfl)) (by decide) (by decide)) (g := (mkF m 6 #[.val (.int p0), .val (.int p1), .val (.int (2 : Int32)), .unset, .unset, .unset, .unset, .unset] [(.int p1)])) rfl (by rw [hml]; rfl) (argsL := [(.int p1)]) (rest := []) (lenOf pd_2 rfl) rfl (by show 2 * 0 + _ ≤ _; exact Nat.le_of_eq rfl) (hb hby at_6) (fun _ _ => ⟨rfl, e1, (by decide : 0 + 0 ≤ _), (by decide : 0 + 0 ≤ _)⟩)
    dsimp only [Pt.U, Pt.locs, Pt.cells, Pt.slots] at X25 l25 y25 z25 st25 hQ25
    subst l25 y25 z25
    obtain ⟨rfl, N25q, e25⟩ := hQ25
    have N25 := Fr.app N1 N25q
    refine Go.st st25 ?_
    show Go _ _ _ _ _ _ _ T25 (mkF m 9 #[.val (.int p0), .val (.int p1), .val (.int (2 : Int32)), .unset, .unset, .unset, .unset, .unset] [(.int (val_1 p1))])
    rw [show (val_1 p1) = ((p1 &&& (2147483647 : Int32)) % (3 : Int32)) from by unfold val_1; rfl]
    show Go _ _ _ _ _ _ _ T25 (mkF m 9 #[.val (.int p0), .val (.int p1), .val (.int (2 : Int32)), .unset, .unset, .unset, .unset, .unset] [(.int ((p1 &&& (2147483647 : Int32)) % (3 : Int32)))])
    rcases own_mod3 p1 with hk26 | hk26 | hk26
    · rw [hk26]
      show Go _ _ _ _ _ _ _ T25 (mkF m 9 #[.val (.int p0), .val (.int p1), .val (.int (2 : Int32)), .unset, .unset, .unset, .unset, .unset] [(.int (0 : Int32))])
      refine Go.st (fun _ k => XS.istoreN X25.here hx rfl (hb hby at_9) rfl (l' := #[.val (.int p0), .val (.int p1), .val (.int (2 : Int32)), .val (.int (0 : Int32)), .unset, .unset, .unset, .unset]) rfl k) ?_
      show Go _ _ _ _ _ _ _ T25 (mkF m 10 #[.val (.int p0), .val (.int p1), .val (.int (2 : Int32)), .val (.int (0 : Int32)), .unset, .unset, .unset, .unset] [])
      refine Go.st (fun _ k => XS.iloadN X25.here hx rfl (hb hby at_10) rfl k) ?_
      show Go _ _ _ _ _ _ _ T25 (mkF m 11 #[.val (.int p0), .val (.int p1), .val (.int (2 : Int32)), .val (.int (0 : Int32)), .unset, .unset, .unset, .unset] [(.int (2 : Int32))])
      obtain ⟨_, _, ⟨T27, L27, k27, n27⟩, -, X27, ⟨Lc27, hQ27, l27, y27, z27⟩, st27⟩ := Jvm.LawKit.callS X25 hx (y := (⟨"com/example/gatefold/gatefold/ConditionOverlapsPinLaw", "pick", "(I)Lcom/example/gatefold/gatefold/Condition;"⟩ : MethodName)) hown (mvT hZ (hw _ (List.mem_of_getElem? (i := 5) rfl))) (mvT hZ (hw _ (List.mem_of_getElem? (i := 6) rfl))) (mvT hZ (hw _ (List.mem_of_getElem? (i := 2) rfl))) (mvT hZ (hw _ (List.mem_of_getElem? (i := 7) rfl))) (by decide) (backOf (W := 0) (rm2 l Z a0 hw [] (2 : Int32) w_ALWAYS w_IF_EXTERNAL w_IF_NOT_EXTERNAL h0 n0 Z0 S_ALWAYS S_IF_EXTERNAL S_IF_NOT_EXTERNAL) hZ (hw _ (List.mem_of_getElem? (i := 7) rfl)) (hw _ (List.mem_of_getElem? (i := 2) rfl)) (by decide) (by decide)) (g := (mkF m 11 #[.val (.int p0), .val (.int p1), .val (.int (2 : Int32)), .val (.int (0 : Int32)), .unset, .unset, .unset, .unset] [(.int (2 : Int32))])) rfl (by rw [hml]; rfl) (argsL := [(.int (2 : Int32))]) (rest := []) (lenOf pd_3 rfl) rfl (by show 2 * 0 + _ ≤ _; exact Nat.le_of_eq rfl) (hb hby at_11) (fun _ _ => ⟨rfl, e25, (by decide : 0 + 0 ≤ _), (by decide : 0 + 0 ≤ _)⟩)
      dsimp only [Pt.U, Pt.locs, Pt.cells, Pt.slots] at X27 l27 y27 z27 st27 hQ27
      subst l27 y27 z27
      obtain ⟨rfl, N27q, e27⟩ := hQ27
      have N27 := Fr.app N25 N27q
      refine Go.st st27 ?_
      show Go _ _ _ _ _ _ _ T27 (mkF m 14 #[.val (.int p0), .val (.int p1), .val (.int (2 : Int32)), .val (.int (0 : Int32)), .unset, .unset, .unset, .unset] [(.ref (val_2 (2 : Int32) w_ALWAYS w_IF_EXTERNAL w_IF_NOT_EXTERNAL))])
      rw [show (val_2 (2 : Int32) w_ALWAYS w_IF_EXTERNAL w_IF_NOT_EXTERNAL) = w_IF_NOT_EXTERNAL from by unfold val_2; rw [if_neg (by decide +kernel : ¬ ((2 : Int32) = (0 : Int32))), if_neg (by decide +kernel : ¬ ((2 : Int32) = (1 : Int32)))]]
      show Go _ _ _ _ _ _ _ T27 (mkF m 14 #[.val (.int p0), .val (.int p1), .val (.int (2 : Int32)), .val (.int (0 : Int32)), .unset, .unset, .unset, .unset] [(.ref w_IF_NOT_EXTERNAL)])
      refine Go.st (fun _ k => XS.astore X27.here hx rfl (hb hby at_14) rfl rfl (l' := #[.val (.int p0), .val (.int p1), .val (.int (2 : Int32)), .val (.int (0 : Int32)), .val (.ref w_IF_NOT_EXTERNAL), .unset, .unset, .unset]) rfl k) ?_
      show Go _ _ _ _ _ _ _ T27 (mkF m 16 #[.val (.int p0), .val (.int p1), .val (.int (2 : Int32)), .val (.int (0 : Int32)), .val (.ref w_IF_NOT_EXTERNAL), .unset, .unset, .unset] [])
      refine Go.st (fun _ k => XS.iloadN X27.here hx rfl (hb hby at_16) rfl k) ?_
      show Go _ _ _ _ _ _ _ T27 (mkF m 17 #[.val (.int p0), .val (.int p1), .val (.int (2 : Int32)), .val (.int (0 : Int32)), .val (.ref w_IF_NOT_EXTERNAL), .unset, .unset, .unset] [(.int (0 : Int32))])
      obtain ⟨_, _, ⟨T28, L28, k28, n28⟩, -, X28, ⟨Lc28, hQ28, l28, y28, z28⟩, st28⟩ := Jvm.LawKit.callS X27 hx (y := (⟨"com/example/gatefold/gatefold/ConditionOverlapsPinLaw", "pick", "(I)Lcom/example/gatefold/gatefold/Condition;"⟩ : MethodName)) hown (mvT hZ (hw _ (List.mem_of_getElem? (i := 5) rfl))) (mvT hZ (hw _ (List.mem_of_getElem? (i := 6) rfl))) (mvT hZ (hw _ (List.mem_of_getElem? (i := 2) rfl))) (mvT hZ (hw _ (List.mem_of_getElem? (i := 7) rfl))) (by decide) (backOf (W := 0) (rm2 l Z a0 hw [] (0 : Int32) w_ALWAYS w_IF_EXTERNAL w_IF_NOT_EXTERNAL h0 n0 Z0 S_ALWAYS S_IF_EXTERNAL S_IF_NOT_EXTERNAL) hZ (hw _ (List.mem_of_getElem? (i := 7) rfl)) (hw _ (List.mem_of_getElem? (i := 2) rfl)) (by decide) (by decide)) (g := (mkF m 17 #[.val (.int p0), .val (.int p1), .val (.int (2 : Int32)), .val (.int (0 : Int32)), .val (.ref w_IF_NOT_EXTERNAL), .unset, .unset, .unset] [(.int (0 : Int32))])) rfl (by rw [hml]; rfl) (argsL := [(.int (0 : Int32))]) (rest := []) (lenOf pd_3 rfl) rfl (by show 2 * 0 + _ ≤ _; exact Nat.le_of_eq rfl) (hb hby at_17) (fun _ _ => ⟨rfl, e27, (by decide : 0 + 0 ≤ _), (by decide : 0 + 0 ≤ _)⟩)
      dsimp only [Pt.U, Pt.locs, Pt.cells, Pt.slots] at X28 l28 y28 z28 st28 hQ28
      subst l28 y28 z28
      obtain ⟨rfl, N28q, e28⟩ := hQ28
      have N28 := Fr.app N27 N28q
      refine Go.st st28 ?_
      show Go _ _ _ _ _ _ _ T28 (mkF m 20 #[.val (.int p0), .val (.int p1), .val (.int (2 : Int32)), .val (.int (0 : Int32)), .val (.ref w_IF_NOT_EXTERNAL), .unset, .unset, .unset] [(.ref (val_2 (0 : Int32) w_ALWAYS w_IF_EXTERNAL w_IF_NOT_EXTERNAL))])
      rw [show (val_2 (0 : Int32) w_ALWAYS w_IF_EXTERNAL w_IF_NOT_EXTERNAL) = w_ALWAYS from by unfold val_2; rw [if_pos (by decide +kernel : (0 : Int32) = (0 : Int32))]]
      show Go _ _ _ _ _ _ _ T28 (mkF m 20 #[.val (.int p0), .val (.int p1), .val (.int (2 : Int32)), .val (.int (0 : Int32)), .val (.ref w_IF_NOT_EXTERNAL), .unset, .unset, .unset] [(.ref w_ALWAYS)])
      refine Go.st (fun _ k => XS.astore X28.here hx rfl (hb hby at_20) rfl rfl (l' := #[.val (.int p0), .val (.int p1), .val (.int (2 : Int32)), .val (.int (0 : Int32)), .val (.ref w_IF_NOT_EXTERNAL), .val (.ref w_ALWAYS), .unset, .unset]) rfl k) ?_
      show Go _ _ _ _ _ _ _ T28 (mkF m 22 #[.val (.int p0), .val (.int p1), .val (.int (2 : Int32)), .val (.int (0 : Int32)), .val (.ref w_IF_NOT_EXTERNAL), .val (.ref w_ALWAYS), .unset, .unset] [])
      refine Go.st (fun _ k => XS.iloadN X28.here hx rfl (hb hby at_22) rfl k) ?_
      show Go _ _ _ _ _ _ _ T28 (mkF m 23 #[.val (.int p0), .val (.int p1), .val (.int (2 : Int32)), .val (.int (0 : Int32)), .val (.ref w_IF_NOT_EXTERNAL), .val (.ref w_ALWAYS), .unset, .unset] [(.int (2 : Int32))])
      refine Go.st (fun _ k => XS.iconst X28.here hx rfl (hb hby at_23) k) ?_
      show Go _ _ _ _ _ _ _ T28 (mkF m 24 #[.val (.int p0), .val (.int p1), .val (.int (2 : Int32)), .val (.int (0 : Int32)), .val (.ref w_IF_NOT_EXTERNAL), .val (.ref w_ALWAYS), .unset, .unset] [(.int (1 : Int32)), (.int (2 : Int32))])
      refine Go.st (fun _ k => XS.icmpYes X28.here hx rfl (pc0 := 24) (pc' := 32) rfl (hb hby at_24) rfl (feq (by decide : ¬ ((2 : Int32) = (1 : Int32)))).2 (by decide) (by decide) k) ?_
      show Go _ _ _ _ _ _ _ T28 (mkF m 32 #[.val (.int p0), .val (.int p1), .val (.int (2 : Int32)), .val (.int (0 : Int32)), .val (.ref w_IF_NOT_EXTERNAL), .val (.ref w_ALWAYS), .unset, .unset] [])
      refine Go.st (fun _ k => XS.iloadN X28.here hx rfl (hb hby at_32) rfl k) ?_
      show Go _ _ _ _ _ _ _ T28 (mkF m 33 #[.val (.int p0), .val (.int p1), .val (.int (2 : Int32)), .val (.int (0 : Int32)), .val (.ref w_IF_NOT_EXTERNAL), .val (.ref w_ALWAYS), .unset, .unset] [(.int (2 : Int32))])
      refine Go.st (fun _ k => XS.iconst X28.here hx rfl (hb hby at_33) k) ?_
      show Go _ _ _ _ _ _ _ T28 (mkF m 34 #[.val (.int p0), .val (.int p1), .val (.int (2 : Int32)), .val (.int (0 : Int32)), .val (.ref w_IF_NOT_EXTERNAL), .val (.ref w_ALWAYS), .unset, .unset] [(.int (2 : Int32)), (.int (2 : Int32))])
      refine Go.st (fun _ k => XS.icmpNo X28.here hx rfl (hb hby at_34) rfl (teq (by decide : (2 : Int32) = (2 : Int32))).2 k) ?_
      show Go _ _ _ _ _ _ _ T28 (mkF m 37 #[.val (.int p0), .val (.int p1), .val (.int (2 : Int32)), .val (.int (0 : Int32)), .val (.ref w_IF_NOT_EXTERNAL), .val (.ref w_ALWAYS), .unset, .unset] [])
      refine Go.st (fun _ k => XS.iloadN X28.here hx rfl (hb hby at_37) rfl k) ?_
      show Go _ _ _ _ _ _ _ T28 (mkF m 38 #[.val (.int p0), .val (.int p1), .val (.int (2 : Int32)), .val (.int (0 : Int32)), .val (.ref w_IF_NOT_EXTERNAL), .val (.ref w_ALWAYS), .unset, .unset] [(.int (0 : Int32))])
      refine Go.st (fun _ k => XS.iconst X28.here hx rfl (hb hby at_38) k) ?_
      show Go _ _ _ _ _ _ _ T28 (mkF m 39 #[.val (.int p0), .val (.int p1), .val (.int (2 : Int32)), .val (.int (0 : Int32)), .val (.ref w_IF_NOT_EXTERNAL), .val (.ref w_ALWAYS), .unset, .unset] [(.int (1 : Int32)), (.int (0 : Int32))])
      refine Go.st (fun _ k => XS.icmpYes X28.here hx rfl (pc0 := 39) (pc' := 46) rfl (hb hby at_39) rfl (feq (by decide : ¬ ((0 : Int32) = (1 : Int32)))).2 (by decide) (by decide) k) ?_
      show Go _ _ _ _ _ _ _ T28 (mkF m 46 #[.val (.int p0), .val (.int p1), .val (.int (2 : Int32)), .val (.int (0 : Int32)), .val (.ref w_IF_NOT_EXTERNAL), .val (.ref w_ALWAYS), .unset, .unset] [])
      refine Go.st (fun _ k => XS.iconst X28.here hx rfl (hb hby at_46) k) ?_
      show Go _ _ _ _ _ _ _ T28 (mkF m 47 #[.val (.int p0), .val (.int p1), .val (.int (2 : Int32)), .val (.int (0 : Int32)), .val (.ref w_IF_NOT_EXTERNAL), .val (.ref w_ALWAYS), .unset, .unset] [(.int (0 : Int32))])
      refine Go.st (fun _ k => XS.istore X28.here hx rfl (hb hby at_47) rfl (l' := #[.val (.int p0), .val (.int p1), .val (.int (2 : Int32)), .val (.int (0 : Int32)), .val (.ref w_IF_NOT_EXTERNAL), .val (.ref w_ALWAYS), .val (.int (0 : Int32)), .unset]) rfl k) ?_
      show Go _ _ _ _ _ _ _ T28 (mkF m 49 #[.val (.int p0), .val (.int p1), .val (.int (2 : Int32)), .val (.int (0 : Int32)), .val (.ref w_IF_NOT_EXTERNAL), .val (.ref w_ALWAYS), .val (.int (0 : Int32)), .unset] [])
      refine Go.st (fun _ k => XS.iload X28.here hx rfl (hb hby at_49) rfl k) ?_
      show Go _ _ _ _ _ _ _ T28 (mkF m 51 #[.val (.int p0), .val (.int p1), .val (.int (2 : Int32)), .val (.int (0 : Int32)), .val (.ref w_IF_NOT_EXTERNAL), .val (.ref w_ALWAYS), .val (.int (0 : Int32)), .unset] [(.int (0 : Int32))])
      refine Go.st (fun _ k => XS.ifNo X28.here hx rfl (hb hby at_51) rfl ((if0 _ _).trans (teq (by decide : (0 : Int32) = (0 : Int32))).2) k) ?_
      show Go _ _ _ _ _ _ _ T28 (mkF m 54 #[.val (.int p0), .val (.int p1), .val (.int (2 : Int32)), .val (.int (0 : Int32)), .val (.ref w_IF_NOT_EXTERNAL), .val (.ref w_ALWAYS), .val (.int (0 : Int32)), .unset] [])
      refine Go.st (fun _ k => XS.iconst X28.here hx rfl (hb hby at_54) k) ?_
      show Go _ _ _ _ _ _ _ T28 (mkF m 55 #[.val (.int p0), .val (.int p1), .val (.int (2 : Int32)), .val (.int (0 : Int32)), .val (.ref w_IF_NOT_EXTERNAL), .val (.ref w_ALWAYS), .val (.int (0 : Int32)), .unset] [(.int (1 : Int32))])
      refine Go.st (fun _ k => XS.goto X28.here hx rfl (pc0 := 55) (pc' := 59) rfl (hb hby at_55) (by decide) (by decide) k) ?_
      show Go _ _ _ _ _ _ _ T28 (mkF m 59 #[.val (.int p0), .val (.int p1), .val (.int (2 : Int32)), .val (.int (0 : Int32)), .val (.ref w_IF_NOT_EXTERNAL), .val (.ref w_ALWAYS), .val (.int (0 : Int32)), .unset] [(.int (1 : Int32))])
      refine Go.st (fun _ k => XS.istore X28.here hx rfl (hb hby at_59) rfl (l' := #[.val (.int p0), .val (.int p1), .val (.int (2 : Int32)), .val (.int (0 : Int32)), .val (.ref w_IF_NOT_EXTERNAL), .val (.ref w_ALWAYS), .val (.int (0 : Int32)), .val (.int (1 : Int32))]) rfl k) ?_
      show Go _ _ _ _ _ _ _ T28 (mkF m 61 #[.val (.int p0), .val (.int p1), .val (.int (2 : Int32)), .val (.int (0 : Int32)), .val (.ref w_IF_NOT_EXTERNAL), .val (.ref w_ALWAYS), .val (.int (0 : Int32)), .val (.int (1 : Int32))] [])
      refine Go.st (fun _ k => XS.aload X28.here hx rfl (hb hby at_61) rfl rfl k) ?_
      show Go _ _ _ _ _ _ _ T28 (mkF m 63 #[.val (.int p0), .val (.int p1), .val (.int (2 : Int32)), .val (.int (0 : Int32)), .val (.ref w_IF_NOT_EXTERNAL), .val (.ref w_ALWAYS), .val (.int (0 : Int32)), .val (.int (1 : Int32))] [(.ref w_IF_NOT_EXTERNAL)])
      refine Go.st (fun _ k => XS.aload X28.here hx rfl (hb hby at_63) rfl rfl k) ?_
      show Go _ _ _ _ _ _ _ T28 (mkF m 65 #[.val (.int p0), .val (.int p1), .val (.int (2 : Int32)), .val (.int (0 : Int32)), .val (.ref w_IF_NOT_EXTERNAL), .val (.ref w_ALWAYS), .val (.int (0 : Int32)), .val (.int (1 : Int32))] [(.ref w_ALWAYS), (.ref w_IF_NOT_EXTERNAL)])
      obtain ⟨cq29, kq29, q29a, q29b, q29c⟩ := isOf hZ e28 E_IF_NOT_EXTERNAL
      obtain ⟨_, _, ⟨T29, L29, k29, n29⟩, -, X29, ⟨Lc29, hQ29, l29, y29, z29⟩, st29⟩ := X28.virtualBack hx (y := (⟨"com/example/gatefold/gatefold/Condition", "overlaps", "(Lcom/example/gatefold/gatefold/Condition;)Z"⟩ : MethodName)) (z := (⟨"com/example/gatefold/gatefold/Condition", "overlaps", "(Lcom/example/gatefold/gatefold/Condition;)Z"⟩ : MethodName)) hown (mvT hZ (hw _ (List.mem_of_getElem? (i := 11) rfl))) (mvT hZ (hw _ (List.mem_of_getElem? (i := 12) rfl))) (notFace_of_selects (args := #[]) (mvT hZ (hw _ (List.mem_of_getElem? (i := 14) rfl)))) (mvT hZ (hw _ (List.mem_of_getElem? (i := 14) rfl))) (mvT hZ (hw _ (List.mem_of_getElem? (i := 13) rfl))) (by decide) (backOf (W := 0) (rm3 l Z a0 hw [] w_IF_NOT_EXTERNAL w_ALWAYS (2 : Int32) (0 : Int32) h0 n0 Z0 E_IF_NOT_EXTERNAL E_ALWAYS F_IF_NOT_EXTERNAL_ordinal F_ALWAYS_ordinal (Or.inr (Or.inr (rfl))) (Or.inl rfl)) hZ (hw _ (List.mem_of_getElem? (i := 15) rfl)) (hw _ (List.mem_of_getElem? (i := 9) rfl)) (by decide) (by decide)) q29a q29c (g := (mkF m 65 #[.val (.int p0), .val (.int p1), .val (.int (2 : Int32)), .val (.int (0 : Int32)), .val (.ref w_IF_NOT_EXTERNAL), .val (.ref w_ALWAYS), .val (.int (0 : Int32)), .val (.int (1 : Int32))] [(.ref w_ALWAYS), (.ref w_IF_NOT_EXTERNAL)])) rfl (by rw [hml]; rfl) (Steps.refl _) (argsL := [(.ref w_ALWAYS)]) (rest := []) (lenOf pd_4 rfl) rfl (by show 2 * 0 + _ ≤ _; exact Nat.le_of_eq rfl) (hb hby at_65) (fun _ _ => ⟨rfl, e28, (by decide : 0 + 0 ≤ _), (by decide : 0 + 0 ≤ _)⟩)
      dsimp only [Pt.U, Pt.locs, Pt.cells, Pt.slots] at X29 l29 y29 z29 st29 hQ29
      subst l29 y29 z29
      obtain ⟨rfl, N29q, e29⟩ := hQ29
      have N29 := Fr.app N28 N29q
      refine Go.st (fun _ k => st29.trans k) ?_
      show Go _ _ _ _ _ _ _ T29 (mkF m 68 #[.val (.int p0), .val (.int p1), .val (.int (2 : Int32)), .val (.int (0 : Int32)), .val (.ref w_IF_NOT_EXTERNAL), .val (.ref w_ALWAYS), .val (.int (0 : Int32)), .val (.int (1 : Int32))] [(.int (val_3 w_IF_NOT_EXTERNAL w_ALWAYS (2 : Int32) (0 : Int32)))])
      rw [show (val_3 w_IF_NOT_EXTERNAL w_ALWAYS (2 : Int32) (0 : Int32)) = (1 : Int32) from by unfold val_3; rw [if_neg (by decide +kernel : ¬ ((2 : Int32) = (0 : Int32))), if_neg (by decide +kernel : ¬ ((2 : Int32) = (1 : Int32))), if_pos (by decide +kernel : (0 : Int32) = (0 : Int32))]]
      show Go _ _ _ _ _ _ _ T29 (mkF m 68 #[.val (.int p0), .val (.int p1), .val (.int (2 : Int32)), .val (.int (0 : Int32)), .val (.ref w_IF_NOT_EXTERNAL), .val (.ref w_ALWAYS), .val (.int (0 : Int32)), .val (.int (1 : Int32))] [(.int (1 : Int32))])
      refine Go.st (fun _ k => XS.iload X29.here hx rfl (hb hby at_68) rfl k) ?_
      show Go _ _ _ _ _ _ _ T29 (mkF m 70 #[.val (.int p0), .val (.int p1), .val (.int (2 : Int32)), .val (.int (0 : Int32)), .val (.ref w_IF_NOT_EXTERNAL), .val (.ref w_ALWAYS), .val (.int (0 : Int32)), .val (.int (1 : Int32))] [(.int (1 : Int32)), (.int (1 : Int32))])
      refine Go.st (fun _ k => XS.icmpNo X29.here hx rfl (hb hby at_70) rfl (teq (by decide : (1 : Int32) = (1 : Int32))).2 k) ?_
      show Go _ _ _ _ _ _ _ T29 (mkF m 73 #[.val (.int p0), .val (.int p1), .val (.int (2 : Int32)), .val (.int (0 : Int32)), .val (.ref w_IF_NOT_EXTERNAL), .val (.ref w_ALWAYS), .val (.int (0 : Int32)), .val (.int (1 : Int32))] [])
      refine Go.st (fun _ k => XS.iconst X29.here hx rfl (hb hby at_73) k) ?_
      show Go _ _ _ _ _ _ _ T29 (mkF m 74 #[.val (.int p0), .val (.int p1), .val (.int (2 : Int32)), .val (.int (0 : Int32)), .val (.ref w_IF_NOT_EXTERNAL), .val (.ref w_ALWAYS), .val (.int (0 : Int32)), .val (.int (1 : Int32))] [(.int (1 : Int32))])
      refine Go.st (fun _ k => XS.goto X29.here hx rfl (pc0 := 74) (pc' := 78) rfl (hb hby at_74) (by decide) (by decide) k) ?_
      show Go _ _ _ _ _ _ _ T29 (mkF m 78 #[.val (.int p0), .val (.int p1), .val (.int (2 : Int32)), .val (.int (0 : Int32)), .val (.ref w_IF_NOT_EXTERNAL), .val (.ref w_ALWAYS), .val (.int (0 : Int32)), .val (.int (1 : Int32))] [(.int (1 : Int32))])
      refine Go.ret X29 hlk (v := some (.int (1 : Int32))) (fun h => by rw [hret] at h; cases h) (fun fs hr => retN X29 hx (t := .boolean) hret (by simp) (hb hby at_78) hr) ?_ (by decide) (by decide)
      show Q0 Z p0 p1 w_ALWAYS w_IF_NOT_EXTERNAL w_IF_EXTERNAL h0 n0 (some (.int (1 : Int32))) T29.heap _
      rw [e29]
      exact ⟨rfl, N29⟩
    · rw [hk26]
      show Go _ _ _ _ _ _ _ T25 (mkF m 9 #[.val (.int p0), .val (.int p1), .val (.int (2 : Int32)), .unset, .unset, .unset, .unset, .unset] [(.int (1 : Int32))])
      refine Go.st (fun _ k => XS.istoreN X25.here hx rfl (hb hby at_9) rfl (l' := #[.val (.int p0), .val (.int p1), .val (.int (2 : Int32)), .val (.int (1 : Int32)), .unset, .unset, .unset, .unset]) rfl k) ?_
      show Go _ _ _ _ _ _ _ T25 (mkF m 10 #[.val (.int p0), .val (.int p1), .val (.int (2 : Int32)), .val (.int (1 : Int32)), .unset, .unset, .unset, .unset] [])
      refine Go.st (fun _ k => XS.iloadN X25.here hx rfl (hb hby at_10) rfl k) ?_
      show Go _ _ _ _ _ _ _ T25 (mkF m 11 #[.val (.int p0), .val (.int p1), .val (.int (2 : Int32)), .val (.int (1 : Int32)), .unset, .unset, .unset, .unset] [(.int (2 : Int32))])
      obtain ⟨_, _, ⟨T30, L30, k30, n30⟩, -, X30, ⟨Lc30, hQ30, l30, y30, z30⟩, st30⟩ := Jvm.LawKit.callS X25 hx (y := (⟨"com/example/gatefold/gatefold/ConditionOverlapsPinLaw", "pick", "(I)Lcom/example/gatefold/gatefold/Condition;"⟩ : MethodName)) hown (mvT hZ (hw _ (List.mem_of_getElem? (i := 5) rfl))) (mvT hZ (hw _ (List.mem_of_getElem? (i := 6) rfl))) (mvT hZ (hw _ (List.mem_of_getElem? (i := 2) rfl))) (mvT hZ (hw _ (List.mem_of_getElem? (i := 7) rfl))) (by decide) (backOf (W := 0) (rm2 l Z a0 hw [] (2 : Int32) w_ALWAYS w_IF_EXTERNAL w_IF_NOT_EXTERNAL h0 n0 Z0 S_ALWAYS S_IF_EXTERNAL S_IF_NOT_EXTERNAL) hZ (hw _ (List.mem_of_getElem? (i := 7) rfl)) (hw _ (List.mem_of_getElem? (i := 2) rfl)) (by decide) (by decide)) (g := (mkF m 11 #[.val (.int p0), .val (.int p1), .val (.int (2 : Int32)), .val (.int (1 : Int32)), .unset, .unset, .unset, .unset] [(.int (2 : Int32))])) rfl (by rw [hml]; rfl) (argsL := [(.int (2 : Int32))]) (rest := []) (lenOf pd_3 rfl) rfl (by show 2 * 0 + _ ≤ _; exact Nat.le_of_eq rfl) (hb hby at_11) (fun _ _ => ⟨rfl, e25, (by decide : 0 + 0 ≤ _), (by decide : 0 + 0 ≤ _)⟩)
      dsimp only [Pt.U, Pt.locs, Pt.cells, Pt.slots] at X30 l30 y30 z30 st30 hQ30
      subst l30 y30 z30
      obtain ⟨rfl, N30q, e30⟩ := hQ30
      have N30 := Fr.app N25 N30q
      refine Go.st st30 ?_
      show Go _ _ _ _ _ _ _ T30 (mkF m 14 #[.val (.int p0), .val (.int p1), .val (.int (2 : Int32)), .val (.int (1 : Int32)), .unset, .unset, .unset, .unset] [(.ref (val_2 (2 : Int32) w_ALWAYS w_IF_EXTERNAL w_IF_NOT_EXTERNAL))])
      rw [show (val_2 (2 : Int32) w_ALWAYS w_IF_EXTERNAL w_IF_NOT_EXTERNAL) = w_IF_NOT_EXTERNAL from by unfold val_2; rw [if_neg (by decide +kernel : ¬ ((2 : Int32) = (0 : Int32))), if_neg (by decide +kernel : ¬ ((2 : Int32) = (1 : Int32)))]]
      show Go _ _ _ _ _ _ _ T30 (mkF m 14 #[.val (.int p0), .val (.int p1), .val (.int (2 : Int32)), .val (.int (1 : Int32)), .unset, .unset, .unset, .unset] [(.ref w_IF_NOT_EXTERNAL)])
      refine Go.st (fun _ k => XS.astore X30.here hx rfl (hb hby at_14) rfl rfl (l' := #[.val (.int p0), .val (.int p1), .val (.int (2 : Int32)), .val (.int (1 : Int32)), .val (.ref w_IF_NOT_EXTERNAL), .unset, .unset, .unset]) rfl k) ?_
      show Go _ _ _ _ _ _ _ T30 (mkF m 16 #[.val (.int p0), .val (.int p1), .val (.int (2 : Int32)), .val (.int (1 : Int32)), .val (.ref w_IF_NOT_EXTERNAL), .unset, .unset, .unset] [])
      refine Go.st (fun _ k => XS.iloadN X30.here hx rfl (hb hby at_16) rfl k) ?_
      show Go _ _ _ _ _ _ _ T30 (mkF m 17 #[.val (.int p0), .val (.int p1), .val (.int (2 : Int32)), .val (.int (1 : Int32)), .val (.ref w_IF_NOT_EXTERNAL), .unset, .unset, .unset] [(.int (1 : Int32))])
      obtain ⟨_, _, ⟨T31, L31, k31, n31⟩, -, X31, ⟨Lc31, hQ31, l31, y31, z31⟩, st31⟩ := Jvm.LawKit.callS X30 hx (y := (⟨"com/example/gatefold/gatefold/ConditionOverlapsPinLaw", "pick", "(I)Lcom/example/gatefold/gatefold/Condition;"⟩ : MethodName)) hown (mvT hZ (hw _ (List.mem_of_getElem? (i := 5) rfl))) (mvT hZ (hw _ (List.mem_of_getElem? (i := 6) rfl))) (mvT hZ (hw _ (List.mem_of_getElem? (i := 2) rfl))) (mvT hZ (hw _ (List.mem_of_getElem? (i := 7) rfl))) (by decide) (backOf (W := 0) (rm2 l Z a0 hw [] (1 : Int32) w_ALWAYS w_IF_EXTERNAL w_IF_NOT_EXTERNAL h0 n0 Z0 S_ALWAYS S_IF_EXTERNAL S_IF_NOT_EXTERNAL) hZ (hw _ (List.mem_of_getElem? (i := 7) rfl)) (hw _ (List.mem_of_getElem? (i := 2) rfl)) (by decide) (by decide)) (g := (mkF m 17 #[.val (.int p0), .val (.int p1), .val (.int (2 : Int32)), .val (.int (1 : Int32)), .val (.ref w_IF_NOT_EXTERNAL), .unset, .unset, .unset] [(.int (1 : Int32))])) rfl (by rw [hml]; rfl) (argsL := [(.int (1 : Int32))]) (rest := []) (lenOf pd_3 rfl) rfl (by show 2 * 0 + _ ≤ _; exact Nat.le_of_eq rfl) (hb hby at_17) (fun _ _ => ⟨rfl, e30, (by decide : 0 + 0 ≤ _), (by decide : 0 + 0 ≤ _)⟩)
      dsimp only [Pt.U, Pt.locs, Pt.cells, Pt.slots] at X31 l31 y31 z31 st31 hQ31
      subst l31 y31 z31
      obtain ⟨rfl, N31q, e31⟩ := hQ31
      have N31 := Fr.app N30 N31q
      refine Go.st st31 ?_
      show Go _ _ _ _ _ _ _ T31 (mkF m 20 #[.val (.int p0), .val (.int p1), .val (.int (2 : Int32)), .val (.int (1 : Int32)), .val (.ref w_IF_NOT_EXTERNAL), .unset, .unset, .unset] [(.ref (val_2 (1 : Int32) w_ALWAYS w_IF_EXTERNAL w_IF_NOT_EXTERNAL))])
      rw [show (val_2 (1 : Int32) w_ALWAYS w_IF_EXTERNAL w_IF_NOT_EXTERNAL) = w_IF_EXTERNAL from by unfold val_2; rw [if_neg (by decide +kernel : ¬ ((1 : Int32) = (0 : Int32))), if_pos (by decide +kernel : (1 : Int32) = (1 : Int32))]]
      show Go _ _ _ _ _ _ _ T31 (mkF m 20 #[.val (.int p0), .val (.int p1), .val (.int (2 : Int32)), .val (.int (1 : Int32)), .val (.ref w_IF_NOT_EXTERNAL), .unset, .unset, .unset] [(.ref w_IF_EXTERNAL)])
      refine Go.st (fun _ k => XS.astore X31.here hx rfl (hb hby at_20) rfl rfl (l' := #[.val (.int p0), .val (.int p1), .val (.int (2 : Int32)), .val (.int (1 : Int32)), .val (.ref w_IF_NOT_EXTERNAL), .val (.ref w_IF_EXTERNAL), .unset, .unset]) rfl k) ?_
      show Go _ _ _ _ _ _ _ T31 (mkF m 22 #[.val (.int p0), .val (.int p1), .val (.int (2 : Int32)), .val (.int (1 : Int32)), .val (.ref w_IF_NOT_EXTERNAL), .val (.ref w_IF_EXTERNAL), .unset, .unset] [])
      refine Go.st (fun _ k => XS.iloadN X31.here hx rfl (hb hby at_22) rfl k) ?_
      show Go _ _ _ _ _ _ _ T31 (mkF m 23 #[.val (.int p0), .val (.int p1), .val (.int (2 : Int32)), .val (.int (1 : Int32)), .val (.ref w_IF_NOT_EXTERNAL), .val (.ref w_IF_EXTERNAL), .unset, .unset] [(.int (2 : Int32))])
      refine Go.st (fun _ k => XS.iconst X31.here hx rfl (hb hby at_23) k) ?_
      show Go _ _ _ _ _ _ _ T31 (mkF m 24 #[.val (.int p0), .val (.int p1), .val (.int (2 : Int32)), .val (.int (1 : Int32)), .val (.ref w_IF_NOT_EXTERNAL), .val (.ref w_IF_EXTERNAL), .unset, .unset] [(.int (1 : Int32)), (.int (2 : Int32))])
      refine Go.st (fun _ k => XS.icmpYes X31.here hx rfl (pc0 := 24) (pc' := 32) rfl (hb hby at_24) rfl (feq (by decide : ¬ ((2 : Int32) = (1 : Int32)))).2 (by decide) (by decide) k) ?_
      show Go _ _ _ _ _ _ _ T31 (mkF m 32 #[.val (.int p0), .val (.int p1), .val (.int (2 : Int32)), .val (.int (1 : Int32)), .val (.ref w_IF_NOT_EXTERNAL), .val (.ref w_IF_EXTERNAL), .unset, .unset] [])
      refine Go.st (fun _ k => XS.iloadN X31.here hx rfl (hb hby at_32) rfl k) ?_
      show Go _ _ _ _ _ _ _ T31 (mkF m 33 #[.val (.int p0), .val (.int p1), .val (.int (2 : Int32)), .val (.int (1 : Int32)), .val (.ref w_IF_NOT_EXTERNAL), .val (.ref w_IF_EXTERNAL), .unset, .unset] [(.int (2 : Int32))])
      refine Go.st (fun _ k => XS.iconst X31.here hx rfl (hb hby at_33) k) ?_
      show Go _ _ _ _ _ _ _ T31 (mkF m 34 #[.val (.int p0), .val (.int p1), .val (.int (2 : Int32)), .val (.int (1 : Int32)), .val (.ref w_IF_NOT_EXTERNAL), .val (.ref w_IF_EXTERNAL), .unset, .unset] [(.int (2 : Int32)), (.int (2 : Int32))])
      refine Go.st (fun _ k => XS.icmpNo X31.here hx rfl (hb hby at_34) rfl (teq (by decide : (2 : Int32) = (2 : Int32))).2 k) ?_
      show Go _ _ _ _ _ _ _ T31 (mkF m 37 #[.val (.int p0), .val (.int p1), .val (.int (2 : Int32)), .val (.int (1 : Int32)), .val (.ref w_IF_NOT_EXTERNAL), .val (.ref w_IF_EXTERNAL), .unset, .unset] [])
      refine Go.st (fun _ k => XS.iloadN X31.here hx rfl (hb hby at_37) rfl k) ?_
      show Go _ _ _ _ _ _ _ T31 (mkF m 38 #[.val (.int p0), .val (.int p1), .val (.int (2 : Int32)), .val (.int (1 : Int32)), .val (.ref w_IF_NOT_EXTERNAL), .val (.ref w_IF_EXTERNAL), .unset, .unset] [(.int (1 : Int32))])
      refine Go.st (fun _ k => XS.iconst X31.here hx rfl (hb hby at_38) k) ?_
      show Go _ _ _ _ _ _ _ T31 (mkF m 39 #[.val (.int p0), .val (.int p1), .val (.int (2 : Int32)), .val (.int (1 : Int32)), .val (.ref w_IF_NOT_EXTERNAL), .val (.ref w_IF_EXTERNAL), .unset, .unset] [(.int (1 : Int32)), (.int (1 : Int32))])
      refine Go.st (fun _ k => XS.icmpNo X31.here hx rfl (hb hby at_39) rfl (teq (by decide : (1 : Int32) = (1 : Int32))).2 k) ?_
      show Go _ _ _ _ _ _ _ T31 (mkF m 42 #[.val (.int p0), .val (.int p1), .val (.int (2 : Int32)), .val (.int (1 : Int32)), .val (.ref w_IF_NOT_EXTERNAL), .val (.ref w_IF_EXTERNAL), .unset, .unset] [])
      refine Go.st (fun _ k => XS.iconst X31.here hx rfl (hb hby at_42) k) ?_
      show Go _ _ _ _ _ _ _ T31 (mkF m 43 #[.val (.int p0), .val (.int p1), .val (.int (2 : Int32)), .val (.int (1 : Int32)), .val (.ref w_IF_NOT_EXTERNAL), .val (.ref w_IF_EXTERNAL), .unset, .unset] [(.int (1 : Int32))])
      refine Go.st (fun _ k => XS.goto X31.here hx rfl (pc0 := 43) (pc' := 47) rfl (hb hby at_43) (by decide) (by decide) k) ?_
      show Go _ _ _ _ _ _ _ T31 (mkF m 47 #[.val (.int p0), .val (.int p1), .val (.int (2 : Int32)), .val (.int (1 : Int32)), .val (.ref w_IF_NOT_EXTERNAL), .val (.ref w_IF_EXTERNAL), .unset, .unset] [(.int (1 : Int32))])
      refine Go.st (fun _ k => XS.istore X31.here hx rfl (hb hby at_47) rfl (l' := #[.val (.int p0), .val (.int p1), .val (.int (2 : Int32)), .val (.int (1 : Int32)), .val (.ref w_IF_NOT_EXTERNAL), .val (.ref w_IF_EXTERNAL), .val (.int (1 : Int32)), .unset]) rfl k) ?_
      show Go _ _ _ _ _ _ _ T31 (mkF m 49 #[.val (.int p0), .val (.int p1), .val (.int (2 : Int32)), .val (.int (1 : Int32)), .val (.ref w_IF_NOT_EXTERNAL), .val (.ref w_IF_EXTERNAL), .val (.int (1 : Int32)), .unset] [])
      refine Go.st (fun _ k => XS.iload X31.here hx rfl (hb hby at_49) rfl k) ?_
      show Go _ _ _ _ _ _ _ T31 (mkF m 51 #[.val (.int p0), .val (.int p1), .val (.int (2 : Int32)), .val (.int (1 : Int32)), .val (.ref w_IF_NOT_EXTERNAL), .val (.ref w_IF_EXTERNAL), .val (.int (1 : Int32)), .unset] [(.int (1 : Int32))])
      refine Go.st (fun _ k => XS.ifYes X31.here hx rfl (pc0 := 51) (pc' := 58) rfl (hb hby at_51) rfl ((if0 _ _).trans (feq (by decide : ¬ ((1 : Int32) = (0 : Int32)))).2) (by decide) (by decide) k) ?_
      show Go _ _ _ _ _ _ _ T31 (mkF m 58 #[.val (.int p0), .val (.int p1), .val (.int (2 : Int32)), .val (.int (1 : Int32)), .val (.ref w_IF_NOT_EXTERNAL), .val (.ref w_IF_EXTERNAL), .val (.int (1 : Int32)), .unset] [])
      refine Go.st (fun _ k => XS.iconst X31.here hx rfl (hb hby at_58) k) ?_
      show Go _ _ _ _ _ _ _ T31 (mkF m 59 #[.val (.int p0), .val (.int p1), .val (.int (2 : Int32)), .val (.int (1 : Int32)), .val (.ref w_IF_NOT_EXTERNAL), .val (.ref w_IF_EXTERNAL), .val (.int (1 : Int32)), .unset] [(.int (0 : Int32))])
      refine Go.st (fun _ k => XS.istore X31.here hx rfl (hb hby at_59) rfl (l' := #[.val (.int p0), .val (.int p1), .val (.int (2 : Int32)), .val (.int (1 : Int32)), .val (.ref w_IF_NOT_EXTERNAL), .val (.ref w_IF_EXTERNAL), .val (.int (1 : Int32)), .val (.int (0 : Int32))]) rfl k) ?_
      show Go _ _ _ _ _ _ _ T31 (mkF m 61 #[.val (.int p0), .val (.int p1), .val (.int (2 : Int32)), .val (.int (1 : Int32)), .val (.ref w_IF_NOT_EXTERNAL), .val (.ref w_IF_EXTERNAL), .val (.int (1 : Int32)), .val (.int (0 : Int32))] [])
      refine Go.st (fun _ k => XS.aload X31.here hx rfl (hb hby at_61) rfl rfl k) ?_
      show Go _ _ _ _ _ _ _ T31 (mkF m 63 #[.val (.int p0), .val (.int p1), .val (.int (2 : Int32)), .val (.int (1 : Int32)), .val (.ref w_IF_NOT_EXTERNAL), .val (.ref w_IF_EXTERNAL), .val (.int (1 : Int32)), .val (.int (0 : Int32))] [(.ref w_IF_NOT_EXTERNAL)])
      refine Go.st (fun _ k => XS.aload X31.here hx rfl (hb hby at_63) rfl rfl k) ?_
      show Go _ _ _ _ _ _ _ T31 (mkF m 65 #[.val (.int p0), .val (.int p1), .val (.int (2 : Int32)), .val (.int (1 : Int32)), .val (.ref w_IF_NOT_EXTERNAL), .val (.ref w_IF_EXTERNAL), .val (.int (1 : Int32)), .val (.int (0 : Int32))] [(.ref w_IF_EXTERNAL), (.ref w_IF_NOT_EXTERNAL)])
      obtain ⟨cq32, kq32, q32a, q32b, q32c⟩ := isOf hZ e31 E_IF_NOT_EXTERNAL
      obtain ⟨_, _, ⟨T32, L32, k32, n32⟩, -, X32, ⟨Lc32, hQ32, l32, y32, z32⟩, st32⟩ := X31.virtualBack hx (y := (⟨"com/example/gatefold/gatefold/Condition", "overlaps", "(Lcom/example/gatefold/gatefold/Condition;)Z"⟩ : MethodName)) (z := (⟨"com/example/gatefold/gatefold/Condition", "overlaps", "(Lcom/example/gatefold/gatefold/Condition;)Z"⟩ : MethodName)) hown (mvT hZ (hw _ (List.mem_of_getElem? (i := 11) rfl))) (mvT hZ (hw _ (List.mem_of_getElem? (i := 12) rfl))) (notFace_of_selects (args := #[]) (mvT hZ (hw _ (List.mem_of_getElem? (i := 14) rfl)))) (mvT hZ (hw _ (List.mem_of_getElem? (i := 14) rfl))) (mvT hZ (hw _ (List.mem_of_getElem? (i := 13) rfl))) (by decide) (backOf (W := 0) (rm3 l Z a0 hw [] w_IF_NOT_EXTERNAL w_IF_EXTERNAL (2 : Int32) (1 : Int32) h0 n0 Z0 E_IF_NOT_EXTERNAL E_IF_EXTERNAL F_IF_NOT_EXTERNAL_ordinal F_IF_EXTERNAL_ordinal (Or.inr (Or.inr (rfl))) (Or.inr (Or.inl rfl))) hZ (hw _ (List.mem_of_getElem? (i := 15) rfl)) (hw _ (List.mem_of_getElem? (i := 9) rfl)) (by decide) (by decide)) q32a q32c (g := (mkF m 65 #[.val (.int p0), .val (.int p1), .val (.int (2 : Int32)), .val (.int (1 : Int32)), .val (.ref w_IF_NOT_EXTERNAL), .val (.ref w_IF_EXTERNAL), .val (.int (1 : Int32)), .val (.int (0 : Int32))] [(.ref w_IF_EXTERNAL), (.ref w_IF_NOT_EXTERNAL)])) rfl (by rw [hml]; rfl) (Steps.refl _) (argsL := [(.ref w_IF_EXTERNAL)]) (rest := []) (lenOf pd_4 rfl) rfl (by show 2 * 0 + _ ≤ _; exact Nat.le_of_eq rfl) (hb hby at_65) (fun _ _ => ⟨rfl, e31, (by decide : 0 + 0 ≤ _), (by decide : 0 + 0 ≤ _)⟩)
      dsimp only [Pt.U, Pt.locs, Pt.cells, Pt.slots] at X32 l32 y32 z32 st32 hQ32
      subst l32 y32 z32
      obtain ⟨rfl, N32q, e32⟩ := hQ32
      have N32 := Fr.app N31 N32q
      refine Go.st (fun _ k => st32.trans k) ?_
      show Go _ _ _ _ _ _ _ T32 (mkF m 68 #[.val (.int p0), .val (.int p1), .val (.int (2 : Int32)), .val (.int (1 : Int32)), .val (.ref w_IF_NOT_EXTERNAL), .val (.ref w_IF_EXTERNAL), .val (.int (1 : Int32)), .val (.int (0 : Int32))] [(.int (val_3 w_IF_NOT_EXTERNAL w_IF_EXTERNAL (2 : Int32) (1 : Int32)))])
      rw [show (val_3 w_IF_NOT_EXTERNAL w_IF_EXTERNAL (2 : Int32) (1 : Int32)) = (0 : Int32) from by unfold val_3; rw [if_neg (by decide +kernel : ¬ ((2 : Int32) = (0 : Int32))), if_neg (by decide +kernel : ¬ ((2 : Int32) = (1 : Int32))), if_neg (by decide +kernel : ¬ ((1 : Int32) = (0 : Int32))), if_pos (by decide +kernel : (1 : Int32) = (1 : Int32))]]
      show Go _ _ _ _ _ _ _ T32 (mkF m 68 #[.val (.int p0), .val (.int p1), .val (.int (2 : Int32)), .val (.int (1 : Int32)), .val (.ref w_IF_NOT_EXTERNAL), .val (.ref w_IF_EXTERNAL), .val (.int (1 : Int32)), .val (.int (0 : Int32))] [(.int (0 : Int32))])
      refine Go.st (fun _ k => XS.iload X32.here hx rfl (hb hby at_68) rfl k) ?_
      show Go _ _ _ _ _ _ _ T32 (mkF m 70 #[.val (.int p0), .val (.int p1), .val (.int (2 : Int32)), .val (.int (1 : Int32)), .val (.ref w_IF_NOT_EXTERNAL), .val (.ref w_IF_EXTERNAL), .val (.int (1 : Int32)), .val (.int (0 : Int32))] [(.int (0 : Int32)), (.int (0 : Int32))])
      refine Go.st (fun _ k => XS.icmpNo X32.here hx rfl (hb hby at_70) rfl (teq (by decide : (0 : Int32) = (0 : Int32))).2 k) ?_
      show Go _ _ _ _ _ _ _ T32 (mkF m 73 #[.val (.int p0), .val (.int p1), .val (.int (2 : Int32)), .val (.int (1 : Int32)), .val (.ref w_IF_NOT_EXTERNAL), .val (.ref w_IF_EXTERNAL), .val (.int (1 : Int32)), .val (.int (0 : Int32))] [])
      refine Go.st (fun _ k => XS.iconst X32.here hx rfl (hb hby at_73) k) ?_
      show Go _ _ _ _ _ _ _ T32 (mkF m 74 #[.val (.int p0), .val (.int p1), .val (.int (2 : Int32)), .val (.int (1 : Int32)), .val (.ref w_IF_NOT_EXTERNAL), .val (.ref w_IF_EXTERNAL), .val (.int (1 : Int32)), .val (.int (0 : Int32))] [(.int (1 : Int32))])
      refine Go.st (fun _ k => XS.goto X32.here hx rfl (pc0 := 74) (pc' := 78) rfl (hb hby at_74) (by decide) (by decide) k) ?_
      show Go _ _ _ _ _ _ _ T32 (mkF m 78 #[.val (.int p0), .val (.int p1), .val (.int (2 : Int32)), .val (.int (1 : Int32)), .val (.ref w_IF_NOT_EXTERNAL), .val (.ref w_IF_EXTERNAL), .val (.int (1 : Int32)), .val (.int (0 : Int32))] [(.int (1 : Int32))])
      refine Go.ret X32 hlk (v := some (.int (1 : Int32))) (fun h => by rw [hret] at h; cases h) (fun fs hr => retN X32 hx (t := .boolean) hret (by simp) (hb hby at_78) hr) ?_ (by decide) (by decide)
      show Q0 Z p0 p1 w_ALWAYS w_IF_NOT_EXTERNAL w_IF_EXTERNAL h0 n0 (some (.int (1 : Int32))) T32.heap _
      rw [e32]
      exact ⟨rfl, N32⟩
    · rw [hk26]
      show Go _ _ _ _ _ _ _ T25 (mkF m 9 #[.val (.int p0), .val (.int p1), .val (.int (2 : Int32)), .unset, .unset, .unset, .unset, .unset] [(.int (2 : Int32))])
      refine Go.st (fun _ k => XS.istoreN X25.here hx rfl (hb hby at_9) rfl (l' := #[.val (.int p0), .val (.int p1), .val (.int (2 : Int32)), .val (.int (2 : Int32)), .unset, .unset, .unset, .unset]) rfl k) ?_
      show Go _ _ _ _ _ _ _ T25 (mkF m 10 #[.val (.int p0), .val (.int p1), .val (.int (2 : Int32)), .val (.int (2 : Int32)), .unset, .unset, .unset, .unset] [])
      refine Go.st (fun _ k => XS.iloadN X25.here hx rfl (hb hby at_10) rfl k) ?_
      show Go _ _ _ _ _ _ _ T25 (mkF m 11 #[.val (.int p0), .val (.int p1), .val (.int (2 : Int32)), .val (.int (2 : Int32)), .unset, .unset, .unset, .unset] [(.int (2 : Int32))])
      obtain ⟨_, _, ⟨T33, L33, k33, n33⟩, -, X33, ⟨Lc33, hQ33, l33, y33, z33⟩, st33⟩ := Jvm.LawKit.callS X25 hx (y := (⟨"com/example/gatefold/gatefold/ConditionOverlapsPinLaw", "pick", "(I)Lcom/example/gatefold/gatefold/Condition;"⟩ : MethodName)) hown (mvT hZ (hw _ (List.mem_of_getElem? (i := 5) rfl))) (mvT hZ (hw _ (List.mem_of_getElem? (i := 6) rfl))) (mvT hZ (hw _ (List.mem_of_getElem? (i := 2) rfl))) (mvT hZ (hw _ (List.mem_of_getElem? (i := 7) rfl))) (by decide) (backOf (W := 0) (rm2 l Z a0 hw [] (2 : Int32) w_ALWAYS w_IF_EXTERNAL w_IF_NOT_EXTERNAL h0 n0 Z0 S_ALWAYS S_IF_EXTERNAL S_IF_NOT_EXTERNAL) hZ (hw _ (List.mem_of_getElem? (i := 7) rfl)) (hw _ (List.mem_of_getElem? (i := 2) rfl)) (by decide) (by decide)) (g := (mkF m 11 #[.val (.int p0), .val (.int p1), .val (.int (2 : Int32)), .val (.int (2 : Int32)), .unset, .unset, .unset, .unset] [(.int (2 : Int32))])) rfl (by rw [hml]; rfl) (argsL := [(.int (2 : Int32))]) (rest := []) (lenOf pd_3 rfl) rfl (by show 2 * 0 + _ ≤ _; exact Nat.le_of_eq rfl) (hb hby at_11) (fun _ _ => ⟨rfl, e25, (by decide : 0 + 0 ≤ _), (by decide : 0 + 0 ≤ _)⟩)
      dsimp only [Pt.U, Pt.locs, Pt.cells, Pt.slots] at X33 l33 y33 z33 st33 hQ33
      subst l33 y33 z33
      obtain ⟨rfl, N33q, e33⟩ := hQ33
      have N33 := Fr.app N25 N33q
      refine Go.st st33 ?_
      show Go _ _ _ _ _ _ _ T33 (mkF m 14 #[.val (.int p0), .val (.int p1), .val (.int (2 : Int32)), .val (.int (2 : Int32)), .unset, .unset, .unset, .unset] [(.ref (val_2 (2 : Int32) w_ALWAYS w_IF_EXTERNAL w_IF_NOT_EXTERNAL))])
      rw [show (val_2 (2 : Int32) w_ALWAYS w_IF_EXTERNAL w_IF_NOT_EXTERNAL) = w_IF_NOT_EXTERNAL from by unfold val_2; rw [if_neg (by decide +kernel : ¬ ((2 : Int32) = (0 : Int32))), if_neg (by decide +kernel : ¬ ((2 : Int32) = (1 : Int32)))]]
      show Go _ _ _ _ _ _ _ T33 (mkF m 14 #[.val (.int p0), .val (.int p1), .val (.int (2 : Int32)), .val (.int (2 : Int32)), .unset, .unset, .unset, .unset] [(.ref w_IF_NOT_EXTERNAL)])
      refine Go.st (fun _ k => XS.astore X33.here hx rfl (hb hby at_14) rfl rfl (l' := #[.val (.int p0), .val (.int p1), .val (.int (2 : Int32)), .val (.int (2 : Int32)), .val (.ref w_IF_NOT_EXTERNAL), .unset, .unset, .unset]) rfl k) ?_
      show Go _ _ _ _ _ _ _ T33 (mkF m 16 #[.val (.int p0), .val (.int p1), .val (.int (2 : Int32)), .val (.int (2 : Int32)), .val (.ref w_IF_NOT_EXTERNAL), .unset, .unset, .unset] [])
      refine Go.st (fun _ k => XS.iloadN X33.here hx rfl (hb hby at_16) rfl k) ?_
      show Go _ _ _ _ _ _ _ T33 (mkF m 17 #[.val (.int p0), .val (.int p1), .val (.int (2 : Int32)), .val (.int (2 : Int32)), .val (.ref w_IF_NOT_EXTERNAL), .unset, .unset, .unset] [(.int (2 : Int32))])
      obtain ⟨_, _, ⟨T34, L34, k34, n34⟩, -, X34, ⟨Lc34, hQ34, l34, y34, z34⟩, st34⟩ := Jvm.LawKit.callS X33 hx (y := (⟨"com/example/gatefold/gatefold/ConditionOverlapsPinLaw", "pick", "(I)Lcom/example/gatefold/gatefold/Condition;"⟩ : MethodName)) hown (mvT hZ (hw _ (List.mem_of_getElem? (i := 5) rfl))) (mvT hZ (hw _ (List.mem_of_getElem? (i := 6) rfl))) (mvT hZ (hw _ (List.mem_of_getElem? (i := 2) rfl))) (mvT hZ (hw _ (List.mem_of_getElem? (i := 7) rfl))) (by decide) (backOf (W := 0) (rm2 l Z a0 hw [] (2 : Int32) w_ALWAYS w_IF_EXTERNAL w_IF_NOT_EXTERNAL h0 n0 Z0 S_ALWAYS S_IF_EXTERNAL S_IF_NOT_EXTERNAL) hZ (hw _ (List.mem_of_getElem? (i := 7) rfl)) (hw _ (List.mem_of_getElem? (i := 2) rfl)) (by decide) (by decide)) (g := (mkF m 17 #[.val (.int p0), .val (.int p1), .val (.int (2 : Int32)), .val (.int (2 : Int32)), .val (.ref w_IF_NOT_EXTERNAL), .unset, .unset, .unset] [(.int (2 : Int32))])) rfl (by rw [hml]; rfl) (argsL := [(.int (2 : Int32))]) (rest := []) (lenOf pd_3 rfl) rfl (by show 2 * 0 + _ ≤ _; exact Nat.le_of_eq rfl) (hb hby at_17) (fun _ _ => ⟨rfl, e33, (by decide : 0 + 0 ≤ _), (by decide : 0 + 0 ≤ _)⟩)
      dsimp only [Pt.U, Pt.locs, Pt.cells, Pt.slots] at X34 l34 y34 z34 st34 hQ34
      subst l34 y34 z34
      obtain ⟨rfl, N34q, e34⟩ := hQ34
      have N34 := Fr.app N33 N34q
      refine Go.st st34 ?_
      show Go _ _ _ _ _ _ _ T34 (mkF m 20 #[.val (.int p0), .val (.int p1), .val (.int (2 : Int32)), .val (.int (2 : Int32)), .val (.ref w_IF_NOT_EXTERNAL), .unset, .unset, .unset] [(.ref (val_2 (2 : Int32) w_ALWAYS w_IF_EXTERNAL w_IF_NOT_EXTERNAL))])
      rw [show (val_2 (2 : Int32) w_ALWAYS w_IF_EXTERNAL w_IF_NOT_EXTERNAL) = w_IF_NOT_EXTERNAL from by unfold val_2; rw [if_neg (by decide +kernel : ¬ ((2 : Int32) = (0 : Int32))), if_neg (by decide +kernel : ¬ ((2 : Int32) = (1 : Int32)))]]
      show Go _ _ _ _ _ _ _ T34 (mkF m 20 #[.val (.int p0), .val (.int p1), .val (.int (2 : Int32)), .val (.int (2 : Int32)), .val (.ref w_IF_NOT_EXTERNAL), .unset, .unset, .unset] [(.ref w_IF_NOT_EXTERNAL)])
      refine Go.st (fun _ k => XS.astore X34.here hx rfl (hb hby at_20) rfl rfl (l' := #[.val (.int p0), .val (.int p1), .val (.int (2 : Int32)), .val (.int (2 : Int32)), .val (.ref w_IF_NOT_EXTERNAL), .val (.ref w_IF_NOT_EXTERNAL), .unset, .unset]) rfl k) ?_
      show Go _ _ _ _ _ _ _ T34 (mkF m 22 #[.val (.int p0), .val (.int p1), .val (.int (2 : Int32)), .val (.int (2 : Int32)), .val (.ref w_IF_NOT_EXTERNAL), .val (.ref w_IF_NOT_EXTERNAL), .unset, .unset] [])
      refine Go.st (fun _ k => XS.iloadN X34.here hx rfl (hb hby at_22) rfl k) ?_
      show Go _ _ _ _ _ _ _ T34 (mkF m 23 #[.val (.int p0), .val (.int p1), .val (.int (2 : Int32)), .val (.int (2 : Int32)), .val (.ref w_IF_NOT_EXTERNAL), .val (.ref w_IF_NOT_EXTERNAL), .unset, .unset] [(.int (2 : Int32))])
      refine Go.st (fun _ k => XS.iconst X34.here hx rfl (hb hby at_23) k) ?_
      show Go _ _ _ _ _ _ _ T34 (mkF m 24 #[.val (.int p0), .val (.int p1), .val (.int (2 : Int32)), .val (.int (2 : Int32)), .val (.ref w_IF_NOT_EXTERNAL), .val (.ref w_IF_NOT_EXTERNAL), .unset, .unset] [(.int (1 : Int32)), (.int (2 : Int32))])
      refine Go.st (fun _ k => XS.icmpYes X34.here hx rfl (pc0 := 24) (pc' := 32) rfl (hb hby at_24) rfl (feq (by decide : ¬ ((2 : Int32) = (1 : Int32)))).2 (by decide) (by decide) k) ?_
      show Go _ _ _ _ _ _ _ T34 (mkF m 32 #[.val (.int p0), .val (.int p1), .val (.int (2 : Int32)), .val (.int (2 : Int32)), .val (.ref w_IF_NOT_EXTERNAL), .val (.ref w_IF_NOT_EXTERNAL), .unset, .unset] [])
      refine Go.st (fun _ k => XS.iloadN X34.here hx rfl (hb hby at_32) rfl k) ?_
      show Go _ _ _ _ _ _ _ T34 (mkF m 33 #[.val (.int p0), .val (.int p1), .val (.int (2 : Int32)), .val (.int (2 : Int32)), .val (.ref w_IF_NOT_EXTERNAL), .val (.ref w_IF_NOT_EXTERNAL), .unset, .unset] [(.int (2 : Int32))])
      refine Go.st (fun _ k => XS.iconst X34.here hx rfl (hb hby at_33) k) ?_
      show Go _ _ _ _ _ _ _ T34 (mkF m 34 #[.val (.int p0), .val (.int p1), .val (.int (2 : Int32)), .val (.int (2 : Int32)), .val (.ref w_IF_NOT_EXTERNAL), .val (.ref w_IF_NOT_EXTERNAL), .unset, .unset] [(.int (2 : Int32)), (.int (2 : Int32))])
      refine Go.st (fun _ k => XS.icmpNo X34.here hx rfl (hb hby at_34) rfl (teq (by decide : (2 : Int32) = (2 : Int32))).2 k) ?_
      show Go _ _ _ _ _ _ _ T34 (mkF m 37 #[.val (.int p0), .val (.int p1), .val (.int (2 : Int32)), .val (.int (2 : Int32)), .val (.ref w_IF_NOT_EXTERNAL), .val (.ref w_IF_NOT_EXTERNAL), .unset, .unset] [])
      refine Go.st (fun _ k => XS.iloadN X34.here hx rfl (hb hby at_37) rfl k) ?_
      show Go _ _ _ _ _ _ _ T34 (mkF m 38 #[.val (.int p0), .val (.int p1), .val (.int (2 : Int32)), .val (.int (2 : Int32)), .val (.ref w_IF_NOT_EXTERNAL), .val (.ref w_IF_NOT_EXTERNAL), .unset, .unset] [(.int (2 : Int32))])
      refine Go.st (fun _ k => XS.iconst X34.here hx rfl (hb hby at_38) k) ?_
      show Go _ _ _ _ _ _ _ T34 (mkF m 39 #[.val (.int p0), .val (.int p1), .val (.int (2 : Int32)), .val (.int (2 : Int32)), .val (.ref w_IF_NOT_EXTERNAL), .val (.ref w_IF_NOT_EXTERNAL), .unset, .unset] [(.int (1 : Int32)), (.int (2 : Int32))])
      refine Go.st (fun _ k => XS.icmpYes X34.here hx rfl (pc0 := 39) (pc' := 46) rfl (hb hby at_39) rfl (feq (by decide : ¬ ((2 : Int32) = (1 : Int32)))).2 (by decide) (by decide) k) ?_
      show Go _ _ _ _ _ _ _ T34 (mkF m 46 #[.val (.int p0), .val (.int p1), .val (.int (2 : Int32)), .val (.int (2 : Int32)), .val (.ref w_IF_NOT_EXTERNAL), .val (.ref w_IF_NOT_EXTERNAL), .unset, .unset] [])
      refine Go.st (fun _ k => XS.iconst X34.here hx rfl (hb hby at_46) k) ?_
      show Go _ _ _ _ _ _ _ T34 (mkF m 47 #[.val (.int p0), .val (.int p1), .val (.int (2 : Int32)), .val (.int (2 : Int32)), .val (.ref w_IF_NOT_EXTERNAL), .val (.ref w_IF_NOT_EXTERNAL), .unset, .unset] [(.int (0 : Int32))])
      refine Go.st (fun _ k => XS.istore X34.here hx rfl (hb hby at_47) rfl (l' := #[.val (.int p0), .val (.int p1), .val (.int (2 : Int32)), .val (.int (2 : Int32)), .val (.ref w_IF_NOT_EXTERNAL), .val (.ref w_IF_NOT_EXTERNAL), .val (.int (0 : Int32)), .unset]) rfl k) ?_
      show Go _ _ _ _ _ _ _ T34 (mkF m 49 #[.val (.int p0), .val (.int p1), .val (.int (2 : Int32)), .val (.int (2 : Int32)), .val (.ref w_IF_NOT_EXTERNAL), .val (.ref w_IF_NOT_EXTERNAL), .val (.int (0 : Int32)), .unset] [])
      refine Go.st (fun _ k => XS.iload X34.here hx rfl (hb hby at_49) rfl k) ?_
      show Go _ _ _ _ _ _ _ T34 (mkF m 51 #[.val (.int p0), .val (.int p1), .val (.int (2 : Int32)), .val (.int (2 : Int32)), .val (.ref w_IF_NOT_EXTERNAL), .val (.ref w_IF_NOT_EXTERNAL), .val (.int (0 : Int32)), .unset] [(.int (0 : Int32))])
      refine Go.st (fun _ k => XS.ifNo X34.here hx rfl (hb hby at_51) rfl ((if0 _ _).trans (teq (by decide : (0 : Int32) = (0 : Int32))).2) k) ?_
      show Go _ _ _ _ _ _ _ T34 (mkF m 54 #[.val (.int p0), .val (.int p1), .val (.int (2 : Int32)), .val (.int (2 : Int32)), .val (.ref w_IF_NOT_EXTERNAL), .val (.ref w_IF_NOT_EXTERNAL), .val (.int (0 : Int32)), .unset] [])
      refine Go.st (fun _ k => XS.iconst X34.here hx rfl (hb hby at_54) k) ?_
      show Go _ _ _ _ _ _ _ T34 (mkF m 55 #[.val (.int p0), .val (.int p1), .val (.int (2 : Int32)), .val (.int (2 : Int32)), .val (.ref w_IF_NOT_EXTERNAL), .val (.ref w_IF_NOT_EXTERNAL), .val (.int (0 : Int32)), .unset] [(.int (1 : Int32))])
      refine Go.st (fun _ k => XS.goto X34.here hx rfl (pc0 := 55) (pc' := 59) rfl (hb hby at_55) (by decide) (by decide) k) ?_
      show Go _ _ _ _ _ _ _ T34 (mkF m 59 #[.val (.int p0), .val (.int p1), .val (.int (2 : Int32)), .val (.int (2 : Int32)), .val (.ref w_IF_NOT_EXTERNAL), .val (.ref w_IF_NOT_EXTERNAL), .val (.int (0 : Int32)), .unset] [(.int (1 : Int32))])
      refine Go.st (fun _ k => XS.istore X34.here hx rfl (hb hby at_59) rfl (l' := #[.val (.int p0), .val (.int p1), .val (.int (2 : Int32)), .val (.int (2 : Int32)), .val (.ref w_IF_NOT_EXTERNAL), .val (.ref w_IF_NOT_EXTERNAL), .val (.int (0 : Int32)), .val (.int (1 : Int32))]) rfl k) ?_
      show Go _ _ _ _ _ _ _ T34 (mkF m 61 #[.val (.int p0), .val (.int p1), .val (.int (2 : Int32)), .val (.int (2 : Int32)), .val (.ref w_IF_NOT_EXTERNAL), .val (.ref w_IF_NOT_EXTERNAL), .val (.int (0 : Int32)), .val (.int (1 : Int32))] [])
      refine Go.st (fun _ k => XS.aload X34.here hx rfl (hb hby at_61) rfl rfl k) ?_
      show Go _ _ _ _ _ _ _ T34 (mkF m 63 #[.val (.int p0), .val (.int p1), .val (.int (2 : Int32)), .val (.int (2 : Int32)), .val (.ref w_IF_NOT_EXTERNAL), .val (.ref w_IF_NOT_EXTERNAL), .val (.int (0 : Int32)), .val (.int (1 : Int32))] [(.ref w_IF_NOT_EXTERNAL)])
      refine Go.st (fun _ k => XS.aload X34.here hx rfl (hb hby at_63) rfl rfl k) ?_
      show Go _ _ _ _ _ _ _ T34 (mkF m 65 #[.val (.int p0), .val (.int p1), .val (.int (2 : Int32)), .val (.int (2 : Int32)), .val (.ref w_IF_NOT_EXTERNAL), .val (.ref w_IF_NOT_EXTERNAL), .val (.int (0 : Int32)), .val (.int (1 : Int32))] [(.ref w_IF_NOT_EXTERNAL), (.ref w_IF_NOT_EXTERNAL)])
      obtain ⟨cq35, kq35, q35a, q35b, q35c⟩ := isOf hZ e34 E_IF_NOT_EXTERNAL
      obtain ⟨_, _, ⟨T35, L35, k35, n35⟩, -, X35, ⟨Lc35, hQ35, l35, y35, z35⟩, st35⟩ := X34.virtualBack hx (y := (⟨"com/example/gatefold/gatefold/Condition", "overlaps", "(Lcom/example/gatefold/gatefold/Condition;)Z"⟩ : MethodName)) (z := (⟨"com/example/gatefold/gatefold/Condition", "overlaps", "(Lcom/example/gatefold/gatefold/Condition;)Z"⟩ : MethodName)) hown (mvT hZ (hw _ (List.mem_of_getElem? (i := 11) rfl))) (mvT hZ (hw _ (List.mem_of_getElem? (i := 12) rfl))) (notFace_of_selects (args := #[]) (mvT hZ (hw _ (List.mem_of_getElem? (i := 14) rfl)))) (mvT hZ (hw _ (List.mem_of_getElem? (i := 14) rfl))) (mvT hZ (hw _ (List.mem_of_getElem? (i := 13) rfl))) (by decide) (backOf (W := 0) (rm3 l Z a0 hw [] w_IF_NOT_EXTERNAL w_IF_NOT_EXTERNAL (2 : Int32) (2 : Int32) h0 n0 Z0 E_IF_NOT_EXTERNAL E_IF_NOT_EXTERNAL F_IF_NOT_EXTERNAL_ordinal F_IF_NOT_EXTERNAL_ordinal (Or.inr (Or.inr (rfl))) (Or.inr (Or.inr (rfl)))) hZ (hw _ (List.mem_of_getElem? (i := 15) rfl)) (hw _ (List.mem_of_getElem? (i := 9) rfl)) (by decide) (by decide)) q35a q35c (g := (mkF m 65 #[.val (.int p0), .val (.int p1), .val (.int (2 : Int32)), .val (.int (2 : Int32)), .val (.ref w_IF_NOT_EXTERNAL), .val (.ref w_IF_NOT_EXTERNAL), .val (.int (0 : Int32)), .val (.int (1 : Int32))] [(.ref w_IF_NOT_EXTERNAL), (.ref w_IF_NOT_EXTERNAL)])) rfl (by rw [hml]; rfl) (Steps.refl _) (argsL := [(.ref w_IF_NOT_EXTERNAL)]) (rest := []) (lenOf pd_4 rfl) rfl (by show 2 * 0 + _ ≤ _; exact Nat.le_of_eq rfl) (hb hby at_65) (fun _ _ => ⟨rfl, e34, (by decide : 0 + 0 ≤ _), (by decide : 0 + 0 ≤ _)⟩)
      dsimp only [Pt.U, Pt.locs, Pt.cells, Pt.slots] at X35 l35 y35 z35 st35 hQ35
      subst l35 y35 z35
      obtain ⟨rfl, N35q, e35⟩ := hQ35
      have N35 := Fr.app N34 N35q
      refine Go.st (fun _ k => st35.trans k) ?_
      show Go _ _ _ _ _ _ _ T35 (mkF m 68 #[.val (.int p0), .val (.int p1), .val (.int (2 : Int32)), .val (.int (2 : Int32)), .val (.ref w_IF_NOT_EXTERNAL), .val (.ref w_IF_NOT_EXTERNAL), .val (.int (0 : Int32)), .val (.int (1 : Int32))] [(.int (val_3 w_IF_NOT_EXTERNAL w_IF_NOT_EXTERNAL (2 : Int32) (2 : Int32)))])
      rw [show (val_3 w_IF_NOT_EXTERNAL w_IF_NOT_EXTERNAL (2 : Int32) (2 : Int32)) = (1 : Int32) from by unfold val_3; rw [if_neg (by decide +kernel : ¬ ((2 : Int32) = (0 : Int32))), if_neg (by decide +kernel : ¬ ((2 : Int32) = (1 : Int32))), if_neg (by decide +kernel : ¬ ((2 : Int32) = (0 : Int32))), if_neg (by decide +kernel : ¬ ((2 : Int32) = (1 : Int32)))]]
      show Go _ _ _ _ _ _ _ T35 (mkF m 68 #[.val (.int p0), .val (.int p1), .val (.int (2 : Int32)), .val (.int (2 : Int32)), .val (.ref w_IF_NOT_EXTERNAL), .val (.ref w_IF_NOT_EXTERNAL), .val (.int (0 : Int32)), .val (.int (1 : Int32))] [(.int (1 : Int32))])
      refine Go.st (fun _ k => XS.iload X35.here hx rfl (hb hby at_68) rfl k) ?_
      show Go _ _ _ _ _ _ _ T35 (mkF m 70 #[.val (.int p0), .val (.int p1), .val (.int (2 : Int32)), .val (.int (2 : Int32)), .val (.ref w_IF_NOT_EXTERNAL), .val (.ref w_IF_NOT_EXTERNAL), .val (.int (0 : Int32)), .val (.int (1 : Int32))] [(.int (1 : Int32)), (.int (1 : Int32))])
      refine Go.st (fun _ k => XS.icmpNo X35.here hx rfl (hb hby at_70) rfl (teq (by decide : (1 : Int32) = (1 : Int32))).2 k) ?_
      show Go _ _ _ _ _ _ _ T35 (mkF m 73 #[.val (.int p0), .val (.int p1), .val (.int (2 : Int32)), .val (.int (2 : Int32)), .val (.ref w_IF_NOT_EXTERNAL), .val (.ref w_IF_NOT_EXTERNAL), .val (.int (0 : Int32)), .val (.int (1 : Int32))] [])
      refine Go.st (fun _ k => XS.iconst X35.here hx rfl (hb hby at_73) k) ?_
      show Go _ _ _ _ _ _ _ T35 (mkF m 74 #[.val (.int p0), .val (.int p1), .val (.int (2 : Int32)), .val (.int (2 : Int32)), .val (.ref w_IF_NOT_EXTERNAL), .val (.ref w_IF_NOT_EXTERNAL), .val (.int (0 : Int32)), .val (.int (1 : Int32))] [(.int (1 : Int32))])
      refine Go.st (fun _ k => XS.goto X35.here hx rfl (pc0 := 74) (pc' := 78) rfl (hb hby at_74) (by decide) (by decide) k) ?_
      show Go _ _ _ _ _ _ _ T35 (mkF m 78 #[.val (.int p0), .val (.int p1), .val (.int (2 : Int32)), .val (.int (2 : Int32)), .val (.ref w_IF_NOT_EXTERNAL), .val (.ref w_IF_NOT_EXTERNAL), .val (.int (0 : Int32)), .val (.int (1 : Int32))] [(.int (1 : Int32))])
      refine Go.ret X35 hlk (v := some (.int (1 : Int32))) (fun h => by rw [hret] at h; cases h) (fun fs hr => retN X35 hx (t := .boolean) hret (by simp) (hb hby at_78) hr) ?_ (by decide) (by decide)
      show Q0 Z p0 p1 w_ALWAYS w_IF_NOT_EXTERNAL w_IF_EXTERNAL h0 n0 (some (.int (1 : Int32))) T35.heap _
      rw [e35]
      exact ⟨rfl, N35⟩
set_option maxRecDepth 65536 in
set_option maxHeartbeats 40000000 in
theorem comes_1 {Post : Tables → Env → Array Value → State → Outcome → State → Prop} (hpost : ∀ tb e args s v u, (limb_1_1.after args s (.returned v) u = true ∧ limb_1_2.after args s (.returned v) u = true ∧ True) → FrameEnd s (.returned v) u (Jvm.fieldLocs frame_1_writes args s ++ Jvm.arrayLocs frame_1_arrays args s ++ Jvm.staticLocs frame_1_statics s) 0 0 → Post tb e args s (.returned v) u) :
    ArmFor flags0 classFile x code maxLocals ret World_1 tables_1 room_1 Calls_1 rest_1 Pre_1 Post := by
  intro l hfl _ _ p e ha hc hk s m args below hf hA hF happ hP
  obtain ⟨hcalls, hrest, hpre⟩ := hP
  obtain ⟨-, -, -, hnamed, -, -, -, hat⟩ := (Spec.applies_iff hf).mp happ
  obtain ⟨hg, hn⟩ := and_e (Cond.before_iff.mp (show (Jvm.Cond.and given_1 narrow_1).before args s = true from hpre))
  obtain ⟨g1, g2⟩ := and_e hg
  obtain ⟨g3, g4⟩ := and_e g2
  obtain ⟨w0, w1, rfl⟩ : ∃ w0 w1 : Value, args = #[w0, w1] := by
    have hs : args.size = 2 := by simpa [Cond.value, given_1] using g1
    obtain ⟨L⟩ := args
    match L, hs with
    | [w0, w1], _ => exact ⟨w0, w1, rfl⟩
  have hw := fun d (hd : d ∈ tables_1) => atoms_spec (ws := Jvm.Cond.code x code maxLocals ret :: tables_1) hat d (List.mem_cons_of_mem _ hd)
  have hfit : Fit s := fun {y c} hc i hi => by
    obtain ⟨ha, rfl⟩ := Array.getElem?_eq_some_iff.mp hc
    have q := List.all_eq_true.mp ((Array.all_eq_true_iff_forall_mem.mp hF) _ (Array.getElem_mem ha)) i (List.mem_range.mpr hi)
    simpa [Array.getElem?_eq_getElem hi] using q
  obtain ⟨i0, ei0⟩ := is_v g3
  obtain rfl : w0 = (.int i0) := Option.some.inj ei0
  obtain ⟨i1, ei1⟩ := is_v g4
  obtain rfl : w1 = (.int i1) := Option.some.inj ei1
  obtain ⟨g5, g6⟩ := and_e hn
  obtain ⟨g7, g8⟩ := and_e g6
  obtain ⟨g9, g10⟩ := and_e g8
  obtain ⟨g11, g12⟩ := and_e g10
  obtain ⟨g13, g14⟩ := and_e g12
  obtain ⟨w_ALWAYS, ev_ALWAYS⟩ := exa_v g5
  have S_ALWAYS := Sta.start ev_ALWAYS (Or.inr ⟨(hw _ (List.mem_of_getElem? (i := 9) rfl)), (hw _ (List.mem_of_getElem? (i := 10) rfl))⟩)
  have E_ALWAYS := Exa.start ev_ALWAYS g5
  have F_ALWAYS_ordinal := own_fld ev_ALWAYS g7
  obtain ⟨w_IF_NOT_EXTERNAL, ev_IF_NOT_EXTERNAL⟩ := exa_v g9
  have S_IF_NOT_EXTERNAL := Sta.start ev_IF_NOT_EXTERNAL (Or.inr ⟨(hw _ (List.mem_of_getElem? (i := 9) rfl)), (hw _ (List.mem_of_getElem? (i := 31) rfl))⟩)
  have E_IF_NOT_EXTERNAL := Exa.start ev_IF_NOT_EXTERNAL g9
  obtain ⟨w_IF_EXTERNAL, ev_IF_EXTERNAL⟩ := exa_v g11
  have S_IF_EXTERNAL := Sta.start ev_IF_EXTERNAL (Or.inr ⟨(hw _ (List.mem_of_getElem? (i := 9) rfl)), (hw _ (List.mem_of_getElem? (i := 33) rfl))⟩)
  have E_IF_EXTERNAL := Exa.start ev_IF_EXTERNAL g11
  have F_IF_NOT_EXTERNAL_ordinal := own_fld ev_IF_NOT_EXTERNAL g13
  have F_IF_EXTERNAL_ordinal := own_fld ev_IF_EXTERNAL g14
  obtain ⟨n, o, h1, h2, h3, _, L, rfl, ⟨rfl, N⟩, hq⟩ := rm0 l s _ hw tables_1 i0 i1 w_ALWAYS w_IF_NOT_EXTERNAL w_IF_EXTERNAL s.heap s.heap.size (Nat.le_refl _) S_ALWAYS E_ALWAYS F_ALWAYS_ordinal S_IF_NOT_EXTERNAL E_IF_NOT_EXTERNAL S_IF_EXTERNAL E_IF_EXTERNAL F_IF_NOT_EXTERNAL_ordinal F_IF_EXTERNAL_ordinal p e ha hc hk s m _ below hf ((Spec.applies_iff_loose hf).mp happ).1 ⟨rfl, State.Warmed39.refl s, rfl⟩ trivial
  refine ⟨n, _, h1, h2, h3, hpost _ _ _ _ _ _ ⟨Cond.after_iff.mpr rfl, Cond.after_iff.mpr (eq_i res_at (Term.int_eval (1)) rfl), trivial⟩ ⟨hq.1, hq.2.1, (hq.2.2.sift fun y hy => Or.inr (N y hy)).mono (by decide) (by decide)⟩⟩
theorem main_1_1 : Claimed_1_1 := comes_1 fun _ _ _ _ _ _ h hF => ⟨h.1, hF⟩
theorem main_1_2 : Claimed_1_2 := comes_1 fun _ _ _ _ _ _ h hF => ⟨h.2.1, hF⟩
end Jvm.Pilot.@@N@@
namespace Jvm.Pilot.@@N@@
open Jvm Jvm.ClassFile Sem Op Lib Jvm.Free Jvm.Stand Jvm.Pilot.@@N@@.Jvm.D
/-! MADE BY PROGRAM (witnessworld.py) out of the Statement's table words and the real class files: 12 classes; the members and pool entries that the words name. The judged class is class 1, her method 3. -/
namespace start1
open Jvm.ClassFile
def u (s : String) : CpInfo := .utf8 (stringToUtf16 s)
/-- a pool by its gaps: so many unusable entries, then the entry; so many at the end -/
def gap : Nat → List CpInfo → List CpInfo
  | 0, r => r
  | n + 1, r => .unusable :: gap n r
def poolList (es : List (Nat × CpInfo)) (last : Nat) : List CpInfo := es.foldr (fun e r => gap e.1 (e.2 :: r)) (gap last [])
def pool (es : List (Nat × CpInfo)) (last : Nat) : Array CpInfo := ⟨poolList es last⟩
def fileOf (pool : Array CpInfo) (this : Nat) (attrs : Array Attribute := #[]) (ms : Array MethodInfo := #[]) (fl : Nat := 33) (sup : Nat := 0) (ifs : Array Nat := #[]) (fds : Array FieldInfo := #[]) : ClassFile where
  minorVersion := 0
  majorVersion := 65
  constantPool := pool
  accessFlags := fl
  thisClass := this
  superClass := sup
  interfaces := ifs
  fields := fds
  methods := ms
  attributes := attrs
def plain (name : String) (sup : Option ClassId) : Class where
  name := name
  kind := .ordinary
  loader := none
  accessFlags := 33
  super := sup
  interfaces := #[]
  cf := none
  fields := #[]
  methods := #[]
  instanceTypes := #[]
  staticTypes := #[]
  resolved := #[]
  callSites := []
  init := .initialized
  statics := none
  mirror := none

def pool0 : Array CpInfo := pool [(5, u "<init>"), (0, u "()V"), (1, .class_ 10), (1, u "java/lang/Object")] 113

def k0m0 : Method := { name := "<init>", desc := "()V", sig := { parameters := [], returnType := none }, accessFlags := 1, code := none }
/-- java/lang/Object -/
def k0 : Class := { plain "java/lang/Object" none with
  accessFlags := 33
  interfaces := #[]
  cf := some (fileOf pool0 8 #[] #[{ accessFlags := 1, nameIndex := 5, descriptorIndex := 6, attributes := #[] }] 33 0 #[] #[])
  fields := #[]
  methods := #[k0m0]
  instanceTypes := #[]
  staticTypes := #[]
  resolved := Array.replicate 124 none
  statics := none }

def pool1 : Array CpInfo := pool [(2, .class_ 4), (1, u "java/lang/Object"), (0, u "<init>"), (0, u "()V"), (0, .integer 2147483647), (0, .fieldref 9 10), (0, .class_ 11), (0, .nameAndType 12 13), (0, u "com/example/gatefold/gatefold/Condition"), (0, u "ALWAYS"), (0, u "Lcom/example/gatefold/gatefold/Condition;"), (0, .fieldref 9 15), (0, .nameAndType 16 13), (0, u "IF_EXTERNAL"), (0, .fieldref 9 18), (0, .nameAndType 19 13), (0, u "IF_NOT_EXTERNAL"), (0, .methodref 21 22), (0, .class_ 23), (0, .nameAndType 24 25), (0, u "com/example/gatefold/gatefold/ConditionOverlapsPinLaw"), (0, u "index"), (0, u "(I)I"), (0, .methodref 21 27), (0, .nameAndType 28 29), (0, u "pick"), (0, u "(I)Lcom/example/gatefold/gatefold/Condition;"), (0, .methodref 9 31), (0, .nameAndType 32 33), (0, u "overlaps"), (0, u "(Lcom/example/gatefold/gatefold/Condition;)Z"), (3, u "law"), (0, u "(II)Z")] 2

def k1m0 : Method := { name := "<init>", desc := "()V", sig := { parameters := [], returnType := none }, accessFlags := 1, code := none }
def k1c1 : Code := { maxStack := 2, maxLocals := 1, code := method_2_code, exceptionTable := #[], attributes := #[] }
def k1m1 : Method := { name := "index", desc := "(I)I", sig := { parameters := [.int], returnType := some .int }, accessFlags := 10, code := some k1c1 }
def k1c2 : Code := { maxStack := 2, maxLocals := 1, code := method_3_code, exceptionTable := #[], attributes := #[] }
def k1m2 : Method := { name := "pick", desc := "(I)Lcom/example/gatefold/gatefold/Condition;", sig := { parameters := [.int], returnType := some (.object "com/example/gatefold/gatefold/Condition") }, accessFlags := 10, code := some k1c2 }
def k1c3 : Code := { maxStack := 2, maxLocals := 8, code := code, exceptionTable := #[], attributes := #[] }
def k1m3 : Method := { name := "law", desc := "(II)Z", sig := { parameters := [.int, .int], returnType := some .boolean }, accessFlags := 9, code := some k1c3 }
/-- com/example/gatefold/gatefold/ConditionOverlapsPinLaw -/
def k1 : Class := { plain "com/example/gatefold/gatefold/ConditionOverlapsPinLaw" (some 0) with
  accessFlags := 49
  interfaces := #[]
  cf := some (fileOf pool1 21 #[] #[{ accessFlags := 1, nameIndex := 5, descriptorIndex := 6, attributes := #[] }, { accessFlags := 10, nameIndex := 24, descriptorIndex := 25, attributes := #[] }, { accessFlags := 10, nameIndex := 28, descriptorIndex := 29, attributes := #[] }, { accessFlags := 9, nameIndex := 37, descriptorIndex := 38, attributes := #[] }] 49 2 #[] #[])
  fields := #[]
  methods := #[k1m0, k1m1, k1m2, k1m3]
  instanceTypes := #[]
  staticTypes := #[]
  resolved := Array.replicate 41 none
  statics := none }

def pool2 : Array CpInfo := pool [(1, .class_ 2), (0, u "java/lang/constant/Constable"), (0, .class_ 4), (0, u "java/lang/Object")] 6

/-- java/lang/constant/Constable -/
def k2 : Class := { plain "java/lang/constant/Constable" (some 0) with
  accessFlags := 1537
  interfaces := #[]
  cf := some (fileOf pool2 1 #[] #[] 1537 3 #[] #[])
  fields := #[]
  methods := #[]
  instanceTypes := #[]
  staticTypes := #[]
  resolved := Array.replicate 11 none
  statics := none }

def pool3 : Array CpInfo := pool [(1, .class_ 2), (0, u "java/lang/Comparable"), (0, .class_ 4), (0, u "java/lang/Object")] 7

/-- java/lang/Comparable -/
def k3 : Class := { plain "java/lang/Comparable" (some 0) with
  accessFlags := 1537
  interfaces := #[]
  cf := some (fileOf pool3 1 #[] #[] 1537 3 #[] #[])
  fields := #[]
  methods := #[]
  instanceTypes := #[]
  staticTypes := #[]
  resolved := Array.replicate 12 none
  statics := none }

def pool4 : Array CpInfo := pool [(1, .class_ 2), (0, u "java/io/Serializable"), (0, .class_ 4), (0, u "java/lang/Object")] 2

/-- java/io/Serializable -/
def k4 : Class := { plain "java/io/Serializable" (some 0) with
  accessFlags := 1537
  interfaces := #[]
  cf := some (fileOf pool4 1 #[] #[] 1537 3 #[] #[])
  fields := #[]
  methods := #[]
  instanceTypes := #[]
  staticTypes := #[]
  resolved := Array.replicate 7 none
  statics := none }

def pool5 : Array CpInfo := pool [(2, .class_ 4), (1, u "java/lang/Enum"), (0, u "name"), (0, u "Ljava/lang/String;"), (0, .fieldref 2 8), (0, .nameAndType 9 10), (0, u "ordinal"), (0, u "I"), (1, .class_ 14), (1, u "java/lang/Object"), (4, u "hash"), (86, .class_ 108), (1, u "java/lang/Enum$EnumDesc"), (2, .class_ 112), (0, u "java/lang/constant/Constable"), (0, .class_ 114), (0, u "java/lang/Comparable"), (0, .class_ 116), (0, u "java/io/Serializable"), (9, u "()I")] 77

def k5c0 : Code := { maxStack := 1, maxLocals := 1, code := jdk_37_method_2_code, exceptionTable := #[], attributes := #[] }
def k5m0 : Method := { name := "ordinal", desc := "()I", sig := { parameters := [], returnType := some .int }, accessFlags := 17, code := some k5c0 }
/-- java/lang/Enum -/
def k5 : Class := { plain "java/lang/Enum" (some 0) with
  accessFlags := 1057
  interfaces := #[2, 3, 4]
  cf := some (fileOf pool5 2 #[.nestMembers #[106]] #[{ accessFlags := 17, nameIndex := 9, descriptorIndex := 126, attributes := #[] }] 1057 12 #[111, 113, 115] #[{ accessFlags := 18, nameIndex := 5, descriptorIndex := 6, attributes := #[] }, { accessFlags := 18, nameIndex := 9, descriptorIndex := 10, attributes := #[] }, { accessFlags := 2, nameIndex := 19, descriptorIndex := 10, attributes := #[] }])
  fields := #[{ name := "name", type := (.object "java/lang/String"), accessFlags := 18, slot := 0, constantValue := 0 }, { name := "ordinal", type := .int, accessFlags := 18, slot := 1, constantValue := 0 }, { name := "hash", type := .int, accessFlags := 2, slot := 2, constantValue := 0 }]
  methods := #[k5m0]
  instanceTypes := #[(.object "java/lang/String"), .int, .int]
  staticTypes := #[]
  resolved := Array.replicate 204 none
  statics := none }

def pool6 : Array CpInfo := pool [(1, .class_ 2), (0, u "com/example/gatefold/gatefold/Condition"), (2, u "ALWAYS"), (0, u "Lcom/example/gatefold/gatefold/Condition;"), (2, u "IF_EXTERNAL"), (2, u "IF_NOT_EXTERNAL"), (2, u "$VALUES"), (0, u "[Lcom/example/gatefold/gatefold/Condition;"), (6, .class_ 25), (1, u "java/lang/Enum"), (6, .methodref 1 33), (0, .nameAndType 34 35), (0, u "ordinal"), (0, u "()I"), (5, .methodref 1 42), (0, .nameAndType 43 44), (0, u "holdsFor"), (0, u "(Z)Z"), (16, u "overlaps"), (0, u "(Lcom/example/gatefold/gatefold/Condition;)Z")] 4

def k6c0 : Code := { maxStack := 4, maxLocals := 2, code := prog_1_method_4_code, exceptionTable := #[], attributes := #[] }
def k6m0 : Method := { name := "holdsFor", desc := "(Z)Z", sig := { parameters := [.boolean], returnType := some .boolean }, accessFlags := 0, code := some k6c0 }
def k6c1 : Code := { maxStack := 2, maxLocals := 2, code := prog_1_method_5_code, exceptionTable := #[], attributes := #[] }
def k6m1 : Method := { name := "overlaps", desc := "(Lcom/example/gatefold/gatefold/Condition;)Z", sig := { parameters := [(.object "com/example/gatefold/gatefold/Condition")], returnType := some .boolean }, accessFlags := 0, code := some k6c1 }
/-- com/example/gatefold/gatefold/Condition -/
def k6 : Class := { plain "com/example/gatefold/gatefold/Condition" (some 5) with
  accessFlags := 16433
  interfaces := #[]
  cf := some (fileOf pool6 1 #[] #[{ accessFlags := 0, nameIndex := 43, descriptorIndex := 44, attributes := #[] }, { accessFlags := 0, nameIndex := 61, descriptorIndex := 62, attributes := #[] }] 16433 23 #[] #[{ accessFlags := 16409, nameIndex := 5, descriptorIndex := 6, attributes := #[] }, { accessFlags := 16409, nameIndex := 9, descriptorIndex := 6, attributes := #[] }, { accessFlags := 16409, nameIndex := 12, descriptorIndex := 6, attributes := #[] }, { accessFlags := 4122, nameIndex := 15, descriptorIndex := 16, attributes := #[] }])
  fields := #[{ name := "ALWAYS", type := (.object "com/example/gatefold/gatefold/Condition"), accessFlags := 16409, slot := 0, constantValue := 0 }, { name := "IF_EXTERNAL", type := (.object "com/example/gatefold/gatefold/Condition"), accessFlags := 16409, slot := 1, constantValue := 0 }, { name := "IF_NOT_EXTERNAL", type := (.object "com/example/gatefold/gatefold/Condition"), accessFlags := 16409, slot := 2, constantValue := 0 }, { name := "$VALUES", type := (.array (.object "com/example/gatefold/gatefold/Condition")), accessFlags := 4122, slot := 3, constantValue := 0 }]
  methods := #[k6m0, k6m1]
  instanceTypes := #[(.object "java/lang/String"), .int, .int]
  staticTypes := #[(.object "com/example/gatefold/gatefold/Condition"), (.object "com/example/gatefold/gatefold/Condition"), (.object "com/example/gatefold/gatefold/Condition"), (.array (.object "com/example/gatefold/gatefold/Condition"))]
  resolved := Array.replicate 67 none
  statics := some 0 }

def pool7 : Array CpInfo := pool [(1, u "java/lang/Cloneable"), (0, .class_ 1), (0, u "java/lang/Object"), (0, .class_ 3)] 3

/-- java/lang/Cloneable -/
def k7 : Class := { plain "java/lang/Cloneable" (some 0) with
  accessFlags := 1537
  interfaces := #[]
  cf := some (fileOf pool7 2 #[] #[] 1537 4 #[] #[])
  fields := #[]
  methods := #[]
  instanceTypes := #[]
  staticTypes := #[]
  resolved := Array.replicate 8 none
  statics := none }

/-- the primitive byte -/
def k8 : Class := { plain "byte" none with kind := .primitive 'B', accessFlags := 0x411 }
/-- [B -/
def k9 : Class := { plain "[B" (some 0) with kind := .array 8 .byte, interfaces := #[7, 4], accessFlags := 1041 }

/-- the primitive int -/
def k10 : Class := { plain "int" none with kind := .primitive 'I', accessFlags := 0x411 }
/-- [I -/
def k11 : Class := { plain "[I" (some 0) with kind := .array 10 .int, interfaces := #[7, 4], accessFlags := 1041 }

def heap : Heap := #[{ cls := 6, slots := #[.ref 1, .ref 3, .ref 2, .null], vm := .statics 6 },
  { cls := 6, slots := #[.null, .int 0, .int 0], vm := .none },
  { cls := 6, slots := #[.null, .int 2, .int 0], vm := .none },
  { cls := 6, slots := #[.null, .int 1, .int 0], vm := .none }]
def classes : Array Class := #[k0, k1, k2, k3, k4, k5, k6, k7, k8, k9, k10, k11]
def interned : List (Array UInt16 × Addr) := []
def slotsUsed : Nat := 13
def theMethod : MethodId := ⟨1, 3⟩
def args0 : Array Value := #[.int 5, .int 3]
def aboutOver (below : List Frame) : State where
  vm := { classes := classes, interned := interned.toArray }
  heap := heap
  slotsUsed := slotsUsed
  threads := #[{ frames := .invoking theMethod args0 :: below }]
def below0 : List Frame := [.native { method := ⟨0, 0⟩, args := #[] }]
def about1 : State := aboutOver below0
def p0 : Program := .bare "" "" ""
def e0 : Env := launch0.env 0 0 0
theorem w_frames : about1.frames = Frame.invoking theMethod args0 :: below0 := rfl
set_option maxRecDepth 65536 in
theorem w_args : argsFit about1.vm theMethod args0 = true := by decide +kernel
set_option maxRecDepth 65536 in
theorem w_heap : heapFits about1 = true := by decide +kernel
set_option maxRecDepth 65536 in
theorem w_runnable : about1.curStatus? = some .runnable := by decide +kernel
set_option maxRecDepth 65536 in
theorem w_alone : about1.alone = true := by decide +kernel
set_option maxRecDepth 65536 in
theorem w_named : about1.methodNamed? x = some theMethod := by decide +kernel
set_option maxRecDepth 65536 in
theorem w_hears : about1.hears theMethod below0 = true := by decide +kernel
set_option maxRecDepth 65536 in
theorem w_ripe : about1.ripe theMethod args0 below0 = true := by decide +kernel
theorem w_running : about1.status = .running := rfl
set_option maxRecDepth 65536 in
theorem w_room : about1.hasRoom e0.platform room_1 = true :=
  launch0.hasRoom_least _ room_1 (by decide +kernel) (by decide +kernel) (by decide +kernel) (by decide +kernel) (by decide +kernel) (by decide +kernel)
theorem allAtoms_all (ts : List Jvm.Cond) (a : Array Jvm.Value) (st : Jvm.State) : (allAtoms ts).before a st = ts.all (fun c => c.before a st) := by
  induction ts with
  | nil => rfl
  | cons c t ih =>
    show (Jvm.Cond.and c (allAtoms t)).before a st = _
    rw [Jvm.Cond.before_and, ih, List.all_cons]
def words1 : List Jvm.Cond := Jvm.Cond.code x code maxLocals ret :: tables_1
/-- a 'code' word, met by the world's own term for the bytes: nothing is compared byte by byte -/
theorem code_word {y : MethodName} {bytes : ByteArray} {mx : Nat} {rt : Option FieldType} {a : Array Value} {s : State} {m : MethodId} {meth : Method} {c : Code} (h1 : s.methodNamed? y = some m) (h2 : s.vm.method? m = some meth) (h3 : meth.code = some c) (h4 : c.code = bytes)
    (h5 : (c.maxLocals == mx && c.exceptionTable.isEmpty && decide (c.maxStack ≤ mostOperands) && decide (meth.sig.returnType = rt) && !meth.locks && decide (parseMethodDescriptor y.desc = some meth.sig)) = true) : (Jvm.Cond.code y bytes mx rt).before a s = true := by
  simp only [Bool.and_eq_true, beq_iff_eq, Bool.not_eq_true', decide_eq_true_eq] at h5
  obtain ⟨⟨⟨⟨⟨g1, g2⟩, g3⟩, g4⟩, g5⟩, g6⟩ := h5
  simp [Cond.before, Cond.holds, Cond.value, h1, h2, h3, h4, g1, g2, g3, g4, g5, g6]
def isCode : Jvm.Cond → Bool
  | .code _ _ _ _ => true
  | _ => false
theorem all_split {L : List Jvm.Cond} {P : Jvm.Cond → Bool} (h1 : L.all (fun c => isCode c || P c) = true) (h2 : ∀ c ∈ L.filter isCode, P c = true) : L.all P = true := by
  refine List.all_eq_true.mpr fun c hc => ?_
  have h := List.all_eq_true.mp h1 c hc
  rcases Bool.eq_false_or_eq_true (isCode c) with hi | hi
  · exact h2 c (List.mem_filter.mpr ⟨hc, hi⟩)
  · simpa [hi] using h
set_option maxRecDepth 65536 in
theorem w_c0 : (Jvm.Cond.code x code maxLocals ret).before args0 about1 = true := code_word (m := ⟨1, 3⟩) (meth := k1m3) (c := k1c3) (by decide +kernel) rfl rfl rfl (by decide +kernel)
set_option maxRecDepth 65536 in
theorem w_c1 : (Jvm.Cond.code ({ cls := "com/example/gatefold/gatefold/ConditionOverlapsPinLaw", name := "index", desc := "(I)I" } : Jvm.MethodName) method_2_code (1 : Nat) (Option.some Jvm.ClassFile.FieldType.int)).before args0 about1 = true := code_word (m := ⟨1, 1⟩) (meth := k1m1) (c := k1c1) (by decide +kernel) rfl rfl rfl (by decide +kernel)
set_option maxRecDepth 65536 in
theorem w_c2 : (Jvm.Cond.code ({ cls := "com/example/gatefold/gatefold/ConditionOverlapsPinLaw", name := "pick", desc := "(I)Lcom/example/gatefold/gatefold/Condition;" } : Jvm.MethodName) method_3_code (1 : Nat) (Option.some (Jvm.ClassFile.FieldType.object "com/example/gatefold/gatefold/Condition"))).before args0 about1 = true := code_word (m := ⟨1, 2⟩) (meth := k1m2) (c := k1c2) (by decide +kernel) rfl rfl rfl (by decide +kernel)
set_option maxRecDepth 65536 in
theorem w_c3 : (Jvm.Cond.code ({ cls := "com/example/gatefold/gatefold/Condition", name := "overlaps", desc := "(Lcom/example/gatefold/gatefold/Condition;)Z" } : Jvm.MethodName) prog_1_method_5_code (2 : Nat) (Option.some Jvm.ClassFile.FieldType.boolean)).before args0 about1 = true := code_word (m := ⟨6, 1⟩) (meth := k6m1) (c := k6c1) (by decide +kernel) rfl rfl rfl (by decide +kernel)
set_option maxRecDepth 65536 in
theorem w_c4 : (Jvm.Cond.code ({ cls := "com/example/gatefold/gatefold/Condition", name := "holdsFor", desc := "(Z)Z" } : Jvm.MethodName) prog_1_method_4_code (2 : Nat) (Option.some Jvm.ClassFile.FieldType.boolean)).before args0 about1 = true := code_word (m := ⟨6, 0⟩) (meth := k6m0) (c := k6c0) (by decide +kernel) rfl rfl rfl (by decide +kernel)
set_option maxRecDepth 65536 in
theorem w_c5 : (Jvm.Cond.code ({ cls := "java/lang/Enum", name := "ordinal", desc := "()I" } : Jvm.MethodName) jdk_37_method_2_code (1 : Nat) (Option.some Jvm.ClassFile.FieldType.int)).before args0 about1 = true := code_word (m := ⟨5, 0⟩) (meth := k5m0) (c := k5c0) (by decide +kernel) rfl rfl rfl (by decide +kernel)
def codes1 : List Jvm.Cond := [Jvm.Cond.code x code maxLocals ret, Jvm.Cond.code ({ cls := "com/example/gatefold/gatefold/ConditionOverlapsPinLaw", name := "index", desc := "(I)I" } : Jvm.MethodName) method_2_code (1 : Nat) (Option.some Jvm.ClassFile.FieldType.int), Jvm.Cond.code ({ cls := "com/example/gatefold/gatefold/ConditionOverlapsPinLaw", name := "pick", desc := "(I)Lcom/example/gatefold/gatefold/Condition;" } : Jvm.MethodName) method_3_code (1 : Nat) (Option.some (Jvm.ClassFile.FieldType.object "com/example/gatefold/gatefold/Condition")), Jvm.Cond.code ({ cls := "com/example/gatefold/gatefold/Condition", name := "overlaps", desc := "(Lcom/example/gatefold/gatefold/Condition;)Z" } : Jvm.MethodName) prog_1_method_5_code (2 : Nat) (Option.some Jvm.ClassFile.FieldType.boolean), Jvm.Cond.code ({ cls := "com/example/gatefold/gatefold/Condition", name := "holdsFor", desc := "(Z)Z" } : Jvm.MethodName) prog_1_method_4_code (2 : Nat) (Option.some Jvm.ClassFile.FieldType.boolean), Jvm.Cond.code ({ cls := "java/lang/Enum", name := "ordinal", desc := "()I" } : Jvm.MethodName) jdk_37_method_2_code (1 : Nat) (Option.some Jvm.ClassFile.FieldType.int)]
set_option maxRecDepth 65536 in
theorem codes_eq : words1.filter isCode = codes1 := rfl
theorem w_codes : ∀ c ∈ words1.filter isCode, c.before args0 about1 = true := by
  rw [codes_eq]
  intro c hc
  simp only [codes1, List.mem_cons, List.not_mem_nil, or_false] at hc
  rcases hc with rfl | rfl | rfl | rfl | rfl | rfl
  · exact w_c0
  · exact w_c1
  · exact w_c2
  · exact w_c3
  · exact w_c4
  · exact w_c5
set_option maxRecDepth 65536 in
theorem w_t1 : (words1.take 24).all (fun c => isCode c || c.before args0 about1) = true := by decide +kernel
set_option maxRecDepth 65536 in
theorem w_t2 : (words1.drop 24).all (fun c => isCode c || c.before args0 about1) = true := by decide +kernel
theorem w_tables : (allAtoms (Jvm.Cond.code x code maxLocals ret :: tables_1)).before args0 about1 = true := by
  rw [allAtoms_all]
  show words1.all (fun c => c.before args0 about1) = true
  refine all_split ?_ w_codes
  rw [← List.take_append_drop 24 words1, List.all_append, w_t1, w_t2]
  rfl
set_option maxRecDepth 65536 in
theorem w_case : (Jvm.Cond.and given_1 narrow_1).before args0 about1 = true := by decide +kernel
theorem w_applies : (headSpec (Jvm.Cond.code x code maxLocals ret :: tables_1) room_1).applies x e0.platform about1 = true :=
  (Spec.applies_iff w_frames).mpr ⟨w_running, w_runnable, w_alone, w_named, w_hears, w_ripe, w_room, w_tables⟩
theorem atStart : AtStart classFile x code maxLocals ret World_1 tables_1 room_1 Calls_1 rest_1 Pre_1 launch0 p0 e0 about1 theMethod args0 below0 :=
  ⟨lists_1, trivial, launch0.admits_env _ _ _, launch0.least_env, fairChoices_fair.cas, fairChoices_fair.clock, w_frames, w_args, w_heap, w_applies, trivial, trivial, w_case⟩
end start1
theorem witness_1 : WitnessClaimed_1 := ⟨start1.p0, start1.e0, start1.about1, start1.theMethod, start1.args0, start1.below0, start1.atStart⟩
end Jvm.Pilot.@@N@@
