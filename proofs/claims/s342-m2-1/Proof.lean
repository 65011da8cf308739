import JvmDerived
import JvmDerived.Pilot.@@N@@Statement
import JvmDerived.Pilot.@@N@@Code
set_option linter.unusedVariables false
set_option linter.unusedSimpArgs false
namespace Jvm.Pilot.@@N@@
open Jvm Jvm.ClassFile Sem Op Lib Jvm.Free Jvm.Stand Jvm.LawKit Jvm.RoadKit Bundle Jvm.Pilot.@@N@@.Jvm.D
section Own
variable {p : Program} {l : Launch} {e : Env} {R : Room} {s : State} {m : MethodId} {args : Array Value} {below : List Frame} {meth : Method} {c : Code} {T T' : State} {locs : List Loc} {cells slots : Nat}
/-- from the frame f on the run returns, and what it leaves is said by Q -/
def Go (p : Program) (e : Env) (below : List Frame) (s : State) (Q : Option Value → Heap → List Loc → Prop) (cs ss : Nat) (T : State) (f : JFrame) : Prop :=
  ∃ s₂ o, Steps p.tables e below (T.setTop f) s₂ ∧ s₂.status = .running ∧ Ended s₂ below o ∧ ∃ v L, o = .returned v ∧ Q v s₂.heap L ∧ FrameEnd s o s₂ L cs ss
theorem Go.st {Q : Option Value → Heap → List Loc → Prop} {cs ss : Nat} {f f' : JFrame} (k : ∀ t, Steps p.tables e below (T'.setTop f') t → Steps p.tables e below (T.setTop f) t) (h : Go p e below s Q cs ss T' f') : Go p e below s Q cs ss T f := by
  obtain ⟨s₂, o, h1, h2⟩ := h
  exact ⟨s₂, o, k _ h1, h2⟩
theorem Go.start {Q : Option Value → Heap → List Loc → Prop} {cs ss ml : Nat} {f : JFrame} (hf : entryFrame m args ml = f) (h : Go p e below s Q cs ss T f) :
    ∃ s₂ o, Steps p.tables e below (T.setTop (entryFrame m args ml)) s₂ ∧ s₂.status = .running ∧ Ended s₂ below o ∧ ∃ v L, o = .returned v ∧ Q v s₂.heap L ∧ FrameEnd s o s₂ L cs ss := by
  subst hf; exact h
theorem Go.fr {Q : Option Value → Heap → List Loc → Prop} {cs ss : Nat} {f f' : JFrame} (q : f = f') (h : Go p e below s Q cs ss T f') : Go p e below s Q cs ss T f := by
  subst q; exact h
theorem Go.ret {Q : Option Value → Heap → List Loc → Prop} {cs ss : Nat} {f : JFrame} (X : Stand p l e R s m args below meth c T locs cells slots) (hlk : meth.locks = false) {v : Option Value} (hv : meth.sig.returnType = none → v = none)
    (k : ∀ fs, (∀ (f : JFrame) (acts : List Action), f.method = m → f.locked = none → f.entered = [] → (doReturn e (T.setTop f) acts v).1 = T.setFrames fs) → Steps p.tables e below (T.setTop f) (T.setFrames fs))
    (hQ : Q v T.heap locs) (hc : cells ≤ cs) (hs : slots ≤ ss) : Go p e below s Q cs ss T f := by
  obtain ⟨fs, hr, hrun, hended, hW, hsame⟩ := X.leave (v := v) hv hlk
  exact ⟨_, _, k fs hr, hrun, hended, _, _, rfl, hQ, ⟨_, rfl⟩, hW, hsame.mono hc hs⟩
theorem own_fld {t : Term} {a : Addr} {C n d : String} {k : Int32} (ev : t.eval args s none [] s = some (.ref a)) (h : (Jvm.Cond.eq (.field t C n d) (.int k)).value args s none s [] = some true) : Fld s s.heap a C n d (.int k) := by
  have q : (Term.field t C n d).eval args s none [] s = s.fieldOf? a C n d := fld_at ev
  have q2 : (Term.field t C n d).eval args s none [] s = some (.int k) := Cond.eq_int (Cond.before_iff.mpr h) rfl
  exact Fld.start (q.symm.trans q2)
theorem own_sta {Z : State} {h h' : Heap} {C n d : String} {v : Value} {ws : List Addr} (F : Sta Z h C n d v) (K : Keep h h' ws) (q : ∀ x ∈ ws, ∃ c : Cell, h[x]? = some c ∧ ∀ q, c.vm ≠ .statics q) : Sta Z h' C n d v := by
  obtain ⟨cf, i, k, f, st, cell, h1, h2, h3, h4, h5, h6, h7⟩ := F
  refine ⟨cf, i, k, f, st, cell, h1, h2, h3, h4, K.2.1 st cell h5 fun hm => ?_, h6, h7⟩
  obtain ⟨c, hc, hn⟩ := q st hm
  cases hc.symm.trans h5
  cases hv : cell.vm <;> simp [hv, VmData.isStatics] at h6 hn
theorem own_bb (x : Int32) : x.toInt8.toInt32.toInt8.toInt32 = x.toInt8.toInt32 := by simp
theorem own_arvcell {Z : State} {h : Heap} {a : Addr} {k : ClassId} {ty : FieldType} {z : Int32} {vs : List Value} {dv : Value} (F : Arv Z h a k ty z vs dv) : ∃ c : Cell, h[a]? = some c ∧ ∀ q, c.vm ≠ .statics q := by
  obtain ⟨c, A, -⟩ := F
  exact ⟨c, A.1, fun q hq => by have := A.plain; simp [hq, VmData.isStatics] at this⟩
/-- a static that holds a reference or null -/
def StaR (Z : State) (h : Heap) (C n d : String) : Prop := Sta Z h C n d .null ∨ ∃ a, Sta Z h C n d (.ref a)
theorem StaR.ext {Z : State} {h h' : Heap} {C n d : String} (F : StaR Z h C n d) (E : Ext h h') : StaR Z h' C n d := F.imp (fun q => q.ext E) fun ⟨a, q⟩ => ⟨a, q.ext E⟩
theorem StaR.wr {Z : State} {h h' : Heap} {C n d : String} {a : Addr} {sl : Nat} {v : Value} (F : StaR Z h C n d) (W : Wr h h' a sl v) : StaR Z h' C n d := F.imp (fun q => q.wr W) fun ⟨a, q⟩ => ⟨a, q.wr W⟩
theorem own_staR {Z : State} {h h' : Heap} {C n d : String} {ws : List Addr} (F : StaR Z h C n d) (K : Keep h h' ws) (q : ∀ x ∈ ws, ∃ c : Cell, h[x]? = some c ∧ ∀ q, c.vm ≠ .statics q) : StaR Z h' C n d := F.imp (fun r => own_sta r K q) fun ⟨a, r⟩ => ⟨a, own_sta r K q⟩
end Own
theorem pn_java_lang_Enum : plainName "java/lang/Enum" = true := by first | (simp [plainName, overriddenIn]; done) | decide +kernel
theorem pd_0 : parseMethodDescriptor "()I" = some ⟨[], some .int⟩ := by decide +kernel
theorem pn_com_example_gatefold_gatefold_Condition : plainName "com/example/gatefold/gatefold/Condition" = true := by first | (simp [plainName, overriddenIn]; done) | decide +kernel
theorem pd_1 : parseMethodDescriptor "(Z)Z" = some ⟨[.boolean], some .boolean⟩ := by decide +kernel
theorem pn_com_example_gatefold_gatefold_ConditionHoldsForPinLaw : plainName "com/example/gatefold/gatefold/ConditionHoldsForPinLaw" = true := by first | (simp [plainName, overriddenIn]; done) | decide +kernel
theorem own_rem (x k : Int32) (hk : 0 < k.toInt) : 0 ≤ ((x &&& 2147483647) % k).toInt ∧ ((x &&& 2147483647) % k).toInt < k.toInt := by
  have h := c_mask x 2147483647 31 (by decide) (by decide)
  have h0 : 0 ≤ (x &&& 2147483647).toInt := by rw [h]; omega
  have h2 := (c_iremV (x &&& 2147483647) k).1 h0 hk
  exact ⟨h2.1, h2.2.1⟩
theorem own_i32 {x : Int32} {k : Int} (h : x.toInt = k) (y : Int32) (hy : y.toInt = k) : x = y := Int32.toInt_inj.mp (h.trans hy.symm)
theorem own_mod3 (x : Int32) : (x &&& 2147483647) % 3 = 0 ∨ (x &&& 2147483647) % 3 = 1 ∨ (x &&& 2147483647) % 3 = 2 := by
  have h := own_rem x 3 (by decide)
  have h3 : (3 : Int32).toInt = 3 := by decide
  rw [h3] at h
  generalize (x &&& 2147483647) % 3 = y at h ⊢
  have : y.toInt = 0 ∨ y.toInt = 1 ∨ y.toInt = 2 := by omega
  rcases this with h | h | h
  · exact Or.inl (own_i32 h 0 (by decide))
  · exact Or.inr (Or.inl (own_i32 h 1 (by decide)))
  · exact Or.inr (Or.inr ((own_i32 h 2 (by decide))))
theorem d2_0 : decode jdk_37_method_2_code 0 = .ok (.aload_n 0, 1) := by decide +kernel
theorem d2_1 : decode jdk_37_method_2_code 1 = .ok (.getfield 7, 3) := by decide +kernel
theorem d2_4 : decode jdk_37_method_2_code 4 = .ok (.ireturn, 1) := by decide +kernel
def val_2 (o0 : Addr) (od : Int32) : Int32 := od
theorem ef_2 (m : MethodId) (o0 : Addr) : entryFrame m #[(.ref o0)] 1 = mkF m 0 #[.val (.ref o0)] [] := by first | (simp [entryFrame, mkF, argsToLocals, Value.category]; done) | rfl
def Q2 (Z : State) (o0 : Addr) (od : Int32) (h0 : Heap) (n0 : Nat) (v : Option Value) (h : Heap) (L : List Loc) : Prop := v = some (.int (val_2 o0 od)) ∧ Fr n0 L ∧ h = h0
set_option maxRecDepth 65536 in
set_option maxHeartbeats 40000000 in
theorem rm2 (l : Launch) (Z : State) (a0 : Array Value) (hw : ∀ d ∈ tables_1, d.before a0 Z = true) (ws : List Jvm.Cond) (o0 : Addr) (od : Int32) (h0 : Heap) (n0 : Nat) (Z0 : n0 ≤ h0.size) (F_ordinal_o0 : Fld Z h0 o0 "java/lang/Enum" "ordinal" "I" (.int od)) :
    MetFree l (⟨"java/lang/Enum", "ordinal", "()I"⟩ : MethodName) (head1 (Jvm.Cond.code (⟨"java/lang/Enum", "ordinal", "()I"⟩ : MethodName) jdk_37_method_2_code 1 (some .int) :: ws) ({ frames := 0, cells := 0, slots := 0, locals := 0 } : Room)) (fun a U => a = #[(.ref o0)] ∧ Z.Warmed39 U.vm ∧ U.heap = h0) (fun _ _ _ _ _ => True) (fun _ U o U' => ∃ v L, o = .returned v ∧ Q2 Z o0 od h0 n0 v U'.heap L ∧ FrameEnd U o U' L ({ frames := 0, cells := 0, slots := 0, locals := 0 } : Room).cells ({ frames := 0, cells := 0, slots := 0, locals := 0 } : Room).slots) := by
  refine MetFree.of_bodySF (plainFor_of_name pn_java_lang_Enum) hisR ?_
  intro p e s m args below meth c s₁ Bd hml0 hP hK
  obtain ⟨rfl, hZ, hh⟩ := hP
  have hx := Bd.exec
  have hby := Bd.bytes
  have hlk : meth.locks = false := BodyLoose.notSynchronized Bd
  have hret := Bd.returns
  have hml : c.maxLocals = 1 := hml0
  have hown : s.vm.findClass "java/lang/Enum" = some m.cls := findClass_of_methodNamed Bd.named
  have hnm := (name_of_methodNamed Bd.named Bd.method).1
  have X0 : Stand p l e ({ frames := 0, cells := 0, slots := 0, locals := 0 } : Room) s m #[(.ref o0)] below meth c s₁ [] 0 0 := Stand.of_body Bd
  have e0 : s₁.heap = h0 := by rw [← hh, Bd.state]; rfl
  have N0 := Fr.nil n0
  refine Go.start (Q := Q2 Z o0 od h0 n0) (ef_2 m o0) ?_
  show Go _ _ _ _ _ _ _ s₁ (mkF m 0 #[.val (.ref o0)] [])
  refine Go.st (fun _ k => XS.aloadN X0.here hx rfl (hb hby d2_0) rfl rfl k) ?_
  show Go _ _ _ _ _ _ _ s₁ (mkF m 1 #[.val (.ref o0)] [(.ref o0)])
  obtain ⟨T1, X1, e1, st1⟩ := getF X0 hx hZ hown (host := "") (Or.inl (hw _ (List.mem_of_getElem? (i := 16) rfl))) Via.refl e0 F_ordinal_o0 (g := (mkF m 1 #[.val (.ref o0)] [(.ref o0)])) rfl rfl (hb hby d2_1)
  refine Go.st st1 ?_
  show Go _ _ _ _ _ _ _ T1 (mkF m 4 #[.val (.ref o0)] [(.int od)])
  refine Go.ret X1 hlk (v := some (.int od)) (fun h => by rw [hret] at h; cases h) (fun fs hr => retOut X1 hx (t := .int) (i := .ireturn) hret rfl (Or.inl ⟨rfl, Or.inl rfl, _, rfl⟩) (hb hby d2_4) hr) ?_ (by decide) (by decide)
  show Q2 Z o0 od h0 n0 (some (.int od)) T1.heap _
  rw [e1]
  refine ⟨?_, N0, rfl⟩
  unfold val_2
  rfl
theorem d1_0 : decode prog_1_method_4_code 0 = .ok (.aload_n 0, 1) := by decide +kernel
theorem d1_1 : decode prog_1_method_4_code 1 = .ok (.invokevirtual 32, 3) := by decide +kernel
theorem d1_4 : decode prog_1_method_4_code 4 = .ok (.tableswitch 28 0 2 #[38, 42, 46], 28) := by decide +kernel
theorem d1_42 : decode prog_1_method_4_code 42 = .ok (.iconst 1, 1) := by decide +kernel
theorem d1_43 : decode prog_1_method_4_code 43 = .ok (.goto 16, 3) := by decide +kernel
theorem d1_46 : decode prog_1_method_4_code 46 = .ok (.iload_n 1, 1) := by decide +kernel
theorem d1_47 : decode prog_1_method_4_code 47 = .ok (.goto 12, 3) := by decide +kernel
theorem d1_50 : decode prog_1_method_4_code 50 = .ok (.iload_n 1, 1) := by decide +kernel
theorem d1_51 : decode prog_1_method_4_code 51 = .ok (.ifCond .ne 7, 3) := by decide +kernel
theorem d1_54 : decode prog_1_method_4_code 54 = .ok (.iconst 1, 1) := by decide +kernel
theorem d1_55 : decode prog_1_method_4_code 55 = .ok (.goto 4, 3) := by decide +kernel
theorem d1_58 : decode prog_1_method_4_code 58 = .ok (.iconst 0, 1) := by decide +kernel
theorem d1_59 : decode prog_1_method_4_code 59 = .ok (.ireturn, 1) := by decide +kernel
def val_1 (o0 : Addr) (p1 : Int32) (od : Int32) : Int32 := (if od = (0 : Int32) then (1 : Int32) else (if od = (1 : Int32) then (nar .boolean p1) else (if p1 = (0 : Int32) then (1 : Int32) else (0 : Int32))))
theorem ef_1 (m : MethodId) (o0 : Addr) (p1 : Int32) : entryFrame m #[(.ref o0), (.int p1)] 2 = mkF m 0 #[.val (.ref o0), .val (.int p1)] [] := by first | (simp [entryFrame, mkF, argsToLocals, Value.category]; done) | rfl
def Q1 (Z : State) (o0 : Addr) (p1 : Int32) (od : Int32) (h0 : Heap) (n0 : Nat) (v : Option Value) (h : Heap) (L : List Loc) : Prop := v = some (.int (val_1 o0 p1 od)) ∧ Fr n0 L ∧ h = h0
set_option maxRecDepth 65536 in
set_option maxHeartbeats 40000000 in
theorem rm1 (l : Launch) (Z : State) (a0 : Array Value) (hw : ∀ d ∈ tables_1, d.before a0 Z = true) (ws : List Jvm.Cond) (o0 : Addr) (p1 : Int32) (od : Int32) (h0 : Heap) (n0 : Nat) (Z0 : n0 ≤ h0.size) (E_o0 : Exa Z h0 o0 "com/example/gatefold/gatefold/Condition") (F_ordinal_o0 : Fld Z h0 o0 "java/lang/Enum" "ordinal" "I" (.int od)) (V_od : od = 0 ∨ od = 1 ∨ od = 2) :
    MetFree l (⟨"com/example/gatefold/gatefold/Condition", "holdsFor", "(Z)Z"⟩ : MethodName) (head1 (Jvm.Cond.code (⟨"com/example/gatefold/gatefold/Condition", "holdsFor", "(Z)Z"⟩ : MethodName) prog_1_method_4_code 2 (some .boolean) :: ws) ({ frames := 1, cells := 0, slots := 0, locals := 12 } : Room)) (fun a U => a = #[(.ref o0), (.int p1)] ∧ Z.Warmed39 U.vm ∧ U.heap = h0) (fun _ _ _ _ _ => True) (fun _ U o U' => ∃ v L, o = .returned v ∧ Q1 Z o0 p1 od h0 n0 v U'.heap L ∧ FrameEnd U o U' L ({ frames := 1, cells := 0, slots := 0, locals := 12 } : Room).cells ({ frames := 1, cells := 0, slots := 0, locals := 12 } : Room).slots) := by
  refine MetFree.of_bodySF (plainFor_of_name pn_com_example_gatefold_gatefold_Condition) hisR ?_
  intro p e s m args below meth c s₁ Bd hml0 hP hK
  obtain ⟨rfl, hZ, hh⟩ := hP
  have hx := Bd.exec
  have hby := Bd.bytes
  have hlk : meth.locks = false := BodyLoose.notSynchronized Bd
  have hret := Bd.returns
  have hml : c.maxLocals = 2 := hml0
  have hown : s.vm.findClass "com/example/gatefold/gatefold/Condition" = some m.cls := findClass_of_methodNamed Bd.named
  have hnm := (name_of_methodNamed Bd.named Bd.method).1
  have X0 : Stand p l e ({ frames := 1, cells := 0, slots := 0, locals := 12 } : Room) s m #[(.ref o0), (.int p1)] below meth c s₁ [] 0 0 := Stand.of_body Bd
  have e0 : s₁.heap = h0 := by rw [← hh, Bd.state]; rfl
  have N0 := Fr.nil n0
  refine Go.start (Q := Q1 Z o0 p1 od h0 n0) (ef_1 m o0 p1) ?_
  show Go _ _ _ _ _ _ _ s₁ (mkF m 0 #[.val (.ref o0), .val (.int p1)] [])
  refine Go.st (fun _ k => XS.aloadN X0.here hx rfl (hb hby d1_0) rfl rfl k) ?_
  show Go _ _ _ _ _ _ _ s₁ (mkF m 1 #[.val (.ref o0), .val (.int p1)] [(.ref o0)])
  obtain ⟨cq1, kq1, q1a, q1b, q1c⟩ := isOf hZ e0 E_o0
  obtain ⟨_, _, ⟨T1, L1, k1, n1⟩, -, X1, ⟨Lc1, hQ1, l1, y1, z1⟩, st1⟩ := X0.virtualBackUp hx (owner := "java/lang/Enum") (x := (⟨"com/example/gatefold/gatefold/Condition", "ordinal", "()I"⟩ : MethodName)) (y := (⟨"java/lang/Enum", "ordinal", "()I"⟩ : MethodName)) hown (mvT hZ (hw _ (List.mem_of_getElem? (i := 9) rfl))) (mvT hZ (hw _ (List.mem_of_getElem? (i := 10) rfl))) (mvT hZ (hw _ (List.mem_of_getElem? (i := 11) rfl))) (by decide) (mvT hZ (hw _ (List.mem_of_getElem? (i := 13) rfl))) (mvT hZ (hw _ (List.mem_of_getElem? (i := 12) rfl))) (backOf (W := 0) (rm2 l Z a0 hw [] o0 od h0 n0 Z0 F_ordinal_o0) hZ (hw _ (List.mem_of_getElem? (i := 15) rfl)) (hw _ (List.mem_of_getElem? (i := 14) rfl)) (by decide) (by decide)) q1a q1c (g := (mkF m 1 #[.val (.ref o0), .val (.int p1)] [(.ref o0)])) rfl (by rw [hml]; rfl) (Steps.refl _) (argsL := []) (rest := []) (lenOf pd_0 rfl) rfl (by show 2 * 0 + _ ≤ _; exact Nat.le_of_eq rfl) (hb hby d1_1) (fun _ _ => ⟨rfl, e0, (by decide : 0 + 0 ≤ _), (by decide : 0 + 0 ≤ _)⟩)
  dsimp only [Pt.U, Pt.locs, Pt.cells, Pt.slots] at X1 l1 y1 z1 st1 hQ1
  subst l1 y1 z1
  obtain ⟨rfl, N1q, e1⟩ := hQ1
  have N1 := Fr.app N0 N1q
  refine Go.st (fun _ k => st1.trans k) ?_
  show Go _ _ _ _ _ _ _ T1 (mkF m 4 #[.val (.ref o0), .val (.int p1)] [(.int (val_2 o0 od))])
  rw [show (val_2 o0 od) = od from by unfold val_2; rfl]
  show Go _ _ _ _ _ _ _ T1 (mkF m 4 #[.val (.ref o0), .val (.int p1)] [(.int od)])
  rcases V_od with hv | hv | hv
  · have hv2 := hv
    refine Go.st (fun _ k => XS.tswIn X1.here hx rfl (pc0 := 4) (pc' := 42) (o := 38) rfl (hb hby d1_4) rfl (by rw [hv2]; decide) (by rw [hv2]; decide) (by decide) (by decide) k) ?_
    show Go _ _ _ _ _ _ _ T1 (mkF m 42 #[.val (.ref o0), .val (.int p1)] [])
    refine Go.st (fun _ k => XS.iconst X1.here hx rfl (hb hby d1_42) k) ?_
    show Go _ _ _ _ _ _ _ T1 (mkF m 43 #[.val (.ref o0), .val (.int p1)] [(.int (1 : Int32))])
    refine Go.st (fun _ k => XS.goto X1.here hx rfl (pc0 := 43) (pc' := 59) rfl (hb hby d1_43) (by decide) (by decide) k) ?_
    show Go _ _ _ _ _ _ _ T1 (mkF m 59 #[.val (.ref o0), .val (.int p1)] [(.int (1 : Int32))])
    refine Go.ret X1 hlk (v := some (.int (1 : Int32))) (fun h => by rw [hret] at h; cases h) (fun fs hr => retN X1 hx (t := .boolean) hret (by simp) (hb hby d1_59) hr) ?_ (by decide) (by decide)
    show Q1 Z o0 p1 od h0 n0 (some (.int (1 : Int32))) T1.heap _
    rw [e1]
    refine ⟨?_, N1, rfl⟩
    unfold val_1
    first | rfl | rw [if_pos hv2]
  · have hv3 := hv
    refine Go.st (fun _ k => XS.tswIn X1.here hx rfl (pc0 := 4) (pc' := 46) (o := 42) rfl (hb hby d1_4) rfl (by rw [hv3]; decide) (by rw [hv3]; decide) (by decide) (by decide) k) ?_
    show Go _ _ _ _ _ _ _ T1 (mkF m 46 #[.val (.ref o0), .val (.int p1)] [])
    refine Go.st (fun _ k => XS.iloadN X1.here hx rfl (hb hby d1_46) rfl k) ?_
    show Go _ _ _ _ _ _ _ T1 (mkF m 47 #[.val (.ref o0), .val (.int p1)] [(.int p1)])
    refine Go.st (fun _ k => XS.goto X1.here hx rfl (pc0 := 47) (pc' := 59) rfl (hb hby d1_47) (by decide) (by decide) k) ?_
    show Go _ _ _ _ _ _ _ T1 (mkF m 59 #[.val (.ref o0), .val (.int p1)] [(.int p1)])
    refine Go.ret X1 hlk (v := some (.int (nar .boolean p1))) (fun h => by rw [hret] at h; cases h) (fun fs hr => retN X1 hx (t := .boolean) hret (by simp) (hb hby d1_59) hr) ?_ (by decide) (by decide)
    show Q1 Z o0 p1 od h0 n0 (some (.int (nar .boolean p1))) T1.heap _
    rw [e1]
    refine ⟨?_, N1, rfl⟩
    unfold val_1
    first | rfl | rw [if_neg (by rw [hv3]; decide : ¬ (od = (0 : Int32))), if_pos hv3]
  · have hv4 := hv
    refine Go.st (fun _ k => XS.tswIn X1.here hx rfl (pc0 := 4) (pc' := 50) (o := 46) rfl (hb hby d1_4) rfl (by rw [hv4]; decide) (by rw [hv4]; decide) (by decide) (by decide) k) ?_
    show Go _ _ _ _ _ _ _ T1 (mkF m 50 #[.val (.ref o0), .val (.int p1)] [])
    refine Go.st (fun _ k => XS.iloadN X1.here hx rfl (hb hby d1_50) rfl k) ?_
    show Go _ _ _ _ _ _ _ T1 (mkF m 51 #[.val (.ref o0), .val (.int p1)] [(.int p1)])
    by_cases hc5 : p1 = (0 : Int32)
    · refine Go.st (fun _ k => XS.ifNo X1.here hx rfl (hb hby d1_51) rfl ((if0 _ _).trans (teq hc5).2) k) ?_
      show Go _ _ _ _ _ _ _ T1 (mkF m 54 #[.val (.ref o0), .val (.int p1)] [])
      refine Go.st (fun _ k => XS.iconst X1.here hx rfl (hb hby d1_54) k) ?_
      show Go _ _ _ _ _ _ _ T1 (mkF m 55 #[.val (.ref o0), .val (.int p1)] [(.int (1 : Int32))])
      refine Go.st (fun _ k => XS.goto X1.here hx rfl (pc0 := 55) (pc' := 59) rfl (hb hby d1_55) (by decide) (by decide) k) ?_
      show Go _ _ _ _ _ _ _ T1 (mkF m 59 #[.val (.ref o0), .val (.int p1)] [(.int (1 : Int32))])
      refine Go.ret X1 hlk (v := some (.int (1 : Int32))) (fun h => by rw [hret] at h; cases h) (fun fs hr => retN X1 hx (t := .boolean) hret (by simp) (hb hby d1_59) hr) ?_ (by decide) (by decide)
      show Q1 Z o0 p1 od h0 n0 (some (.int (1 : Int32))) T1.heap _
      rw [e1]
      refine ⟨?_, N1, rfl⟩
      unfold val_1
      first | rfl | rw [if_neg (by rw [hv4]; decide : ¬ (od = (0 : Int32))), if_neg (by rw [hv4]; decide : ¬ (od = (1 : Int32))), if_pos hc5]
    · refine Go.st (fun _ k => XS.ifYes X1.here hx rfl (pc0 := 51) (pc' := 58) rfl (hb hby d1_51) rfl ((if0 _ _).trans (feq hc5).2) (by decide) (by decide) k) ?_
      show Go _ _ _ _ _ _ _ T1 (mkF m 58 #[.val (.ref o0), .val (.int p1)] [])
      refine Go.st (fun _ k => XS.iconst X1.here hx rfl (hb hby d1_58) k) ?_
      show Go _ _ _ _ _ _ _ T1 (mkF m 59 #[.val (.ref o0), .val (.int p1)] [(.int (0 : Int32))])
      refine Go.ret X1 hlk (v := some (.int (0 : Int32))) (fun h => by rw [hret] at h; cases h) (fun fs hr => retN X1 hx (t := .boolean) hret (by simp) (hb hby d1_59) hr) ?_ (by decide) (by decide)
      show Q1 Z o0 p1 od h0 n0 (some (.int (0 : Int32))) T1.heap _
      rw [e1]
      refine ⟨?_, N1, rfl⟩
      unfold val_1
      first | rfl | rw [if_neg (by rw [hv4]; decide : ¬ (od = (0 : Int32))), if_neg (by rw [hv4]; decide : ¬ (od = (1 : Int32))), if_neg hc5]
theorem ef_0 (m : MethodId) (p0 : Int32) (p1 : Int32) : entryFrame m #[(.int p0), (.int p1)] maxLocals = mkF m 0 #[.val (.int p0), .val (.int p1), .unset, .unset, .unset, .unset, .unset, .unset] [] := by first | (simp [entryFrame, mkF, argsToLocals, Value.category, maxLocals]; done) | rfl
def Q0 (Z : State) (p0 : Int32) (p1 : Int32) (w_ALWAYS : Addr) (w_IF_EXTERNAL : Addr) (w_IF_NOT_EXTERNAL : Addr) (h0 : Heap) (n0 : Nat) (v : Option Value) (h : Heap) (L : List Loc) : Prop := v = some (.int 1) ∧ Fr n0 L
set_option maxRecDepth 65536 in
set_option maxHeartbeats 40000000 in
theorem rm0 (l : Launch) (Z : State) (a0 : Array Value) (hw : ∀ d ∈ tables_1, d.before a0 Z = true) (ws : List Jvm.Cond) (p0 : Int32) (p1 : Int32) (w_ALWAYS : Addr) (w_IF_EXTERNAL : Addr) (w_IF_NOT_EXTERNAL : Addr) (h0 : Heap) (n0 : Nat) (Z0 : n0 ≤ h0.size) (S_ALWAYS : Sta Z h0 "com/example/gatefold/gatefold/Condition" "ALWAYS" "Lcom/example/gatefold/gatefold/Condition;" (.ref w_ALWAYS)) (E_ALWAYS : Exa Z h0 w_ALWAYS "com/example/gatefold/gatefold/Condition") (F_ALWAYS_ordinal : Fld Z h0 w_ALWAYS "java/lang/Enum" "ordinal" "I" (.int (0 : Int32))) (S_IF_EXTERNAL : Sta Z h0 "com/example/gatefold/gatefold/Condition" "IF_EXTERNAL" "Lcom/example/gatefold/gatefold/Condition;" (.ref w_IF_EXTERNAL)) (E_IF_EXTERNAL : Exa Z h0 w_IF_EXTERNAL "com/example/gatefold/gatefold/Condition") (F_IF_EXTERNAL_ordinal : Fld Z h0 w_IF_EXTERNAL "java/lang/Enum" "ordinal" "I" (.int (1 : Int32))) (S_IF_NOT_EXTERNAL : Sta Z h0 "com/example/gatefold/gatefold/Condition" "IF_NOT_EXTERNAL" "Lcom/example/gatefold/gatefold/Condition;" (.ref w_IF_NOT_EXTERNAL)) (E_IF_NOT_EXTERNAL : Exa Z h0 w_IF_NOT_EXTERNAL "com/example/gatefold/gatefold/Condition") (F_IF_NOT_EXTERNAL_ordinal : Fld Z h0 w_IF_NOT_EXTERNAL "java/lang/Enum" "ordinal" "I" (.int (2 : Int32))) :
    MetFree l x (head1 (Jvm.Cond.code x code maxLocals ret :: ws) room_1) (fun a U => a = #[(.int p0), (.int p1)] ∧ Z.Warmed39 U.vm ∧ U.heap = h0) (fun _ _ _ _ _ => True) (fun _ U o U' => ∃ v L, o = .returned v ∧ Q0 Z p0 p1 w_ALWAYS w_IF_EXTERNAL w_IF_NOT_EXTERNAL h0 n0 v U'.heap L ∧ FrameEnd U o U' L room_1.cells room_1.slots) := by
  refine MetFree.of_bodySF (plainFor_of_name pn_com_example_gatefold_gatefold_ConditionHoldsForPinLaw) hisR ?_
  intro p e s m args below meth c s₁ Bd hml0 hP hK
  obtain ⟨rfl, hZ, hh⟩ := hP
  have hx := Bd.exec
  have hby := Bd.bytes
  have hlk : meth.locks = false := BodyLoose.notSynchronized Bd
  have hret := Bd.returns
  have hml : c.maxLocals = 8 := hml0
  have hown : s.vm.findClass "com/example/gatefold/gatefold/ConditionHoldsForPinLaw" = some m.cls := findClass_of_methodNamed Bd.named
  have hnm := (name_of_methodNamed Bd.named Bd.method).1
  have X0 : Stand p l e room_1 s m #[(.int p0), (.int p1)] below meth c s₁ [] 0 0 := Stand.of_body Bd
  have e0 : s₁.heap = h0 := by rw [← hh, Bd.state]; rfl
  have N0 := Fr.nil n0
  refine Go.start (Q := Q0 Z p0 p1 w_ALWAYS w_IF_EXTERNAL w_IF_NOT_EXTERNAL h0 n0) (ef_0 m p0 p1) ?_
  have ne_w_ALWAYS_w_IF_EXTERNAL : w_ALWAYS ≠ w_IF_EXTERNAL := Fld.ne F_ALWAYS_ordinal F_IF_EXTERNAL_ordinal (by simp)
  have ne_w_ALWAYS_w_IF_NOT_EXTERNAL : w_ALWAYS ≠ w_IF_NOT_EXTERNAL := Fld.ne F_ALWAYS_ordinal F_IF_NOT_EXTERNAL_ordinal (by simp)
  have ne_w_IF_EXTERNAL_w_IF_NOT_EXTERNAL : w_IF_EXTERNAL ≠ w_IF_NOT_EXTERNAL := Fld.ne F_IF_EXTERNAL_ordinal F_IF_NOT_EXTERNAL_ordinal (by simp)
  show Go _ _ _ _ _ _ _ s₁ (mkF m 0 #[.val (.int p0), .val (.int p1), .unset, .unset, .unset, .unset, .unset, .unset] [])
  refine Go.st (fun _ k => XS.iloadN X0.here hx rfl (hb hby at_0) rfl k) ?_
  show Go _ _ _ _ _ _ _ s₁ (mkF m 1 #[.val (.int p0), .val (.int p1), .unset, .unset, .unset, .unset, .unset, .unset] [(.int p0)])
  refine Go.st (fun _ k => Jvm.Stand.ldcI X0 hx hown (mvT hZ (hw _ (List.mem_of_getElem? (i := 0) rfl))) rfl (hb hby at_1) k) ?_
  show Go _ _ _ _ _ _ _ s₁ (mkF m 3 #[.val (.int p0), .val (.int p1), .unset, .unset, .unset, .unset, .unset, .unset] [(.int (2147483647 : Int32)), (.int p0)])
  refine Go.st (fun _ k => XS.iand X0.here hx rfl (hb hby at_3) rfl k) ?_
  show Go _ _ _ _ _ _ _ s₁ (mkF m 4 #[.val (.int p0), .val (.int p1), .unset, .unset, .unset, .unset, .unset, .unset] [(.int (p0 &&& (2147483647 : Int32)))])
  refine Go.st (fun _ k => XS.iconst X0.here hx rfl (hb hby at_4) k) ?_
  show Go _ _ _ _ _ _ _ s₁ (mkF m 5 #[.val (.int p0), .val (.int p1), .unset, .unset, .unset, .unset, .unset, .unset] [(.int (3 : Int32)), (.int (p0 &&& (2147483647 : Int32)))])
  refine Go.st (fun _ k => iremM (g := (mkF m 5 #[.val (.int p0), .val (.int p1), .unset, .unset, .unset, .unset, .unset, .unset] [(.int (3 : Int32)), (.int (p0 &&& (2147483647 : Int32)))])) X0 hx rfl (hb hby at_5) rfl (by decide) k) ?_
  show Go _ _ _ _ _ _ _ s₁ (mkF m 6 #[.val (.int p0), .val (.int p1), .unset, .unset, .unset, .unset, .unset, .unset] [(.int ((p0 &&& (2147483647 : Int32)) % (3 : Int32)))])
  rcases own_mod3 p0 with hk1 | hk1 | hk1
  · rw [hk1]
    show Go _ _ _ _ _ _ _ s₁ (mkF m 6 #[.val (.int p0), .val (.int p1), .unset, .unset, .unset, .unset, .unset, .unset] [(.int (0 : Int32))])
    refine Go.st (fun _ k => XS.istoreN X0.here hx rfl (hb hby at_6) rfl (l' := #[.val (.int p0), .val (.int p1), .val (.int (0 : Int32)), .unset, .unset, .unset, .unset, .unset]) rfl k) ?_
    show Go _ _ _ _ _ _ _ s₁ (mkF m 7 #[.val (.int p0), .val (.int p1), .val (.int (0 : Int32)), .unset, .unset, .unset, .unset, .unset] [])
    refine Go.st (fun _ k => XS.iloadN X0.here hx rfl (hb hby at_7) rfl k) ?_
    show Go _ _ _ _ _ _ _ s₁ (mkF m 8 #[.val (.int p0), .val (.int p1), .val (.int (0 : Int32)), .unset, .unset, .unset, .unset, .unset] [(.int p1)])
    refine Go.st (fun _ k => XS.iconst X0.here hx rfl (hb hby at_8) k) ?_
    show Go _ _ _ _ _ _ _ s₁ (mkF m 9 #[.val (.int p0), .val (.int p1), .val (.int (0 : Int32)), .unset, .unset, .unset, .unset, .unset] [(.int (1 : Int32)), (.int p1)])
    refine Go.st (fun _ k => XS.iand X0.here hx rfl (hb hby at_9) rfl k) ?_
    show Go _ _ _ _ _ _ _ s₁ (mkF m 10 #[.val (.int p0), .val (.int p1), .val (.int (0 : Int32)), .unset, .unset, .unset, .unset, .unset] [(.int (p1 &&& (1 : Int32)))])
    rcases and_one p1 with hk2 | hk2
    · rw [hk2]
      show Go _ _ _ _ _ _ _ s₁ (mkF m 10 #[.val (.int p0), .val (.int p1), .val (.int (0 : Int32)), .unset, .unset, .unset, .unset, .unset] [(.int (0 : Int32))])
      refine Go.st (fun _ k => XS.ifYes X0.here hx rfl (pc0 := 10) (pc' := 17) rfl (hb hby at_10) rfl ((if0 _ _).trans (teq (by decide : (0 : Int32) = (0 : Int32))).1) (by decide) (by decide) k) ?_
      show Go _ _ _ _ _ _ _ s₁ (mkF m 17 #[.val (.int p0), .val (.int p1), .val (.int (0 : Int32)), .unset, .unset, .unset, .unset, .unset] [])
      refine Go.st (fun _ k => XS.iconst X0.here hx rfl (hb hby at_17) k) ?_
      show Go _ _ _ _ _ _ _ s₁ (mkF m 18 #[.val (.int p0), .val (.int p1), .val (.int (0 : Int32)), .unset, .unset, .unset, .unset, .unset] [(.int (0 : Int32))])
      refine Go.st (fun _ k => XS.istoreN X0.here hx rfl (hb hby at_18) rfl (l' := #[.val (.int p0), .val (.int p1), .val (.int (0 : Int32)), .val (.int (0 : Int32)), .unset, .unset, .unset, .unset]) rfl k) ?_
      show Go _ _ _ _ _ _ _ s₁ (mkF m 19 #[.val (.int p0), .val (.int p1), .val (.int (0 : Int32)), .val (.int (0 : Int32)), .unset, .unset, .unset, .unset] [])
      refine Go.st (fun _ k => XS.iloadN X0.here hx rfl (hb hby at_19) rfl k) ?_
      show Go _ _ _ _ _ _ _ s₁ (mkF m 20 #[.val (.int p0), .val (.int p1), .val (.int (0 : Int32)), .val (.int (0 : Int32)), .unset, .unset, .unset, .unset] [(.int (0 : Int32))])
      refine Go.st (fun _ k => XS.ifNo X0.here hx rfl (hb hby at_20) rfl ((if0 _ _).trans (teq (by decide : (0 : Int32) = (0 : Int32))).2) k) ?_
      show Go _ _ _ _ _ _ _ s₁ (mkF m 23 #[.val (.int p0), .val (.int p1), .val (.int (0 : Int32)), .val (.int (0 : Int32)), .unset, .unset, .unset, .unset] [])
      obtain ⟨T3, X3, e3, st3⟩ := getS2 X0 hx hZ hown (host := "") (Or.inl (hw _ (List.mem_of_getElem? (i := 1) rfl))) Via.refl e0 S_ALWAYS (g := (mkF m 23 #[.val (.int p0), .val (.int p1), .val (.int (0 : Int32)), .val (.int (0 : Int32)), .unset, .unset, .unset, .unset] [])) rfl (hb hby at_23)
      refine Go.st st3 ?_
      show Go _ _ _ _ _ _ _ T3 (mkF m 26 #[.val (.int p0), .val (.int p1), .val (.int (0 : Int32)), .val (.int (0 : Int32)), .unset, .unset, .unset, .unset] [(.ref w_ALWAYS)])
      refine Go.st (fun _ k => XS.goto X3.here hx rfl (pc0 := 26) (pc' := 43) rfl (hb hby at_26) (by decide) (by decide) k) ?_
      show Go _ _ _ _ _ _ _ T3 (mkF m 43 #[.val (.int p0), .val (.int p1), .val (.int (0 : Int32)), .val (.int (0 : Int32)), .unset, .unset, .unset, .unset] [(.ref w_ALWAYS)])
      refine Go.st (fun _ k => XS.astore X3.here hx rfl (hb hby at_43) rfl rfl (l' := #[.val (.int p0), .val (.int p1), .val (.int (0 : Int32)), .val (.int (0 : Int32)), .val (.ref w_ALWAYS), .unset, .unset, .unset]) rfl k) ?_
      show Go _ _ _ _ _ _ _ T3 (mkF m 45 #[.val (.int p0), .val (.int p1), .val (.int (0 : Int32)), .val (.int (0 : Int32)), .val (.ref w_ALWAYS), .unset, .unset, .unset] [])
      refine Go.st (fun _ k => XS.iloadN X3.here hx rfl (hb hby at_45) rfl k) ?_
      show Go _ _ _ _ _ _ _ T3 (mkF m 46 #[.val (.int p0), .val (.int p1), .val (.int (0 : Int32)), .val (.int (0 : Int32)), .val (.ref w_ALWAYS), .unset, .unset, .unset] [(.int (0 : Int32))])
      refine Go.st (fun _ k => XS.ifNo X3.here hx rfl (hb hby at_46) rfl ((if0 _ _).trans (teq (by decide : (0 : Int32) = (0 : Int32))).2) k) ?_
      show Go _ _ _ _ _ _ _ T3 (mkF m 49 #[.val (.int p0), .val (.int p1), .val (.int (0 : Int32)), .val (.int (0 : Int32)), .val (.ref w_ALWAYS), .unset, .unset, .unset] [])
      refine Go.st (fun _ k => XS.iconst X3.here hx rfl (hb hby at_49) k) ?_
      show Go _ _ _ _ _ _ _ T3 (mkF m 50 #[.val (.int p0), .val (.int p1), .val (.int (0 : Int32)), .val (.int (0 : Int32)), .val (.ref w_ALWAYS), .unset, .unset, .unset] [(.int (1 : Int32))])
      refine Go.st (fun _ k => XS.istore X3.here hx rfl (hb hby at_50) rfl (l' := #[.val (.int p0), .val (.int p1), .val (.int (0 : Int32)), .val (.int (0 : Int32)), .val (.ref w_ALWAYS), .val (.int (1 : Int32)), .unset, .unset]) rfl k) ?_
      show Go _ _ _ _ _ _ _ T3 (mkF m 52 #[.val (.int p0), .val (.int p1), .val (.int (0 : Int32)), .val (.int (0 : Int32)), .val (.ref w_ALWAYS), .val (.int (1 : Int32)), .unset, .unset] [])
      refine Go.st (fun _ k => XS.goto X3.here hx rfl (pc0 := 52) (pc' := 77) rfl (hb hby at_52) (by decide) (by decide) k) ?_
      show Go _ _ _ _ _ _ _ T3 (mkF m 77 #[.val (.int p0), .val (.int p1), .val (.int (0 : Int32)), .val (.int (0 : Int32)), .val (.ref w_ALWAYS), .val (.int (1 : Int32)), .unset, .unset] [])
      refine Go.st (fun _ k => XS.aload X3.here hx rfl (hb hby at_77) rfl rfl k) ?_
      show Go _ _ _ _ _ _ _ T3 (mkF m 79 #[.val (.int p0), .val (.int p1), .val (.int (0 : Int32)), .val (.int (0 : Int32)), .val (.ref w_ALWAYS), .val (.int (1 : Int32)), .unset, .unset] [(.ref w_ALWAYS)])
      refine Go.st (fun _ k => XS.iloadN X3.here hx rfl (hb hby at_79) rfl k) ?_
      show Go _ _ _ _ _ _ _ T3 (mkF m 80 #[.val (.int p0), .val (.int p1), .val (.int (0 : Int32)), .val (.int (0 : Int32)), .val (.ref w_ALWAYS), .val (.int (1 : Int32)), .unset, .unset] [(.int (0 : Int32)), (.ref w_ALWAYS)])
      obtain ⟨cq4, kq4, q4a, q4b, q4c⟩ := isOf hZ e3 E_ALWAYS
      obtain ⟨_, _, ⟨T4, L4, k4, n4⟩, -, X4, ⟨Lc4, hQ4, l4, y4, z4⟩, st4⟩ := X3.virtualBack hx (y := (⟨"com/example/gatefold/gatefold/Condition", "holdsFor", "(Z)Z"⟩ : MethodName)) (z := (⟨"com/example/gatefold/gatefold/Condition", "holdsFor", "(Z)Z"⟩ : MethodName)) hown (mvT hZ (hw _ (List.mem_of_getElem? (i := 4) rfl))) (mvT hZ (hw _ (List.mem_of_getElem? (i := 5) rfl))) (notFace_of_selects (args := #[]) (mvT hZ (hw _ (List.mem_of_getElem? (i := 7) rfl)))) (mvT hZ (hw _ (List.mem_of_getElem? (i := 7) rfl))) (mvT hZ (hw _ (List.mem_of_getElem? (i := 6) rfl))) (by decide) (backOf (W := 0) (rm1 l Z a0 hw [] w_ALWAYS (0 : Int32) (0 : Int32) h0 n0 Z0 E_ALWAYS F_ALWAYS_ordinal (Or.inl rfl)) hZ (hw _ (List.mem_of_getElem? (i := 8) rfl)) (hw _ (List.mem_of_getElem? (i := 2) rfl)) (by decide) (by decide)) q4a q4c (g := (mkF m 80 #[.val (.int p0), .val (.int p1), .val (.int (0 : Int32)), .val (.int (0 : Int32)), .val (.ref w_ALWAYS), .val (.int (1 : Int32)), .unset, .unset] [(.int (0 : Int32)), (.ref w_ALWAYS)])) rfl (by rw [hml]; rfl) (Steps.refl _) (argsL := [(.int (0 : Int32))]) (rest := []) (lenOf pd_1 rfl) rfl (by show 2 * 0 + _ ≤ _; exact Nat.le_of_eq rfl) (hb hby at_80) (fun _ _ => ⟨rfl, e3, (by decide : 0 + 0 ≤ _), (by decide : 0 + 0 ≤ _)⟩)
      dsimp only [Pt.U, Pt.locs, Pt.cells, Pt.slots] at X4 l4 y4 z4 st4 hQ4
      subst l4 y4 z4
      obtain ⟨rfl, N4q, e4⟩ := hQ4
      have N4 := Fr.app N0 N4q
      refine Go.st (fun _ k => st4.trans k) ?_
      show Go _ _ _ _ _ _ _ T4 (mkF m 83 #[.val (.int p0), .val (.int p1), .val (.int (0 : Int32)), .val (.int (0 : Int32)), .val (.ref w_ALWAYS), .val (.int (1 : Int32)), .unset, .unset] [(.int (val_1 w_ALWAYS (0 : Int32) (0 : Int32)))])
      rw [show (val_1 w_ALWAYS (0 : Int32) (0 : Int32)) = (1 : Int32) from by unfold val_1; rw [if_pos (by decide +kernel : (0 : Int32) = (0 : Int32))]]
      show Go _ _ _ _ _ _ _ T4 (mkF m 83 #[.val (.int p0), .val (.int p1), .val (.int (0 : Int32)), .val (.int (0 : Int32)), .val (.ref w_ALWAYS), .val (.int (1 : Int32)), .unset, .unset] [(.int (1 : Int32))])
      refine Go.st (fun _ k => XS.istore X4.here hx rfl (hb hby at_83) rfl (l' := #[.val (.int p0), .val (.int p1), .val (.int (0 : Int32)), .val (.int (0 : Int32)), .val (.ref w_ALWAYS), .val (.int (1 : Int32)), .val (.int (1 : Int32)), .unset]) rfl k) ?_
      show Go _ _ _ _ _ _ _ T4 (mkF m 85 #[.val (.int p0), .val (.int p1), .val (.int (0 : Int32)), .val (.int (0 : Int32)), .val (.ref w_ALWAYS), .val (.int (1 : Int32)), .val (.int (1 : Int32)), .unset] [])
      obtain ⟨T5, X5, e5, st5⟩ := getS2 X4 hx hZ hown (host := "") (Or.inl (hw _ (List.mem_of_getElem? (i := 18) rfl))) Via.refl e4 S_IF_EXTERNAL (g := (mkF m 85 #[.val (.int p0), .val (.int p1), .val (.int (0 : Int32)), .val (.int (0 : Int32)), .val (.ref w_ALWAYS), .val (.int (1 : Int32)), .val (.int (1 : Int32)), .unset] [])) rfl (hb hby at_85)
      refine Go.st st5 ?_
      show Go _ _ _ _ _ _ _ T5 (mkF m 88 #[.val (.int p0), .val (.int p1), .val (.int (0 : Int32)), .val (.int (0 : Int32)), .val (.ref w_ALWAYS), .val (.int (1 : Int32)), .val (.int (1 : Int32)), .unset] [(.ref w_IF_EXTERNAL)])
      refine Go.st (fun _ k => XS.iloadN X5.here hx rfl (hb hby at_88) rfl k) ?_
      show Go _ _ _ _ _ _ _ T5 (mkF m 89 #[.val (.int p0), .val (.int p1), .val (.int (0 : Int32)), .val (.int (0 : Int32)), .val (.ref w_ALWAYS), .val (.int (1 : Int32)), .val (.int (1 : Int32)), .unset] [(.int (0 : Int32)), (.ref w_IF_EXTERNAL)])
      obtain ⟨cq6, kq6, q6a, q6b, q6c⟩ := isOf hZ e5 E_IF_EXTERNAL
      obtain ⟨_, _, ⟨T6, L6, k6, n6⟩, -, X6, ⟨Lc6, hQ6, l6, y6, z6⟩, st6⟩ := X5.virtualBack hx (y := (⟨"com/example/gatefold/gatefold/Condition", "holdsFor", "(Z)Z"⟩ : MethodName)) (z := (⟨"com/example/gatefold/gatefold/Condition", "holdsFor", "(Z)Z"⟩ : MethodName)) hown (mvT hZ (hw _ (List.mem_of_getElem? (i := 4) rfl))) (mvT hZ (hw _ (List.mem_of_getElem? (i := 5) rfl))) (notFace_of_selects (args := #[]) (mvT hZ (hw _ (List.mem_of_getElem? (i := 7) rfl)))) (mvT hZ (hw _ (List.mem_of_getElem? (i := 7) rfl))) (mvT hZ (hw _ (List.mem_of_getElem? (i := 6) rfl))) (by decide) (backOf (W := 0) (rm1 l Z a0 hw [] w_IF_EXTERNAL (0 : Int32) (1 : Int32) h0 n0 Z0 E_IF_EXTERNAL F_IF_EXTERNAL_ordinal (Or.inr (Or.inl rfl))) hZ (hw _ (List.mem_of_getElem? (i := 8) rfl)) (hw _ (List.mem_of_getElem? (i := 2) rfl)) (by decide) (by decide)) q6a q6c (g := (mkF m 89 #[.val (.int p0), .val (.int p1), .val (.int (0 : Int32)), .val (.int (0 : Int32)), .val (.ref w_ALWAYS), .val (.int (1 : Int32)), .val (.int (1 : Int32)), .unset] [(.int (0 : Int32)), (.ref w_IF_EXTERNAL)])) rfl (by rw [hml]; rfl) (Steps.refl _) (argsL := [(.int (0 : Int32))]) (rest := []) (lenOf pd_1 rfl) rfl (by show 2 * 0 + _ ≤ _; exact Nat.le_of_eq rfl) (hb hby at_89) (fun _ _ => ⟨rfl, e5, (by decide : 0 + 0 ≤ _), (by decide : 0 + 0 ≤ _)⟩)
      dsimp only [Pt.U, Pt.locs, Pt.cells, Pt.slots] at X6 l6 y6 z6 st6 hQ6
      subst l6 y6 z6
      obtain ⟨rfl, N6q, e6⟩ := hQ6
      have N6 := Fr.app N4 N6q
      refine Go.st (fun _ k => st6.trans k) ?_
      show Go _ _ _ _ _ _ _ T6 (mkF m 92 #[.val (.int p0), .val (.int p1), .val (.int (0 : Int32)), .val (.int (0 : Int32)), .val (.ref w_ALWAYS), .val (.int (1 : Int32)), .val (.int (1 : Int32)), .unset] [(.int (val_1 w_IF_EXTERNAL (0 : Int32) (1 : Int32)))])
      rw [show (val_1 w_IF_EXTERNAL (0 : Int32) (1 : Int32)) = (0 : Int32) from by unfold val_1; rw [if_neg (by decide +kernel : ¬ ((1 : Int32) = (0 : Int32))), if_pos (by decide +kernel : (1 : Int32) = (1 : Int32))]; decide +kernel]
      show Go _ _ _ _ _ _ _ T6 (mkF m 92 #[.val (.int p0), .val (.int p1), .val (.int (0 : Int32)), .val (.int (0 : Int32)), .val (.ref w_ALWAYS), .val (.int (1 : Int32)), .val (.int (1 : Int32)), .unset] [(.int (0 : Int32))])
      obtain ⟨T7, X7, e7, st7⟩ := getS2 X6 hx hZ hown (host := "") (Or.inl (hw _ (List.mem_of_getElem? (i := 20) rfl))) Via.refl e6 S_IF_NOT_EXTERNAL (g := (mkF m 92 #[.val (.int p0), .val (.int p1), .val (.int (0 : Int32)), .val (.int (0 : Int32)), .val (.ref w_ALWAYS), .val (.int (1 : Int32)), .val (.int (1 : Int32)), .unset] [(.int (0 : Int32))])) rfl (hb hby at_92)
      refine Go.st st7 ?_
      show Go _ _ _ _ _ _ _ T7 (mkF m 95 #[.val (.int p0), .val (.int p1), .val (.int (0 : Int32)), .val (.int (0 : Int32)), .val (.ref w_ALWAYS), .val (.int (1 : Int32)), .val (.int (1 : Int32)), .unset] [(.ref w_IF_NOT_EXTERNAL), (.int (0 : Int32))])
      refine Go.st (fun _ k => XS.iloadN X7.here hx rfl (hb hby at_95) rfl k) ?_
      show Go _ _ _ _ _ _ _ T7 (mkF m 96 #[.val (.int p0), .val (.int p1), .val (.int (0 : Int32)), .val (.int (0 : Int32)), .val (.ref w_ALWAYS), .val (.int (1 : Int32)), .val (.int (1 : Int32)), .unset] [(.int (0 : Int32)), (.ref w_IF_NOT_EXTERNAL), (.int (0 : Int32))])
      obtain ⟨cq8, kq8, q8a, q8b, q8c⟩ := isOf hZ e7 E_IF_NOT_EXTERNAL
      obtain ⟨_, _, ⟨T8, L8, k8, n8⟩, -, X8, ⟨Lc8, hQ8, l8, y8, z8⟩, st8⟩ := X7.virtualBack hx (y := (⟨"com/example/gatefold/gatefold/Condition", "holdsFor", "(Z)Z"⟩ : MethodName)) (z := (⟨"com/example/gatefold/gatefold/Condition", "holdsFor", "(Z)Z"⟩ : MethodName)) hown (mvT hZ (hw _ (List.mem_of_getElem? (i := 4) rfl))) (mvT hZ (hw _ (List.mem_of_getElem? (i := 5) rfl))) (notFace_of_selects (args := #[]) (mvT hZ (hw _ (List.mem_of_getElem? (i := 7) rfl)))) (mvT hZ (hw _ (List.mem_of_getElem? (i := 7) rfl))) (mvT hZ (hw _ (List.mem_of_getElem? (i := 6) rfl))) (by decide) (backOf (W := 1) (rm1 l Z a0 hw [] w_IF_NOT_EXTERNAL (0 : Int32) (2 : Int32) h0 n0 Z0 E_IF_NOT_EXTERNAL F_IF_NOT_EXTERNAL_ordinal (Or.inr (Or.inr (rfl)))) hZ (hw _ (List.mem_of_getElem? (i := 8) rfl)) (hw _ (List.mem_of_getElem? (i := 2) rfl)) (by decide) (by decide)) q8a q8c (g := (mkF m 96 #[.val (.int p0), .val (.int p1), .val (.int (0 : Int32)), .val (.int (0 : Int32)), .val (.ref w_ALWAYS), .val (.int (1 : Int32)), .val (.int (1 : Int32)), .unset] [(.int (0 : Int32)), (.ref w_IF_NOT_EXTERNAL), (.int (0 : Int32))])) rfl (by rw [hml]; rfl) (Steps.refl _) (argsL := [(.int (0 : Int32))]) (rest := [(.int (0 : Int32))]) (lenOf pd_1 rfl) rfl (by show 2 * 0 + _ ≤ _; exact Nat.le_of_eq rfl) (hb hby at_96) (fun _ _ => ⟨rfl, e7, (by decide : 0 + 0 ≤ _), (by decide : 0 + 0 ≤ _)⟩)
      dsimp only [Pt.U, Pt.locs, Pt.cells, Pt.slots] at X8 l8 y8 z8 st8 hQ8
      subst l8 y8 z8
      obtain ⟨rfl, N8q, e8⟩ := hQ8
      have N8 := Fr.app N6 N8q
      refine Go.st (fun _ k => st8.trans k) ?_
      show Go _ _ _ _ _ _ _ T8 (mkF m 99 #[.val (.int p0), .val (.int p1), .val (.int (0 : Int32)), .val (.int (0 : Int32)), .val (.ref w_ALWAYS), .val (.int (1 : Int32)), .val (.int (1 : Int32)), .unset] [(.int (val_1 w_IF_NOT_EXTERNAL (0 : Int32) (2 : Int32))), (.int (0 : Int32))])
      rw [show (val_1 w_IF_NOT_EXTERNAL (0 : Int32) (2 : Int32)) = (1 : Int32) from by unfold val_1; rw [if_neg (by decide +kernel : ¬ ((2 : Int32) = (0 : Int32))), if_neg (by decide +kernel : ¬ ((2 : Int32) = (1 : Int32))), if_pos (by decide +kernel : (0 : Int32) = (0 : Int32))]]
      show Go _ _ _ _ _ _ _ T8 (mkF m 99 #[.val (.int p0), .val (.int p1), .val (.int (0 : Int32)), .val (.int (0 : Int32)), .val (.ref w_ALWAYS), .val (.int (1 : Int32)), .val (.int (1 : Int32)), .unset] [(.int (1 : Int32)), (.int (0 : Int32))])
      refine Go.st (fun _ k => XS.icmpNo X8.here hx rfl (hb hby at_99) rfl (feq (by decide : ¬ ((0 : Int32) = (1 : Int32)))).1 k) ?_
      show Go _ _ _ _ _ _ _ T8 (mkF m 102 #[.val (.int p0), .val (.int p1), .val (.int (0 : Int32)), .val (.int (0 : Int32)), .val (.ref w_ALWAYS), .val (.int (1 : Int32)), .val (.int (1 : Int32)), .unset] [])
      refine Go.st (fun _ k => XS.iconst X8.here hx rfl (hb hby at_102) k) ?_
      show Go _ _ _ _ _ _ _ T8 (mkF m 103 #[.val (.int p0), .val (.int p1), .val (.int (0 : Int32)), .val (.int (0 : Int32)), .val (.ref w_ALWAYS), .val (.int (1 : Int32)), .val (.int (1 : Int32)), .unset] [(.int (1 : Int32))])
      refine Go.st (fun _ k => XS.goto X8.here hx rfl (pc0 := 103) (pc' := 107) rfl (hb hby at_103) (by decide) (by decide) k) ?_
      show Go _ _ _ _ _ _ _ T8 (mkF m 107 #[.val (.int p0), .val (.int p1), .val (.int (0 : Int32)), .val (.int (0 : Int32)), .val (.ref w_ALWAYS), .val (.int (1 : Int32)), .val (.int (1 : Int32)), .unset] [(.int (1 : Int32))])
      refine Go.st (fun _ k => XS.istore X8.here hx rfl (hb hby at_107) rfl (l' := #[.val (.int p0), .val (.int p1), .val (.int (0 : Int32)), .val (.int (0 : Int32)), .val (.ref w_ALWAYS), .val (.int (1 : Int32)), .val (.int (1 : Int32)), .val (.int (1 : Int32))]) rfl k) ?_
      show Go _ _ _ _ _ _ _ T8 (mkF m 109 #[.val (.int p0), .val (.int p1), .val (.int (0 : Int32)), .val (.int (0 : Int32)), .val (.ref w_ALWAYS), .val (.int (1 : Int32)), .val (.int (1 : Int32)), .val (.int (1 : Int32))] [])
      refine Go.st (fun _ k => XS.iload X8.here hx rfl (hb hby at_109) rfl k) ?_
      show Go _ _ _ _ _ _ _ T8 (mkF m 111 #[.val (.int p0), .val (.int p1), .val (.int (0 : Int32)), .val (.int (0 : Int32)), .val (.ref w_ALWAYS), .val (.int (1 : Int32)), .val (.int (1 : Int32)), .val (.int (1 : Int32))] [(.int (1 : Int32))])
      refine Go.st (fun _ k => XS.iload X8.here hx rfl (hb hby at_111) rfl k) ?_
      show Go _ _ _ _ _ _ _ T8 (mkF m 113 #[.val (.int p0), .val (.int p1), .val (.int (0 : Int32)), .val (.int (0 : Int32)), .val (.ref w_ALWAYS), .val (.int (1 : Int32)), .val (.int (1 : Int32)), .val (.int (1 : Int32))] [(.int (1 : Int32)), (.int (1 : Int32))])
      refine Go.st (fun _ k => XS.icmpNo X8.here hx rfl (hb hby at_113) rfl (teq (by decide : (1 : Int32) = (1 : Int32))).2 k) ?_
      show Go _ _ _ _ _ _ _ T8 (mkF m 116 #[.val (.int p0), .val (.int p1), .val (.int (0 : Int32)), .val (.int (0 : Int32)), .val (.ref w_ALWAYS), .val (.int (1 : Int32)), .val (.int (1 : Int32)), .val (.int (1 : Int32))] [])
      refine Go.st (fun _ k => XS.iload X8.here hx rfl (hb hby at_116) rfl k) ?_
      show Go _ _ _ _ _ _ _ T8 (mkF m 118 #[.val (.int p0), .val (.int p1), .val (.int (0 : Int32)), .val (.int (0 : Int32)), .val (.ref w_ALWAYS), .val (.int (1 : Int32)), .val (.int (1 : Int32)), .val (.int (1 : Int32))] [(.int (1 : Int32))])
      refine Go.st (fun _ k => XS.ifNo X8.here hx rfl (hb hby at_118) rfl ((if0 _ _).trans (feq (by decide : ¬ ((1 : Int32) = (0 : Int32)))).1) k) ?_
      show Go _ _ _ _ _ _ _ T8 (mkF m 121 #[.val (.int p0), .val (.int p1), .val (.int (0 : Int32)), .val (.int (0 : Int32)), .val (.ref w_ALWAYS), .val (.int (1 : Int32)), .val (.int (1 : Int32)), .val (.int (1 : Int32))] [])
      refine Go.st (fun _ k => XS.iconst X8.here hx rfl (hb hby at_121) k) ?_
      show Go _ _ _ _ _ _ _ T8 (mkF m 122 #[.val (.int p0), .val (.int p1), .val (.int (0 : Int32)), .val (.int (0 : Int32)), .val (.ref w_ALWAYS), .val (.int (1 : Int32)), .val (.int (1 : Int32)), .val (.int (1 : Int32))] [(.int (1 : Int32))])
      refine Go.st (fun _ k => XS.goto X8.here hx rfl (pc0 := 122) (pc' := 126) rfl (hb hby at_122) (by decide) (by decide) k) ?_
      show Go _ _ _ _ _ _ _ T8 (mkF m 126 #[.val (.int p0), .val (.int p1), .val (.int (0 : Int32)), .val (.int (0 : Int32)), .val (.ref w_ALWAYS), .val (.int (1 : Int32)), .val (.int (1 : Int32)), .val (.int (1 : Int32))] [(.int (1 : Int32))])
      refine Go.ret X8 hlk (v := some (.int (1 : Int32))) (fun h => by rw [hret] at h; cases h) (fun fs hr => retN X8 hx (t := .boolean) hret (by simp) (hb hby at_126) hr) ?_ (by decide) (by decide)
      show Q0 Z p0 p1 w_ALWAYS w_IF_EXTERNAL w_IF_NOT_EXTERNAL h0 n0 (some (.int (1 : Int32))) T8.heap _
      rw [e8]
      exact ⟨rfl, N8⟩
    · rw [hk2]
      show Go _ _ _ _ _ _ _ s₁ (mkF m 10 #[.val (.int p0), .val (.int p1), .val (.int (0 : Int32)), .unset, .unset, .unset, .unset, .unset] [(.int (1 : Int32))])
      refine Go.st (fun _ k => XS.ifNo X0.here hx rfl (hb hby at_10) rfl ((if0 _ _).trans (feq (by decide : ¬ ((1 : Int32) = (0 : Int32)))).1) k) ?_
      show Go _ _ _ _ _ _ _ s₁ (mkF m 13 #[.val (.int p0), .val (.int p1), .val (.int (0 : Int32)), .unset, .unset, .unset, .unset, .unset] [])
      refine Go.st (fun _ k => XS.iconst X0.here hx rfl (hb hby at_13) k) ?_
      show Go _ _ _ _ _ _ _ s₁ (mkF m 14 #[.val (.int p0), .val (.int p1), .val (.int (0 : Int32)), .unset, .unset, .unset, .unset, .unset] [(.int (1 : Int32))])
      refine Go.st (fun _ k => XS.goto X0.here hx rfl (pc0 := 14) (pc' := 18) rfl (hb hby at_14) (by decide) (by decide) k) ?_
      show Go _ _ _ _ _ _ _ s₁ (mkF m 18 #[.val (.int p0), .val (.int p1), .val (.int (0 : Int32)), .unset, .unset, .unset, .unset, .unset] [(.int (1 : Int32))])
      refine Go.st (fun _ k => XS.istoreN X0.here hx rfl (hb hby at_18) rfl (l' := #[.val (.int p0), .val (.int p1), .val (.int (0 : Int32)), .val (.int (1 : Int32)), .unset, .unset, .unset, .unset]) rfl k) ?_
      show Go _ _ _ _ _ _ _ s₁ (mkF m 19 #[.val (.int p0), .val (.int p1), .val (.int (0 : Int32)), .val (.int (1 : Int32)), .unset, .unset, .unset, .unset] [])
      refine Go.st (fun _ k => XS.iloadN X0.here hx rfl (hb hby at_19) rfl k) ?_
      show Go _ _ _ _ _ _ _ s₁ (mkF m 20 #[.val (.int p0), .val (.int p1), .val (.int (0 : Int32)), .val (.int (1 : Int32)), .unset, .unset, .unset, .unset] [(.int (0 : Int32))])
      refine Go.st (fun _ k => XS.ifNo X0.here hx rfl (hb hby at_20) rfl ((if0 _ _).trans (teq (by decide : (0 : Int32) = (0 : Int32))).2) k) ?_
      show Go _ _ _ _ _ _ _ s₁ (mkF m 23 #[.val (.int p0), .val (.int p1), .val (.int (0 : Int32)), .val (.int (1 : Int32)), .unset, .unset, .unset, .unset] [])
      obtain ⟨T9, X9, e9, st9⟩ := getS2 X0 hx hZ hown (host := "") (Or.inl (hw _ (List.mem_of_getElem? (i := 1) rfl))) Via.refl e0 S_ALWAYS (g := (mkF m 23 #[.val (.int p0), .val (.int p1), .val (.int (0 : Int32)), .val (.int (1 : Int32)), .unset, .unset, .unset, .unset] [])) rfl (hb hby at_23)
      refine Go.st st9 ?_
      show Go _ _ _ _ _ _ _ T9 (mkF m 26 #[.val (.int p0), .val (.int p1), .val (.int (0 : Int32)), .val (.int (1 : Int32)), .unset, .unset, .unset, .unset] [(.ref w_ALWAYS)])
      refine Go.st (fun _ k => XS.goto X9.here hx rfl (pc0 := 26) (pc' := 43) rfl (hb hby at_26) (by decide) (by decide) k) ?_
      show Go _ _ _ _ _ _ _ T9 (mkF m 43 #[.val (.int p0), .val (.int p1), .val (.int (0 : Int32)), .val (.int (1 : Int32)), .unset, .unset, .unset, .unset] [(.ref w_ALWAYS)])
      refine Go.st (fun _ k => XS.astore X9.here hx rfl (hb hby at_43) rfl rfl (l' := #[.val (.int p0), .val (.int p1), .val (.int (0 : Int32)), .val (.int (1 : Int32)), .val (.ref w_ALWAYS), .unset, .unset, .unset]) rfl k) ?_
      show Go _ _ _ _ _ _ _ T9 (mkF m 45 #[.val (.int p0), .val (.int p1), .val (.int (0 : Int32)), .val (.int (1 : Int32)), .val (.ref w_ALWAYS), .unset, .unset, .unset] [])
      refine Go.st (fun _ k => XS.iloadN X9.here hx rfl (hb hby at_45) rfl k) ?_
      show Go _ _ _ _ _ _ _ T9 (mkF m 46 #[.val (.int p0), .val (.int p1), .val (.int (0 : Int32)), .val (.int (1 : Int32)), .val (.ref w_ALWAYS), .unset, .unset, .unset] [(.int (0 : Int32))])
      refine Go.st (fun _ k => XS.ifNo X9.here hx rfl (hb hby at_46) rfl ((if0 _ _).trans (teq (by decide : (0 : Int32) = (0 : Int32))).2) k) ?_
      show Go _ _ _ _ _ _ _ T9 (mkF m 49 #[.val (.int p0), .val (.int p1), .val (.int (0 : Int32)), .val (.int (1 : Int32)), .val (.ref w_ALWAYS), .unset, .unset, .unset] [])
      refine Go.st (fun _ k => XS.iconst X9.here hx rfl (hb hby at_49) k) ?_
      show Go _ _ _ _ _ _ _ T9 (mkF m 50 #[.val (.int p0), .val (.int p1), .val (.int (0 : Int32)), .val (.int (1 : Int32)), .val (.ref w_ALWAYS), .unset, .unset, .unset] [(.int (1 : Int32))])
      refine Go.st (fun _ k => XS.istore X9.here hx rfl (hb hby at_50) rfl (l' := #[.val (.int p0), .val (.int p1), .val (.int (0 : Int32)), .val (.int (1 : Int32)), .val (.ref w_ALWAYS), .val (.int (1 : Int32)), .unset, .unset]) rfl k) ?_
      show Go _ _ _ _ _ _ _ T9 (mkF m 52 #[.val (.int p0), .val (.int p1), .val (.int (0 : Int32)), .val (.int (1 : Int32)), .val (.ref w_ALWAYS), .val (.int (1 : Int32)), .unset, .unset] [])
      refine Go.st (fun _ k => XS.goto X9.here hx rfl (pc0 := 52) (pc' := 77) rfl (hb hby at_52) (by decide) (by decide) k) ?_
      show Go _ _ _ _ _ _ _ T9 (mkF m 77 #[.val (.int p0), .val (.int p1), .val (.int (0 : Int32)), .val (.int (1 : Int32)), .val (.ref w_ALWAYS), .val (.int (1 : Int32)), .unset, .unset] [])
      refine Go.st (fun _ k => XS.aload X9.here hx rfl (hb hby at_77) rfl rfl k) ?_
      show Go _ _ _ _ _ _ _ T9 (mkF m 79 #[.val (.int p0), .val (.int p1), .val (.int (0 : Int32)), .val (.int (1 : Int32)), .val (.ref w_ALWAYS), .val (.int (1 : Int32)), .unset, .unset] [(.ref w_ALWAYS)])
      refine Go.st (fun _ k => XS.iloadN X9.here hx rfl (hb hby at_79) rfl k) ?_
      show Go _ _ _ _ _ _ _ T9 (mkF m 80 #[.val (.int p0), .val (.int p1), .val (.int (0 : Int32)), .val (.int (1 : Int32)), .val (.ref w_ALWAYS), .val (.int (1 : Int32)), .unset, .unset] [(.int (1 : Int32)), (.ref w_ALWAYS)])
      obtain ⟨cq10, kq10, q10a, q10b, q10c⟩ := isOf hZ e9 E_ALWAYS
      obtain ⟨_, _, ⟨T10, L10, k10, n10⟩, -, X10, ⟨Lc10, hQ10, l10, y10, z10⟩, st10⟩ := X9.virtualBack hx (y := (⟨"com/example/gatefold/gatefold/Condition", "holdsFor", "(Z)Z"⟩ : MethodName)) (z := (⟨"com/example/gatefold/gatefold/Condition", "holdsFor", "(Z)Z"⟩ : MethodName)) hown (mvT hZ (hw _ (List.mem_of_getElem? (i := 4) rfl))) (mvT hZ (hw _ (List.mem_of_getElem? (i := 5) rfl))) (notFace_of_selects (args := #[]) (mvT hZ (hw _ (List.mem_of_getElem? (i := 7) rfl)))) (mvT hZ (hw _ (List.mem_of_getElem? (i := 7) rfl))) (mvT hZ (hw _ (List.mem_of_getElem? (i := 6) rfl))) (by decide) (backOf (W := 0) (rm1 l Z a0 hw [] w_ALWAYS (1 : Int32) (0 : Int32) h0 n0 Z0 E_ALWAYS F_ALWAYS_ordinal (Or.inl rfl)) hZ (hw _ (List.mem_of_getElem? (i := 8) rfl)) (hw _ (List.mem_of_getElem? (i := 2) rfl)) (by decide) (by decide)) q10a q10c (g := (mkF m 80 #[.val (.int p0), .val (.int p1), .val (.int (0 : Int32)), .val (.int (1 : Int32)), .val (.ref w_ALWAYS), .val (.int (1 : Int32)), .unset, .unset] [(.int (1 : Int32)), (.ref w_ALWAYS)])) rfl (by rw [hml]; rfl) (Steps.refl _) (argsL := [(.int (1 : Int32))]) (rest := []) (lenOf pd_1 rfl) rfl (by show 2 * 0 + _ ≤ _; exact Nat.le_of_eq rfl) (hb hby at_80) (fun _ _ => ⟨rfl, e9, (by decide : 0 + 0 ≤ _), (by decide : 0 + 0 ≤ _)⟩)
      dsimp only [Pt.U, Pt.locs, Pt.cells, Pt.slots] at X10 l10 y10 z10 st10 hQ10
      subst l10 y10 z10
      obtain ⟨rfl, N10q, e10⟩ := hQ10
      have N10 := Fr.app N0 N10q
      refine Go.st (fun _ k => st10.trans k) ?_
      show Go _ _ _ _ _ _ _ T10 (mkF m 83 #[.val (.int p0), .val (.int p1), .val (.int (0 : Int32)), .val (.int (1 : Int32)), .val (.ref w_ALWAYS), .val (.int (1 : Int32)), .unset, .unset] [(.int (val_1 w_ALWAYS (1 : Int32) (0 : Int32)))])
      rw [show (val_1 w_ALWAYS (1 : Int32) (0 : Int32)) = (1 : Int32) from by unfold val_1; rw [if_pos (by decide +kernel : (0 : Int32) = (0 : Int32))]]
      show Go _ _ _ _ _ _ _ T10 (mkF m 83 #[.val (.int p0), .val (.int p1), .val (.int (0 : Int32)), .val (.int (1 : Int32)), .val (.ref w_ALWAYS), .val (.int (1 : Int32)), .unset, .unset] [(.int (1 : Int32))])
      refine Go.st (fun _ k => XS.istore X10.here hx rfl (hb hby at_83) rfl (l' := #[.val (.int p0), .val (.int p1), .val (.int (0 : Int32)), .val (.int (1 : Int32)), .val (.ref w_ALWAYS), .val (.int (1 : Int32)), .val (.int (1 : Int32)), .unset]) rfl k) ?_
      show Go _ _ _ _ _ _ _ T10 (mkF m 85 #[.val (.int p0), .val (.int p1), .val (.int (0 : Int32)), .val (.int (1 : Int32)), .val (.ref w_ALWAYS), .val (.int (1 : Int32)), .val (.int (1 : Int32)), .unset] [])
      obtain ⟨T11, X11, e11, st11⟩ := getS2 X10 hx hZ hown (host := "") (Or.inl (hw _ (List.mem_of_getElem? (i := 18) rfl))) Via.refl e10 S_IF_EXTERNAL (g := (mkF m 85 #[.val (.int p0), .val (.int p1), .val (.int (0 : Int32)), .val (.int (1 : Int32)), .val (.ref w_ALWAYS), .val (.int (1 : Int32)), .val (.int (1 : Int32)), .unset] [])) rfl (hb hby at_85)
      refine Go.st st11 ?_
      show Go _ _ _ _ _ _ _ T11 (mkF m 88 #[.val (.int p0), .val (.int p1), .val (.int (0 : Int32)), .val (.int (1 : Int32)), .val (.ref w_ALWAYS), .val (.int (1 : Int32)), .val (.int (1 : Int32)), .unset] [(.ref w_IF_EXTERNAL)])
      refine Go.st (fun _ k => XS.iloadN X11.here hx rfl (hb hby at_88) rfl k) ?_
      show Go _ _ _ _ _ _ _ T11 (mkF m 89 #[.val (.int p0), .val (.int p1), .val (.int (0 : Int32)), .val (.int (1 : Int32)), .val (.ref w_ALWAYS), .val (.int (1 : Int32)), .val (.int (1 : Int32)), .unset] [(.int (1 : Int32)), (.ref w_IF_EXTERNAL)])
      obtain ⟨cq12, kq12, q12a, q12b, q12c⟩ := isOf hZ e11 E_IF_EXTERNAL
      obtain ⟨_, _, ⟨T12, L12, k12, n12⟩, -, X12, ⟨Lc12, hQ12, l12, y12, z12⟩, st12⟩ := X11.virtualBack hx (y := (⟨"com/example/gatefold/gatefold/Condition", "holdsFor", "(Z)Z"⟩ : MethodName)) (z := (⟨"com/example/gatefold/gatefold/Condition", "holdsFor", "(Z)Z"⟩ : MethodName)) hown (mvT hZ (hw _ (List.mem_of_getElem? (i := 4) rfl))) (mvT hZ (hw _ (List.mem_of_getElem? (i := 5) rfl))) (notFace_of_selects (args := #[]) (mvT hZ (hw _ (List.mem_of_getElem? (i := 7) rfl)))) (mvT hZ (hw _ (List.mem_of_getElem? (i := 7) rfl))) (mvT hZ (hw _ (List.mem_of_getElem? (i := 6) rfl))) (by decide) (backOf (W := 0) (rm1 l Z a0 hw [] w_IF_EXTERNAL (1 : Int32) (1 : Int32) h0 n0 Z0 E_IF_EXTERNAL F_IF_EXTERNAL_ordinal (Or.inr (Or.inl rfl))) hZ (hw _ (List.mem_of_getElem? (i := 8) rfl)) (hw _ (List.mem_of_getElem? (i := 2) rfl)) (by decide) (by decide)) q12a q12c (g := (mkF m 89 #[.val (.int p0), .val (.int p1), .val (.int (0 : Int32)), .val (.int (1 : Int32)), .val (.ref w_ALWAYS), .val (.int (1 : Int32)), .val (.int (1 : Int32)), .unset] [(.int (1 : Int32)), (.ref w_IF_EXTERNAL)])) rfl (by rw [hml]; rfl) (Steps.refl _) (argsL := [(.int (1 : Int32))]) (rest := []) (lenOf pd_1 rfl) rfl (by show 2 * 0 + _ ≤ _; exact Nat.le_of_eq rfl) (hb hby at_89) (fun _ _ => ⟨rfl, e11, (by decide : 0 + 0 ≤ _), (by decide : 0 + 0 ≤ _)⟩)
      dsimp only [Pt.U, Pt.locs, Pt.cells, Pt.slots] at X12 l12 y12 z12 st12 hQ12
      subst l12 y12 z12
      obtain ⟨rfl, N12q, e12⟩ := hQ12
      have N12 := Fr.app N10 N12q
      refine Go.st (fun _ k => st12.trans k) ?_
      show Go _ _ _ _ _ _ _ T12 (mkF m 92 #[.val (.int p0), .val (.int p1), .val (.int (0 : Int32)), .val (.int (1 : Int32)), .val (.ref w_ALWAYS), .val (.int (1 : Int32)), .val (.int (1 : Int32)), .unset] [(.int (val_1 w_IF_EXTERNAL (1 : Int32) (1 : Int32)))])
      rw [show (val_1 w_IF_EXTERNAL (1 : Int32) (1 : Int32)) = (1 : Int32) from by unfold val_1; rw [if_neg (by decide +kernel : ¬ ((1 : Int32) = (0 : Int32))), if_pos (by decide +kernel : (1 : Int32) = (1 : Int32))]; decide +kernel]
      show Go _ _ _ _ _ _ _ T12 (mkF m 92 #[.val (.int p0), .val (.int p1), .val (.int (0 : Int32)), .val (.int (1 : Int32)), .val (.ref w_ALWAYS), .val (.int (1 : Int32)), .val (.int (1 : Int32)), .unset] [(.int (1 : Int32))])
      obtain ⟨T13, X13, e13, st13⟩ := getS2 X12 hx hZ hown (host := "") (Or.inl (hw _ (List.mem_of_getElem? (i := 20) rfl))) Via.refl e12 S_IF_NOT_EXTERNAL (g := (mkF m 92 #[.val (.int p0), .val (.int p1), .val (.int (0 : Int32)), .val (.int (1 : Int32)), .val (.ref w_ALWAYS), .val (.int (1 : Int32)), .val (.int (1 : Int32)), .unset] [(.int (1 : Int32))])) rfl (hb hby at_92)
      refine Go.st st13 ?_
      show Go _ _ _ _ _ _ _ T13 (mkF m 95 #[.val (.int p0), .val (.int p1), .val (.int (0 : Int32)), .val (.int (1 : Int32)), .val (.ref w_ALWAYS), .val (.int (1 : Int32)), .val (.int (1 : Int32)), .unset] [(.ref w_IF_NOT_EXTERNAL), (.int (1 : Int32))])
      refine Go.st (fun _ k => XS.iloadN X13.here hx rfl (hb hby at_95) rfl k) ?_
      show Go _ _ _ _ _ _ _ T13 (mkF m 96 #[.val (.int p0), .val (.int p1), .val (.int (0 : Int32)), .val (.int (1 : Int32)), .val (.ref w_ALWAYS), .val (.int (1 : Int32)), .val (.int (1 : Int32)), .unset] [(.int (1 : Int32)), (.ref w_IF_NOT_EXTERNAL), (.int (1 : Int32))])
      obtain ⟨cq14, kq14, q14a, q14b, q14c⟩ := isOf hZ e13 E_IF_NOT_EXTERNAL
      obtain ⟨_, _, ⟨T14, L14, k14, n14⟩, -, X14, ⟨Lc14, hQ14, l14, y14, z14⟩, st14⟩ := X13.virtualBack hx (y := (⟨"com/example/gatefold/gatefold/Condition", "holdsFor", "(Z)Z"⟩ : MethodName)) (z := (⟨"com/example/gatefold/gatefold/Condition", "holdsFor", "(Z)Z"⟩ : MethodName)) hown (mvT hZ (hw _ (List.mem_of_getElem? (i := 4) rfl))) (mvT hZ (hw _ (List.mem_of_getElem? (i := 5) rfl))) (notFace_of_selects (args := #[]) (mvT hZ (hw _ (List.mem_of_getElem? (i := 7) rfl)))) (mvT hZ (hw _ (List.mem_of_getElem? (i := 7) rfl))) (mvT hZ (hw _ (List.mem_of_getElem? (i := 6) rfl))) (by decide) (backOf (W := 1) (rm1 l Z a0 hw [] w_IF_NOT_EXTERNAL (1 : Int32) (2 : Int32) h0 n0 Z0 E_IF_NOT_EXTERNAL F_IF_NOT_EXTERNAL_ordinal (Or.inr (Or.inr (rfl)))) hZ (hw _ (List.mem_of_getElem? (i := 8) rfl)) (hw _ (List.mem_of_getElem? (i := 2) rfl)) (by decide) (by decide)) q14a q14c (g := (mkF m 96 #[.val (.int p0), .val (.int p1), .val (.int (0 : Int32)), .val (.int (1 : Int32)), .val (.ref w_ALWAYS), .val (.int (1 : Int32)), .val (.int (1 : Int32)), .unset] [(.int (1 : Int32)), (.ref w_IF_NOT_EXTERNAL), (.int (1 : Int32))])) rfl (by rw [hml]; rfl) (Steps.refl _) (argsL := [(.int (1 : Int32))]) (rest := [(.int (1 : Int32))]) (lenOf pd_1 rfl) rfl (by show 2 * 0 + _ ≤ _; exact Nat.le_of_eq rfl) (hb hby at_96) (fun _ _ => ⟨rfl, e13, (by decide : 0 + 0 ≤ _), (by decide : 0 + 0 ≤ _)⟩)
      dsimp only [Pt.U, Pt.locs, Pt.cells, Pt.slots] at X14 l14 y14 z14 st14 hQ14
      subst l14 y14 z14
      obtain ⟨rfl, N14q, e14⟩ := hQ14
      have N14 := Fr.app N12 N14q
      refine Go.st (fun _ k => st14.trans k) ?_
      show Go _ _ _ _ _ _ _ T14 (mkF m 99 #[.val (.int p0), .val (.int p1), .val (.int (0 : Int32)), .val (.int (1 : Int32)), .val (.ref w_ALWAYS), .val (.int (1 : Int32)), .val (.int (1 : Int32)), .unset] [(.int (val_1 w_IF_NOT_EXTERNAL (1 : Int32) (2 : Int32))), (.int (1 : Int32))])
      rw [show (val_1 w_IF_NOT_EXTERNAL (1 : Int32) (2 : Int32)) = (0 : Int32) from by unfold val_1; rw [if_neg (by decide +kernel : ¬ ((2 : Int32) = (0 : Int32))), if_neg (by decide +kernel : ¬ ((2 : Int32) = (1 : Int32))), if_neg (by decide +kernel : ¬ ((1 : Int32) = (0 : Int32)))]]
      show Go _ _ _ _ _ _ _ T14 (mkF m 99 #[.val (.int p0), .val (.int p1), .val (.int (0 : Int32)), .val (.int (1 : Int32)), .val (.ref w_ALWAYS), .val (.int (1 : Int32)), .val (.int (1 : Int32)), .unset] [(.int (0 : Int32)), (.int (1 : Int32))])
      refine Go.st (fun _ k => XS.icmpNo X14.here hx rfl (hb hby at_99) rfl (feq (by decide : ¬ ((1 : Int32) = (0 : Int32)))).1 k) ?_
      show Go _ _ _ _ _ _ _ T14 (mkF m 102 #[.val (.int p0), .val (.int p1), .val (.int (0 : Int32)), .val (.int (1 : Int32)), .val (.ref w_ALWAYS), .val (.int (1 : Int32)), .val (.int (1 : Int32)), .unset] [])
      refine Go.st (fun _ k => XS.iconst X14.here hx rfl (hb hby at_102) k) ?_
      show Go _ _ _ _ _ _ _ T14 (mkF m 103 #[.val (.int p0), .val (.int p1), .val (.int (0 : Int32)), .val (.int (1 : Int32)), .val (.ref w_ALWAYS), .val (.int (1 : Int32)), .val (.int (1 : Int32)), .unset] [(.int (1 : Int32))])
      refine Go.st (fun _ k => XS.goto X14.here hx rfl (pc0 := 103) (pc' := 107) rfl (hb hby at_103) (by decide) (by decide) k) ?_
      show Go _ _ _ _ _ _ _ T14 (mkF m 107 #[.val (.int p0), .val (.int p1), .val (.int (0 : Int32)), .val (.int (1 : Int32)), .val (.ref w_ALWAYS), .val (.int (1 : Int32)), .val (.int (1 : Int32)), .unset] [(.int (1 : Int32))])
      refine Go.st (fun _ k => XS.istore X14.here hx rfl (hb hby at_107) rfl (l' := #[.val (.int p0), .val (.int p1), .val (.int (0 : Int32)), .val (.int (1 : Int32)), .val (.ref w_ALWAYS), .val (.int (1 : Int32)), .val (.int (1 : Int32)), .val (.int (1 : Int32))]) rfl k) ?_
      show Go _ _ _ _ _ _ _ T14 (mkF m 109 #[.val (.int p0), .val (.int p1), .val (.int (0 : Int32)), .val (.int (1 : Int32)), .val (.ref w_ALWAYS), .val (.int (1 : Int32)), .val (.int (1 : Int32)), .val (.int (1 : Int32))] [])
      refine Go.st (fun _ k => XS.iload X14.here hx rfl (hb hby at_109) rfl k) ?_
      show Go _ _ _ _ _ _ _ T14 (mkF m 111 #[.val (.int p0), .val (.int p1), .val (.int (0 : Int32)), .val (.int (1 : Int32)), .val (.ref w_ALWAYS), .val (.int (1 : Int32)), .val (.int (1 : Int32)), .val (.int (1 : Int32))] [(.int (1 : Int32))])
      refine Go.st (fun _ k => XS.iload X14.here hx rfl (hb hby at_111) rfl k) ?_
      show Go _ _ _ _ _ _ _ T14 (mkF m 113 #[.val (.int p0), .val (.int p1), .val (.int (0 : Int32)), .val (.int (1 : Int32)), .val (.ref w_ALWAYS), .val (.int (1 : Int32)), .val (.int (1 : Int32)), .val (.int (1 : Int32))] [(.int (1 : Int32)), (.int (1 : Int32))])
      refine Go.st (fun _ k => XS.icmpNo X14.here hx rfl (hb hby at_113) rfl (teq (by decide : (1 : Int32) = (1 : Int32))).2 k) ?_
      show Go _ _ _ _ _ _ _ T14 (mkF m 116 #[.val (.int p0), .val (.int p1), .val (.int (0 : Int32)), .val (.int (1 : Int32)), .val (.ref w_ALWAYS), .val (.int (1 : Int32)), .val (.int (1 : Int32)), .val (.int (1 : Int32))] [])
      refine Go.st (fun _ k => XS.iload X14.here hx rfl (hb hby at_116) rfl k) ?_
      show Go _ _ _ _ _ _ _ T14 (mkF m 118 #[.val (.int p0), .val (.int p1), .val (.int (0 : Int32)), .val (.int (1 : Int32)), .val (.ref w_ALWAYS), .val (.int (1 : Int32)), .val (.int (1 : Int32)), .val (.int (1 : Int32))] [(.int (1 : Int32))])
      refine Go.st (fun _ k => XS.ifNo X14.here hx rfl (hb hby at_118) rfl ((if0 _ _).trans (feq (by decide : ¬ ((1 : Int32) = (0 : Int32)))).1) k) ?_
      show Go _ _ _ _ _ _ _ T14 (mkF m 121 #[.val (.int p0), .val (.int p1), .val (.int (0 : Int32)), .val (.int (1 : Int32)), .val (.ref w_ALWAYS), .val (.int (1 : Int32)), .val (.int (1 : Int32)), .val (.int (1 : Int32))] [])
      refine Go.st (fun _ k => XS.iconst X14.here hx rfl (hb hby at_121) k) ?_
      show Go _ _ _ _ _ _ _ T14 (mkF m 122 #[.val (.int p0), .val (.int p1), .val (.int (0 : Int32)), .val (.int (1 : Int32)), .val (.ref w_ALWAYS), .val (.int (1 : Int32)), .val (.int (1 : Int32)), .val (.int (1 : Int32))] [(.int (1 : Int32))])
      refine Go.st (fun _ k => XS.goto X14.here hx rfl (pc0 := 122) (pc' := 126) rfl (hb hby at_122) (by decide) (by decide) k) ?_
      show Go _ _ _ _ _ _ _ T14 (mkF m 126 #[.val (.int p0), .val (.int p1), .val (.int (0 : Int32)), .val (.int (1 : Int32)), .val (.ref w_ALWAYS), .val (.int (1 : Int32)), .val (.int (1 : Int32)), .val (.int (1 : Int32))] [(.int (1 : Int32))])
      refine Go.ret X14 hlk (v := some (.int (1 : Int32))) (fun h => by rw [hret] at h; cases h) (fun fs hr => retN X14 hx (t := .boolean) hret (by simp) (hb hby at_126) hr) ?_ (by decide) (by decide)
      show Q0 Z p0 p1 w_ALWAYS w_IF_EXTERNAL w_IF_NOT_EXTERNAL h0 n0 (some (.int (1 : Int32))) T14.heap _
      rw [e14]
      exact ⟨rfl, N14⟩
  · rw [hk1]
    show Go _ _ _ _ _ _ _ s₁ (mkF m 6 #[.val (.int p0), .val (.int p1), .unset, .unset, .unset, .unset, .unset, .unset] [(.int (1 : Int32))])
    refine Go.st (fun _ k => XS.istoreN X0.here hx rfl (hb hby at_6) rfl (l' := #[.val (.int p0), .val (.int p1), .val (.int (1 : Int32)), .unset, .unset, .unset, .unset, .unset]) rfl k) ?_
    show Go _ _ _ _ _ _ _ s₁ (mkF m 7 #[.val (.int p0), .val (.int p1), .val (.int (1 : Int32)), .unset, .unset, .unset, .unset, .unset] [])
    refine Go.st (fun _ k => XS.iloadN X0.here hx rfl (hb hby at_7) rfl k) ?_
    show Go _ _ _ _ _ _ _ s₁ (mkF m 8 #[.val (.int p0), .val (.int p1), .val (.int (1 : Int32)), .unset, .unset, .unset, .unset, .unset] [(.int p1)])
    refine Go.st (fun _ k => XS.iconst X0.here hx rfl (hb hby at_8) k) ?_
    show Go _ _ _ _ _ _ _ s₁ (mkF m 9 #[.val (.int p0), .val (.int p1), .val (.int (1 : Int32)), .unset, .unset, .unset, .unset, .unset] [(.int (1 : Int32)), (.int p1)])
    refine Go.st (fun _ k => XS.iand X0.here hx rfl (hb hby at_9) rfl k) ?_
    show Go _ _ _ _ _ _ _ s₁ (mkF m 10 #[.val (.int p0), .val (.int p1), .val (.int (1 : Int32)), .unset, .unset, .unset, .unset, .unset] [(.int (p1 &&& (1 : Int32)))])
    rcases and_one p1 with hk15 | hk15
    · rw [hk15]
      show Go _ _ _ _ _ _ _ s₁ (mkF m 10 #[.val (.int p0), .val (.int p1), .val (.int (1 : Int32)), .unset, .unset, .unset, .unset, .unset] [(.int (0 : Int32))])
      refine Go.st (fun _ k => XS.ifYes X0.here hx rfl (pc0 := 10) (pc' := 17) rfl (hb hby at_10) rfl ((if0 _ _).trans (teq (by decide : (0 : Int32) = (0 : Int32))).1) (by decide) (by decide) k) ?_
      show Go _ _ _ _ _ _ _ s₁ (mkF m 17 #[.val (.int p0), .val (.int p1), .val (.int (1 : Int32)), .unset, .unset, .unset, .unset, .unset] [])
      refine Go.st (fun _ k => XS.iconst X0.here hx rfl (hb hby at_17) k) ?_
      show Go _ _ _ _ _ _ _ s₁ (mkF m 18 #[.val (.int p0), .val (.int p1), .val (.int (1 : Int32)), .unset, .unset, .unset, .unset, .unset] [(.int (0 : Int32))])
      refine Go.st (fun _ k => XS.istoreN X0.here hx rfl (hb hby at_18) rfl (l' := #[.val (.int p0), .val (.int p1), .val (.int (1 : Int32)), .val (.int (0 : Int32)), .unset, .unset, .unset, .unset]) rfl k) ?_
      show Go _ _ _ _ _ _ _ s₁ (mkF m 19 #[.val (.int p0), .val (.int p1), .val (.int (1 : Int32)), .val (.int (0 : Int32)), .unset, .unset, .unset, .unset] [])
      refine Go.st (fun _ k => XS.iloadN X0.here hx rfl (hb hby at_19) rfl k) ?_
      show Go _ _ _ _ _ _ _ s₁ (mkF m 20 #[.val (.int p0), .val (.int p1), .val (.int (1 : Int32)), .val (.int (0 : Int32)), .unset, .unset, .unset, .unset] [(.int (1 : Int32))])
      refine Go.st (fun _ k => XS.ifYes X0.here hx rfl (pc0 := 20) (pc' := 29) rfl (hb hby at_20) rfl ((if0 _ _).trans (feq (by decide : ¬ ((1 : Int32) = (0 : Int32)))).2) (by decide) (by decide) k) ?_
      show Go _ _ _ _ _ _ _ s₁ (mkF m 29 #[.val (.int p0), .val (.int p1), .val (.int (1 : Int32)), .val (.int (0 : Int32)), .unset, .unset, .unset, .unset] [])
      refine Go.st (fun _ k => XS.iloadN X0.here hx rfl (hb hby at_29) rfl k) ?_
      show Go _ _ _ _ _ _ _ s₁ (mkF m 30 #[.val (.int p0), .val (.int p1), .val (.int (1 : Int32)), .val (.int (0 : Int32)), .unset, .unset, .unset, .unset] [(.int (1 : Int32))])
      refine Go.st (fun _ k => XS.iconst X0.here hx rfl (hb hby at_30) k) ?_
      show Go _ _ _ _ _ _ _ s₁ (mkF m 31 #[.val (.int p0), .val (.int p1), .val (.int (1 : Int32)), .val (.int (0 : Int32)), .unset, .unset, .unset, .unset] [(.int (1 : Int32)), (.int (1 : Int32))])
      refine Go.st (fun _ k => XS.icmpNo X0.here hx rfl (hb hby at_31) rfl (teq (by decide : (1 : Int32) = (1 : Int32))).2 k) ?_
      show Go _ _ _ _ _ _ _ s₁ (mkF m 34 #[.val (.int p0), .val (.int p1), .val (.int (1 : Int32)), .val (.int (0 : Int32)), .unset, .unset, .unset, .unset] [])
      obtain ⟨T16, X16, e16, st16⟩ := getS2 X0 hx hZ hown (host := "") (Or.inl (hw _ (List.mem_of_getElem? (i := 18) rfl))) Via.refl e0 S_IF_EXTERNAL (g := (mkF m 34 #[.val (.int p0), .val (.int p1), .val (.int (1 : Int32)), .val (.int (0 : Int32)), .unset, .unset, .unset, .unset] [])) rfl (hb hby at_34)
      refine Go.st st16 ?_
      show Go _ _ _ _ _ _ _ T16 (mkF m 37 #[.val (.int p0), .val (.int p1), .val (.int (1 : Int32)), .val (.int (0 : Int32)), .unset, .unset, .unset, .unset] [(.ref w_IF_EXTERNAL)])
      refine Go.st (fun _ k => XS.goto X16.here hx rfl (pc0 := 37) (pc' := 43) rfl (hb hby at_37) (by decide) (by decide) k) ?_
      show Go _ _ _ _ _ _ _ T16 (mkF m 43 #[.val (.int p0), .val (.int p1), .val (.int (1 : Int32)), .val (.int (0 : Int32)), .unset, .unset, .unset, .unset] [(.ref w_IF_EXTERNAL)])
      refine Go.st (fun _ k => XS.astore X16.here hx rfl (hb hby at_43) rfl rfl (l' := #[.val (.int p0), .val (.int p1), .val (.int (1 : Int32)), .val (.int (0 : Int32)), .val (.ref w_IF_EXTERNAL), .unset, .unset, .unset]) rfl k) ?_
      show Go _ _ _ _ _ _ _ T16 (mkF m 45 #[.val (.int p0), .val (.int p1), .val (.int (1 : Int32)), .val (.int (0 : Int32)), .val (.ref w_IF_EXTERNAL), .unset, .unset, .unset] [])
      refine Go.st (fun _ k => XS.iloadN X16.here hx rfl (hb hby at_45) rfl k) ?_
      show Go _ _ _ _ _ _ _ T16 (mkF m 46 #[.val (.int p0), .val (.int p1), .val (.int (1 : Int32)), .val (.int (0 : Int32)), .val (.ref w_IF_EXTERNAL), .unset, .unset, .unset] [(.int (1 : Int32))])
      refine Go.st (fun _ k => XS.ifYes X16.here hx rfl (pc0 := 46) (pc' := 55) rfl (hb hby at_46) rfl ((if0 _ _).trans (feq (by decide : ¬ ((1 : Int32) = (0 : Int32)))).2) (by decide) (by decide) k) ?_
      show Go _ _ _ _ _ _ _ T16 (mkF m 55 #[.val (.int p0), .val (.int p1), .val (.int (1 : Int32)), .val (.int (0 : Int32)), .val (.ref w_IF_EXTERNAL), .unset, .unset, .unset] [])
      refine Go.st (fun _ k => XS.iloadN X16.here hx rfl (hb hby at_55) rfl k) ?_
      show Go _ _ _ _ _ _ _ T16 (mkF m 56 #[.val (.int p0), .val (.int p1), .val (.int (1 : Int32)), .val (.int (0 : Int32)), .val (.ref w_IF_EXTERNAL), .unset, .unset, .unset] [(.int (1 : Int32))])
      refine Go.st (fun _ k => XS.iconst X16.here hx rfl (hb hby at_56) k) ?_
      show Go _ _ _ _ _ _ _ T16 (mkF m 57 #[.val (.int p0), .val (.int p1), .val (.int (1 : Int32)), .val (.int (0 : Int32)), .val (.ref w_IF_EXTERNAL), .unset, .unset, .unset] [(.int (1 : Int32)), (.int (1 : Int32))])
      refine Go.st (fun _ k => XS.icmpNo X16.here hx rfl (hb hby at_57) rfl (teq (by decide : (1 : Int32) = (1 : Int32))).2 k) ?_
      show Go _ _ _ _ _ _ _ T16 (mkF m 60 #[.val (.int p0), .val (.int p1), .val (.int (1 : Int32)), .val (.int (0 : Int32)), .val (.ref w_IF_EXTERNAL), .unset, .unset, .unset] [])
      refine Go.st (fun _ k => XS.iloadN X16.here hx rfl (hb hby at_60) rfl k) ?_
      show Go _ _ _ _ _ _ _ T16 (mkF m 61 #[.val (.int p0), .val (.int p1), .val (.int (1 : Int32)), .val (.int (0 : Int32)), .val (.ref w_IF_EXTERNAL), .unset, .unset, .unset] [(.int (0 : Int32))])
      refine Go.st (fun _ k => XS.istore X16.here hx rfl (hb hby at_61) rfl (l' := #[.val (.int p0), .val (.int p1), .val (.int (1 : Int32)), .val (.int (0 : Int32)), .val (.ref w_IF_EXTERNAL), .val (.int (0 : Int32)), .unset, .unset]) rfl k) ?_
      show Go _ _ _ _ _ _ _ T16 (mkF m 63 #[.val (.int p0), .val (.int p1), .val (.int (1 : Int32)), .val (.int (0 : Int32)), .val (.ref w_IF_EXTERNAL), .val (.int (0 : Int32)), .unset, .unset] [])
      refine Go.st (fun _ k => XS.goto X16.here hx rfl (pc0 := 63) (pc' := 77) rfl (hb hby at_63) (by decide) (by decide) k) ?_
      show Go _ _ _ _ _ _ _ T16 (mkF m 77 #[.val (.int p0), .val (.int p1), .val (.int (1 : Int32)), .val (.int (0 : Int32)), .val (.ref w_IF_EXTERNAL), .val (.int (0 : Int32)), .unset, .unset] [])
      refine Go.st (fun _ k => XS.aload X16.here hx rfl (hb hby at_77) rfl rfl k) ?_
      show Go _ _ _ _ _ _ _ T16 (mkF m 79 #[.val (.int p0), .val (.int p1), .val (.int (1 : Int32)), .val (.int (0 : Int32)), .val (.ref w_IF_EXTERNAL), .val (.int (0 : Int32)), .unset, .unset] [(.ref w_IF_EXTERNAL)])
      refine Go.st (fun _ k => XS.iloadN X16.here hx rfl (hb hby at_79) rfl k) ?_
      show Go _ _ _ _ _ _ _ T16 (mkF m 80 #[.val (.int p0), .val (.int p1), .val (.int (1 : Int32)), .val (.int (0 : Int32)), .val (.ref w_IF_EXTERNAL), .val (.int (0 : Int32)), .unset, .unset] [(.int (0 : Int32)), (.ref w_IF_EXTERNAL)])
      obtain ⟨cq17, kq17, q17a, q17b, q17c⟩ := isOf hZ e16 E_IF_EXTERNAL
      obtain ⟨_, _, ⟨T17, L17, k17, n17⟩, -, X17, ⟨Lc17, hQ17, l17, y17, z17⟩, st17⟩ := X16.virtualBack hx (y := (⟨"com/example/gatefold/gatefold/Condition", "holdsFor", "(Z)Z"⟩ : MethodName)) (z := (⟨"com/example/gatefold/gatefold/Condition", "holdsFor", "(Z)Z"⟩ : MethodName)) hown (mvT hZ (hw _ (List.mem_of_getElem? (i := 4) rfl))) (mvT hZ (hw _ (List.mem_of_getElem? (i := 5) rfl))) (notFace_of_selects (args := #[]) (mvT hZ (hw _ (List.mem_of_getElem? (i := 7) rfl)))) (mvT hZ (hw _ (List.mem_of_getElem? (i := 7) rfl))) (mvT hZ (hw _ (List.mem_of_getElem? (i := 6) rfl))) (by decide) (backOf (W := 0) (rm1 l Z a0 hw [] w_IF_EXTERNAL (0 : Int32) (1 : Int32) h0 n0 Z0 E_IF_EXTERNAL F_IF_EXTERNAL_ordinal (Or.inr (Or.inl rfl))) hZ (hw _ (List.mem_of_getElem? (i := 8) rfl)) (hw _ (List.mem_of_getElem? (i := 2) rfl)) (by decide) (by decide)) q17a q17c (g := (mkF m 80 #[.val (.int p0), .val (.int p1), .val (.int (1 : Int32)), .val (.int (0 : Int32)), .val (.ref w_IF_EXTERNAL), .val (.int (0 : Int32)), .unset, .unset] [(.int (0 : Int32)), (.ref w_IF_EXTERNAL)])) rfl (by rw [hml]; rfl) (Steps.refl _) (argsL := [(.int (0 : Int32))]) (rest := []) (lenOf pd_1 rfl) rfl (by show 2 * 0 + _ ≤ _; exact Nat.le_of_eq rfl) (hb hby at_80) (fun _ _ => ⟨rfl, e16, (by decide : 0 + 0 ≤ _), (by decide : 0 + 0 ≤ _)⟩)
      dsimp only [Pt.U, Pt.locs, Pt.cells, Pt.slots] at X17 l17 y17 z17 st17 hQ17
      subst l17 y17 z17
      obtain ⟨rfl, N17q, e17⟩ := hQ17
      have N17 := Fr.app N0 N17q
      refine Go.st (fun _ k => st17.trans k) ?_
      show Go _ _ _ _ _ _ _ T17 (mkF m 83 #[.val (.int p0), .val (.int p1), .val (.int (1 : Int32)), .val (.int (0 : Int32)), .val (.ref w_IF_EXTERNAL), .val (.int (0 : Int32)), .unset, .unset] [(.int (val_1 w_IF_EXTERNAL (0 : Int32) (1 : Int32)))])
      rw [show (val_1 w_IF_EXTERNAL (0 : Int32) (1 : Int32)) = (0 : Int32) from by unfold val_1; rw [if_neg (by decide +kernel : ¬ ((1 : Int32) = (0 : Int32))), if_pos (by decide +kernel : (1 : Int32) = (1 : Int32))]; decide +kernel]
      show Go _ _ _ _ _ _ _ T17 (mkF m 83 #[.val (.int p0), .val (.int p1), .val (.int (1 : Int32)), .val (.int (0 : Int32)), .val (.ref w_IF_EXTERNAL), .val (.int (0 : Int32)), .unset, .unset] [(.int (0 : Int32))])
      refine Go.st (fun _ k => XS.istore X17.here hx rfl (hb hby at_83) rfl (l' := #[.val (.int p0), .val (.int p1), .val (.int (1 : Int32)), .val (.int (0 : Int32)), .val (.ref w_IF_EXTERNAL), .val (.int (0 : Int32)), .val (.int (0 : Int32)), .unset]) rfl k) ?_
      show Go _ _ _ _ _ _ _ T17 (mkF m 85 #[.val (.int p0), .val (.int p1), .val (.int (1 : Int32)), .val (.int (0 : Int32)), .val (.ref w_IF_EXTERNAL), .val (.int (0 : Int32)), .val (.int (0 : Int32)), .unset] [])
      obtain ⟨T18, X18, e18, st18⟩ := getS2 X17 hx hZ hown (host := "") (Or.inl (hw _ (List.mem_of_getElem? (i := 18) rfl))) Via.refl e17 S_IF_EXTERNAL (g := (mkF m 85 #[.val (.int p0), .val (.int p1), .val (.int (1 : Int32)), .val (.int (0 : Int32)), .val (.ref w_IF_EXTERNAL), .val (.int (0 : Int32)), .val (.int (0 : Int32)), .unset] [])) rfl (hb hby at_85)
      refine Go.st st18 ?_
      show Go _ _ _ _ _ _ _ T18 (mkF m 88 #[.val (.int p0), .val (.int p1), .val (.int (1 : Int32)), .val (.int (0 : Int32)), .val (.ref w_IF_EXTERNAL), .val (.int (0 : Int32)), .val (.int (0 : Int32)), .unset] [(.ref w_IF_EXTERNAL)])
      refine Go.st (fun _ k => XS.iloadN X18.here hx rfl (hb hby at_88) rfl k) ?_
      show Go _ _ _ _ _ _ _ T18 (mkF m 89 #[.val (.int p0), .val (.int p1), .val (.int (1 : Int32)), .val (.int (0 : Int32)), .val (.ref w_IF_EXTERNAL), .val (.int (0 : Int32)), .val (.int (0 : Int32)), .unset] [(.int (0 : Int32)), (.ref w_IF_EXTERNAL)])
      obtain ⟨cq19, kq19, q19a, q19b, q19c⟩ := isOf hZ e18 E_IF_EXTERNAL
      obtain ⟨_, _, ⟨T19, L19, k19, n19⟩, -, X19, ⟨Lc19, hQ19, l19, y19, z19⟩, st19⟩ := X18.virtualBack hx (y := (⟨"com/example/gatefold/gatefold/Condition", "holdsFor", "(Z)Z"⟩ : MethodName)) (z := (⟨"com/example/gatefold/gatefold/Condition", "holdsFor", "(Z)Z"⟩ : MethodName)) hown (mvT hZ (hw _ (List.mem_of_getElem? (i := 4) rfl))) (mvT hZ (hw _ (List.mem_of_getElem? (i := 5) rfl))) (notFace_of_selects (args := #[]) (mvT hZ (hw _ (List.mem_of_getElem? (i := 7) rfl)))) (mvT hZ (hw _ (List.mem_of_getElem? (i := 7) rfl))) (mvT hZ (hw _ (List.mem_of_getElem? (i := 6) rfl))) (by decide) (backOf (W := 0) (rm1 l Z a0 hw [] w_IF_EXTERNAL (0 : Int32) (1 : Int32) h0 n0 Z0 E_IF_EXTERNAL F_IF_EXTERNAL_ordinal (Or.inr (Or.inl rfl))) hZ (hw _ (List.mem_of_getElem? (i := 8) rfl)) (hw _ (List.mem_of_getElem? (i := 2) rfl)) (by decide) (by decide)) q19a q19c (g := (mkF m 89 #[.val (.int p0), .val (.int p1), .val (.int (1 : Int32)), .val (.int (0 : Int32)), .val (.ref w_IF_EXTERNAL), .val (.int (0 : Int32)), .val (.int (0 : Int32)), .unset] [(.int (0 : Int32)), (.ref w_IF_EXTERNAL)])) rfl (by rw [hml]; rfl) (Steps.refl _) (argsL := [(.int (0 : Int32))]) (rest := []) (lenOf pd_1 rfl) rfl (by show 2 * 0 + _ ≤ _; exact Nat.le_of_eq rfl) (hb hby at_89) (fun _ _ => ⟨rfl, e18, (by decide : 0 + 0 ≤ _), (by decide : 0 + 0 ≤ _)⟩)
      dsimp only [Pt.U, Pt.locs, Pt.cells, Pt.slots] at X19 l19 y19 z19 st19 hQ19
      subst l19 y19 z19
      obtain ⟨rfl, N19q, e19⟩ := hQ19
      have N19 := Fr.app N17 N19q
      refine Go.st (fun _ k => st19.trans k) ?_
      show Go _ _ _ _ _ _ _ T19 (mkF m 92 #[.val (.int p0), .val (.int p1), .val (.int (1 : Int32)), .val (.int (0 : Int32)), .val (.ref w_IF_EXTERNAL), .val (.int (0 : Int32)), .val (.int (0 : Int32)), .unset] [(.int (val_1 w_IF_EXTERNAL (0 : Int32) (1 : Int32)))])
      rw [show (val_1 w_IF_EXTERNAL (0 : Int32) (1 : Int32)) = (0 : Int32) from by unfold val_1; rw [if_neg (by decide +kernel : ¬ ((1 : Int32) = (0 : Int32))), if_pos (by decide +kernel : (1 : Int32) = (1 : Int32))]; decide +kernel]
      show Go _ _ _ _ _ _ _ T19 (mkF m 92 #[.val (.int p0), .val (.int p1), .val (.int (1 : Int32)), .val (.int (0 : Int32)), .val (.ref w_IF_EXTERNAL), .val (.int (0 : Int32)), .val (.int (0 : Int32)), .unset] [(.int (0 : Int32))])
      obtain ⟨T20, X20, e20, st20⟩ := getS2 X19 hx hZ hown (host := "") (Or.inl (hw _ (List.mem_of_getElem? (i := 20) rfl))) Via.refl e19 S_IF_NOT_EXTERNAL (g := (mkF m 92 #[.val (.int p0), .val (.int p1), .val (.int (1 : Int32)), .val (.int (0 : Int32)), .val (.ref w_IF_EXTERNAL), .val (.int (0 : Int32)), .val (.int (0 : Int32)), .unset] [(.int (0 : Int32))])) rfl (hb hby at_92)
      refine Go.st st20 ?_
      show Go _ _ _ _ _ _ _ T20 (mkF m 95 #[.val (.int p0), .val (.int p1), .val (.int (1 : Int32)), .val (.int (0 : Int32)), .val (.ref w_IF_EXTERNAL), .val (.int (0 : Int32)), .val (.int (0 : Int32)), .unset] [(.ref w_IF_NOT_EXTERNAL), (.int (0 : Int32))])
      refine Go.st (fun _ k => XS.iloadN X20.here hx rfl (hb hby at_95) rfl k) ?_
      show Go _ _ _ _ _ _ _ T20 (mkF m 96 #[.val (.int p0), .val (.int p1), .val (.int (1 : Int32)), .val (.int (0 : Int32)), .val (.ref w_IF_EXTERNAL), .val (.int (0 : Int32)), .val (.int (0 : Int32)), .unset] [(.int (0 : Int32)), (.ref w_IF_NOT_EXTERNAL), (.int (0 : Int32))])
      obtain ⟨cq21, kq21, q21a, q21b, q21c⟩ := isOf hZ e20 E_IF_NOT_EXTERNAL
      obtain ⟨_, _, ⟨T21, L21, k21, n21⟩, -, X21, ⟨Lc21, hQ21, l21, y21, z21⟩, st21⟩ := X20.virtualBack hx (y := (⟨"com/example/gatefold/gatefold/Condition", "holdsFor", "(Z)Z"⟩ : MethodName)) (z := (⟨"com/example/gatefold/gatefold/Condition", "holdsFor", "(Z)Z"⟩ : MethodName)) hown (mvT hZ (hw _ (List.mem_of_getElem? (i := 4) rfl))) (mvT hZ (hw _ (List.mem_of_getElem? (i := 5) rfl))) (notFace_of_selects (args := #[]) (mvT hZ (hw _ (List.mem_of_getElem? (i := 7) rfl)))) (mvT hZ (hw _ (List.mem_of_getElem? (i := 7) rfl))) (mvT hZ (hw _ (List.mem_of_getElem? (i := 6) rfl))) (by decide) (backOf (W := 1) (rm1 l Z a0 hw [] w_IF_NOT_EXTERNAL (0 : Int32) (2 : Int32) h0 n0 Z0 E_IF_NOT_EXTERNAL F_IF_NOT_EXTERNAL_ordinal (Or.inr (Or.inr (rfl)))) hZ (hw _ (List.mem_of_getElem? (i := 8) rfl)) (hw _ (List.mem_of_getElem? (i := 2) rfl)) (by decide) (by decide)) q21a q21c (g := (mkF m 96 #[.val (.int p0), .val (.int p1), .val (.int (1 : Int32)), .val (.int (0 : Int32)), .val (.ref w_IF_EXTERNAL), .val (.int (0 : Int32)), .val (.int (0 : Int32)), .unset] [(.int (0 : Int32)), (.ref w_IF_NOT_EXTERNAL), (.int (0 : Int32))])) rfl (by rw [hml]; rfl) (Steps.refl _) (argsL := [(.int (0 : Int32))]) (rest := [(.int (0 : Int32))]) (lenOf pd_1 rfl) rfl (by show 2 * 0 + _ ≤ _; exact Nat.le_of_eq rfl) (hb hby at_96) (fun _ _ => ⟨rfl, e20, (by decide : 0 + 0 ≤ _), (by decide : 0 + 0 ≤ _)⟩)
      dsimp only [Pt.U, Pt.locs, Pt.cells, Pt.slots] at X21 l21 y21 z21 st21 hQ21
      subst l21 y21 z21
      obtain ⟨rfl, N21q, e21⟩ := hQ21
      have N21 := Fr.app N19 N21q
      refine Go.st (fun _ k => st21.trans k) ?_
      show Go _ _ _ _ _ _ _ T21 (mkF m 99 #[.val (.int p0), .val (.int p1), .val (.int (1 : Int32)), .val (.int (0 : Int32)), .val (.ref w_IF_EXTERNAL), .val (.int (0 : Int32)), .val (.int (0 : Int32)), .unset] [(.int (val_1 w_IF_NOT_EXTERNAL (0 : Int32) (2 : Int32))), (.int (0 : Int32))])
      rw [show (val_1 w_IF_NOT_EXTERNAL (0 : Int32) (2 : Int32)) = (1 : Int32) from by unfold val_1; rw [if_neg (by decide +kernel : ¬ ((2 : Int32) = (0 : Int32))), if_neg (by decide +kernel : ¬ ((2 : Int32) = (1 : Int32))), if_pos (by decide +kernel : (0 : Int32) = (0 : Int32))]]
      show Go _ _ _ _ _ _ _ T21 (mkF m 99 #[.val (.int p0), .val (.int p1), .val (.int (1 : Int32)), .val (.int (0 : Int32)), .val (.ref w_IF_EXTERNAL), .val (.int (0 : Int32)), .val (.int (0 : Int32)), .unset] [(.int (1 : Int32)), (.int (0 : Int32))])
      refine Go.st (fun _ k => XS.icmpNo X21.here hx rfl (hb hby at_99) rfl (feq (by decide : ¬ ((0 : Int32) = (1 : Int32)))).1 k) ?_
      show Go _ _ _ _ _ _ _ T21 (mkF m 102 #[.val (.int p0), .val (.int p1), .val (.int (1 : Int32)), .val (.int (0 : Int32)), .val (.ref w_IF_EXTERNAL), .val (.int (0 : Int32)), .val (.int (0 : Int32)), .unset] [])
      refine Go.st (fun _ k => XS.iconst X21.here hx rfl (hb hby at_102) k) ?_
      show Go _ _ _ _ _ _ _ T21 (mkF m 103 #[.val (.int p0), .val (.int p1), .val (.int (1 : Int32)), .val (.int (0 : Int32)), .val (.ref w_IF_EXTERNAL), .val (.int (0 : Int32)), .val (.int (0 : Int32)), .unset] [(.int (1 : Int32))])
      refine Go.st (fun _ k => XS.goto X21.here hx rfl (pc0 := 103) (pc' := 107) rfl (hb hby at_103) (by decide) (by decide) k) ?_
      show Go _ _ _ _ _ _ _ T21 (mkF m 107 #[.val (.int p0), .val (.int p1), .val (.int (1 : Int32)), .val (.int (0 : Int32)), .val (.ref w_IF_EXTERNAL), .val (.int (0 : Int32)), .val (.int (0 : Int32)), .unset] [(.int (1 : Int32))])
      refine Go.st (fun _ k => XS.istore X21.here hx rfl (hb hby at_107) rfl (l' := #[.val (.int p0), .val (.int p1), .val (.int (1 : Int32)), .val (.int (0 : Int32)), .val (.ref w_IF_EXTERNAL), .val (.int (0 : Int32)), .val (.int (0 : Int32)), .val (.int (1 : Int32))]) rfl k) ?_
      show Go _ _ _ _ _ _ _ T21 (mkF m 109 #[.val (.int p0), .val (.int p1), .val (.int (1 : Int32)), .val (.int (0 : Int32)), .val (.ref w_IF_EXTERNAL), .val (.int (0 : Int32)), .val (.int (0 : Int32)), .val (.int (1 : Int32))] [])
      refine Go.st (fun _ k => XS.iload X21.here hx rfl (hb hby at_109) rfl k) ?_
      show Go _ _ _ _ _ _ _ T21 (mkF m 111 #[.val (.int p0), .val (.int p1), .val (.int (1 : Int32)), .val (.int (0 : Int32)), .val (.ref w_IF_EXTERNAL), .val (.int (0 : Int32)), .val (.int (0 : Int32)), .val (.int (1 : Int32))] [(.int (0 : Int32))])
      refine Go.st (fun _ k => XS.iload X21.here hx rfl (hb hby at_111) rfl k) ?_
      show Go _ _ _ _ _ _ _ T21 (mkF m 113 #[.val (.int p0), .val (.int p1), .val (.int (1 : Int32)), .val (.int (0 : Int32)), .val (.ref w_IF_EXTERNAL), .val (.int (0 : Int32)), .val (.int (0 : Int32)), .val (.int (1 : Int32))] [(.int (0 : Int32)), (.int (0 : Int32))])
      refine Go.st (fun _ k => XS.icmpNo X21.here hx rfl (hb hby at_113) rfl (teq (by decide : (0 : Int32) = (0 : Int32))).2 k) ?_
      show Go _ _ _ _ _ _ _ T21 (mkF m 116 #[.val (.int p0), .val (.int p1), .val (.int (1 : Int32)), .val (.int (0 : Int32)), .val (.ref w_IF_EXTERNAL), .val (.int (0 : Int32)), .val (.int (0 : Int32)), .val (.int (1 : Int32))] [])
      refine Go.st (fun _ k => XS.iload X21.here hx rfl (hb hby at_116) rfl k) ?_
      show Go _ _ _ _ _ _ _ T21 (mkF m 118 #[.val (.int p0), .val (.int p1), .val (.int (1 : Int32)), .val (.int (0 : Int32)), .val (.ref w_IF_EXTERNAL), .val (.int (0 : Int32)), .val (.int (0 : Int32)), .val (.int (1 : Int32))] [(.int (1 : Int32))])
      refine Go.st (fun _ k => XS.ifNo X21.here hx rfl (hb hby at_118) rfl ((if0 _ _).trans (feq (by decide : ¬ ((1 : Int32) = (0 : Int32)))).1) k) ?_
      show Go _ _ _ _ _ _ _ T21 (mkF m 121 #[.val (.int p0), .val (.int p1), .val (.int (1 : Int32)), .val (.int (0 : Int32)), .val (.ref w_IF_EXTERNAL), .val (.int (0 : Int32)), .val (.int (0 : Int32)), .val (.int (1 : Int32))] [])
      refine Go.st (fun _ k => XS.iconst X21.here hx rfl (hb hby at_121) k) ?_
      show Go _ _ _ _ _ _ _ T21 (mkF m 122 #[.val (.int p0), .val (.int p1), .val (.int (1 : Int32)), .val (.int (0 : Int32)), .val (.ref w_IF_EXTERNAL), .val (.int (0 : Int32)), .val (.int (0 : Int32)), .val (.int (1 : Int32))] [(.int (1 : Int32))])
      refine Go.st (fun _ k => XS.goto X21.here hx rfl (pc0 := 122) (pc' := 126) rfl (hb hby at_122) (by decide) (by decide) k) ?_
      show Go _ _ _ _ _ _ _ T21 (mkF m 126 #[.val (.int p0), .val (.int p1), .val (.int (1 : Int32)), .val (.int (0 : Int32)), .val (.ref w_IF_EXTERNAL), .val (.int (0 : Int32)), .val (.int (0 : Int32)), .val (.int (1 : Int32))] [(.int (1 : Int32))])
      refine Go.ret X21 hlk (v := some (.int (1 : Int32))) (fun h => by rw [hret] at h; cases h) (fun fs hr => retN X21 hx (t := .boolean) hret (by simp) (hb hby at_126) hr) ?_ (by decide) (by decide)
      show Q0 Z p0 p1 w_ALWAYS w_IF_EXTERNAL w_IF_NOT_EXTERNAL h0 n0 (some (.int (1 : Int32))) T21.heap _
      rw [e21]
      exact ⟨rfl, N21⟩
    · rw [hk15]
      show Go _ _ _ _ _ _ _ s₁ (mkF m 10 #[.val (.int p0), .val (.int p1), .val (.int (1 : Int32)), .unset, .unset, .unset, .unset, .unset] [(.int (1 : Int32))])
      refine Go.st (fun _ k => XS.ifNo X0.here hx rfl (hb hby at_10) rfl ((if0 _ _).trans (feq (by decide : ¬ ((1 : Int32) = (0 : Int32)))).1) k) ?_
      show Go _ _ _ _ _ _ _ s₁ (mkF m 13 #[.val (.int p0), .val (.int p1), .val (.int (1 : Int32)), .unset, .unset, .unset, .unset, .unset] [])
      refine Go.st (fun _ k => XS.iconst X0.here hx rfl (hb hby at_13) k) ?_
      show Go _ _ _ _ _ _ _ s₁ (mkF m 14 #[.val (.int p0), .val (.int p1), .val (.int (1 : Int32)), .unset, .unset, .unset, .unset, .unset] [(.int (1 : Int32))])
      refine Go.st (fun _ k => XS.goto X0.here hx rfl (pc0 := 14) (pc' := 18) rfl (hb hby at_14) (by decide) (by decide) k) ?_
      show Go _ _ _ _ _ _ _ s₁ (mkF m 18 #[.val (.int p0), .val (.int p1), .val (.int (1 : Int32)), .unset, .unset, .unset, .unset, .unset] [(.int (1 : Int32))])
      refine Go.st (fun _ k => XS.istoreN X0.here hx rfl (hb hby at_18) rfl (l' := #[.val (.int p0), .val (.int p1), .val (.int (1 : Int32)), .val (.int (1 : Int32)), .unset, .unset, .unset, .unset]) rfl k) ?_
      show Go _ _ _ _ _ _ _ s₁ (mkF m 19 #[.val (.int p0), .val (.int p1), .val (.int (1 : Int32)), .val (.int (1 : Int32)), .unset, .unset, .unset, .unset] [])
      refine Go.st (fun _ k => XS.iloadN X0.here hx rfl (hb hby at_19) rfl k) ?_
      show Go _ _ _ _ _ _ _ s₁ (mkF m 20 #[.val (.int p0), .val (.int p1), .val (.int (1 : Int32)), .val (.int (1 : Int32)), .unset, .unset, .unset, .unset] [(.int (1 : Int32))])
      refine Go.st (fun _ k => XS.ifYes X0.here hx rfl (pc0 := 20) (pc' := 29) rfl (hb hby at_20) rfl ((if0 _ _).trans (feq (by decide : ¬ ((1 : Int32) = (0 : Int32)))).2) (by decide) (by decide) k) ?_
      show Go _ _ _ _ _ _ _ s₁ (mkF m 29 #[.val (.int p0), .val (.int p1), .val (.int (1 : Int32)), .val (.int (1 : Int32)), .unset, .unset, .unset, .unset] [])
      refine Go.st (fun _ k => XS.iloadN X0.here hx rfl (hb hby at_29) rfl k) ?_
      show Go _ _ _ _ _ _ _ s₁ (mkF m 30 #[.val (.int p0), .val (.int p1), .val (.int (1 : Int32)), .val (.int (1 : Int32)), .unset, .unset, .unset, .unset] [(.int (1 : Int32))])
      refine Go.st (fun _ k => XS.iconst X0.here hx rfl (hb hby at_30) k) ?_
      show Go _ _ _ _ _ _ _ s₁ (mkF m 31 #[.val (.int p0), .val (.int p1), .val (.int (1 : Int32)), .val (.int (1 : Int32)), .unset, .unset, .unset, .unset] [(.int (1 : Int32)), (.int (1 : Int32))])
      refine Go.st (fun _ k => XS.icmpNo X0.here hx rfl (hb hby at_31) rfl (teq (by decide : (1 : Int32) = (1 : Int32))).2 k) ?_
      show Go _ _ _ _ _ _ _ s₁ (mkF m 34 #[.val (.int p0), .val (.int p1), .val (.int (1 : Int32)), .val (.int (1 : Int32)), .unset, .unset, .unset, .unset] [])
      obtain ⟨T22, X22, e22, st22⟩ := getS2 X0 hx hZ hown (host := "") (Or.inl (hw _ (List.mem_of_getElem? (i := 18) rfl))) Via.refl e0 S_IF_EXTERNAL (g := (mkF m 34 #[.val (.int p0), .val (.int p1), .val (.int (1 : Int32)), .val (.int (1 : Int32)), .unset, .unset, .unset, .unset] [])) rfl (hb hby at_34)
      refine Go.st st22 ?_
      show Go _ _ _ _ _ _ _ T22 (mkF m 37 #[.val (.int p0), .val (.int p1), .val (.int (1 : Int32)), .val (.int (1 : Int32)), .unset, .unset, .unset, .unset] [(.ref w_IF_EXTERNAL)])
      refine Go.st (fun _ k => XS.goto X22.here hx rfl (pc0 := 37) (pc' := 43) rfl (hb hby at_37) (by decide) (by decide) k) ?_
      show Go _ _ _ _ _ _ _ T22 (mkF m 43 #[.val (.int p0), .val (.int p1), .val (.int (1 : Int32)), .val (.int (1 : Int32)), .unset, .unset, .unset, .unset] [(.ref w_IF_EXTERNAL)])
      refine Go.st (fun _ k => XS.astore X22.here hx rfl (hb hby at_43) rfl rfl (l' := #[.val (.int p0), .val (.int p1), .val (.int (1 : Int32)), .val (.int (1 : Int32)), .val (.ref w_IF_EXTERNAL), .unset, .unset, .unset]) rfl k) ?_
      show Go _ _ _ _ _ _ _ T22 (mkF m 45 #[.val (.int p0), .val (.int p1), .val (.int (1 : Int32)), .val (.int (1 : Int32)), .val (.ref w_IF_EXTERNAL), .unset, .unset, .unset] [])
      refine Go.st (fun _ k => XS.iloadN X22.here hx rfl (hb hby at_45) rfl k) ?_
      show Go _ _ _ _ _ _ _ T22 (mkF m 46 #[.val (.int p0), .val (.int p1), .val (.int (1 : Int32)), .val (.int (1 : Int32)), .val (.ref w_IF_EXTERNAL), .unset, .unset, .unset] [(.int (1 : Int32))])
      refine Go.st (fun _ k => XS.ifYes X22.here hx rfl (pc0 := 46) (pc' := 55) rfl (hb hby at_46) rfl ((if0 _ _).trans (feq (by decide : ¬ ((1 : Int32) = (0 : Int32)))).2) (by decide) (by decide) k) ?_
      show Go _ _ _ _ _ _ _ T22 (mkF m 55 #[.val (.int p0), .val (.int p1), .val (.int (1 : Int32)), .val (.int (1 : Int32)), .val (.ref w_IF_EXTERNAL), .unset, .unset, .unset] [])
      refine Go.st (fun _ k => XS.iloadN X22.here hx rfl (hb hby at_55) rfl k) ?_
      show Go _ _ _ _ _ _ _ T22 (mkF m 56 #[.val (.int p0), .val (.int p1), .val (.int (1 : Int32)), .val (.int (1 : Int32)), .val (.ref w_IF_EXTERNAL), .unset, .unset, .unset] [(.int (1 : Int32))])
      refine Go.st (fun _ k => XS.iconst X22.here hx rfl (hb hby at_56) k) ?_
      show Go _ _ _ _ _ _ _ T22 (mkF m 57 #[.val (.int p0), .val (.int p1), .val (.int (1 : Int32)), .val (.int (1 : Int32)), .val (.ref w_IF_EXTERNAL), .unset, .unset, .unset] [(.int (1 : Int32)), (.int (1 : Int32))])
      refine Go.st (fun _ k => XS.icmpNo X22.here hx rfl (hb hby at_57) rfl (teq (by decide : (1 : Int32) = (1 : Int32))).2 k) ?_
      show Go _ _ _ _ _ _ _ T22 (mkF m 60 #[.val (.int p0), .val (.int p1), .val (.int (1 : Int32)), .val (.int (1 : Int32)), .val (.ref w_IF_EXTERNAL), .unset, .unset, .unset] [])
      refine Go.st (fun _ k => XS.iloadN X22.here hx rfl (hb hby at_60) rfl k) ?_
      show Go _ _ _ _ _ _ _ T22 (mkF m 61 #[.val (.int p0), .val (.int p1), .val (.int (1 : Int32)), .val (.int (1 : Int32)), .val (.ref w_IF_EXTERNAL), .unset, .unset, .unset] [(.int (1 : Int32))])
      refine Go.st (fun _ k => XS.istore X22.here hx rfl (hb hby at_61) rfl (l' := #[.val (.int p0), .val (.int p1), .val (.int (1 : Int32)), .val (.int (1 : Int32)), .val (.ref w_IF_EXTERNAL), .val (.int (1 : Int32)), .unset, .unset]) rfl k) ?_
      show Go _ _ _ _ _ _ _ T22 (mkF m 63 #[.val (.int p0), .val (.int p1), .val (.int (1 : Int32)), .val (.int (1 : Int32)), .val (.ref w_IF_EXTERNAL), .val (.int (1 : Int32)), .unset, .unset] [])
      refine Go.st (fun _ k => XS.goto X22.here hx rfl (pc0 := 63) (pc' := 77) rfl (hb hby at_63) (by decide) (by decide) k) ?_
      show Go _ _ _ _ _ _ _ T22 (mkF m 77 #[.val (.int p0), .val (.int p1), .val (.int (1 : Int32)), .val (.int (1 : Int32)), .val (.ref w_IF_EXTERNAL), .val (.int (1 : Int32)), .unset, .unset] [])
      refine Go.st (fun _ k => XS.aload X22.here hx rfl (hb hby at_77) rfl rfl k) ?_
      show Go _ _ _ _ _ _ _ T22 (mkF m 79 #[.val (.int p0), .val (.int p1), .val (.int (1 : Int32)), .val (.int (1 : Int32)), .val (.ref w_IF_EXTERNAL), .val (.int (1 : Int32)), .unset, .unset] [(.ref w_IF_EXTERNAL)])
      refine Go.st (fun _ k => XS.iloadN X22.here hx rfl (hb hby at_79) rfl k) ?_
      show Go _ _ _ _ _ _ _ T22 (mkF m 80 #[.val (.int p0), .val (.int p1), .val (.int (1 : Int32)), .val (.int (1 : Int32)), .val (.ref w_IF_EXTERNAL), .val (.int (1 : Int32)), .unset, .unset] [(.int (1 : Int32)), (.ref w_IF_EXTERNAL)])
      obtain ⟨cq23, kq23, q23a, q23b, q23c⟩ := isOf hZ e22 E_IF_EXTERNAL
      obtain ⟨_, _, ⟨T23, L23, k23, n23⟩, -, X23, ⟨Lc23, hQ23, l23, y23, z23⟩, st23⟩ := X22.virtualBack hx (y := (⟨"com/example/gatefold/gatefold/Condition", "holdsFor", "(Z)Z"⟩ : MethodName)) (z := (⟨"com/example/gatefold/gatefold/Condition", "holdsFor", "(Z)Z"⟩ : MethodName)) hown (mvT hZ (hw _ (List.mem_of_getElem? (i := 4) rfl))) (mvT hZ (hw _ (List.mem_of_getElem? (i := 5) rfl))) (notFace_of_selects (args := #[]) (mvT hZ (hw _ (List.mem_of_getElem? (i := 7) rfl)))) (mvT hZ (hw _ (List.mem_of_getElem? (i := 7) rfl))) (mvT hZ (hw _ (List.mem_of_getElem? (i := 6) rfl))) (by decide) (backOf (W := 0) (rm1 l Z a0 hw [] w_IF_EXTERNAL (1 : Int32) (1 : Int32) h0 n0 Z0 E_IF_EXTERNAL F_IF_EXTERNAL_ordinal (Or.inr (Or.inl rfl))) hZ (hw _ (List.mem_of_getElem? (i := 8) rfl)) (hw _ (List.mem_of_getElem? (i := 2) rfl)) (by decide) (by decide)) q23a q23c (g := (mkF m 80 #[.val (.int p0), .val (.int p1), .val (.int (1 : Int32)), .val (.int (1 : Int32)), .val (.ref w_IF_EXTERNAL), .val (.int (1 : Int32)), .unset, .unset] [(.int (1 : Int32)), (.ref w_IF_EXTERNAL)])) rfl (by rw [hml]; rfl) (Steps.refl _) (argsL := [(.int (1 : Int32))]) (rest := []) (lenOf pd_1 rfl) rfl (by show 2 * 0 + _ ≤ _; exact Nat.le_of_eq rfl) (hb hby at_80) (fun _ _ => ⟨rfl, e22, (by decide : 0 + 0 ≤ _), (by decide : 0 + 0 ≤ _)⟩)
      dsimp only [Pt.U, Pt.locs, Pt.cells, Pt.slots] at X23 l23 y23 z23 st23 hQ23
      subst l23 y23 z23
      obtain ⟨rfl, N23q, e23⟩ := hQ23
      have N23 := Fr.app N0 N23q
      refine Go.st (fun _ k => st23.trans k) ?_
      show Go _ _ _ _ _ _ _ T23 (mkF m 83 #[.val (.int p0), .val (.int p1), .val (.int (1 : Int32)), .val (.int (1 : Int32)), .val (.ref w_IF_EXTERNAL), .val (.int (1 : Int32)), .unset, .unset] [(.int (val_1 w_IF_EXTERNAL (1 : Int32) (1 : Int32)))])
      rw [show (val_1 w_IF_EXTERNAL (1 : Int32) (1 : Int32)) = (1 : Int32) from by unfold val_1; rw [if_neg (by decide +kernel : ¬ ((1 : Int32) = (0 : Int32))), if_pos (by decide +kernel : (1 : Int32) = (1 : Int32))]; decide +kernel]
      show Go _ _ _ _ _ _ _ T23 (mkF m 83 #[.val (.int p0), .val (.int p1), .val (.int (1 : Int32)), .val (.int (1 : Int32)), .val (.ref w_IF_EXTERNAL), .val (.int (1 : Int32)), .unset, .unset] [(.int (1 : Int32))])
      refine Go.st (fun _ k => XS.istore X23.here hx rfl (hb hby at_83) rfl (l' := #[.val (.int p0), .val (.int p1), .val (.int (1 : Int32)), .val (.int (1 : Int32)), .val (.ref w_IF_EXTERNAL), .val (.int (1 : Int32)), .val (.int (1 : Int32)), .unset]) rfl k) ?_
      show Go _ _ _ _ _ _ _ T23 (mkF m 85 #[.val (.int p0), .val (.int p1), .val (.int (1 : Int32)), .val (.int (1 : Int32)), .val (.ref w_IF_EXTERNAL), .val (.int (1 : Int32)), .val (.int (1 : Int32)), .unset] [])
      obtain ⟨T24, X24, e24, st24⟩ := getS2 X23 hx hZ hown (host := "") (Or.inl (hw _ (List.mem_of_getElem? (i := 18) rfl))) Via.refl e23 S_IF_EXTERNAL (g := (mkF m 85 #[.val (.int p0), .val (.int p1), .val (.int (1 : Int32)), .val (.int (1 : Int32)), .val (.ref w_IF_EXTERNAL), .val (.int (1 : Int32)), .val (.int (1 : Int32)), .unset] [])) rfl (hb hby at_85)
      refine Go.st st24 ?_
      show Go _ _ _ _ _ _ _ T24 (mkF m 88 #[.val (.int p0), .val (.int p1), .val (.int (1 : Int32)), .val (.int (1 : Int32)), .val (.ref w_IF_EXTERNAL), .val (.int (1 : Int32)), .val (.int (1 : Int32)), .unset] [(.ref w_IF_EXTERNAL)])
      refine Go.st (fun _ k => XS.iloadN X24.here hx rfl (hb hby at_88) rfl k) ?_
      show Go _ _ _ _ _ _ _ T24 (mkF m 89 #[.val (.int p0), .val (.int p1), .val (.int (1 : Int32)), .val (.int (1 : Int32)), .val (.ref w_IF_EXTERNAL), .val (.int (1 : Int32)), .val (.int (1 : Int32)), .unset] [(.int (1 : Int32)), (.ref w_IF_EXTERNAL)])
      obtain ⟨cq25, kq25, q25a, q25b, q25c⟩ := isOf hZ e24 E_IF_EXTERNAL
      obtain ⟨_, _, ⟨T25, L25, k25, n25⟩, -, X25, ⟨Lc25, hQ25, l25, y25, z25⟩, st25⟩ := X24.virtualBack hx (y := (⟨"com/example/gatefold/gatefold/Condition", "holdsFor", "(Z)Z"⟩ : MethodName)) (z := (⟨"com/example/gatefold/gatefold/Condition", "holdsFor", "(Z)Z"⟩ : MethodName)) hown (mvT hZ (hw _ (List.mem_of_getElem? (i := 4) rfl))) (mvT hZ (hw _ (List.mem_of_getElem? (i := 5) rfl))) (notFace_of_selects (args := #[]) (mvT hZ (hw _ (List.mem_of_getElem? (i := 7) rfl)))) (mvT hZ (hw _ (List.mem_of_getElem? (i := 7) rfl))) (mvT hZ (hw _ (List.mem_of_getElem? (i := 6) rfl))) (by decide) (backOf (W := 0) (rm1 l Z a0 hw [] w_IF_EXTERNAL (1 : Int32) (1 : Int32) h0 n0 Z0 E_IF_EXTERNAL F_IF_EXTERNAL_ordinal (Or.inr (Or.inl rfl))) hZ (hw _ (List.mem_of_getElem? (i := 8) rfl)) (hw _ (List.mem_of_getElem? (i := 2) rfl)) (by decide) (by decide)) q25a q25c (g := (mkF m 89 #[.val (.int p0), .val (.int p1), .val (.int (1 : Int32)), .val (.int (1 : Int32)), .val (.ref w_IF_EXTERNAL), .val (.int (1 : Int32)), .val (.int (1 : Int32)), .unset] [(.int (1 : Int32)), (.ref w_IF_EXTERNAL)])) rfl (by rw [hml]; rfl) (Steps.refl _) (argsL := [(.int (1 : Int32))]) (rest := []) (lenOf pd_1 rfl) rfl (by show 2 * 0 + _ ≤ _; exact Nat.le_of_eq rfl) (hb hby at_89) (fun _ _ => ⟨rfl, e24, (by decide : 0 + 0 ≤ _), (by decide : 0 + 0 ≤ _)⟩)
      dsimp only [Pt.U, Pt.locs, Pt.cells, Pt.slots] at X25 l25 y25 z25 st25 hQ25
      subst l25 y25 z25
      obtain ⟨rfl, N25q, e25⟩ := hQ25
      have N25 := Fr.app N23 N25q
      refine Go.st (fun _ k => st25.trans k) ?_
      show Go _ _ _ _ _ _ _ T25 (mkF m 92 #[.val (.int p0), .val (.int p1), .val (.int (1 : Int32)), .val (.int (1 : Int32)), .val (.ref w_IF_EXTERNAL), .val (.int (1 : Int32)), .val (.int (1 : Int32)), .unset] [(.int (val_1 w_IF_EXTERNAL (1 : Int32) (1 : Int32)))])
      rw [show (val_1 w_IF_EXTERNAL (1 : Int32) (1 : Int32)) = (1 : Int32) from by unfold val_1; rw [if_neg (by decide +kernel : ¬ ((1 : Int32) = (0 : Int32))), if_pos (by decide +kernel : (1 : Int32) = (1 : Int32))]; decide +kernel]
      show Go _ _ _ _ _ _ _ T25 (mkF m 92 #[.val (.int p0), .val (.int p1), .val (.int (1 : Int32)), .val (.int (1 : Int32)), .val (.ref w_IF_EXTERNAL), .val (.int (1 : Int32)), .val (.int (1 : Int32)), .unset] [(.int (1 : Int32))])
      obtain ⟨T26, X26, e26, st26⟩ := getS2 X25 hx hZ hown (host := "") (Or.inl (hw _ (List.mem_of_getElem? (i := 20) rfl))) Via.refl e25 S_IF_NOT_EXTERNAL (g := (mkF m 92 #[.val (.int p0), .val (.int p1), .val (.int (1 : Int32)), .val (.int (1 : Int32)), .val (.ref w_IF_EXTERNAL), .val (.int (1 : Int32)), .val (.int (1 : Int32)), .unset] [(.int (1 : Int32))])) rfl (hb hby at_92)
      refine Go.st st26 ?_
      show Go _ _ _ _ _ _ _ T26 (mkF m 95 #[.val (.int p0), .val (.int p1), .val (.int (1 : Int32)), .val (.int (1 : Int32)), .val (.ref w_IF_EXTERNAL), .val (.int (1 : Int32)), .val (.int (1 : Int32)), .unset] [(.ref w_IF_NOT_EXTERNAL), (.int (1 : Int32))])
      refine Go.st (fun _ k => XS.iloadN X26.here hx rfl (hb hby at_95) rfl k) ?_
      show Go _ _ _ _ _ _ _ T26 (mkF m 96 #[.val (.int p0), .val (.int p1), .val (.int (1 : Int32)), .val (.int (1 : Int32)), .val (.ref w_IF_EXTERNAL), .val (.int (1 : Int32)), .val (.int (1 : Int32)), .unset] [(.int (1 : Int32)), (.ref w_IF_NOT_EXTERNAL), (.int (1 : Int32))])
      obtain ⟨cq27, kq27, q27a, q27b, q27c⟩ := isOf hZ e26 E_IF_NOT_EXTERNAL
      obtain ⟨_, _, ⟨T27, L27, k27, n27⟩, -, X27, ⟨Lc27, hQ27, l27, y27, z27⟩, st27⟩ := X26.virtualBack hx (y := (⟨"com/example/gatefold/gatefold/Condition", "holdsFor", "(Z)Z"⟩ : MethodName)) (z := (⟨"com/example/gatefold/gatefold/Condition", "holdsFor", "(Z)Z"⟩ : MethodName)) hown (mvT hZ (hw _ (List.mem_of_getElem? (i := 4) rfl))) (mvT hZ (hw _ (List.mem_of_getElem? (i := 5) rfl))) (notFace_of_selects (args := #[]) (mvT hZ (hw _ (List.mem_of_getElem? (i := 7) rfl)))) (mvT hZ (hw _ (List.mem_of_getElem? (i := 7) rfl))) (mvT hZ (hw _ (List.mem_of_getElem? (i := 6) rfl))) (by decide) (backOf (W := 1) (rm1 l Z a0 hw [] w_IF_NOT_EXTERNAL (1 : Int32) (2 : Int32) h0 n0 Z0 E_IF_NOT_EXTERNAL F_IF_NOT_EXTERNAL_ordinal (Or.inr (Or.inr (rfl)))) hZ (hw _ (List.mem_of_getElem? (i := 8) rfl)) (hw _ (List.mem_of_getElem? (i := 2) rfl)) (by decide) (by decide)) q27a q27c (g := (mkF m 96 #[.val (.int p0), .val (.int p1), .val (.int (1 : Int32)), .val (.int (1 : Int32)), .val (.ref w_IF_EXTERNAL), .val (.int (1 : Int32)), .val (.int (1 : Int32)), .unset] [(.int (1 : Int32)), (.ref w_IF_NOT_EXTERNAL), (.int (1 : Int32))])) rfl (by rw [hml]; rfl) (Steps.refl _) (argsL := [(.int (1 : Int32))]) (rest := [(.int (1 : Int32))]) (lenOf pd_1 rfl) rfl (by show 2 * 0 + _ ≤ _; exact Nat.le_of_eq rfl) (hb hby at_96) (fun _ _ => ⟨rfl, e26, (by decide : 0 + 0 ≤ _), (by decide : 0 + 0 ≤ _)⟩)
      dsimp only [Pt.U, Pt.locs, Pt.cells, Pt.slots] at X27 l27 y27 z27 st27 hQ27
      subst l27 y27 z27
      obtain ⟨rfl, N27q, e27⟩ := hQ27
      have N27 := Fr.app N25 N27q
      refine Go.st (fun _ k => st27.trans k) ?_
      show Go _ _ _ _ _ _ _ T27 (mkF m 99 #[.val (.int p0), .val (.int p1), .val (.int (1 : Int32)), .val (.int (1 : Int32)), .val (.ref w_IF_EXTERNAL), .val (.int (1 : Int32)), .val (.int (1 : Int32)), .unset] [(.int (val_1 w_IF_NOT_EXTERNAL (1 : Int32) (2 : Int32))), (.int (1 : Int32))])
      rw [show (val_1 w_IF_NOT_EXTERNAL (1 : Int32) (2 : Int32)) = (0 : Int32) from by unfold val_1; rw [if_neg (by decide +kernel : ¬ ((2 : Int32) = (0 : Int32))), if_neg (by decide +kernel : ¬ ((2 : Int32) = (1 : Int32))), if_neg (by decide +kernel : ¬ ((1 : Int32) = (0 : Int32)))]]
      show Go _ _ _ _ _ _ _ T27 (mkF m 99 #[.val (.int p0), .val (.int p1), .val (.int (1 : Int32)), .val (.int (1 : Int32)), .val (.ref w_IF_EXTERNAL), .val (.int (1 : Int32)), .val (.int (1 : Int32)), .unset] [(.int (0 : Int32)), (.int (1 : Int32))])
      refine Go.st (fun _ k => XS.icmpNo X27.here hx rfl (hb hby at_99) rfl (feq (by decide : ¬ ((1 : Int32) = (0 : Int32)))).1 k) ?_
      show Go _ _ _ _ _ _ _ T27 (mkF m 102 #[.val (.int p0), .val (.int p1), .val (.int (1 : Int32)), .val (.int (1 : Int32)), .val (.ref w_IF_EXTERNAL), .val (.int (1 : Int32)), .val (.int (1 : Int32)), .unset] [])
      refine Go.st (fun _ k => XS.iconst X27.here hx rfl (hb hby at_102) k) ?_
      show Go _ _ _ _ _ _ _ T27 (mkF m 103 #[.val (.int p0), .val (.int p1), .val (.int (1 : Int32)), .val (.int (1 : Int32)), .val (.ref w_IF_EXTERNAL), .val (.int (1 : Int32)), .val (.int (1 : Int32)), .unset] [(.int (1 : Int32))])
      refine Go.st (fun _ k => XS.goto X27.here hx rfl (pc0 := 103) (pc' := 107) rfl (hb hby at_103) (by decide) (by decide) k) ?_
      show Go _ _ _ _ _ _ _ T27 (mkF m 107 #[.val (.int p0), .val (.int p1), .val (.int (1 : Int32)), .val (.int (1 : Int32)), .val (.ref w_IF_EXTERNAL), .val (.int (1 : Int32)), .val (.int (1 : Int32)), .unset] [(.int (1 : Int32))])
      refine Go.st (fun _ k => XS.istore X27.here hx rfl (hb hby at_107) rfl (l' := #[.val (.int p0), .val (.int p1), .val (.int (1 : Int32)), .val (.int (1 : Int32)), .val (.ref w_IF_EXTERNAL), .val (.int (1 : Int32)), .val (.int (1 : Int32)), .val (.int (1 : Int32))]) rfl k) ?_
      show Go _ _ _ _ _ _ _ T27 (mkF m 109 #[.val (.int p0), .val (.int p1), .val (.int (1 : Int32)), .val (.int (1 : Int32)), .val (.ref w_IF_EXTERNAL), .val (.int (1 : Int32)), .val (.int (1 : Int32)), .val (.int (1 : Int32))] [])
      refine Go.st (fun _ k => XS.iload X27.here hx rfl (hb hby at_109) rfl k) ?_
      show Go _ _ _ _ _ _ _ T27 (mkF m 111 #[.val (.int p0), .val (.int p1), .val (.int (1 : Int32)), .val (.int (1 : Int32)), .val (.ref w_IF_EXTERNAL), .val (.int (1 : Int32)), .val (.int (1 : Int32)), .val (.int (1 : Int32))] [(.int (1 : Int32))])
      refine Go.st (fun _ k => XS.iload X27.here hx rfl (hb hby at_111) rfl k) ?_
      show Go _ _ _ _ _ _ _ T27 (mkF m 113 #[.val (.int p0), .val (.int p1), .val (.int (1 : Int32)), .val (.int (1 : Int32)), .val (.ref w_IF_EXTERNAL), .val (.int (1 : Int32)), .val (.int (1 : Int32)), .val (.int (1 : Int32))] [(.int (1 : Int32)), (.int (1 : Int32))])
      refine Go.st (fun _ k => XS.icmpNo X27.here hx rfl (hb hby at_113) rfl (teq (by decide : (1 : Int32) = (1 : Int32))).2 k) ?_
      show Go _ _ _ _ _ _ _ T27 (mkF m 116 #[.val (.int p0), .val (.int p1), .val (.int (1 : Int32)), .val (.int (1 : Int32)), .val (.ref w_IF_EXTERNAL), .val (.int (1 : Int32)), .val (.int (1 : Int32)), .val (.int (1 : Int32))] [])
      refine Go.st (fun _ k => XS.iload X27.here hx rfl (hb hby at_116) rfl k) ?_
      show Go _ _ _ _ _ _ _ T27 (mkF m 118 #[.val (.int p0), .val (.int p1), .val (.int (1 : Int32)), .val (.int (1 : Int32)), .val (.ref w_IF_EXTERNAL), .val (.int (1 : Int32)), .val (.int (1 : Int32)), .val (.int (1 : Int32))] [(.int (1 : Int32))])
      refine Go.st (fun _ k => XS.ifNo X27.here hx rfl (hb hby at_118) rfl ((if0 _ _).trans (feq (by decide : ¬ ((1 : Int32) = (0 : Int32)))).1) k) ?_
      show Go _ _ _ _ _ _ _ T27 (mkF m 121 #[.val (.int p0), .val (.int p1), .val (.int (1 : Int32)), .val (.int (1 : Int32)), .val (.ref w_IF_EXTERNAL), .val (.int (1 : Int32)), .val (.int (1 : Int32)), .val (.int (1 : Int32))] [])
      refine Go.st (fun _ k => XS.iconst X27.here hx rfl (hb hby at_121) k) ?_
      show Go _ _ _ _ _ _ _ T27 (mkF m 122 #[.val (.int p0), .val (.int p1), .val (.int (1 : Int32)), .val (.int (1 : Int32)), .val (.ref w_IF_EXTERNAL), .val (.int (1 : Int32)), .val (.int (1 : Int32)), .val (.int (1 : Int32))] [(.int (1 : Int32))])
      refine Go.st (fun _ k => XS.goto X27.here hx rfl (pc0 := 122) (pc' := 126) rfl (hb hby at_122) (by decide) (by decide) k) ?_
      show Go _ _ _ _ _ _ _ T27 (mkF m 126 #[.val (.int p0), .val (.int p1), .val (.int (1 : Int32)), .val (.int (1 : Int32)), .val (.ref w_IF_EXTERNAL), .val (.int (1 : Int32)), .val (.int (1 : Int32)), .val (.int (1 : Int32))] [(.int (1 : Int32))])
      refine Go.ret X27 hlk (v := some (.int (1 : Int32))) (fun h => by rw [hret] at h; cases h) (fun fs hr => retN X27 hx (t := .boolean) hret (by simp) (hb hby at_126) hr) ?_ (by decide) (by decide)
      show Q0 Z p0 p1 w_ALWAYS w_IF_EXTERNAL w_IF_NOT_EXTERNAL h0 n0 (some (.int (1 : Int32))) T27.heap _
      rw [e27]
      exact ⟨rfl, N27⟩
  · rw [hk1]
    show Go _ _ _ _ _ _ _ s₁ (mkF m 6 #[.val (.int p0), .val (.int p1), .unset, .unset, .unset, .unset, .unset, .unset] [(.int (2 : Int32))])
    refine Go.st (fun _ k => XS.istoreN X0.here hx rfl (hb hby at_6) rfl (l' := #[.val (.int p0), .val (.int p1), .val (.int (2 : Int32)), .unset, .unset, .unset, .unset, .unset]) rfl k) ?_
    show Go _ _ _ _ _ _ _ s₁ (mkF m 7 #[.val (.int p0), .val (.int p1), .val (.int (2 : Int32)), .unset, .unset, .unset, .unset, .unset] [])
    refine Go.st (fun _ k => XS.iloadN X0.here hx rfl (hb hby at_7) rfl k) ?_
    show Go _ _ _ _ _ _ _ s₁ (mkF m 8 #[.val (.int p0), .val (.int p1), .val (.int (2 : Int32)), .unset, .unset, .unset, .unset, .unset] [(.int p1)])
    refine Go.st (fun _ k => XS.iconst X0.here hx rfl (hb hby at_8) k) ?_
    show Go _ _ _ _ _ _ _ s₁ (mkF m 9 #[.val (.int p0), .val (.int p1), .val (.int (2 : Int32)), .unset, .unset, .unset, .unset, .unset] [(.int (1 : Int32)), (.int p1)])
    refine Go.st (fun _ k => XS.iand X0.here hx rfl (hb hby at_9) rfl k) ?_
    show Go _ _ _ _ _ _ _ s₁ (mkF m 10 #[.val (.int p0), .val (.int p1), .val (.int (2 : Int32)), .unset, .unset, .unset, .unset, .unset] [(.int (p1 &&& (1 : Int32)))])
    rcases and_one p1 with hk28 | hk28
    · rw [hk28]
      show Go _ _ _ _ _ _ _ s₁ (mkF m 10 #[.val (.int p0), .val (.int p1), .val (.int (2 : Int32)), .unset, .unset, .unset, .unset, .unset] [(.int (0 : Int32))])
      refine Go.st (fun _ k => XS.ifYes X0.here hx rfl (pc0 := 10) (pc' := 17) rfl (hb hby at_10) rfl ((if0 _ _).trans (teq (by decide : (0 : Int32) = (0 : Int32))).1) (by decide) (by decide) k) ?_
      show Go _ _ _ _ _ _ _ s₁ (mkF m 17 #[.val (.int p0), .val (.int p1), .val (.int (2 : Int32)), .unset, .unset, .unset, .unset, .unset] [])
      refine Go.st (fun _ k => XS.iconst X0.here hx rfl (hb hby at_17) k) ?_
      show Go _ _ _ _ _ _ _ s₁ (mkF m 18 #[.val (.int p0), .val (.int p1), .val (.int (2 : Int32)), .unset, .unset, .unset, .unset, .unset] [(.int (0 : Int32))])
      refine Go.st (fun _ k => XS.istoreN X0.here hx rfl (hb hby at_18) rfl (l' := #[.val (.int p0), .val (.int p1), .val (.int (2 : Int32)), .val (.int (0 : Int32)), .unset, .unset, .unset, .unset]) rfl k) ?_
      show Go _ _ _ _ _ _ _ s₁ (mkF m 19 #[.val (.int p0), .val (.int p1), .val (.int (2 : Int32)), .val (.int (0 : Int32)), .unset, .unset, .unset, .unset] [])
      refine Go.st (fun _ k => XS.iloadN X0.here hx rfl (hb hby at_19) rfl k) ?_
      show Go _ _ _ _ _ _ _ s₁ (mkF m 20 #[.val (.int p0), .val (.int p1), .val (.int (2 : Int32)), .val (.int (0 : Int32)), .unset, .unset, .unset, .unset] [(.int (2 : Int32))])
      refine Go.st (fun _ k => XS.ifYes X0.here hx rfl (pc0 := 20) (pc' := 29) rfl (hb hby at_20) rfl ((if0 _ _).trans (feq (by decide : ¬ ((2 : Int32) = (0 : Int32)))).2) (by decide) (by decide) k) ?_
      show Go _ _ _ _ _ _ _ s₁ (mkF m 29 #[.val (.int p0), .val (.int p1), .val (.int (2 : Int32)), .val (.int (0 : Int32)), .unset, .unset, .unset, .unset] [])
      refine Go.st (fun _ k => XS.iloadN X0.here hx rfl (hb hby at_29) rfl k) ?_
      show Go _ _ _ _ _ _ _ s₁ (mkF m 30 #[.val (.int p0), .val (.int p1), .val (.int (2 : Int32)), .val (.int (0 : Int32)), .unset, .unset, .unset, .unset] [(.int (2 : Int32))])
      refine Go.st (fun _ k => XS.iconst X0.here hx rfl (hb hby at_30) k) ?_
      show Go _ _ _ _ _ _ _ s₁ (mkF m 31 #[.val (.int p0), .val (.int p1), .val (.int (2 : Int32)), .val (.int (0 : Int32)), .unset, .unset, .unset, .unset] [(.int (1 : Int32)), (.int (2 : Int32))])
      refine Go.st (fun _ k => XS.icmpYes X0.here hx rfl (pc0 := 31) (pc' := 40) rfl (hb hby at_31) rfl (feq (by decide : ¬ ((2 : Int32) = (1 : Int32)))).2 (by decide) (by decide) k) ?_
      show Go _ _ _ _ _ _ _ s₁ (mkF m 40 #[.val (.int p0), .val (.int p1), .val (.int (2 : Int32)), .val (.int (0 : Int32)), .unset, .unset, .unset, .unset] [])
      obtain ⟨T29, X29, e29, st29⟩ := getS2 X0 hx hZ hown (host := "") (Or.inl (hw _ (List.mem_of_getElem? (i := 20) rfl))) Via.refl e0 S_IF_NOT_EXTERNAL (g := (mkF m 40 #[.val (.int p0), .val (.int p1), .val (.int (2 : Int32)), .val (.int (0 : Int32)), .unset, .unset, .unset, .unset] [])) rfl (hb hby at_40)
      refine Go.st st29 ?_
      show Go _ _ _ _ _ _ _ T29 (mkF m 43 #[.val (.int p0), .val (.int p1), .val (.int (2 : Int32)), .val (.int (0 : Int32)), .unset, .unset, .unset, .unset] [(.ref w_IF_NOT_EXTERNAL)])
      refine Go.st (fun _ k => XS.astore X29.here hx rfl (hb hby at_43) rfl rfl (l' := #[.val (.int p0), .val (.int p1), .val (.int (2 : Int32)), .val (.int (0 : Int32)), .val (.ref w_IF_NOT_EXTERNAL), .unset, .unset, .unset]) rfl k) ?_
      show Go _ _ _ _ _ _ _ T29 (mkF m 45 #[.val (.int p0), .val (.int p1), .val (.int (2 : Int32)), .val (.int (0 : Int32)), .val (.ref w_IF_NOT_EXTERNAL), .unset, .unset, .unset] [])
      refine Go.st (fun _ k => XS.iloadN X29.here hx rfl (hb hby at_45) rfl k) ?_
      show Go _ _ _ _ _ _ _ T29 (mkF m 46 #[.val (.int p0), .val (.int p1), .val (.int (2 : Int32)), .val (.int (0 : Int32)), .val (.ref w_IF_NOT_EXTERNAL), .unset, .unset, .unset] [(.int (2 : Int32))])
      refine Go.st (fun _ k => XS.ifYes X29.here hx rfl (pc0 := 46) (pc' := 55) rfl (hb hby at_46) rfl ((if0 _ _).trans (feq (by decide : ¬ ((2 : Int32) = (0 : Int32)))).2) (by decide) (by decide) k) ?_
      show Go _ _ _ _ _ _ _ T29 (mkF m 55 #[.val (.int p0), .val (.int p1), .val (.int (2 : Int32)), .val (.int (0 : Int32)), .val (.ref w_IF_NOT_EXTERNAL), .unset, .unset, .unset] [])
      refine Go.st (fun _ k => XS.iloadN X29.here hx rfl (hb hby at_55) rfl k) ?_
      show Go _ _ _ _ _ _ _ T29 (mkF m 56 #[.val (.int p0), .val (.int p1), .val (.int (2 : Int32)), .val (.int (0 : Int32)), .val (.ref w_IF_NOT_EXTERNAL), .unset, .unset, .unset] [(.int (2 : Int32))])
      refine Go.st (fun _ k => XS.iconst X29.here hx rfl (hb hby at_56) k) ?_
      show Go _ _ _ _ _ _ _ T29 (mkF m 57 #[.val (.int p0), .val (.int p1), .val (.int (2 : Int32)), .val (.int (0 : Int32)), .val (.ref w_IF_NOT_EXTERNAL), .unset, .unset, .unset] [(.int (1 : Int32)), (.int (2 : Int32))])
      refine Go.st (fun _ k => XS.icmpYes X29.here hx rfl (pc0 := 57) (pc' := 66) rfl (hb hby at_57) rfl (feq (by decide : ¬ ((2 : Int32) = (1 : Int32)))).2 (by decide) (by decide) k) ?_
      show Go _ _ _ _ _ _ _ T29 (mkF m 66 #[.val (.int p0), .val (.int p1), .val (.int (2 : Int32)), .val (.int (0 : Int32)), .val (.ref w_IF_NOT_EXTERNAL), .unset, .unset, .unset] [])
      refine Go.st (fun _ k => XS.iloadN X29.here hx rfl (hb hby at_66) rfl k) ?_
      show Go _ _ _ _ _ _ _ T29 (mkF m 67 #[.val (.int p0), .val (.int p1), .val (.int (2 : Int32)), .val (.int (0 : Int32)), .val (.ref w_IF_NOT_EXTERNAL), .unset, .unset, .unset] [(.int (0 : Int32))])
      refine Go.st (fun _ k => XS.ifNo X29.here hx rfl (hb hby at_67) rfl ((if0 _ _).trans (teq (by decide : (0 : Int32) = (0 : Int32))).2) k) ?_
      show Go _ _ _ _ _ _ _ T29 (mkF m 70 #[.val (.int p0), .val (.int p1), .val (.int (2 : Int32)), .val (.int (0 : Int32)), .val (.ref w_IF_NOT_EXTERNAL), .unset, .unset, .unset] [])
      refine Go.st (fun _ k => XS.iconst X29.here hx rfl (hb hby at_70) k) ?_
      show Go _ _ _ _ _ _ _ T29 (mkF m 71 #[.val (.int p0), .val (.int p1), .val (.int (2 : Int32)), .val (.int (0 : Int32)), .val (.ref w_IF_NOT_EXTERNAL), .unset, .unset, .unset] [(.int (1 : Int32))])
      refine Go.st (fun _ k => XS.goto X29.here hx rfl (pc0 := 71) (pc' := 75) rfl (hb hby at_71) (by decide) (by decide) k) ?_
      show Go _ _ _ _ _ _ _ T29 (mkF m 75 #[.val (.int p0), .val (.int p1), .val (.int (2 : Int32)), .val (.int (0 : Int32)), .val (.ref w_IF_NOT_EXTERNAL), .unset, .unset, .unset] [(.int (1 : Int32))])
      refine Go.st (fun _ k => XS.istore X29.here hx rfl (hb hby at_75) rfl (l' := #[.val (.int p0), .val (.int p1), .val (.int (2 : Int32)), .val (.int (0 : Int32)), .val (.ref w_IF_NOT_EXTERNAL), .val (.int (1 : Int32)), .unset, .unset]) rfl k) ?_
      show Go _ _ _ _ _ _ _ T29 (mkF m 77 #[.val (.int p0), .val (.int p1), .val (.int (2 : Int32)), .val (.int (0 : Int32)), .val (.ref w_IF_NOT_EXTERNAL), .val (.int (1 : Int32)), .unset, .unset] [])
      refine Go.st (fun _ k => XS.aload X29.here hx rfl (hb hby at_77) rfl rfl k) ?_
      show Go _ _ _ _ _ _ _ T29 (mkF m 79 #[.val (.int p0), .val (.int p1), .val (.int (2 : Int32)), .val (.int (0 : Int32)), .val (.ref w_IF_NOT_EXTERNAL), .val (.int (1 : Int32)), .unset, .unset] [(.ref w_IF_NOT_EXTERNAL)])
      refine Go.st (fun _ k => XS.iloadN X29.here hx rfl (hb hby at_79) rfl k) ?_
      show Go _ _ _ _ _ _ _ T29 (mkF m 80 #[.val (.int p0), .val (.int p1), .val (.int (2 : Int32)), .val (.int (0 : Int32)), .val (.ref w_IF_NOT_EXTERNAL), .val (.int (1 : Int32)), .unset, .unset] [(.int (0 : Int32)), (.ref w_IF_NOT_EXTERNAL)])
      obtain ⟨cq30, kq30, q30a, q30b, q30c⟩ := isOf hZ e29 E_IF_NOT_EXTERNAL
      obtain ⟨_, _, ⟨T30, L30, k30, n30⟩, -, X30, ⟨Lc30, hQ30, l30, y30, z30⟩, st30⟩ := X29.virtualBack hx (y := (⟨"com/example/gatefold/gatefold/Condition", "holdsFor", "(Z)Z"⟩ : MethodName)) (z := (⟨"com/example/gatefold/gatefold/Condition", "holdsFor", "(Z)Z"⟩ : MethodName)) hown (mvT hZ (hw _ (List.mem_of_getElem? (i := 4) rfl))) (mvT hZ (hw _ (List.mem_of_getElem? (i := 5) rfl))) (notFace_of_selects (args := #[]) (mvT hZ (hw _ (List.mem_of_getElem? (i := 7) rfl)))) (mvT hZ (hw _ (List.mem_of_getElem? (i := 7) rfl))) (mvT hZ (hw _ (List.mem_of_getElem? (i := 6) rfl))) (by decide) (backOf (W := 0) (rm1 l Z a0 hw [] w_IF_NOT_EXTERNAL (0 : Int32) (2 : Int32) h0 n0 Z0 E_IF_NOT_EXTERNAL F_IF_NOT_EXTERNAL_ordinal (Or.inr (Or.inr (rfl)))) hZ (hw _ (List.mem_of_getElem? (i := 8) rfl)) (hw _ (List.mem_of_getElem? (i := 2) rfl)) (by decide) (by decide)) q30a q30c (g := (mkF m 80 #[.val (.int p0), .val (.int p1), .val (.int (2 : Int32)), .val (.int (0 : Int32)), .val (.ref w_IF_NOT_EXTERNAL), .val (.int (1 : Int32)), .unset, .unset] [(.int (0 : Int32)), (.ref w_IF_NOT_EXTERNAL)])) rfl (by rw [hml]; rfl) (Steps.refl _) (argsL := [(.int (0 : Int32))]) (rest := []) (lenOf pd_1 rfl) rfl (by show 2 * 0 + _ ≤ _; exact Nat.le_of_eq rfl) (hb hby at_80) (fun _ _ => ⟨rfl, e29, (by decide : 0 + 0 ≤ _), (by decide : 0 + 0 ≤ _)⟩)
      dsimp only [Pt.U, Pt.locs, Pt.cells, Pt.slots] at X30 l30 y30 z30 st30 hQ30
      subst l30 y30 z30
      obtain ⟨rfl, N30q, e30⟩ := hQ30
      have N30 := Fr.app N0 N30q
      refine Go.st (fun _ k => st30.trans k) ?_
      show Go _ _ _ _ _ _ _ T30 (mkF m 83 #[.val (.int p0), .val (.int p1), .val (.int (2 : Int32)), .val (.int (0 : Int32)), .val (.ref w_IF_NOT_EXTERNAL), .val (.int (1 : Int32)), .unset, .unset] [(.int (val_1 w_IF_NOT_EXTERNAL (0 : Int32) (2 : Int32)))])
      rw [show (val_1 w_IF_NOT_EXTERNAL (0 : Int32) (2 : Int32)) = (1 : Int32) from by unfold val_1; rw [if_neg (by decide +kernel : ¬ ((2 : Int32) = (0 : Int32))), if_neg (by decide +kernel : ¬ ((2 : Int32) = (1 : Int32))), if_pos (by decide +kernel : (0 : Int32) = (0 : Int32))]]
      show Go _ _ _ _ _ _ _ T30 (mkF m 83 #[.val (.int p0), .val (.int p1), .val (.int (2 : Int32)), .val (.int (0 : Int32)), .val (.ref w_IF_NOT_EXTERNAL), .val (.int (1 : Int32)), .unset, .unset] [(.int (1 : Int32))])
      refine Go.st (fun _ k => XS.istore X30.here hx rfl (hb hby at_83) rfl (l' := #[.val (.int p0), .val (.int p1), .val (.int (2 : Int32)), .val (.int (0 : Int32)), .val (.ref w_IF_NOT_EXTERNAL), .val (.int (1 : Int32)), .val (.int (1 : Int32)), .unset]) rfl k) ?_
      show Go _ _ _ _ _ _ _ T30 (mkF m 85 #[.val (.int p0), .val (.int p1), .val (.int (2 : Int32)), .val (.int (0 : Int32)), .val (.ref w_IF_NOT_EXTERNAL), .val (.int (1 : Int32)), .val (.int (1 : Int32)), .unset] [])
      obtain ⟨T31, X31, e31, st31⟩ := getS2 X30 hx hZ hown (host := "") (Or.inl (hw _ (List.mem_of_getElem? (i := 18) rfl))) Via.refl e30 S_IF_EXTERNAL (g := (mkF m 85 #[.val (.int p0), .val (.int p1), .val (.int (2 : Int32)), .val (.int (0 : Int32)), .val (.ref w_IF_NOT_EXTERNAL), .val (.int (1 : Int32)), .val (.int (1 : Int32)), .unset] [])) rfl (hb hby at_85)
      refine Go.st st31 ?_
      show Go _ _ _ _ _ _ _ T31 (mkF m 88 #[.val (.int p0), .val (.int p1), .val (.int (2 : Int32)), .val (.int (0 : Int32)), .val (.ref w_IF_NOT_EXTERNAL), .val (.int (1 : Int32)), .val (.int (1 : Int32)), .unset] [(.ref w_IF_EXTERNAL)])
      refine Go.st (fun _ k => XS.iloadN X31.here hx rfl (hb hby at_88) rfl k) ?_
      show Go _ _ _ _ _ _ _ T31 (mkF m 89 #[.val (.int p0), .val (.int p1), .val (.int (2 : Int32)), .val (.int (0 : Int32)), .val (.ref w_IF_NOT_EXTERNAL), .val (.int (1 : Int32)), .val (.int (1 : Int32)), .unset] [(.int (0 : Int32)), (.ref w_IF_EXTERNAL)])
      obtain ⟨cq32, kq32, q32a, q32b, q32c⟩ := isOf hZ e31 E_IF_EXTERNAL
      obtain ⟨_, _, ⟨T32, L32, k32, n32⟩, -, X32, ⟨Lc32, hQ32, l32, y32, z32⟩, st32⟩ := X31.virtualBack hx (y := (⟨"com/example/gatefold/gatefold/Condition", "holdsFor", "(Z)Z"⟩ : MethodName)) (z := (⟨"com/example/gatefold/gatefold/Condition", "holdsFor", "(Z)Z"⟩ : MethodName)) hown (mvT hZ (hw _ (List.mem_of_getElem? (i := 4) rfl))) (mvT hZ (hw _ (List.mem_of_getElem? (i := 5) rfl))) (notFace_of_selects (args := #[]) (mvT hZ (hw _ (List.mem_of_getElem? (i := 7) rfl)))) (mvT hZ (hw _ (List.mem_of_getElem? (i := 7) rfl))) (mvT hZ (hw _ (List.mem_of_getElem? (i := 6) rfl))) (by decide) (backOf (W := 0) (rm1 l Z a0 hw [] w_IF_EXTERNAL (0 : Int32) (1 : Int32) h0 n0 Z0 E_IF_EXTERNAL F_IF_EXTERNAL_ordinal (Or.inr (Or.inl rfl))) hZ (hw _ (List.mem_of_getElem? (i := 8) rfl)) (hw _ (List.mem_of_getElem? (i := 2) rfl)) (by decide) (by decide)) q32a q32c (g := (mkF m 89 #[.val (.int p0), .val (.int p1), .val (.int (2 : Int32)), .val (.int (0 : Int32)), .val (.ref w_IF_NOT_EXTERNAL), .val (.int (1 : Int32)), .val (.int (1 : Int32)), .unset] [(.int (0 : Int32)), (.ref w_IF_EXTERNAL)])) rfl (by rw [hml]; rfl) (Steps.refl _) (argsL := [(.int (0 : Int32))]) (rest := []) (lenOf pd_1 rfl) rfl (by show 2 * 0 + _ ≤ _; exact Nat.le_of_eq rfl) (hb hby at_89) (fun _ _ => ⟨rfl, e31, (by decide : 0 + 0 ≤ _), (by decide : 0 + 0 ≤ _)⟩)
      dsimp only [Pt.U, Pt.locs, Pt.cells, Pt.slots] at X32 l32 y32 z32 st32 hQ32
      subst l32 y32 z32
      obtain ⟨rfl, N32q, e32⟩ := hQ32
      have N32 := Fr.app N30 N32q
      refine Go.st (fun _ k => st32.trans k) ?_
      show Go _ _ _ _ _ _ _ T32 (mkF m 92 #[.val (.int p0), .val (.int p1), .val (.int (2 : Int32)), .val (.int (0 : Int32)), .val (.ref w_IF_NOT_EXTERNAL), .val (.int (1 : Int32)), .val (.int (1 : Int32)), .unset] [(.int (val_1 w_IF_EXTERNAL (0 : Int32) (1 : Int32)))])
      rw [show (val_1 w_IF_EXTERNAL (0 : Int32) (1 : Int32)) = (0 : Int32) from by unfold val_1; rw [if_neg (by decide +kernel : ¬ ((1 : Int32) = (0 : Int32))), if_pos (by decide +kernel : (1 : Int32) = (1 : Int32))]; decide +kernel]
      show Go _ _ _ _ _ _ _ T32 (mkF m 92 #[.val (.int p0), .val (.int p1), .val (.int (2 : Int32)), .val (.int (0 : Int32)), .val (.ref w_IF_NOT_EXTERNAL), .val (.int (1 : Int32)), .val (.int (1 : Int32)), .unset] [(.int (0 : Int32))])
      obtain ⟨T33, X33, e33, st33⟩ := getS2 X32 hx hZ hown (host := "") (Or.inl (hw _ (List.mem_of_getElem? (i := 20) rfl))) Via.refl e32 S_IF_NOT_EXTERNAL (g := (mkF m 92 #[.val (.int p0), .val (.int p1), .val (.int (2 : Int32)), .val (.int (0 : Int32)), .val (.ref w_IF_NOT_EXTERNAL), .val (.int (1 : Int32)), .val (.int (1 : Int32)), .unset] [(.int (0 : Int32))])) rfl (hb hby at_92)
      refine Go.st st33 ?_
      show Go _ _ _ _ _ _ _ T33 (mkF m 95 #[.val (.int p0), .val (.int p1), .val (.int (2 : Int32)), .val (.int (0 : Int32)), .val (.ref w_IF_NOT_EXTERNAL), .val (.int (1 : Int32)), .val (.int (1 : Int32)), .unset] [(.ref w_IF_NOT_EXTERNAL), (.int (0 : Int32))])
      refine Go.st (fun _ k => XS.iloadN X33.here hx rfl (hb hby at_95) rfl k) ?_
      show Go _ _ _ _ _ _ _ T33 (mkF m 96 #[.val (.int p0), .val (.int p1), .val (.int (2 : Int32)), .val (.int (0 : Int32)), .val (.ref w_IF_NOT_EXTERNAL), .val (.int (1 : Int32)), .val (.int (1 : Int32)), .unset] [(.int (0 : Int32)), (.ref w_IF_NOT_EXTERNAL), (.int (0 : Int32))])
      obtain ⟨cq34, kq34, q34a, q34b, q34c⟩ := isOf hZ e33 E_IF_NOT_EXTERNAL
      obtain ⟨_, _, ⟨T34, L34, k34, n34⟩, -, X34, ⟨Lc34, hQ34, l34, y34, z34⟩, st34⟩ := X33.virtualBack hx (y := (⟨"com/example/gatefold/gatefold/Condition", "holdsFor", "(Z)Z"⟩ : MethodName)) (z := (⟨"com/example/gatefold/gatefold/Condition", "holdsFor", "(Z)Z"⟩ : MethodName)) hown (mvT hZ (hw _ (List.mem_of_getElem? (i := 4) rfl))) (mvT hZ (hw _ (List.mem_of_getElem? (i := 5) rfl))) (notFace_of_selects (args := #[]) (mvT hZ (hw _ (List.mem_of_getElem? (i := 7) rfl)))) (mvT hZ (hw _ (List.mem_of_getElem? (i := 7) rfl))) (mvT hZ (hw _ (List.mem_of_getElem? (i := 6) rfl))) (by decide) (backOf (W := 1) (rm1 l Z a0 hw [] w_IF_NOT_EXTERNAL (0 : Int32) (2 : Int32) h0 n0 Z0 E_IF_NOT_EXTERNAL F_IF_NOT_EXTERNAL_ordinal (Or.inr (Or.inr (rfl)))) hZ (hw _ (List.mem_of_getElem? (i := 8) rfl)) (hw _ (List.mem_of_getElem? (i := 2) rfl)) (by decide) (by decide)) q34a q34c (g := (mkF m 96 #[.val (.int p0), .val (.int p1), .val (.int (2 : Int32)), .val (.int (0 : Int32)), .val (.ref w_IF_NOT_EXTERNAL), .val (.int (1 : Int32)), .val (.int (1 : Int32)), .unset] [(.int (0 : Int32)), (.ref w_IF_NOT_EXTERNAL), (.int (0 : Int32))])) rfl (by rw [hml]; rfl) (Steps.refl _) (argsL := [(.int (0 : Int32))]) (rest := [(.int (0 : Int32))]) (lenOf pd_1 rfl) rfl (by show 2 * 0 + _ ≤ _; exact Nat.le_of_eq rfl) (hb hby at_96) (fun _ _ => ⟨rfl, e33, (by decide : 0 + 0 ≤ _), (by decide : 0 + 0 ≤ _)⟩)
      dsimp only [Pt.U, Pt.locs, Pt.cells, Pt.slots] at X34 l34 y34 z34 st34 hQ34
      subst l34 y34 z34
      obtain ⟨rfl, N34q, e34⟩ := hQ34
      have N34 := Fr.app N32 N34q
      refine Go.st (fun _ k => st34.trans k) ?_
      show Go _ _ _ _ _ _ _ T34 (mkF m 99 #[.val (.int p0), .val (.int p1), .val (.int (2 : Int32)), .val (.int (0 : Int32)), .val (.ref w_IF_NOT_EXTERNAL), .val (.int (1 : Int32)), .val (.int (1 : Int32)), .unset] [(.int (val_1 w_IF_NOT_EXTERNAL (0 : Int32) (2 : Int32))), (.int (0 : Int32))])
      rw [show (val_1 w_IF_NOT_EXTERNAL (0 : Int32) (2 : Int32)) = (1 : Int32) from by unfold val_1; rw [if_neg (by decide +kernel : ¬ ((2 : Int32) = (0 : Int32))), if_neg (by decide +kernel : ¬ ((2 : Int32) = (1 : Int32))), if_pos (by decide +kernel : (0 : Int32) = (0 : Int32))]]
      show Go _ _ _ _ _ _ _ T34 (mkF m 99 #[.val (.int p0), .val (.int p1), .val (.int (2 : Int32)), .val (.int (0 : Int32)), .val (.ref w_IF_NOT_EXTERNAL), .val (.int (1 : Int32)), .val (.int (1 : Int32)), .unset] [(.int (1 : Int32)), (.int (0 : Int32))])
      refine Go.st (fun _ k => XS.icmpNo X34.here hx rfl (hb hby at_99) rfl (feq (by decide : ¬ ((0 : Int32) = (1 : Int32)))).1 k) ?_
      show Go _ _ _ _ _ _ _ T34 (mkF m 102 #[.val (.int p0), .val (.int p1), .val (.int (2 : Int32)), .val (.int (0 : Int32)), .val (.ref w_IF_NOT_EXTERNAL), .val (.int (1 : Int32)), .val (.int (1 : Int32)), .unset] [])
      refine Go.st (fun _ k => XS.iconst X34.here hx rfl (hb hby at_102) k) ?_
      show Go _ _ _ _ _ _ _ T34 (mkF m 103 #[.val (.int p0), .val (.int p1), .val (.int (2 : Int32)), .val (.int (0 : Int32)), .val (.ref w_IF_NOT_EXTERNAL), .val (.int (1 : Int32)), .val (.int (1 : Int32)), .unset] [(.int (1 : Int32))])
      refine Go.st (fun _ k => XS.goto X34.here hx rfl (pc0 := 103) (pc' := 107) rfl (hb hby at_103) (by decide) (by decide) k) ?_
      show Go _ _ _ _ _ _ _ T34 (mkF m 107 #[.val (.int p0), .val (.int p1), .val (.int (2 : Int32)), .val (.int (0 : Int32)), .val (.ref w_IF_NOT_EXTERNAL), .val (.int (1 : Int32)), .val (.int (1 : Int32)), .unset] [(.int (1 : Int32))])
      refine Go.st (fun _ k => XS.istore X34.here hx rfl (hb hby at_107) rfl (l' := #[.val (.int p0), .val (.int p1), .val (.int (2 : Int32)), .val (.int (0 : Int32)), .val (.ref w_IF_NOT_EXTERNAL), .val (.int (1 : Int32)), .val (.int (1 : Int32)), .val (.int (1 : Int32))]) rfl k) ?_
      show Go _ _ _ _ _ _ _ T34 (mkF m 109 #[.val (.int p0), .val (.int p1), .val (.int (2 : Int32)), .val (.int (0 : Int32)), .val (.ref w_IF_NOT_EXTERNAL), .val (.int (1 : Int32)), .val (.int (1 : Int32)), .val (.int (1 : Int32))] [])
      refine Go.st (fun _ k => XS.iload X34.here hx rfl (hb hby at_109) rfl k) ?_
      show Go _ _ _ _ _ _ _ T34 (mkF m 111 #[.val (.int p0), .val (.int p1), .val (.int (2 : Int32)), .val (.int (0 : Int32)), .val (.ref w_IF_NOT_EXTERNAL), .val (.int (1 : Int32)), .val (.int (1 : Int32)), .val (.int (1 : Int32))] [(.int (1 : Int32))])
      refine Go.st (fun _ k => XS.iload X34.here hx rfl (hb hby at_111) rfl k) ?_
      show Go _ _ _ _ _ _ _ T34 (mkF m 113 #[.val (.int p0), .val (.int p1), .val (.int (2 : Int32)), .val (.int (0 : Int32)), .val (.ref w_IF_NOT_EXTERNAL), .val (.int (1 : Int32)), .val (.int (1 : Int32)), .val (.int (1 : Int32))] [(.int (1 : Int32)), (.int (1 : Int32))])
      refine Go.st (fun _ k => XS.icmpNo X34.here hx rfl (hb hby at_113) rfl (teq (by decide : (1 : Int32) = (1 : Int32))).2 k) ?_
      show Go _ _ _ _ _ _ _ T34 (mkF m 116 #[.val (.int p0), .val (.int p1), .val (.int (2 : Int32)), .val (.int (0 : Int32)), .val (.ref w_IF_NOT_EXTERNAL), .val (.int (1 : Int32)), .val (.int (1 : Int32)), .val (.int (1 : Int32))] [])
      refine Go.st (fun _ k => XS.iload X34.here hx rfl (hb hby at_116) rfl k) ?_
      show Go _ _ _ _ _ _ _ T34 (mkF m 118 #[.val (.int p0), .val (.int p1), .val (.int (2 : Int32)), .val (.int (0 : Int32)), .val (.ref w_IF_NOT_EXTERNAL), .val (.int (1 : Int32)), .val (.int (1 : Int32)), .val (.int (1 : Int32))] [(.int (1 : Int32))])
      refine Go.st (fun _ k => XS.ifNo X34.here hx rfl (hb hby at_118) rfl ((if0 _ _).trans (feq (by decide : ¬ ((1 : Int32) = (0 : Int32)))).1) k) ?_
      show Go _ _ _ _ _ _ _ T34 (mkF m 121 #[.val (.int p0), .val (.int p1), .val (.int (2 : Int32)), .val (.int (0 : Int32)), .val (.ref w_IF_NOT_EXTERNAL), .val (.int (1 : Int32)), .val (.int (1 : Int32)), .val (.int (1 : Int32))] [])
      refine Go.st (fun _ k => XS.iconst X34.here hx rfl (hb hby at_121) k) ?_
      show Go _ _ _ _ _ _ _ T34 (mkF m 122 #[.val (.int p0), .val (.int p1), .val (.int (2 : Int32)), .val (.int (0 : Int32)), .val (.ref w_IF_NOT_EXTERNAL), .val (.int (1 : Int32)), .val (.int (1 : Int32)), .val (.int (1 : Int32))] [(.int (1 : Int32))])
      refine Go.st (fun _ k => XS.goto X34.here hx rfl (pc0 := 122) (pc' := 126) rfl (hb hby at_122) (by decide) (by decide) k) ?_
      show Go _ _ _ _ _ _ _ T34 (mkF m 126 #[.val (.int p0), .val (.int p1), .val (.int (2 : Int32)), .val (.int (0 : Int32)), .val (.ref w_IF_NOT_EXTERNAL), .val (.int (1 : Int32)), .val (.int (1 : Int32)), .val (.int (1 : Int32))] [(.int (1 : Int32))])
      refine Go.ret X34 hlk (v := some (.int (1 : Int32))) (fun h => by rw [hret] at h; cases h) (fun fs hr => retN X34 hx (t := .boolean) hret (by simp) (hb hby at_126) hr) ?_ (by decide) (by decide)
      show Q0 Z p0 p1 w_ALWAYS w_IF_EXTERNAL w_IF_NOT_EXTERNAL h0 n0 (some (.int (1 : Int32))) T34.heap _
      rw [e34]
      exact ⟨rfl, N34⟩
    · rw [hk28]
      show Go _ _ _ _ _ _ _ s₁ (mkF m 10 #[.val (.int p0), .val (.int p1), .val (.int (2 : Int32)), .unset, .unset, .unset, .unset, .unset] [(.int (1 : Int32))])
      refine Go.st (fun _ k => XS.ifNo X0.here hx rfl (hb hby at_10) rfl ((if0 _ _).trans (feq (by decide : ¬ ((1 : Int32) = (0 : Int32)))).1) k) ?_
      show Go _ _ _ _ _ _ _ s₁ (mkF m 13 #[.val (.int p0), .val (.int p1), .val (.int (2 : Int32)), .unset, .unset, .unset, .unset, .unset] [])
      refine Go.st (fun _ k => XS.iconst X0.here hx rfl (hb hby at_13) k) ?_
      show Go _ _ _ _ _ _ _ s₁ (mkF m 14 #[.val (.int p0), .val (.int p1), .val (.int (2 : Int32)), .unset, .unset, .unset, .unset, .unset] [(.int (1 : Int32))])
      refine Go.st (fun _ k => XS.goto X0.here hx rfl (pc0 := 14) (pc' := 18) rfl (hb hby at_14) (by decide) (by decide) k) ?_
      show Go _ _ _ _ _ _ _ s₁ (mkF m 18 #[.val (.int p0), .val (.int p1), .val (.int (2 : Int32)), .unset, .unset, .unset, .unset, .unset] [(.int (1 : Int32))])
      refine Go.st (fun _ k => XS.istoreN X0.here hx rfl (hb hby at_18) rfl (l' := #[.val (.int p0), .val (.int p1), .val (.int (2 : Int32)), .val (.int (1 : Int32)), .unset, .unset, .unset, .unset]) rfl k) ?_
      show Go _ _ _ _ _ _ _ s₁ (mkF m 19 #[.val (.int p0), .val (.int p1), .val (.int (2 : Int32)), .val (.int (1 : Int32)), .unset, .unset, .unset, .unset] [])
      refine Go.st (fun _ k => XS.iloadN X0.here hx rfl (hb hby at_19) rfl k) ?_
      show Go _ _ _ _ _ _ _ s₁ (mkF m 20 #[.val (.int p0), .val (.int p1), .val (.int (2 : Int32)), .val (.int (1 : Int32)), .unset, .unset, .unset, .unset] [(.int (2 : Int32))])
      refine Go.st (fun _ k => XS.ifYes X0.here hx rfl (pc0 := 20) (pc' := 29) rfl (hb hby at_20) rfl ((if0 _ _).trans (feq (by decide : ¬ ((2 : Int32) = (0 : Int32)))).2) (by decide) (by decide) k) ?_
      show Go _ _ _ _ _ _ _ s₁ (mkF m 29 #[.val (.int p0), .val (.int p1), .val (.int (2 : Int32)), .val (.int (1 : Int32)), .unset, .unset, .unset, .unset] [])
      refine Go.st (fun _ k => XS.iloadN X0.here hx rfl (hb hby at_29) rfl k) ?_
      show Go _ _ _ _ _ _ _ s₁ (mkF m 30 #[.val (.int p0), .val (.int p1), .val (.int (2 : Int32)), .val (.int (1 : Int32)), .unset, .unset, .unset, .unset] [(.int (2 : Int32))])
      refine Go.st (fun _ k => XS.iconst X0.here hx rfl (hb hby at_30) k) ?_
      show Go _ _ _ _ _ _ _ s₁ (mkF m 31 #[.val (.int p0), .val (.int p1), .val (.int (2 : Int32)), .val (.int (1 : Int32)), .unset, .unset, .unset, .unset] [(.int (1 : Int32)), (.int (2 : Int32))])
      refine Go.st (fun _ k => XS.icmpYes X0.here hx rfl (pc0 := 31) (pc' := 40) rfl (hb hby at_31) rfl (feq (by decide : ¬ ((2 : Int32) = (1 : Int32)))).2 (by decide) (by decide) k) ?_
      show Go _ _ _ _ _ _ _ s₁ (mkF m 40 #[.val (.int p0), .val (.int p1), .val (.int (2 : Int32)), .val (.int (1 : Int32)), .unset, .unset, .unset, .unset] [])
      obtain ⟨T35, X35, e35, st35⟩ := getS2 X0 hx hZ hown (host := "") (Or.inl (hw _ (List.mem_of_getElem? (i := 20) rfl))) Via.refl e0 S_IF_NOT_EXTERNAL (g := (mkF m 40 #[.val (.int p0), .val (.int p1), .val (.int (2 : Int32)), .val (.int (1 : Int32)), .unset, .unset, .unset, .unset] [])) rfl (hb hby at_40)
      refine Go.st st35 ?_
      show Go _ _ _ _ _ _ _ T35 (mkF m 43 #[.val (.int p0), .val (.int p1), .val (.int (2 : Int32)), .val (.int (1 : Int32)), .unset, .unset, .unset, .unset] [(.ref w_IF_NOT_EXTERNAL)])
      refine Go.st (fun _ k => XS.astore X35.here hx rfl (hb hby at_43) rfl rfl (l' := #[.val (.int p0), .val (.int p1), .val (.int (2 : Int32)), .val (.int (1 : Int32)), .val (.ref w_IF_NOT_EXTERNAL), .unset, .unset, .unset]) rfl k) ?_
      show Go _ _ _ _ _ _ _ T35 (mkF m 45 #[.val (.int p0), .val (.int p1), .val (.int (2 : Int32)), .val (.int (1 : Int32)), .val (.ref w_IF_NOT_EXTERNAL), .unset, .unset, .unset] [])
      refine Go.st (fun _ k => XS.iloadN X35.here hx rfl (hb hby at_45) rfl k) ?_
      show Go _ _ _ _ _ _ _ T35 (mkF m 46 #[.val (.int p0), .val (.int p1), .val (.int (2 : Int32)), .val (.int (1 : Int32)), .val (.ref w_IF_NOT_EXTERNAL), .unset, .unset, .unset] [(.int (2 : Int32))])
      refine Go.st (fun _ k => XS.ifYes X35.here hx rfl (pc0 := 46) (pc' := 55) rfl (hb hby at_46) rfl ((if0 _ _).trans (feq (by decide : ¬ ((2 : Int32) = (0 : Int32)))).2) (by decide) (by decide) k) ?_
      show Go _ _ _ _ _ _ _ T35 (mkF m 55 #[.val (.int p0), .val (.int p1), .val (.int (2 : Int32)), .val (.int (1 : Int32)), .val (.ref w_IF_NOT_EXTERNAL), .unset, .unset, .unset] [])
      refine Go.st (fun _ k => XS.iloadN X35.here hx rfl (hb hby at_55) rfl k) ?_
      show Go _ _ _ _ _ _ _ T35 (mkF m 56 #[.val (.int p0), .val (.int p1), .val (.int (2 : Int32)), .val (.int (1 : Int32)), .val (.ref w_IF_NOT_EXTERNAL), .unset, .unset, .unset] [(.int (2 : Int32))])
      refine Go.st (fun _ k => XS.iconst X35.here hx rfl (hb hby at_56) k) ?_
      show Go _ _ _ _ _ _ _ T35 (mkF m 57 #[.val (.int p0), .val (.int p1), .val (.int (2 : Int32)), .val (.int (1 : Int32)), .val (.ref w_IF_NOT_EXTERNAL), .unset, .unset, .unset] [(.int (1 : Int32)), (.int (2 : Int32))])
      refine Go.st (fun _ k => XS.icmpYes X35.here hx rfl (pc0 := 57) (pc' := 66) rfl (hb hby at_57) rfl (feq (by decide : ¬ ((2 : Int32) = (1 : Int32)))).2 (by decide) (by decide) k) ?_
      show Go _ _ _ _ _ _ _ T35 (mkF m 66 #[.val (.int p0), .val (.int p1), .val (.int (2 : Int32)), .val (.int (1 : Int32)), .val (.ref w_IF_NOT_EXTERNAL), .unset, .unset, .unset] [])
      refine Go.st (fun _ k => XS.iloadN X35.here hx rfl (hb hby at_66) rfl k) ?_
      show Go _ _ _ _ _ _ _ T35 (mkF m 67 #[.val (.int p0), .val (.int p1), .val (.int (2 : Int32)), .val (.int (1 : Int32)), .val (.ref w_IF_NOT_EXTERNAL), .unset, .unset, .unset] [(.int (1 : Int32))])
      refine Go.st (fun _ k => XS.ifYes X35.here hx rfl (pc0 := 67) (pc' := 74) rfl (hb hby at_67) rfl ((if0 _ _).trans (feq (by decide : ¬ ((1 : Int32) = (0 : Int32)))).2) (by decide) (by decide) k) ?_
      show Go _ _ _ _ _ _ _ T35 (mkF m 74 #[.val (.int p0), .val (.int p1), .val (.int (2 : Int32)), .val (.int (1 : Int32)), .val (.ref w_IF_NOT_EXTERNAL), .unset, .unset, .unset] [])
      refine Go.st (fun _ k => XS.iconst X35.here hx rfl (hb hby at_74) k) ?_
      show Go _ _ _ _ _ _ _ T35 (mkF m 75 #[.val (.int p0), .val (.int p1), .val (.int (2 : Int32)), .val (.int (1 : Int32)), .val (.ref w_IF_NOT_EXTERNAL), .unset, .unset, .unset] [(.int (0 : Int32))])
      refine Go.st (fun _ k => XS.istore X35.here hx rfl (hb hby at_75) rfl (l' := #[.val (.int p0), .val (.int p1), .val (.int (2 : Int32)), .val (.int (1 : Int32)), .val (.ref w_IF_NOT_EXTERNAL), .val (.int (0 : Int32)), .unset, .unset]) rfl k) ?_
      show Go _ _ _ _ _ _ _ T35 (mkF m 77 #[.val (.int p0), .val (.int p1), .val (.int (2 : Int32)), .val (.int (1 : Int32)), .val (.ref w_IF_NOT_EXTERNAL), .val (.int (0 : Int32)), .unset, .unset] [])
      refine Go.st (fun _ k => XS.aload X35.here hx rfl (hb hby at_77) rfl rfl k) ?_
      show Go _ _ _ _ _ _ _ T35 (mkF m 79 #[.val (.int p0), .val (.int p1), .val (.int (2 : Int32)), .val (.int (1 : Int32)), .val (.ref w_IF_NOT_EXTERNAL), .val (.int (0 : Int32)), .unset, .unset] [(.ref w_IF_NOT_EXTERNAL)])
      refine Go.st (fun _ k => XS.iloadN X35.here hx rfl (hb hby at_79) rfl k) ?_
      show Go _ _ _ _ _ _ _ T35 (mkF m 80 #[.val (.int p0), .val (.int p1), .val (.int (2 : Int32)), .val (.int (1 : Int32)), .val (.ref w_IF_NOT_EXTERNAL), .val (.int (0 : Int32)), .unset, .unset] [(.int (1 : Int32)), (.ref w_IF_NOT_EXTERNAL)])
      obtain ⟨cq36, kq36, q36a, q36b, q36c⟩ := isOf hZ e35 E_IF_NOT_EXTERNAL
      obtain ⟨_, _, ⟨T36, L36, k36, n36⟩, -, X36, ⟨Lc36, hQ36, l36, y36, z36⟩, st36⟩ := X35.virtualBack hx (y := (⟨"com/example/gatefold/gatefold/Condition", "holdsFor", "(Z)Z"⟩ : MethodName)) (z := (⟨"com/example/gatefold/gatefold/Condition", "holdsFor", "(Z)Z"⟩ : MethodName)) hown (mvT hZ (hw _ (List.mem_of_getElem? (i := 4) rfl))) (mvT hZ (hw _ (List.mem_of_getElem? (i := 5) rfl))) (notFace_of_selects (args := #[]) (mvT hZ (hw _ (List.mem_of_getElem? (i := 7) rfl)))) (mvT hZ (hw _ (List.mem_of_getElem? (i := 7) rfl))) (mvT hZ (hw _ (List.mem_of_getElem? (i := 6) rfl))) (by decide) (backOf (W := 0) (rm1 l Z a0 hw [] w_IF_NOT_EXTERNAL (1 : Int32) (2 : Int32) h0 n0 Z0 E_IF_NOT_EXTERNAL F_IF_NOT_EXTERNAL_ordinal (Or.inr (Or.inr (rfl)))) hZ (hw _ (List.mem_of_getElem? (i := 8) rfl)) (hw _ (List.mem_of_getElem? (i := 2) rfl)) (by decide) (by decide)) q36a q36c (g := (mkF m 80 #[.val (.int p0), .val (.int p1), .val (.int (2 : Int32)), .val (.int (1 : Int32)), .val (.ref w_IF_NOT_EXTERNAL), .val (.int (0 : Int32)), .unset, .unset] [(.int (1 : Int32)), (.ref w_IF_NOT_EXTERNAL)])) rfl (by rw [hml]; rfl) (Steps.refl _) (argsL := [(.int (1 : Int32))]) (rest := []) (lenOf pd_1 rfl) rfl (by show 2 * 0 + _ ≤ _; exact Nat.le_of_eq rfl) (hb hby at_80) (fun _ _ => ⟨rfl, e35, (by decide : 0 + 0 ≤ _), (by decide : 0 + 0 ≤ _)⟩)
      dsimp only [Pt.U, Pt.locs, Pt.cells, Pt.slots] at X36 l36 y36 z36 st36 hQ36
      subst l36 y36 z36
      obtain ⟨rfl, N36q, e36⟩ := hQ36
      have N36 := Fr.app N0 N36q
      refine Go.st (fun _ k => st36.trans k) ?_
      show Go _ _ _ _ _ _ _ T36 (mkF m 83 #[.val (.int p0), .val (.int p1), .val (.int (2 : Int32)), .val (.int (1 : Int32)), .val (.ref w_IF_NOT_EXTERNAL), .val (.int (0 : Int32)), .unset, .unset] [(.int (val_1 w_IF_NOT_EXTERNAL (1 : Int32) (2 : Int32)))])
      rw [show (val_1 w_IF_NOT_EXTERNAL (1 : Int32) (2 : Int32)) = (0 : Int32) from by unfold val_1; rw [if_neg (by decide +kernel : ¬ ((2 : Int32) = (0 : Int32))), if_neg (by decide +kernel : ¬ ((2 : Int32) = (1 : Int32))), if_neg (by decide +kernel : ¬ ((1 : Int32) = (0 : Int32)))]]
      show Go _ _ _ _ _ _ _ T36 (mkF m 83 #[.val (.int p0), .val (.int p1), .val (.int (2 : Int32)), .val (.int (1 : Int32)), .val (.ref w_IF_NOT_EXTERNAL), .val (.int (0 : Int32)), .unset, .unset] [(.int (0 : Int32))])
      refine Go.st (fun _ k => XS.istore X36.here hx rfl (hb hby at_83) rfl (l' := #[.val (.int p0), .val (.int p1), .val (.int (2 : Int32)), .val (.int (1 : Int32)), .val (.ref w_IF_NOT_EXTERNAL), .val (.int (0 : Int32)), .val (.int (0 : Int32)), .unset]) rfl k) ?_
      show Go _ _ _ _ _ _ _ T36 (mkF m 85 #[.val (.int p0), .val (.int p1), .val (.int (2 : Int32)), .val (.int (1 : Int32)), .val (.ref w_IF_NOT_EXTERNAL), .val (.int (0 : Int32)), .val (.int (0 : Int32)), .unset] [])
      obtain ⟨T37, X37, e37, st37⟩ := getS2 X36 hx hZ hown (host := "") (Or.inl (hw _ (List.mem_of_getElem? (i := 18) rfl))) Via.refl e36 S_IF_EXTERNAL (g := (mkF m 85 #[.val (.int p0), .val (.int p1), .val (.int (2 : Int32)), .val (.int (1 : Int32)), .val (.ref w_IF_NOT_EXTERNAL), .val (.int (0 : Int32)), .val (.int (0 : Int32)), .unset] [])) rfl (hb hby at_85)
      refine Go.st st37 ?_
      show Go _ _ _ _ _ _ _ T37 (mkF m 88 #[.val (.int p0), .val (.int p1), .val (.int (2 : Int32)), .val (.int (1 : Int32)), .val (.ref w_IF_NOT_EXTERNAL), .val (.int (0 : Int32)), .val (.int (0 : Int32)), .unset] [(.ref w_IF_EXTERNAL)])
      refine Go.st (fun _ k => XS.iloadN X37.here hx rfl (hb hby at_88) rfl k) ?_
      show Go _ _ _ _ _ _ _ T37 (mkF m 89 #[.val (.int p0), .val (.int p1), .val (.int (2 : Int32)), .val (.int (1 : Int32)), .val (.ref w_IF_NOT_EXTERNAL), .val (.int (0 : Int32)), .val (.int (0 : Int32)), .unset] [(.int (1 : Int32)), (.ref w_IF_EXTERNAL)])
      obtain ⟨cq38, kq38, q38a, q38b, q38c⟩ := isOf hZ e37 E_IF_EXTERNAL
      obtain ⟨_, _, ⟨T38, L38, k38, n38⟩, -, X38, ⟨Lc38, hQ38, l38, y38, z38⟩, st38⟩ := X37.virtualBack hx (y := (⟨"com/example/gatefold/gatefold/Condition", "holdsFor", "(Z)Z"⟩ : MethodName)) (z := (⟨"com/example/gatefold/gatefold/Condition", "holdsFor", "(Z)Z"⟩ : MethodName)) hown (mvT hZ (hw _ (List.mem_of_getElem? (i := 4) rfl))) (mvT hZ (hw _ (List.mem_of_getElem? (i := 5) rfl))) (notFace_of_selects (args := #[]) (mvT hZ (hw _ (List.mem_of_getElem? (i := 7) rfl)))) (mvT hZ (hw _ (List.mem_of_getElem? (i := 7) rfl))) (mvT hZ (hw _ (List.mem_of_getElem? (i := 6) rfl))) (by decide) (backOf (W := 0) (rm1 l Z a0 hw [] w_IF_EXTERNAL (1 : Int32) (1 : Int32) h0 n0 Z0 E_IF_EXTERNAL F_IF_EXTERNAL_ordinal (Or.inr (Or.inl rfl))) hZ (hw _ (List.mem_of_getElem? (i := 8) rfl)) (hw _ (List.mem_of_getElem? (i := 2) rfl)) (by decide) (by decide)) q38a q38c (g := (mkF m 89 #[.val (.int p0), .val (.int p1), .val (.int (2 : Int32)), .val (.int (1 : Int32)), .val (.ref w_IF_NOT_EXTERNAL), .val (.int (0 : Int32)), .val (.int (0 : Int32)), .unset] [(.int (1 : Int32)), (.ref w_IF_EXTERNAL)])) rfl (by rw [hml]; rfl) (Steps.refl _) (argsL := [(.int (1 : Int32))]) (rest := []) (lenOf pd_1 rfl) rfl (by show 2 * 0 + _ ≤ _; exact Nat.le_of_eq rfl) (hb hby at_89) (fun _ _ => ⟨rfl, e37, (by decide : 0 + 0 ≤ _), (by decide : 0 + 0 ≤ _)⟩)
      dsimp only [Pt.U, Pt.locs, Pt.cells, Pt.slots] at X38 l38 y38 z38 st38 hQ38
      subst l38 y38 z38
      obtain ⟨rfl, N38q, e38⟩ := hQ38
      have N38 := Fr.app N36 N38q
      refine Go.st (fun _ k => st38.trans k) ?_
      show Go _ _ _ _ _ _ _ T38 (mkF m 92 #[.val (.int p0), .val (.int p1), .val (.int (2 : Int32)), .val (.int (1 : Int32)), .val (.ref w_IF_NOT_EXTERNAL), .val (.int (0 : Int32)), .val (.int (0 : Int32)), .unset] [(.int (val_1 w_IF_EXTERNAL (1 : Int32) (1 : Int32)))])
      rw [show (val_1 w_IF_EXTERNAL (1 : Int32) (1 : Int32)) = (1 : Int32) from by unfold val_1; rw [if_neg (by decide +kernel : ¬ ((1 : Int32) = (0 : Int32))), if_pos (by decide +kernel : (1 : Int32) = (1 : Int32))]; decide +kernel]
      show Go _ _ _ _ _ _ _ T38 (mkF m 92 #[.val (.int p0), .val (.int p1), .val (.int (2 : Int32)), .val (.int (1 : Int32)), .val (.ref w_IF_NOT_EXTERNAL), .val (.int (0 : Int32)), .val (.int (0 : Int32)), .unset] [(.int (1 : Int32))])
      obtain ⟨T39, X39, e39, st39⟩ := getS2 X38 hx hZ hown (host := "") (Or.inl (hw _ (List.mem_of_getElem? (i := 20) rfl))) Via.refl e38 S_IF_NOT_EXTERNAL (g := (mkF m 92 #[.val (.int p0), .val (.int p1), .val (.int (2 : Int32)), .val (.int (1 : Int32)), .val (.ref w_IF_NOT_EXTERNAL), .val (.int (0 : Int32)), .val (.int (0 : Int32)), .unset] [(.int (1 : Int32))])) rfl (hb hby at_92)
      refine Go.st st39 ?_
      show Go _ _ _ _ _ _ _ T39 (mkF m 95 #[.val (.int p0), .val (.int p1), .val (.int (2 : Int32)), .val (.int (1 : Int32)), .val (.ref w_IF_NOT_EXTERNAL), .val (.int (0 : Int32)), .val (.int (0 : Int32)), .unset] [(.ref w_IF_NOT_EXTERNAL), (.int (1 : Int32))])
      refine Go.st (fun _ k => XS.iloadN X39.here hx rfl (hb hby at_95) rfl k) ?_
      show Go _ _ _ _ _ _ _ T39 (mkF m 96 #[.val (.int p0), .val (.int p1), .val (.int (2 : Int32)), .val (.int (1 : Int32)), .val (.ref w_IF_NOT_EXTERNAL), .val (.int (0 : Int32)), .val (.int (0 : Int32)), .unset] [(.int (1 : Int32)), (.ref w_IF_NOT_EXTERNAL), (.int (1 : Int32))])
      obtain ⟨cq40, kq40, q40a, q40b, q40c⟩ := isOf hZ e39 E_IF_NOT_EXTERNAL
      obtain ⟨_, _, ⟨T40, L40, k40, n40⟩, -, X40, ⟨Lc40, hQ40, l40, y40, z40⟩, st40⟩ := X39.virtualBack hx (y := (⟨"com/example/gatefold/gatefold/Condition", "holdsFor", "(Z)Z"⟩ : MethodName)) (z := (⟨"com/example/gatefold/gatefold/Condition", "holdsFor", "(Z)Z"⟩ : MethodName)) hown (mvT hZ (hw _ (List.mem_of_getElem? (i := 4) rfl))) (mvT hZ (hw _ (List.mem_of_getElem? (i := 5) rfl))) (notFace_of_selects (args := #[]) (mvT hZ (hw _ (List.mem_of_getElem? (i := 7) rfl)))) (mvT hZ (hw _ (List.mem_of_getElem? (i := 7) rfl))) (mvT hZ (hw _ (List.mem_of_getElem? (i := 6) rfl))) (by decide) (backOf (W := 1) (rm1 l Z a0 hw [] w_IF_NOT_EXTERNAL (1 : Int32) (2 : Int32) h0 n0 Z0 E_IF_NOT_EXTERNAL F_IF_NOT_EXTERNAL_ordinal (Or.inr (Or.inr (rfl)))) hZ (hw _ (List.mem_of_getElem? (i := 8) rfl)) (hw _ (List.mem_of_getElem? (i := 2) rfl)) (by decide) (by decide)) q40a q40c (g := (mkF m 96 #[.val (.int p0), .val (.int p1), .val (.int (2 : Int32)), .val (.int (1 : Int32)), .val (.ref w_IF_NOT_EXTERNAL), .val (.int (0 : Int32)), .val (.int (0 : Int32)), .unset] [(.int (1 : Int32)), (.ref w_IF_NOT_EXTERNAL), (.int (1 : Int32))])) rfl (by rw [hml]; rfl) (Steps.refl _) (argsL := [(.int (1 : Int32))]) (rest := [(.int (1 : Int32))]) (lenOf pd_1 rfl) rfl (by show 2 * 0 + _ ≤ _; exact Nat.le_of_eq rfl) (hb hby at_96) (fun _ _ => ⟨rfl, e39, (by decide : 0 + 0 ≤ _), (by decide : 0 + 0 ≤ _)⟩)
      dsimp only [Pt.U, Pt.locs, Pt.cells, Pt.slots] at X40 l40 y40 z40 st40 hQ40
      subst l40 y40 z40
      obtain ⟨rfl, N40q, e40⟩ := hQ40
      have N40 := Fr.app N38 N40q
      refine Go.st (fun _ k => st40.trans k) ?_
      show Go _ _ _ _ _ _ _ T40 (mkF m 99 #[.val (.int p0), .val (.int p1), .val (.int (2 : Int32)), .val (.int (1 : Int32)), .val (.ref w_IF_NOT_EXTERNAL), .val (.int (0 : Int32)), .val (.int (0 : Int32)), .unset] [(.int (val_1 w_IF_NOT_EXTERNAL (1 : Int32) (2 : Int32))), (.int (1 : Int32))])
      rw [show (val_1 w_IF_NOT_EXTERNAL (1 : Int32) (2 : Int32)) = (0 : Int32) from by unfold val_1; rw [if_neg (by decide +kernel : ¬ ((2 : Int32) = (0 : Int32))), if_neg (by decide +kernel : ¬ ((2 : Int32) = (1 : Int32))), if_neg (by decide +kernel : ¬ ((1 : Int32) = (0 : Int32)))]]
      show Go _ _ _ _ _ _ _ T40 (mkF m 99 #[.val (.int p0), .val (.int p1), .val (.int (2 : Int32)), .val (.int (1 : Int32)), .val (.ref w_IF_NOT_EXTERNAL), .val (.int (0 : Int32)), .val (.int (0 : Int32)), .unset] [(.int (0 : Int32)), (.int (1 : Int32))])
      refine Go.st (fun _ k => XS.icmpNo X40.here hx rfl (hb hby at_99) rfl (feq (by decide : ¬ ((1 : Int32) = (0 : Int32)))).1 k) ?_
      show Go _ _ _ _ _ _ _ T40 (mkF m 102 #[.val (.int p0), .val (.int p1), .val (.int (2 : Int32)), .val (.int (1 : Int32)), .val (.ref w_IF_NOT_EXTERNAL), .val (.int (0 : Int32)), .val (.int (0 : Int32)), .unset] [])
      refine Go.st (fun _ k => XS.iconst X40.here hx rfl (hb hby at_102) k) ?_
      show Go _ _ _ _ _ _ _ T40 (mkF m 103 #[.val (.int p0), .val (.int p1), .val (.int (2 : Int32)), .val (.int (1 : Int32)), .val (.ref w_IF_NOT_EXTERNAL), .val (.int (0 : Int32)), .val (.int (0 : Int32)), .unset] [(.int (1 : Int32))])
      refine Go.st (fun _ k => XS.goto X40.here hx rfl (pc0 := 103) (pc' := 107) rfl (hb hby at_103) (by decide) (by decide) k) ?_
      show Go _ _ _ _ _ _ _ T40 (mkF m 107 #[.val (.int p0), .val (.int p1), .val (.int (2 : Int32)), .val (.int (1 : Int32)), .val (.ref w_IF_NOT_EXTERNAL), .val (.int (0 : Int32)), .val (.int (0 : Int32)), .unset] [(.int (1 : Int32))])
      refine Go.st (fun _ k => XS.istore X40.here hx rfl (hb hby at_107) rfl (l' := #[.val (.int p0), .val (.int p1), .val (.int (2 : Int32)), .val (.int (1 : Int32)), .val (.ref w_IF_NOT_EXTERNAL), .val (.int (0 : Int32)), .val (.int (0 : Int32)), .val (.int (1 : Int32))]) rfl k) ?_
      show Go _ _ _ _ _ _ _ T40 (mkF m 109 #[.val (.int p0), .val (.int p1), .val (.int (2 : Int32)), .val (.int (1 : Int32)), .val (.ref w_IF_NOT_EXTERNAL), .val (.int (0 : Int32)), .val (.int (0 : Int32)), .val (.int (1 : Int32))] [])
      refine Go.st (fun _ k => XS.iload X40.here hx rfl (hb hby at_109) rfl k) ?_
      show Go _ _ _ _ _ _ _ T40 (mkF m 111 #[.val (.int p0), .val (.int p1), .val (.int (2 : Int32)), .val (.int (1 : Int32)), .val (.ref w_IF_NOT_EXTERNAL), .val (.int (0 : Int32)), .val (.int (0 : Int32)), .val (.int (1 : Int32))] [(.int (0 : Int32))])
      refine Go.st (fun _ k => XS.iload X40.here hx rfl (hb hby at_111) rfl k) ?_
      show Go _ _ _ _ _ _ _ T40 (mkF m 113 #[.val (.int p0), .val (.int p1), .val (.int (2 : Int32)), .val (.int (1 : Int32)), .val (.ref w_IF_NOT_EXTERNAL), .val (.int (0 : Int32)), .val (.int (0 : Int32)), .val (.int (1 : Int32))] [(.int (0 : Int32)), (.int (0 : Int32))])
      refine Go.st (fun _ k => XS.icmpNo X40.here hx rfl (hb hby at_113) rfl (teq (by decide : (0 : Int32) = (0 : Int32))).2 k) ?_
      show Go _ _ _ _ _ _ _ T40 (mkF m 116 #[.val (.int p0), .val (.int p1), .val (.int (2 : Int32)), .val (.int (1 : Int32)), .val (.ref w_IF_NOT_EXTERNAL), .val (.int (0 : Int32)), .val (.int (0 : Int32)), .val (.int (1 : Int32))] [])
      refine Go.st (fun _ k => XS.iload X40.here hx rfl (hb hby at_116) rfl k) ?_
      show Go _ _ _ _ _ _ _ T40 (mkF m 118 #[.val (.int p0), .val (.int p1), .val (.int (2 : Int32)), .val (.int (1 : Int32)), .val (.ref w_IF_NOT_EXTERNAL), .val (.int (0 : Int32)), .val (.int (0 : Int32)), .val (.int (1 : Int32))] [(.int (1 : Int32))])
      refine Go.st (fun _ k => XS.ifNo X40.here hx rfl (hb hby at_118) rfl ((if0 _ _).trans (feq (by decide : ¬ ((1 : Int32) = (0 : Int32)))).1) k) ?_
      show Go _ _ _ _ _ _ _ T40 (mkF m 121 #[.val (.int p0), .val (.int p1), .val (.int (2 : Int32)), .val (.int (1 : Int32)), .val (.ref w_IF_NOT_EXTERNAL), .val (.int (0 : Int32)), .val (.int (0 : Int32)), .val (.int (1 : Int32))] [])
      refine Go.st (fun _ k => XS.iconst X40.here hx rfl (hb hby at_121) k) ?_
      show Go _ _ _ _ _ _ _ T40 (mkF m 122 #[.val (.int p0), .val (.int p1), .val (.int (2 : Int32)), .val (.int (1 : Int32)), .val (.ref w_IF_NOT_EXTERNAL), .val (.int (0 : Int32)), .val (.int (0 : Int32)), .val (.int (1 : Int32))] [(.int (1 : Int32))])
      refine Go.st (fun _ k => XS.goto X40.here hx rfl (pc0 := 122) (pc' := 126) rfl (hb hby at_122) (by decide) (by decide) k) ?_
      show Go _ _ _ _ _ _ _ T40 (mkF m 126 #[.val (.int p0), .val (.int p1), .val (.int (2 : Int32)), .val (.int (1 : Int32)), .val (.ref w_IF_NOT_EXTERNAL), .val (.int (0 : Int32)), .val (.int (0 : Int32)), .val (.int (1 : Int32))] [(.int (1 : Int32))])
      refine Go.ret X40 hlk (v := some (.int (1 : Int32))) (fun h => by rw [hret] at h; cases h) (fun fs hr => retN X40 hx (t := .boolean) hret (by simp) (hb hby at_126) hr) ?_ (by decide) (by decide)
      show Q0 Z p0 p1 w_ALWAYS w_IF_EXTERNAL w_IF_NOT_EXTERNAL h0 n0 (some (.int (1 : Int32))) T40.heap _
      rw [e40]
      exact ⟨rfl, N40⟩
set_option maxRecDepth 65536 in
set_option maxHeartbeats 40000000 in
theorem comes_1 {Post : Tables → Env → Array Value → State → Outcome → State → Prop} (hpost : ∀ tb e args s v u, (limb_1_1.after args s (.returned v) u = true ∧ limb_1_2.after args s (.returned v) u = true ∧ True) → FrameEnd s (.returned v) u (Jvm.fieldLocs frame_1_writes args s ++ Jvm.arrayLocs frame_1_arrays args s ++ Jvm.staticLocs frame_1_statics s) 0 0 → Post tb e args s (.returned v) u) :
    ArmFor flags0 classFile x code maxLocals ret World_1 tables_1 room_1 Calls_1 rest_1 Pre_1 Post := by
  intro l hfl _ _ p e ha hc hk s m args below hf hA hF happ hP
  obtain ⟨hcalls, hrest, hpre⟩ := hP
  obtain ⟨-, -, -, hnamed, -, -, -, hat⟩ := (Spec.applies_iff hf).mp happ
  obtain ⟨hg, hn⟩ := and_e (Cond.before_iff.mp (show (Jvm.Cond.and given_1 narrow_1).before args s = true from hpre))
  obtain ⟨g1, g2⟩ := and_e hg
  obtain ⟨g3, g4⟩ := and_e g2
  obtain ⟨w0, w1, rfl⟩ : ∃ w0 w1 : Value, args = #[w0, w1] := by
    have hs : args.size = 2 := by simpa [Cond.value, given_1] using g1
    obtain ⟨L⟩ := args
    match L, hs with
    | [w0, w1], _ => exact ⟨w0, w1, rfl⟩
  have hw := fun d (hd : d ∈ tables_1) => atoms_spec (ws := Jvm.Cond.code x code maxLocals ret :: tables_1) hat d (List.mem_cons_of_mem _ hd)
  have hfit : Fit s := fun {y c} hc i hi => by
    obtain ⟨ha, rfl⟩ := Array.getElem?_eq_some_iff.mp hc
    have q := List.all_eq_true.mp ((Array.all_eq_true_iff_forall_mem.mp hF) _ (Array.getElem_mem ha)) i (List.mem_range.mpr hi)
    simpa [Array.getElem?_eq_getElem hi] using q
  obtain ⟨i0, ei0⟩ := is_v g3
  obtain rfl : w0 = (.int i0) := Option.some.inj ei0
  obtain ⟨i1, ei1⟩ := is_v g4
  obtain rfl : w1 = (.int i1) := Option.some.inj ei1
  obtain ⟨g5, g6⟩ := and_e hn
  obtain ⟨g7, g8⟩ := and_e g6
  obtain ⟨g9, g10⟩ := and_e g8
  obtain ⟨g11, g12⟩ := and_e g10
  obtain ⟨g13, g14⟩ := and_e g12
  obtain ⟨w_ALWAYS, ev_ALWAYS⟩ := exa_v g5
  have S_ALWAYS := Sta.start ev_ALWAYS (Or.inr ⟨(hw _ (List.mem_of_getElem? (i := 2) rfl)), (hw _ (List.mem_of_getElem? (i := 3) rfl))⟩)
  have E_ALWAYS := Exa.start ev_ALWAYS g5
  have F_ALWAYS_ordinal := own_fld ev_ALWAYS g7
  obtain ⟨w_IF_EXTERNAL, ev_IF_EXTERNAL⟩ := exa_v g9
  have S_IF_EXTERNAL := Sta.start ev_IF_EXTERNAL (Or.inr ⟨(hw _ (List.mem_of_getElem? (i := 2) rfl)), (hw _ (List.mem_of_getElem? (i := 19) rfl))⟩)
  have E_IF_EXTERNAL := Exa.start ev_IF_EXTERNAL g9
  have F_IF_EXTERNAL_ordinal := own_fld ev_IF_EXTERNAL g11
  obtain ⟨w_IF_NOT_EXTERNAL, ev_IF_NOT_EXTERNAL⟩ := exa_v g13
  have S_IF_NOT_EXTERNAL := Sta.start ev_IF_NOT_EXTERNAL (Or.inr ⟨(hw _ (List.mem_of_getElem? (i := 2) rfl)), (hw _ (List.mem_of_getElem? (i := 21) rfl))⟩)
  have E_IF_NOT_EXTERNAL := Exa.start ev_IF_NOT_EXTERNAL g13
  have F_IF_NOT_EXTERNAL_ordinal := own_fld ev_IF_NOT_EXTERNAL g14
  obtain ⟨n, o, h1, h2, h3, _, L, rfl, ⟨rfl, N⟩, hq⟩ := rm0 l s _ hw tables_1 i0 i1 w_ALWAYS w_IF_EXTERNAL w_IF_NOT_EXTERNAL s.heap s.heap.size (Nat.le_refl _) S_ALWAYS E_ALWAYS F_ALWAYS_ordinal S_IF_EXTERNAL E_IF_EXTERNAL F_IF_EXTERNAL_ordinal S_IF_NOT_EXTERNAL E_IF_NOT_EXTERNAL F_IF_NOT_EXTERNAL_ordinal p e ha hc hk s m _ below hf ((Spec.applies_iff_loose hf).mp happ).1 ⟨rfl, State.Warmed39.refl s, rfl⟩ trivial
  refine ⟨n, _, h1, h2, h3, hpost _ _ _ _ _ _ ⟨Cond.after_iff.mpr rfl, Cond.after_iff.mpr (eq_i res_at (Term.int_eval (1)) rfl), trivial⟩ ⟨hq.1, hq.2.1, (hq.2.2.sift fun y hy => Or.inr (N y hy)).mono (by decide) (by decide)⟩⟩
theorem main_1_1 : Claimed_1_1 := comes_1 fun _ _ _ _ _ _ h hF => ⟨h.1, hF⟩
theorem main_1_2 : Claimed_1_2 := comes_1 fun _ _ _ _ _ _ h hF => ⟨h.2.1, hF⟩
end Jvm.Pilot.@@N@@
namespace Jvm.Pilot.@@N@@
open Jvm Jvm.ClassFile Sem Op Lib Jvm.Free Jvm.Stand Jvm.Pilot.@@N@@.Jvm.D
/-! MADE BY PROGRAM (witnessworld.py) out of the Statement's table words and the real class files: 12 classes; the members and pool entries that the words name. The judged class is class 1, her method 1. -/
namespace start1
open Jvm.ClassFile
def u (s : String) : CpInfo := .utf8 (stringToUtf16 s)
/-- a pool by its gaps: so many unusable entries, then the entry; so many at the end -/
def gap : Nat → List CpInfo → List CpInfo
  | 0, r => r
  | n + 1, r => .unusable :: gap n r
def poolList (es : List (Nat × CpInfo)) (last : Nat) : List CpInfo := es.foldr (fun e r => gap e.1 (e.2 :: r)) (gap last [])
def pool (es : List (Nat × CpInfo)) (last : Nat) : Array CpInfo := ⟨poolList es last⟩
def fileOf (pool : Array CpInfo) (this : Nat) (attrs : Array Attribute := #[]) (ms : Array MethodInfo := #[]) (fl : Nat := 33) (sup : Nat := 0) (ifs : Array Nat := #[]) (fds : Array FieldInfo := #[]) : ClassFile where
  minorVersion := 0
  majorVersion := 65
  constantPool := pool
  accessFlags := fl
  thisClass := this
  superClass := sup
  interfaces := ifs
  fields := fds
  methods := ms
  attributes := attrs
def plain (name : String) (sup : Option ClassId) : Class where
  name := name
  kind := .ordinary
  loader := none
  accessFlags := 33
  super := sup
  interfaces := #[]
  cf := none
  fields := #[]
  methods := #[]
  instanceTypes := #[]
  staticTypes := #[]
  resolved := #[]
  callSites := []
  init := .initialized
  statics := none
  mirror := none

def pool0 : Array CpInfo := pool [(5, u "<init>"), (0, u "()V"), (1, .class_ 10), (1, u "java/lang/Object")] 113

def k0m0 : Method := { name := "<init>", desc := "()V", sig := { parameters := [], returnType := none }, accessFlags := 1, code := none }
/-- java/lang/Object -/
def k0 : Class := { plain "java/lang/Object" none with
  accessFlags := 33
  interfaces := #[]
  cf := some (fileOf pool0 8 #[] #[{ accessFlags := 1, nameIndex := 5, descriptorIndex := 6, attributes := #[] }] 33 0 #[] #[])
  fields := #[]
  methods := #[k0m0]
  instanceTypes := #[]
  staticTypes := #[]
  resolved := Array.replicate 124 none
  statics := none }

def pool1 : Array CpInfo := pool [(2, .class_ 4), (1, u "java/lang/Object"), (0, u "<init>"), (0, u "()V"), (0, .integer 2147483647), (0, .fieldref 9 10), (0, .class_ 11), (0, .nameAndType 12 13), (0, u "com/example/gatefold/gatefold/Condition"), (0, u "ALWAYS"), (0, u "Lcom/example/gatefold/gatefold/Condition;"), (0, .fieldref 9 15), (0, .nameAndType 16 13), (0, u "IF_EXTERNAL"), (0, .fieldref 9 18), (0, .nameAndType 19 13), (0, u "IF_NOT_EXTERNAL"), (0, .methodref 9 21), (0, .nameAndType 22 23), (0, u "holdsFor"), (0, u "(Z)Z"), (0, .class_ 25), (0, u "com/example/gatefold/gatefold/ConditionHoldsForPinLaw"), (2, u "law"), (0, u "(II)Z")] 3

def k1m0 : Method := { name := "<init>", desc := "()V", sig := { parameters := [], returnType := none }, accessFlags := 1, code := none }
def k1c1 : Code := { maxStack := 3, maxLocals := 8, code := code, exceptionTable := #[], attributes := #[] }
def k1m1 : Method := { name := "law", desc := "(II)Z", sig := { parameters := [.int, .int], returnType := some .boolean }, accessFlags := 9, code := some k1c1 }
/-- com/example/gatefold/gatefold/ConditionHoldsForPinLaw -/
def k1 : Class := { plain "com/example/gatefold/gatefold/ConditionHoldsForPinLaw" (some 0) with
  accessFlags := 49
  interfaces := #[]
  cf := some (fileOf pool1 24 #[] #[{ accessFlags := 1, nameIndex := 5, descriptorIndex := 6, attributes := #[] }, { accessFlags := 9, nameIndex := 28, descriptorIndex := 29, attributes := #[] }] 49 2 #[] #[])
  fields := #[]
  methods := #[k1m0, k1m1]
  instanceTypes := #[]
  staticTypes := #[]
  resolved := Array.replicate 33 none
  statics := none }

def pool2 : Array CpInfo := pool [(1, .class_ 2), (0, u "java/lang/constant/Constable"), (0, .class_ 4), (0, u "java/lang/Object")] 6

/-- java/lang/constant/Constable -/
def k2 : Class := { plain "java/lang/constant/Constable" (some 0) with
  accessFlags := 1537
  interfaces := #[]
  cf := some (fileOf pool2 1 #[] #[] 1537 3 #[] #[])
  fields := #[]
  methods := #[]
  instanceTypes := #[]
  staticTypes := #[]
  resolved := Array.replicate 11 none
  statics := none }

def pool3 : Array CpInfo := pool [(1, .class_ 2), (0, u "java/lang/Comparable"), (0, .class_ 4), (0, u "java/lang/Object")] 7

/-- java/lang/Comparable -/
def k3 : Class := { plain "java/lang/Comparable" (some 0) with
  accessFlags := 1537
  interfaces := #[]
  cf := some (fileOf pool3 1 #[] #[] 1537 3 #[] #[])
  fields := #[]
  methods := #[]
  instanceTypes := #[]
  staticTypes := #[]
  resolved := Array.replicate 12 none
  statics := none }

def pool4 : Array CpInfo := pool [(1, .class_ 2), (0, u "java/io/Serializable"), (0, .class_ 4), (0, u "java/lang/Object")] 2

/-- java/io/Serializable -/
def k4 : Class := { plain "java/io/Serializable" (some 0) with
  accessFlags := 1537
  interfaces := #[]
  cf := some (fileOf pool4 1 #[] #[] 1537 3 #[] #[])
  fields := #[]
  methods := #[]
  instanceTypes := #[]
  staticTypes := #[]
  resolved := Array.replicate 7 none
  statics := none }

def pool5 : Array CpInfo := pool [(2, .class_ 4), (1, u "java/lang/Enum"), (0, u "name"), (0, u "Ljava/lang/String;"), (0, .fieldref 2 8), (0, .nameAndType 9 10), (0, u "ordinal"), (0, u "I"), (1, .class_ 14), (1, u "java/lang/Object"), (4, u "hash"), (86, .class_ 108), (1, u "java/lang/Enum$EnumDesc"), (2, .class_ 112), (0, u "java/lang/constant/Constable"), (0, .class_ 114), (0, u "java/lang/Comparable"), (0, .class_ 116), (0, u "java/io/Serializable"), (9, u "()I")] 77

def k5c0 : Code := { maxStack := 1, maxLocals := 1, code := jdk_37_method_2_code, exceptionTable := #[], attributes := #[] }
def k5m0 : Method := { name := "ordinal", desc := "()I", sig := { parameters := [], returnType := some .int }, accessFlags := 17, code := some k5c0 }
/-- java/lang/Enum -/
def k5 : Class := { plain "java/lang/Enum" (some 0) with
  accessFlags := 1057
  interfaces := #[2, 3, 4]
  cf := some (fileOf pool5 2 #[.nestMembers #[106]] #[{ accessFlags := 17, nameIndex := 9, descriptorIndex := 126, attributes := #[] }] 1057 12 #[111, 113, 115] #[{ accessFlags := 18, nameIndex := 5, descriptorIndex := 6, attributes := #[] }, { accessFlags := 18, nameIndex := 9, descriptorIndex := 10, attributes := #[] }, { accessFlags := 2, nameIndex := 19, descriptorIndex := 10, attributes := #[] }])
  fields := #[{ name := "name", type := (.object "java/lang/String"), accessFlags := 18, slot := 0, constantValue := 0 }, { name := "ordinal", type := .int, accessFlags := 18, slot := 1, constantValue := 0 }, { name := "hash", type := .int, accessFlags := 2, slot := 2, constantValue := 0 }]
  methods := #[k5m0]
  instanceTypes := #[(.object "java/lang/String"), .int, .int]
  staticTypes := #[]
  resolved := Array.replicate 204 none
  statics := none }

def pool6 : Array CpInfo := pool [(1, .class_ 2), (0, u "com/example/gatefold/gatefold/Condition"), (2, u "ALWAYS"), (0, u "Lcom/example/gatefold/gatefold/Condition;"), (2, u "IF_EXTERNAL"), (2, u "IF_NOT_EXTERNAL"), (2, u "$VALUES"), (0, u "[Lcom/example/gatefold/gatefold/Condition;"), (6, .class_ 25), (1, u "java/lang/Enum"), (6, .methodref 1 33), (0, .nameAndType 34 35), (0, u "ordinal"), (0, u "()I"), (7, u "holdsFor"), (0, u "(Z)Z")] 22

def k6c0 : Code := { maxStack := 4, maxLocals := 2, code := prog_1_method_4_code, exceptionTable := #[], attributes := #[] }
def k6m0 : Method := { name := "holdsFor", desc := "(Z)Z", sig := { parameters := [.boolean], returnType := some .boolean }, accessFlags := 0, code := some k6c0 }
/-- com/example/gatefold/gatefold/Condition -/
def k6 : Class := { plain "com/example/gatefold/gatefold/Condition" (some 5) with
  accessFlags := 16433
  interfaces := #[]
  cf := some (fileOf pool6 1 #[] #[{ accessFlags := 0, nameIndex := 43, descriptorIndex := 44, attributes := #[] }] 16433 23 #[] #[{ accessFlags := 16409, nameIndex := 5, descriptorIndex := 6, attributes := #[] }, { accessFlags := 16409, nameIndex := 9, descriptorIndex := 6, attributes := #[] }, { accessFlags := 16409, nameIndex := 12, descriptorIndex := 6, attributes := #[] }, { accessFlags := 4122, nameIndex := 15, descriptorIndex := 16, attributes := #[] }])
  fields := #[{ name := "ALWAYS", type := (.object "com/example/gatefold/gatefold/Condition"), accessFlags := 16409, slot := 0, constantValue := 0 }, { name := "IF_EXTERNAL", type := (.object "com/example/gatefold/gatefold/Condition"), accessFlags := 16409, slot := 1, constantValue := 0 }, { name := "IF_NOT_EXTERNAL", type := (.object "com/example/gatefold/gatefold/Condition"), accessFlags := 16409, slot := 2, constantValue := 0 }, { name := "$VALUES", type := (.array (.object "com/example/gatefold/gatefold/Condition")), accessFlags := 4122, slot := 3, constantValue := 0 }]
  methods := #[k6m0]
  instanceTypes := #[(.object "java/lang/String"), .int, .int]
  staticTypes := #[(.object "com/example/gatefold/gatefold/Condition"), (.object "com/example/gatefold/gatefold/Condition"), (.object "com/example/gatefold/gatefold/Condition"), (.array (.object "com/example/gatefold/gatefold/Condition"))]
  resolved := Array.replicate 67 none
  statics := some 0 }

def pool7 : Array CpInfo := pool [(1, u "java/lang/Cloneable"), (0, .class_ 1), (0, u "java/lang/Object"), (0, .class_ 3)] 3

/-- java/lang/Cloneable -/
def k7 : Class := { plain "java/lang/Cloneable" (some 0) with
  accessFlags := 1537
  interfaces := #[]
  cf := some (fileOf pool7 2 #[] #[] 1537 4 #[] #[])
  fields := #[]
  methods := #[]
  instanceTypes := #[]
  staticTypes := #[]
  resolved := Array.replicate 8 none
  statics := none }

/-- the primitive byte -/
def k8 : Class := { plain "byte" none with kind := .primitive 'B', accessFlags := 0x411 }
/-- [B -/
def k9 : Class := { plain "[B" (some 0) with kind := .array 8 .byte, interfaces := #[7, 4], accessFlags := 1041 }

/-- the primitive int -/
def k10 : Class := { plain "int" none with kind := .primitive 'I', accessFlags := 0x411 }
/-- [I -/
def k11 : Class := { plain "[I" (some 0) with kind := .array 10 .int, interfaces := #[7, 4], accessFlags := 1041 }

def heap : Heap := #[{ cls := 6, slots := #[.ref 1, .ref 2, .ref 3, .null], vm := .statics 6 },
  { cls := 6, slots := #[.null, .int 0, .int 0], vm := .none },
  { cls := 6, slots := #[.null, .int 1, .int 0], vm := .none },
  { cls := 6, slots := #[.null, .int 2, .int 0], vm := .none }]
def classes : Array Class := #[k0, k1, k2, k3, k4, k5, k6, k7, k8, k9, k10, k11]
def interned : List (Array UInt16 × Addr) := []
def slotsUsed : Nat := 13
def theMethod : MethodId := ⟨1, 1⟩
def args0 : Array Value := #[.int 5, .int 3]
def aboutOver (below : List Frame) : State where
  vm := { classes := classes, interned := interned.toArray }
  heap := heap
  slotsUsed := slotsUsed
  threads := #[{ frames := .invoking theMethod args0 :: below }]
def below0 : List Frame := [.native { method := ⟨0, 0⟩, args := #[] }]
def about1 : State := aboutOver below0
def p0 : Program := .bare "" "" ""
def e0 : Env := launch0.env 0 0 0
theorem w_frames : about1.frames = Frame.invoking theMethod args0 :: below0 := rfl
set_option maxRecDepth 65536 in
theorem w_args : argsFit about1.vm theMethod args0 = true := by decide +kernel
set_option maxRecDepth 65536 in
theorem w_heap : heapFits about1 = true := by decide +kernel
set_option maxRecDepth 65536 in
theorem w_runnable : about1.curStatus? = some .runnable := by decide +kernel
set_option maxRecDepth 65536 in
theorem w_alone : about1.alone = true := by decide +kernel
set_option maxRecDepth 65536 in
theorem w_named : about1.methodNamed? x = some theMethod := by decide +kernel
set_option maxRecDepth 65536 in
theorem w_hears : about1.hears theMethod below0 = true := by decide +kernel
set_option maxRecDepth 65536 in
theorem w_ripe : about1.ripe theMethod args0 below0 = true := by decide +kernel
theorem w_running : about1.status = .running := rfl
set_option maxRecDepth 65536 in
theorem w_room : about1.hasRoom e0.platform room_1 = true :=
  launch0.hasRoom_least _ room_1 (by decide +kernel) (by decide +kernel) (by decide +kernel) (by decide +kernel) (by decide +kernel) (by decide +kernel)
theorem allAtoms_all (ts : List Jvm.Cond) (a : Array Jvm.Value) (st : Jvm.State) : (allAtoms ts).before a st = ts.all (fun c => c.before a st) := by
  induction ts with
  | nil => rfl
  | cons c t ih =>
    show (Jvm.Cond.and c (allAtoms t)).before a st = _
    rw [Jvm.Cond.before_and, ih, List.all_cons]
def words1 : List Jvm.Cond := Jvm.Cond.code x code maxLocals ret :: tables_1
/-- a 'code' word, met by the world's own term for the bytes: nothing is compared byte by byte -/
theorem code_word {y : MethodName} {bytes : ByteArray} {mx : Nat} {rt : Option FieldType} {a : Array Value} {s : State} {m : MethodId} {meth : Method} {c : Code} (h1 : s.methodNamed? y = some m) (h2 : s.vm.method? m = some meth) (h3 : meth.code = some c) (h4 : c.code = bytes)
    (h5 : (c.maxLocals == mx && c.exceptionTable.isEmpty && decide (c.maxStack ≤ mostOperands) && decide (meth.sig.returnType = rt) && !meth.locks && decide (parseMethodDescriptor y.desc = some meth.sig)) = true) : (Jvm.Cond.code y bytes mx rt).before a s = true := by
  simp only [Bool.and_eq_true, beq_iff_eq, Bool.not_eq_true', decide_eq_true_eq] at h5
  obtain ⟨⟨⟨⟨⟨g1, g2⟩, g3⟩, g4⟩, g5⟩, g6⟩ := h5
  simp [Cond.before, Cond.holds, Cond.value, h1, h2, h3, h4, g1, g2, g3, g4, g5, g6]
def isCode : Jvm.Cond → Bool
  | .code _ _ _ _ => true
  | _ => false
theorem all_split {L : List Jvm.Cond} {P : Jvm.Cond → Bool} (h1 : L.all (fun c => isCode c || P c) = true) (h2 : ∀ c ∈ L.filter isCode, P c = true) : L.all P = true := by
  refine List.all_eq_true.mpr fun c hc => ?_
  have h := List.all_eq_true.mp h1 c hc
  rcases Bool.eq_false_or_eq_true (isCode c) with hi | hi
  · exact h2 c (List.mem_filter.mpr ⟨hc, hi⟩)
  · simpa [hi] using h
set_option maxRecDepth 65536 in
theorem w_c0 : (Jvm.Cond.code x code maxLocals ret).before args0 about1 = true := code_word (m := ⟨1, 1⟩) (meth := k1m1) (c := k1c1) (by decide +kernel) rfl rfl rfl (by decide +kernel)
set_option maxRecDepth 65536 in
theorem w_c1 : (Jvm.Cond.code ({ cls := "com/example/gatefold/gatefold/Condition", name := "holdsFor", desc := "(Z)Z" } : Jvm.MethodName) prog_1_method_4_code (2 : Nat) (Option.some Jvm.ClassFile.FieldType.boolean)).before args0 about1 = true := code_word (m := ⟨6, 0⟩) (meth := k6m0) (c := k6c0) (by decide +kernel) rfl rfl rfl (by decide +kernel)
set_option maxRecDepth 65536 in
theorem w_c2 : (Jvm.Cond.code ({ cls := "java/lang/Enum", name := "ordinal", desc := "()I" } : Jvm.MethodName) jdk_37_method_2_code (1 : Nat) (Option.some Jvm.ClassFile.FieldType.int)).before args0 about1 = true := code_word (m := ⟨5, 0⟩) (meth := k5m0) (c := k5c0) (by decide +kernel) rfl rfl rfl (by decide +kernel)
def codes1 : List Jvm.Cond := [Jvm.Cond.code x code maxLocals ret, Jvm.Cond.code ({ cls := "com/example/gatefold/gatefold/Condition", name := "holdsFor", desc := "(Z)Z" } : Jvm.MethodName) prog_1_method_4_code (2 : Nat) (Option.some Jvm.ClassFile.FieldType.boolean), Jvm.Cond.code ({ cls := "java/lang/Enum", name := "ordinal", desc := "()I" } : Jvm.MethodName) jdk_37_method_2_code (1 : Nat) (Option.some Jvm.ClassFile.FieldType.int)]
set_option maxRecDepth 65536 in
theorem codes_eq : words1.filter isCode = codes1 := rfl
theorem w_codes : ∀ c ∈ words1.filter isCode, c.before args0 about1 = true := by
  rw [codes_eq]
  intro c hc
  simp only [codes1, List.mem_cons, List.not_mem_nil, or_false] at hc
  rcases hc with rfl | rfl | rfl
  · exact w_c0
  · exact w_c1
  · exact w_c2
set_option maxRecDepth 65536 in
theorem w_t1 : words1.all (fun c => isCode c || c.before args0 about1) = true := by decide +kernel
theorem w_tables : (allAtoms (Jvm.Cond.code x code maxLocals ret :: tables_1)).before args0 about1 = true := by
  rw [allAtoms_all]
  show words1.all (fun c => c.before args0 about1) = true
  refine all_split ?_ w_codes
  rw [w_t1]
set_option maxRecDepth 65536 in
theorem w_case : (Jvm.Cond.and given_1 narrow_1).before args0 about1 = true := by decide +kernel
theorem w_applies : (headSpec (Jvm.Cond.code x code maxLocals ret :: tables_1) room_1).applies x e0.platform about1 = true :=
  (Spec.applies_iff w_frames).mpr ⟨w_running, w_runnable, w_alone, w_named, w_hears, w_ripe, w_room, w_tables⟩
theorem atStart : AtStart classFile x code maxLocals ret World_1 tables_1 room_1 Calls_1 rest_1 Pre_1 launch0 p0 e0 about1 theMethod args0 below0 :=
  ⟨lists_1, trivial, launch0.admits_env _ _ _, launch0.least_env, fairChoices_fair.cas, fairChoices_fair.clock, w_frames, w_args, w_heap, w_applies, trivial, trivial, w_case⟩
end start1
theorem witness_1 : WitnessClaimed_1 := ⟨start1.p0, start1.e0, start1.about1, start1.theMethod, start1.args0, start1.below0, start1.atStart⟩
end Jvm.Pilot.@@N@@
