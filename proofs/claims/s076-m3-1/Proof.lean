import JvmDerived
import JvmDerived.Pilot.@@N@@Statement
import JvmDerived.Pilot.@@N@@Code
set_option linter.unusedVariables false
set_option linter.unusedSimpArgs false
namespace Jvm.Pilot.@@N@@
open Jvm Jvm.ClassFile Sem Op Lib Jvm.Free Jvm.Stand Jvm.LawKit Jvm.RoadKit Bundle Jvm.Pilot.@@N@@.Jvm.D
section Own
variable {p : Program} {l : Launch} {e : Env} {R : Room} {s : State} {m : MethodId} {args : Array Value} {below : List Frame} {meth : Method} {c : Code} {T T' : State} {locs : List Loc} {cells slots : Nat}
/-- from the frame f on the run returns, and what it leaves is said by Q -/
def Go (p : Program) (e : Env) (below : List Frame) (s : State) (Q : Option Value → Heap → List Loc → Prop) (cs ss : Nat) (T : State) (f : JFrame) : Prop :=
  ∃ s₂ o, Steps p.tables e below (T.setTop f) s₂ ∧ s₂.status = .running ∧ Ended s₂ below o ∧ ∃ v L, o = .returned v ∧ Q v s₂.heap L ∧ FrameEnd s o s₂ L cs ss
theorem Go.st {Q : Option Value → Heap → List Loc → Prop} {cs ss : Nat} {f f' : JFrame} (k : ∀ t, Steps p.tables e below (T'.setTop f') t → Steps p.tables e below (T.setTop f) t) (h : Go p e below s Q cs ss T' f') : Go p e below s Q cs ss T f := by
  obtain ⟨s₂, o, h1, h2⟩ := h
  exact ⟨s₂, o, k _ h1, h2⟩
theorem Go.start {Q : Option Value → Heap → List Loc → Prop} {cs ss ml : Nat} {f : JFrame} (hf : entryFrame m args ml = f) (h : Go p e below s Q cs ss T f) :
    ∃ s₂ o, Steps p.tables e below (T.setTop (entryFrame m args ml)) s₂ ∧ s₂.status = .running ∧ Ended s₂ below o ∧ ∃ v L, o = .returned v ∧ Q v s₂.heap L ∧ FrameEnd s o s₂ L cs ss := by
  subst hf; exact h
theorem Go.fr {Q : Option Value → Heap → List Loc → Prop} {cs ss : Nat} {f f' : JFrame} (q : f = f') (h : Go p e below s Q cs ss T f') : Go p e below s Q cs ss T f := by
  subst q; exact h
theorem Go.ret {Q : Option Value → Heap → List Loc → Prop} {cs ss : Nat} {f : JFrame} (X : Stand p l e R s m args below meth c T locs cells slots) (hlk : meth.locks = false) {v : Option Value} (hv : meth.sig.returnType = none → v = none)
    (k : ∀ fs, (∀ (f : JFrame) (acts : List Action), f.method = m → f.locked = none → f.entered = [] → (doReturn e (T.setTop f) acts v).1 = T.setFrames fs) → Steps p.tables e below (T.setTop f) (T.setFrames fs))
    (hQ : Q v T.heap locs) (hc : cells ≤ cs) (hs : slots ≤ ss) : Go p e below s Q cs ss T f := by
  obtain ⟨fs, hr, hrun, hended, hW, hsame⟩ := X.leave (v := v) hv hlk
  exact ⟨_, _, k fs hr, hrun, hended, _, _, rfl, hQ, ⟨_, rfl⟩, hW, hsame.mono hc hs⟩
theorem own_fld {t : Term} {a : Addr} {C n d : String} {k : Int32} (ev : t.eval args s none [] s = some (.ref a)) (h : (Jvm.Cond.eq (.field t C n d) (.int k)).value args s none s [] = some true) : Fld s s.heap a C n d (.int k) := by
  have q : (Term.field t C n d).eval args s none [] s = s.fieldOf? a C n d := fld_at ev
  have q2 : (Term.field t C n d).eval args s none [] s = some (.int k) := Cond.eq_int (Cond.before_iff.mpr h) rfl
  exact Fld.start (q.symm.trans q2)
theorem own_sta {Z : State} {h h' : Heap} {C n d : String} {v : Value} {ws : List Addr} (F : Sta Z h C n d v) (K : Keep h h' ws) (q : ∀ x ∈ ws, ∃ c : Cell, h[x]? = some c ∧ ∀ q, c.vm ≠ .statics q) : Sta Z h' C n d v := by
  obtain ⟨cf, i, k, f, st, cell, h1, h2, h3, h4, h5, h6, h7⟩ := F
  refine ⟨cf, i, k, f, st, cell, h1, h2, h3, h4, K.2.1 st cell h5 fun hm => ?_, h6, h7⟩
  obtain ⟨c, hc, hn⟩ := q st hm
  cases hc.symm.trans h5
  cases hv : cell.vm <;> simp [hv, VmData.isStatics] at h6 hn
theorem own_bb (x : Int32) : x.toInt8.toInt32.toInt8.toInt32 = x.toInt8.toInt32 := by simp
theorem own_arvcell {Z : State} {h : Heap} {a : Addr} {k : ClassId} {ty : FieldType} {z : Int32} {vs : List Value} {dv : Value} (F : Arv Z h a k ty z vs dv) : ∃ c : Cell, h[a]? = some c ∧ ∀ q, c.vm ≠ .statics q := by
  obtain ⟨c, A, -⟩ := F
  exact ⟨c, A.1, fun q hq => by have := A.plain; simp [hq, VmData.isStatics] at this⟩
/-- a static that holds a reference or null -/
def StaR (Z : State) (h : Heap) (C n d : String) : Prop := Sta Z h C n d .null ∨ ∃ a, Sta Z h C n d (.ref a)
theorem StaR.ext {Z : State} {h h' : Heap} {C n d : String} (F : StaR Z h C n d) (E : Ext h h') : StaR Z h' C n d := F.imp (fun q => q.ext E) fun ⟨a, q⟩ => ⟨a, q.ext E⟩
theorem StaR.wr {Z : State} {h h' : Heap} {C n d : String} {a : Addr} {sl : Nat} {v : Value} (F : StaR Z h C n d) (W : Wr h h' a sl v) : StaR Z h' C n d := F.imp (fun q => q.wr W) fun ⟨a, q⟩ => ⟨a, q.wr W⟩
theorem own_staR {Z : State} {h h' : Heap} {C n d : String} {ws : List Addr} (F : StaR Z h C n d) (K : Keep h h' ws) (q : ∀ x ∈ ws, ∃ c : Cell, h[x]? = some c ∧ ∀ q, c.vm ≠ .statics q) : StaR Z h' C n d := F.imp (fun r => own_sta r K q) fun ⟨a, r⟩ => ⟨a, own_sta r K q⟩
end Own
theorem pn_com_example_truerow_truerow_sqlite_Affinity : plainName "com/example/truerow/truerow/sqlite/Affinity" = true := by first | (simp [plainName, overriddenIn]; done) | decide +kernel
theorem pd_0 : parseMethodDescriptor "()Z" = some ⟨[], some .boolean⟩ := by decide +kernel
theorem pn_com_example_truerow_truerow_sqlite_AffinityIsNumericPinLaw : plainName "com/example/truerow/truerow/sqlite/AffinityIsNumericPinLaw" = true := by first | (simp [plainName, overriddenIn]; done) | decide +kernel
theorem own_rem (x k : Int32) (hk : 0 < k.toInt) : 0 ≤ ((x &&& 2147483647) % k).toInt ∧ ((x &&& 2147483647) % k).toInt < k.toInt := by
  have h := c_mask x 2147483647 31 (by decide) (by decide)
  have h0 : 0 ≤ (x &&& 2147483647).toInt := by rw [h]; omega
  have h2 := (c_iremV (x &&& 2147483647) k).1 h0 hk
  exact ⟨h2.1, h2.2.1⟩
theorem own_i32 {x : Int32} {k : Int} (h : x.toInt = k) (y : Int32) (hy : y.toInt = k) : x = y := Int32.toInt_inj.mp (h.trans hy.symm)
theorem own_mod6 (x : Int32) : (x &&& 2147483647) % 6 = 0 ∨ (x &&& 2147483647) % 6 = 1 ∨ (x &&& 2147483647) % 6 = 2 ∨ (x &&& 2147483647) % 6 = 3 ∨ (x &&& 2147483647) % 6 = 4 ∨ (x &&& 2147483647) % 6 = 5 := by
  have h := own_rem x 6 (by decide)
  have h3 : (6 : Int32).toInt = 6 := by decide
  rw [h3] at h
  generalize (x &&& 2147483647) % 6 = y at h ⊢
  have : y.toInt = 0 ∨ y.toInt = 1 ∨ y.toInt = 2 ∨ y.toInt = 3 ∨ y.toInt = 4 ∨ y.toInt = 5 := by omega
  rcases this with h | h | h | h | h | h
  · exact Or.inl (own_i32 h 0 (by decide))
  · exact Or.inr (Or.inl (own_i32 h 1 (by decide)))
  · exact Or.inr (Or.inr (Or.inl (own_i32 h 2 (by decide))))
  · exact Or.inr (Or.inr (Or.inr (Or.inl (own_i32 h 3 (by decide)))))
  · exact Or.inr (Or.inr (Or.inr (Or.inr (Or.inl (own_i32 h 4 (by decide))))))
  · exact Or.inr (Or.inr (Or.inr (Or.inr (Or.inr ((own_i32 h 5 (by decide)))))))
theorem d1_0 : decode prog_76_method_6_code 0 = .ok (.aload_n 0, 1) := by decide +kernel
theorem d1_1 : decode prog_76_method_6_code 1 = .ok (.getstatic 13, 3) := by decide +kernel
theorem d1_4 : decode prog_76_method_6_code 4 = .ok (.if_acmp .eq 17, 3) := by decide +kernel
theorem d1_7 : decode prog_76_method_6_code 7 = .ok (.aload_n 0, 1) := by decide +kernel
theorem d1_8 : decode prog_76_method_6_code 8 = .ok (.getstatic 16, 3) := by decide +kernel
theorem d1_11 : decode prog_76_method_6_code 11 = .ok (.if_acmp .eq 10, 3) := by decide +kernel
theorem d1_14 : decode prog_76_method_6_code 14 = .ok (.aload_n 0, 1) := by decide +kernel
theorem d1_15 : decode prog_76_method_6_code 15 = .ok (.getstatic 19, 3) := by decide +kernel
theorem d1_18 : decode prog_76_method_6_code 18 = .ok (.if_acmp .ne 7, 3) := by decide +kernel
theorem d1_21 : decode prog_76_method_6_code 21 = .ok (.iconst 1, 1) := by decide +kernel
theorem d1_22 : decode prog_76_method_6_code 22 = .ok (.goto 4, 3) := by decide +kernel
theorem d1_25 : decode prog_76_method_6_code 25 = .ok (.iconst 0, 1) := by decide +kernel
theorem d1_26 : decode prog_76_method_6_code 26 = .ok (.ireturn, 1) := by decide +kernel
def val_1 (o0 : Addr) (w_NUMERIC : Addr) (w_INTEGER : Addr) (w_REAL : Addr) : Int32 := (if o0 = w_NUMERIC then (1 : Int32) else (if o0 = w_INTEGER then (1 : Int32) else (if o0 = w_REAL then (1 : Int32) else (0 : Int32))))
theorem ef_1 (m : MethodId) (o0 : Addr) : entryFrame m #[(.ref o0)] 1 = mkF m 0 #[.val (.ref o0)] [] := by first | (simp [entryFrame, mkF, argsToLocals, Value.category]; done) | rfl
def Q1 (Z : State) (o0 : Addr) (w_NUMERIC : Addr) (w_INTEGER : Addr) (w_REAL : Addr) (h0 : Heap) (n0 : Nat) (v : Option Value) (h : Heap) (L : List Loc) : Prop := v = some (.int (val_1 o0 w_NUMERIC w_INTEGER w_REAL)) ∧ Fr n0 L ∧ h = h0
set_option maxRecDepth 65536 in
set_option maxHeartbeats 40000000 in
theorem rm1 (l : Launch) (Z : State) (a0 : Array Value) (hw : ∀ d ∈ tables_1, d.before a0 Z = true) (ws : List Jvm.Cond) (o0 : Addr) (w_NUMERIC : Addr) (w_INTEGER : Addr) (w_REAL : Addr) (h0 : Heap) (n0 : Nat) (Z0 : n0 ≤ h0.size) (S_NUMERIC : Sta Z h0 "com/example/truerow/truerow/sqlite/Affinity" "NUMERIC" "Lcom/example/truerow/truerow/sqlite/Affinity;" (.ref w_NUMERIC)) (S_INTEGER : Sta Z h0 "com/example/truerow/truerow/sqlite/Affinity" "INTEGER" "Lcom/example/truerow/truerow/sqlite/Affinity;" (.ref w_INTEGER)) (S_REAL : Sta Z h0 "com/example/truerow/truerow/sqlite/Affinity" "REAL" "Lcom/example/truerow/truerow/sqlite/Affinity;" (.ref w_REAL)) :
    MetFree l (⟨"com/example/truerow/truerow/sqlite/Affinity", "isNumeric", "()Z"⟩ : MethodName) (head1 (Jvm.Cond.code (⟨"com/example/truerow/truerow/sqlite/Affinity", "isNumeric", "()Z"⟩ : MethodName) prog_76_method_6_code 1 (some .boolean) :: ws) ({ frames := 0, cells := 0, slots := 0, locals := 0 } : Room)) (fun a U => a = #[(.ref o0)] ∧ Z.Warmed39 U.vm ∧ U.heap = h0) (fun _ _ _ _ _ => True) (fun _ U o U' => ∃ v L, o = .returned v ∧ Q1 Z o0 w_NUMERIC w_INTEGER w_REAL h0 n0 v U'.heap L ∧ FrameEnd U o U' L ({ frames := 0, cells := 0, slots := 0, locals := 0 } : Room).cells ({ frames := 0, cells := 0, slots := 0, locals := 0 } : Room).slots) := by
  refine MetFree.of_bodySF (plainFor_of_name pn_com_example_truerow_truerow_sqlite_Affinity) hisR ?_
  intro p e s m args below meth c s₁ Bd hml0 hP hK
  obtain ⟨rfl, hZ, hh⟩ := hP
  have hx := Bd.exec
  have hby := Bd.bytes
  have hlk : meth.locks = false := BodyLoose.notSynchronized Bd
  have hret := Bd.returns
  have hml : c.maxLocals = 1 := hml0
  have hown : s.vm.findClass "com/example/truerow/truerow/sqlite/Affinity" = some m.cls := findClass_of_methodNamed Bd.named
  have hnm := (name_of_methodNamed Bd.named Bd.method).1
  have X0 : Stand p l e ({ frames := 0, cells := 0, slots := 0, locals := 0 } : Room) s m #[(.ref o0)] below meth c s₁ [] 0 0 := Stand.of_body Bd
  have e0 : s₁.heap = h0 := by rw [← hh, Bd.state]; rfl
  have N0 := Fr.nil n0
  refine Go.start (Q := Q1 Z o0 w_NUMERIC w_INTEGER w_REAL h0 n0) (ef_1 m o0) ?_
  show Go _ _ _ _ _ _ _ s₁ (mkF m 0 #[.val (.ref o0)] [])
  refine Go.st (fun _ k => XS.aloadN X0.here hx rfl (hb hby d1_0) rfl rfl k) ?_
  show Go _ _ _ _ _ _ _ s₁ (mkF m 1 #[.val (.ref o0)] [(.ref o0)])
  obtain ⟨T1, X1, e1, st1⟩ := getS2 X0 hx hZ hown (host := "") (Or.inl (hw _ (List.mem_of_getElem? (i := 9) rfl))) Via.refl e0 S_NUMERIC (g := (mkF m 1 #[.val (.ref o0)] [(.ref o0)])) rfl (hb hby d1_1)
  refine Go.st st1 ?_
  show Go _ _ _ _ _ _ _ T1 (mkF m 4 #[.val (.ref o0)] [(.ref w_NUMERIC), (.ref o0)])
  by_cases ha2 : o0 = w_NUMERIC
  · refine Go.st (fun _ k => Jvm.RoadKit.acmp (g := (mkF m 4 #[.val (.ref o0)] [(.ref w_NUMERIC), (.ref o0)])) X1 hx rfl rfl rfl (pc0 := 4) (pc' := 21) (same := true) rfl (hb hby d1_4) rfl (decide_eq_true (congrArg Value.ref ha2)) (by decide) (by decide) k) ?_
    show Go _ _ _ _ _ _ _ T1 (mkF m 21 #[.val (.ref o0)] [])
    refine Go.st (fun _ k => XS.iconst X1.here hx rfl (hb hby d1_21) k) ?_
    show Go _ _ _ _ _ _ _ T1 (mkF m 22 #[.val (.ref o0)] [(.int (1 : Int32))])
    refine Go.st (fun _ k => XS.goto X1.here hx rfl (pc0 := 22) (pc' := 26) rfl (hb hby d1_22) (by decide) (by decide) k) ?_
    show Go _ _ _ _ _ _ _ T1 (mkF m 26 #[.val (.ref o0)] [(.int (1 : Int32))])
    refine Go.ret X1 hlk (v := some (.int (1 : Int32))) (fun h => by rw [hret] at h; cases h) (fun fs hr => retN X1 hx (t := .boolean) hret (by simp) (hb hby d1_26) hr) ?_ (by decide) (by decide)
    show Q1 Z o0 w_NUMERIC w_INTEGER w_REAL h0 n0 (some (.int (1 : Int32))) T1.heap _
    rw [e1]
    refine ⟨?_, N0, rfl⟩
    unfold val_1
    first | rfl | rw [if_pos ha2]
  · refine Go.st (fun _ k => Jvm.RoadKit.acmp (g := (mkF m 4 #[.val (.ref o0)] [(.ref w_NUMERIC), (.ref o0)])) X1 hx rfl rfl rfl (pc0 := 4) (pc' := 7) (same := false) rfl (hb hby d1_4) rfl (decide_eq_false fun q => ha2 (Value.ref.inj q)) (by decide) (by decide) k) ?_
    show Go _ _ _ _ _ _ _ T1 (mkF m 7 #[.val (.ref o0)] [])
    refine Go.st (fun _ k => XS.aloadN X1.here hx rfl (hb hby d1_7) rfl rfl k) ?_
    show Go _ _ _ _ _ _ _ T1 (mkF m 8 #[.val (.ref o0)] [(.ref o0)])
    obtain ⟨T3, X3, e3, st3⟩ := getS2 X1 hx hZ hown (host := "") (Or.inl (hw _ (List.mem_of_getElem? (i := 11) rfl))) Via.refl e1 S_INTEGER (g := (mkF m 8 #[.val (.ref o0)] [(.ref o0)])) rfl (hb hby d1_8)
    refine Go.st st3 ?_
    show Go _ _ _ _ _ _ _ T3 (mkF m 11 #[.val (.ref o0)] [(.ref w_INTEGER), (.ref o0)])
    by_cases ha4 : o0 = w_INTEGER
    · refine Go.st (fun _ k => Jvm.RoadKit.acmp (g := (mkF m 11 #[.val (.ref o0)] [(.ref w_INTEGER), (.ref o0)])) X3 hx rfl rfl rfl (pc0 := 11) (pc' := 21) (same := true) rfl (hb hby d1_11) rfl (decide_eq_true (congrArg Value.ref ha4)) (by decide) (by decide) k) ?_
      show Go _ _ _ _ _ _ _ T3 (mkF m 21 #[.val (.ref o0)] [])
      refine Go.st (fun _ k => XS.iconst X3.here hx rfl (hb hby d1_21) k) ?_
      show Go _ _ _ _ _ _ _ T3 (mkF m 22 #[.val (.ref o0)] [(.int (1 : Int32))])
      refine Go.st (fun _ k => XS.goto X3.here hx rfl (pc0 := 22) (pc' := 26) rfl (hb hby d1_22) (by decide) (by decide) k) ?_
      show Go _ _ _ _ _ _ _ T3 (mkF m 26 #[.val (.ref o0)] [(.int (1 : Int32))])
      refine Go.ret X3 hlk (v := some (.int (1 : Int32))) (fun h => by rw [hret] at h; cases h) (fun fs hr => retN X3 hx (t := .boolean) hret (by simp) (hb hby d1_26) hr) ?_ (by decide) (by decide)
      show Q1 Z o0 w_NUMERIC w_INTEGER w_REAL h0 n0 (some (.int (1 : Int32))) T3.heap _
      rw [e3]
      refine ⟨?_, N0, rfl⟩
      unfold val_1
      first | rfl | rw [if_neg ha2, if_pos ha4]
    · refine Go.st (fun _ k => Jvm.RoadKit.acmp (g := (mkF m 11 #[.val (.ref o0)] [(.ref w_INTEGER), (.ref o0)])) X3 hx rfl rfl rfl (pc0 := 11) (pc' := 14) (same := false) rfl (hb hby d1_11) rfl (decide_eq_false fun q => ha4 (Value.ref.inj q)) (by decide) (by decide) k) ?_
      show Go _ _ _ _ _ _ _ T3 (mkF m 14 #[.val (.ref o0)] [])
      refine Go.st (fun _ k => XS.aloadN X3.here hx rfl (hb hby d1_14) rfl rfl k) ?_
      show Go _ _ _ _ _ _ _ T3 (mkF m 15 #[.val (.ref o0)] [(.ref o0)])
      obtain ⟨T5, X5, e5, st5⟩ := getS2 X3 hx hZ hown (host := "") (Or.inl (hw _ (List.mem_of_getElem? (i := 13) rfl))) Via.refl e3 S_REAL (g := (mkF m 15 #[.val (.ref o0)] [(.ref o0)])) rfl (hb hby d1_15)
      refine Go.st st5 ?_
      show Go _ _ _ _ _ _ _ T5 (mkF m 18 #[.val (.ref o0)] [(.ref w_REAL), (.ref o0)])
      by_cases ha6 : o0 = w_REAL
      · refine Go.st (fun _ k => Jvm.RoadKit.acmp (g := (mkF m 18 #[.val (.ref o0)] [(.ref w_REAL), (.ref o0)])) X5 hx rfl rfl rfl (pc0 := 18) (pc' := 21) (same := true) rfl (hb hby d1_18) rfl (decide_eq_true (congrArg Value.ref ha6)) (by decide) (by decide) k) ?_
        show Go _ _ _ _ _ _ _ T5 (mkF m 21 #[.val (.ref o0)] [])
        refine Go.st (fun _ k => XS.iconst X5.here hx rfl (hb hby d1_21) k) ?_
        show Go _ _ _ _ _ _ _ T5 (mkF m 22 #[.val (.ref o0)] [(.int (1 : Int32))])
        refine Go.st (fun _ k => XS.goto X5.here hx rfl (pc0 := 22) (pc' := 26) rfl (hb hby d1_22) (by decide) (by decide) k) ?_
        show Go _ _ _ _ _ _ _ T5 (mkF m 26 #[.val (.ref o0)] [(.int (1 : Int32))])
        refine Go.ret X5 hlk (v := some (.int (1 : Int32))) (fun h => by rw [hret] at h; cases h) (fun fs hr => retN X5 hx (t := .boolean) hret (by simp) (hb hby d1_26) hr) ?_ (by decide) (by decide)
        show Q1 Z o0 w_NUMERIC w_INTEGER w_REAL h0 n0 (some (.int (1 : Int32))) T5.heap _
        rw [e5]
        refine ⟨?_, N0, rfl⟩
        unfold val_1
        first | rfl | rw [if_neg ha2, if_neg ha4, if_pos ha6]
      · refine Go.st (fun _ k => Jvm.RoadKit.acmp (g := (mkF m 18 #[.val (.ref o0)] [(.ref w_REAL), (.ref o0)])) X5 hx rfl rfl rfl (pc0 := 18) (pc' := 25) (same := false) rfl (hb hby d1_18) rfl (decide_eq_false fun q => ha6 (Value.ref.inj q)) (by decide) (by decide) k) ?_
        show Go _ _ _ _ _ _ _ T5 (mkF m 25 #[.val (.ref o0)] [])
        refine Go.st (fun _ k => XS.iconst X5.here hx rfl (hb hby d1_25) k) ?_
        show Go _ _ _ _ _ _ _ T5 (mkF m 26 #[.val (.ref o0)] [(.int (0 : Int32))])
        refine Go.ret X5 hlk (v := some (.int (0 : Int32))) (fun h => by rw [hret] at h; cases h) (fun fs hr => retN X5 hx (t := .boolean) hret (by simp) (hb hby d1_26) hr) ?_ (by decide) (by decide)
        show Q1 Z o0 w_NUMERIC w_INTEGER w_REAL h0 n0 (some (.int (0 : Int32))) T5.heap _
        rw [e5]
        refine ⟨?_, N0, rfl⟩
        unfold val_1
        first | rfl | rw [if_neg ha2, if_neg ha4, if_neg ha6]
theorem ef_0 (m : MethodId) (p0 : Int32) : entryFrame m #[(.int p0)] maxLocals = mkF m 0 #[.val (.int p0), .unset, .unset, .unset] [] := by first | (simp [entryFrame, mkF, argsToLocals, Value.category, maxLocals]; done) | rfl
def Q0 (Z : State) (p0 : Int32) (w_NONE : Addr) (w_NUMERIC : Addr) (w_INTEGER : Addr) (w_REAL : Addr) (w_TEXT : Addr) (w_BLOB : Addr) (h0 : Heap) (n0 : Nat) (v : Option Value) (h : Heap) (L : List Loc) : Prop := v = some (.int 1) ∧ Fr n0 L
set_option maxRecDepth 65536 in
set_option maxHeartbeats 40000000 in
theorem rm0 (l : Launch) (Z : State) (a0 : Array Value) (hw : ∀ d ∈ tables_1, d.before a0 Z = true) (ws : List Jvm.Cond) (p0 : Int32) (w_NONE : Addr) (w_NUMERIC : Addr) (w_INTEGER : Addr) (w_REAL : Addr) (w_TEXT : Addr) (w_BLOB : Addr) (h0 : Heap) (n0 : Nat) (Z0 : n0 ≤ h0.size) (S_NONE : Sta Z h0 "com/example/truerow/truerow/sqlite/Affinity" "NONE" "Lcom/example/truerow/truerow/sqlite/Affinity;" (.ref w_NONE)) (E_NONE : Exa Z h0 w_NONE "com/example/truerow/truerow/sqlite/Affinity") (S_NUMERIC : Sta Z h0 "com/example/truerow/truerow/sqlite/Affinity" "NUMERIC" "Lcom/example/truerow/truerow/sqlite/Affinity;" (.ref w_NUMERIC)) (E_NUMERIC : Exa Z h0 w_NUMERIC "com/example/truerow/truerow/sqlite/Affinity") (F_NONE_ordinal : Fld Z h0 w_NONE "java/lang/Enum" "ordinal" "I" (.int (0 : Int32))) (F_NUMERIC_ordinal : Fld Z h0 w_NUMERIC "java/lang/Enum" "ordinal" "I" (.int (3 : Int32))) (S_INTEGER : Sta Z h0 "com/example/truerow/truerow/sqlite/Affinity" "INTEGER" "Lcom/example/truerow/truerow/sqlite/Affinity;" (.ref w_INTEGER)) (E_INTEGER : Exa Z h0 w_INTEGER "com/example/truerow/truerow/sqlite/Affinity") (F_INTEGER_ordinal : Fld Z h0 w_INTEGER "java/lang/Enum" "ordinal" "I" (.int (4 : Int32))) (S_REAL : Sta Z h0 "com/example/truerow/truerow/sqlite/Affinity" "REAL" "Lcom/example/truerow/truerow/sqlite/Affinity;" (.ref w_REAL)) (E_REAL : Exa Z h0 w_REAL "com/example/truerow/truerow/sqlite/Affinity") (F_REAL_ordinal : Fld Z h0 w_REAL "java/lang/Enum" "ordinal" "I" (.int (5 : Int32))) (S_TEXT : Sta Z h0 "com/example/truerow/truerow/sqlite/Affinity" "TEXT" "Lcom/example/truerow/truerow/sqlite/Affinity;" (.ref w_TEXT)) (E_TEXT : Exa Z h0 w_TEXT "com/example/truerow/truerow/sqlite/Affinity") (F_TEXT_ordinal : Fld Z h0 w_TEXT "java/lang/Enum" "ordinal" "I" (.int (2 : Int32))) (S_BLOB : Sta Z h0 "com/example/truerow/truerow/sqlite/Affinity" "BLOB" "Lcom/example/truerow/truerow/sqlite/Affinity;" (.ref w_BLOB)) (E_BLOB : Exa Z h0 w_BLOB "com/example/truerow/truerow/sqlite/Affinity") (F_BLOB_ordinal : Fld Z h0 w_BLOB "java/lang/Enum" "ordinal" "I" (.int (1 : Int32))) :
    MetFree l x (head1 (Jvm.Cond.code x code maxLocals ret :: ws) room_1) (fun a U => a = #[(.int p0)] ∧ Z.Warmed39 U.vm ∧ U.heap = h0) (fun _ _ _ _ _ => True) (fun _ U o U' => ∃ v L, o = .returned v ∧ Q0 Z p0 w_NONE w_NUMERIC w_INTEGER w_REAL w_TEXT w_BLOB h0 n0 v U'.heap L ∧ FrameEnd U o U' L room_1.cells room_1.slots) := by
  refine MetFree.of_bodySF (plainFor_of_name pn_com_example_truerow_truerow_sqlite_AffinityIsNumericPinLaw) hisR ?_
  intro p e s m args below meth c s₁ Bd hml0 hP hK
  obtain ⟨rfl, hZ, hh⟩ := hP
  have hx := Bd.exec
  have hby := Bd.bytes
  have hlk : meth.locks = false := BodyLoose.notSynchronized Bd
  have hret := Bd.returns
  have hml : c.maxLocals = 4 := hml0
  have hown : s.vm.findClass "com/example/truerow/truerow/sqlite/AffinityIsNumericPinLaw" = some m.cls := findClass_of_methodNamed Bd.named
  have hnm := (name_of_methodNamed Bd.named Bd.method).1
  have X0 : Stand p l e room_1 s m #[(.int p0)] below meth c s₁ [] 0 0 := Stand.of_body Bd
  have e0 : s₁.heap = h0 := by rw [← hh, Bd.state]; rfl
  have N0 := Fr.nil n0
  refine Go.start (Q := Q0 Z p0 w_NONE w_NUMERIC w_INTEGER w_REAL w_TEXT w_BLOB h0 n0) (ef_0 m p0) ?_
  have ne_w_NONE_w_NUMERIC : w_NONE ≠ w_NUMERIC := Fld.ne F_NONE_ordinal F_NUMERIC_ordinal (by simp)
  have ne_w_NONE_w_INTEGER : w_NONE ≠ w_INTEGER := Fld.ne F_NONE_ordinal F_INTEGER_ordinal (by simp)
  have ne_w_NONE_w_REAL : w_NONE ≠ w_REAL := Fld.ne F_NONE_ordinal F_REAL_ordinal (by simp)
  have ne_w_NONE_w_TEXT : w_NONE ≠ w_TEXT := Fld.ne F_NONE_ordinal F_TEXT_ordinal (by simp)
  have ne_w_NONE_w_BLOB : w_NONE ≠ w_BLOB := Fld.ne F_NONE_ordinal F_BLOB_ordinal (by simp)
  have ne_w_NUMERIC_w_INTEGER : w_NUMERIC ≠ w_INTEGER := Fld.ne F_NUMERIC_ordinal F_INTEGER_ordinal (by simp)
  have ne_w_NUMERIC_w_REAL : w_NUMERIC ≠ w_REAL := Fld.ne F_NUMERIC_ordinal F_REAL_ordinal (by simp)
  have ne_w_NUMERIC_w_TEXT : w_NUMERIC ≠ w_TEXT := Fld.ne F_NUMERIC_ordinal F_TEXT_ordinal (by simp)
  have ne_w_NUMERIC_w_BLOB : w_NUMERIC ≠ w_BLOB := Fld.ne F_NUMERIC_ordinal F_BLOB_ordinal (by simp)
  have ne_w_INTEGER_w_REAL : w_INTEGER ≠ w_REAL := Fld.ne F_INTEGER_ordinal F_REAL_ordinal (by simp)
  have ne_w_INTEGER_w_TEXT : w_INTEGER ≠ w_TEXT := Fld.ne F_INTEGER_ordinal F_TEXT_ordinal (by simp)
  have ne_w_INTEGER_w_BLOB : w_INTEGER ≠ w_BLOB := Fld.ne F_INTEGER_ordinal F_BLOB_ordinal (by simp)
  have ne_w_REAL_w_TEXT : w_REAL ≠ w_TEXT := Fld.ne F_REAL_ordinal F_TEXT_ordinal (by simp)
  have ne_w_REAL_w_BLOB : w_REAL ≠ w_BLOB := Fld.ne F_REAL_ordinal F_BLOB_ordinal (by simp)
  have ne_w_TEXT_w_BLOB : w_TEXT ≠ w_BLOB := Fld.ne F_TEXT_ordinal F_BLOB_ordinal (by simp)
  show Go _ _ _ _ _ _ _ s₁ (mkF m 0 #[.val (.int p0), .unset, .unset, .unset] [])
  refine Go.st (fun _ k => XS.iloadN X0.here hx rfl (hb hby at_0) rfl k) ?_
  show Go _ _ _ _ _ _ _ s₁ (mkF m 1 #[.val (.int p0), .unset, .unset, .unset] [(.int p0)])
  refine Go.st (fun _ k => Jvm.Stand.ldcI X0 hx hown (mvT hZ (hw _ (List.mem_of_getElem? (i := 0) rfl))) rfl (hb hby at_1) k) ?_
  show Go _ _ _ _ _ _ _ s₁ (mkF m 3 #[.val (.int p0), .unset, .unset, .unset] [(.int (2147483647 : Int32)), (.int p0)])
  refine Go.st (fun _ k => XS.iand X0.here hx rfl (hb hby at_3) rfl k) ?_
  show Go _ _ _ _ _ _ _ s₁ (mkF m 4 #[.val (.int p0), .unset, .unset, .unset] [(.int (p0 &&& (2147483647 : Int32)))])
  refine Go.st (fun _ k => XS.bipush X0.here hx rfl (hb hby at_4) k) ?_
  show Go _ _ _ _ _ _ _ s₁ (mkF m 6 #[.val (.int p0), .unset, .unset, .unset] [(.int (6 : Int32)), (.int (p0 &&& (2147483647 : Int32)))])
  refine Go.st (fun _ k => iremM (g := (mkF m 6 #[.val (.int p0), .unset, .unset, .unset] [(.int (6 : Int32)), (.int (p0 &&& (2147483647 : Int32)))])) X0 hx rfl (hb hby at_6) rfl (by decide) k) ?_
  show Go _ _ _ _ _ _ _ s₁ (mkF m 7 #[.val (.int p0), .unset, .unset, .unset] [(.int ((p0 &&& (2147483647 : Int32)) % (6 : Int32)))])
  rcases own_mod6 p0 with hk1 | hk1 | hk1 | hk1 | hk1 | hk1
  · rw [hk1]
    show Go _ _ _ _ _ _ _ s₁ (mkF m 7 #[.val (.int p0), .unset, .unset, .unset] [(.int (0 : Int32))])
    refine Go.st (fun _ k => XS.istoreN X0.here hx rfl (hb hby at_7) rfl (l' := #[.val (.int p0), .val (.int (0 : Int32)), .unset, .unset]) rfl k) ?_
    show Go _ _ _ _ _ _ _ s₁ (mkF m 8 #[.val (.int p0), .val (.int (0 : Int32)), .unset, .unset] [])
    refine Go.st (fun _ k => XS.iloadN X0.here hx rfl (hb hby at_8) rfl k) ?_
    show Go _ _ _ _ _ _ _ s₁ (mkF m 9 #[.val (.int p0), .val (.int (0 : Int32)), .unset, .unset] [(.int (0 : Int32))])
    refine Go.st (fun _ k => XS.ifNo X0.here hx rfl (hb hby at_9) rfl ((if0 _ _).trans (teq (by decide : (0 : Int32) = (0 : Int32))).2) k) ?_
    show Go _ _ _ _ _ _ _ s₁ (mkF m 12 #[.val (.int p0), .val (.int (0 : Int32)), .unset, .unset] [])
    obtain ⟨T2, X2, e2, st2⟩ := getS2 X0 hx hZ hown (host := "") (Or.inl (hw _ (List.mem_of_getElem? (i := 1) rfl))) Via.refl e0 S_NONE (g := (mkF m 12 #[.val (.int p0), .val (.int (0 : Int32)), .unset, .unset] [])) rfl (hb hby at_12)
    refine Go.st st2 ?_
    show Go _ _ _ _ _ _ _ T2 (mkF m 15 #[.val (.int p0), .val (.int (0 : Int32)), .unset, .unset] [(.ref w_NONE)])
    refine Go.st (fun _ k => XS.astoreN X2.here hx rfl (hb hby at_15) rfl rfl (l' := #[.val (.int p0), .val (.int (0 : Int32)), .val (.ref w_NONE), .unset]) rfl k) ?_
    show Go _ _ _ _ _ _ _ T2 (mkF m 16 #[.val (.int p0), .val (.int (0 : Int32)), .val (.ref w_NONE), .unset] [])
    refine Go.st (fun _ k => XS.iconst X2.here hx rfl (hb hby at_16) k) ?_
    show Go _ _ _ _ _ _ _ T2 (mkF m 17 #[.val (.int p0), .val (.int (0 : Int32)), .val (.ref w_NONE), .unset] [(.int (0 : Int32))])
    refine Go.st (fun _ k => XS.istoreN X2.here hx rfl (hb hby at_17) rfl (l' := #[.val (.int p0), .val (.int (0 : Int32)), .val (.ref w_NONE), .val (.int (0 : Int32))]) rfl k) ?_
    show Go _ _ _ _ _ _ _ T2 (mkF m 18 #[.val (.int p0), .val (.int (0 : Int32)), .val (.ref w_NONE), .val (.int (0 : Int32))] [])
    refine Go.st (fun _ k => XS.goto X2.here hx rfl (pc0 := 18) (pc' := 83) rfl (hb hby at_18) (by decide) (by decide) k) ?_
    show Go _ _ _ _ _ _ _ T2 (mkF m 83 #[.val (.int p0), .val (.int (0 : Int32)), .val (.ref w_NONE), .val (.int (0 : Int32))] [])
    refine Go.st (fun _ k => XS.aloadN X2.here hx rfl (hb hby at_83) rfl rfl k) ?_
    show Go _ _ _ _ _ _ _ T2 (mkF m 84 #[.val (.int p0), .val (.int (0 : Int32)), .val (.ref w_NONE), .val (.int (0 : Int32))] [(.ref w_NONE)])
    obtain ⟨cq3, kq3, q3a, q3b, q3c⟩ := isOf hZ e2 E_NONE
    obtain ⟨_, _, ⟨T3, L3, k3, n3⟩, -, X3, ⟨Lc3, hQ3, l3, y3, z3⟩, st3⟩ := X2.virtualBack hx (y := (⟨"com/example/truerow/truerow/sqlite/Affinity", "isNumeric", "()Z"⟩ : MethodName)) (z := (⟨"com/example/truerow/truerow/sqlite/Affinity", "isNumeric", "()Z"⟩ : MethodName)) hown (mvT hZ (hw _ (List.mem_of_getElem? (i := 4) rfl))) (mvT hZ (hw _ (List.mem_of_getElem? (i := 5) rfl))) (notFace_of_selects (args := #[]) (mvT hZ (hw _ (List.mem_of_getElem? (i := 7) rfl)))) (mvT hZ (hw _ (List.mem_of_getElem? (i := 7) rfl))) (mvT hZ (hw _ (List.mem_of_getElem? (i := 6) rfl))) (by decide) (backOf (W := 0) (rm1 l Z a0 hw [] w_NONE w_NUMERIC w_INTEGER w_REAL h0 n0 Z0 S_NUMERIC S_INTEGER S_REAL) hZ (hw _ (List.mem_of_getElem? (i := 8) rfl)) (hw _ (List.mem_of_getElem? (i := 2) rfl)) (by decide) (by decide)) q3a q3c (g := (mkF m 84 #[.val (.int p0), .val (.int (0 : Int32)), .val (.ref w_NONE), .val (.int (0 : Int32))] [(.ref w_NONE)])) rfl (by rw [hml]; rfl) (Steps.refl _) (argsL := []) (rest := []) (lenOf pd_0 rfl) rfl (by show 2 * 0 + _ ≤ _; exact Nat.le_of_eq rfl) (hb hby at_84) (fun _ _ => ⟨rfl, e2, (by decide : 0 + 0 ≤ _), (by decide : 0 + 0 ≤ _)⟩)
    dsimp only [Pt.U, Pt.locs, Pt.cells, Pt.slots] at X3 l3 y3 z3 st3 hQ3
    subst l3 y3 z3
    obtain ⟨rfl, N3q, e3⟩ := hQ3
    have N3 := Fr.app N0 N3q
    refine Go.st (fun _ k => st3.trans k) ?_
    show Go _ _ _ _ _ _ _ T3 (mkF m 87 #[.val (.int p0), .val (.int (0 : Int32)), .val (.ref w_NONE), .val (.int (0 : Int32))] [(.int (val_1 w_NONE w_NUMERIC w_INTEGER w_REAL))])
    rw [show (val_1 w_NONE w_NUMERIC w_INTEGER w_REAL) = (0 : Int32) from by unfold val_1; rw [if_neg ne_w_NONE_w_NUMERIC, if_neg ne_w_NONE_w_INTEGER, if_neg ne_w_NONE_w_REAL]]
    show Go _ _ _ _ _ _ _ T3 (mkF m 87 #[.val (.int p0), .val (.int (0 : Int32)), .val (.ref w_NONE), .val (.int (0 : Int32))] [(.int (0 : Int32))])
    refine Go.st (fun _ k => XS.iloadN X3.here hx rfl (hb hby at_87) rfl k) ?_
    show Go _ _ _ _ _ _ _ T3 (mkF m 88 #[.val (.int p0), .val (.int (0 : Int32)), .val (.ref w_NONE), .val (.int (0 : Int32))] [(.int (0 : Int32)), (.int (0 : Int32))])
    refine Go.st (fun _ k => XS.icmpNo X3.here hx rfl (hb hby at_88) rfl (teq (by decide : (0 : Int32) = (0 : Int32))).2 k) ?_
    show Go _ _ _ _ _ _ _ T3 (mkF m 91 #[.val (.int p0), .val (.int (0 : Int32)), .val (.ref w_NONE), .val (.int (0 : Int32))] [])
    refine Go.st (fun _ k => XS.iconst X3.here hx rfl (hb hby at_91) k) ?_
    show Go _ _ _ _ _ _ _ T3 (mkF m 92 #[.val (.int p0), .val (.int (0 : Int32)), .val (.ref w_NONE), .val (.int (0 : Int32))] [(.int (1 : Int32))])
    refine Go.st (fun _ k => XS.goto X3.here hx rfl (pc0 := 92) (pc' := 96) rfl (hb hby at_92) (by decide) (by decide) k) ?_
    show Go _ _ _ _ _ _ _ T3 (mkF m 96 #[.val (.int p0), .val (.int (0 : Int32)), .val (.ref w_NONE), .val (.int (0 : Int32))] [(.int (1 : Int32))])
    refine Go.ret X3 hlk (v := some (.int (1 : Int32))) (fun h => by rw [hret] at h; cases h) (fun fs hr => retN X3 hx (t := .boolean) hret (by simp) (hb hby at_96) hr) ?_ (by decide) (by decide)
    show Q0 Z p0 w_NONE w_NUMERIC w_INTEGER w_REAL w_TEXT w_BLOB h0 n0 (some (.int (1 : Int32))) T3.heap _
    rw [e3]
    exact ⟨rfl, N3⟩
  · rw [hk1]
    show Go _ _ _ _ _ _ _ s₁ (mkF m 7 #[.val (.int p0), .unset, .unset, .unset] [(.int (1 : Int32))])
    refine Go.st (fun _ k => XS.istoreN X0.here hx rfl (hb hby at_7) rfl (l' := #[.val (.int p0), .val (.int (1 : Int32)), .unset, .unset]) rfl k) ?_
    show Go _ _ _ _ _ _ _ s₁ (mkF m 8 #[.val (.int p0), .val (.int (1 : Int32)), .unset, .unset] [])
    refine Go.st (fun _ k => XS.iloadN X0.here hx rfl (hb hby at_8) rfl k) ?_
    show Go _ _ _ _ _ _ _ s₁ (mkF m 9 #[.val (.int p0), .val (.int (1 : Int32)), .unset, .unset] [(.int (1 : Int32))])
    refine Go.st (fun _ k => XS.ifYes X0.here hx rfl (pc0 := 9) (pc' := 21) rfl (hb hby at_9) rfl ((if0 _ _).trans (feq (by decide : ¬ ((1 : Int32) = (0 : Int32)))).2) (by decide) (by decide) k) ?_
    show Go _ _ _ _ _ _ _ s₁ (mkF m 21 #[.val (.int p0), .val (.int (1 : Int32)), .unset, .unset] [])
    refine Go.st (fun _ k => XS.iloadN X0.here hx rfl (hb hby at_21) rfl k) ?_
    show Go _ _ _ _ _ _ _ s₁ (mkF m 22 #[.val (.int p0), .val (.int (1 : Int32)), .unset, .unset] [(.int (1 : Int32))])
    refine Go.st (fun _ k => XS.iconst X0.here hx rfl (hb hby at_22) k) ?_
    show Go _ _ _ _ _ _ _ s₁ (mkF m 23 #[.val (.int p0), .val (.int (1 : Int32)), .unset, .unset] [(.int (1 : Int32)), (.int (1 : Int32))])
    refine Go.st (fun _ k => XS.icmpNo X0.here hx rfl (hb hby at_23) rfl (teq (by decide : (1 : Int32) = (1 : Int32))).2 k) ?_
    show Go _ _ _ _ _ _ _ s₁ (mkF m 26 #[.val (.int p0), .val (.int (1 : Int32)), .unset, .unset] [])
    obtain ⟨T4, X4, e4, st4⟩ := getS2 X0 hx hZ hown (host := "") (Or.inl (hw _ (List.mem_of_getElem? (i := 18) rfl))) Via.refl e0 S_BLOB (g := (mkF m 26 #[.val (.int p0), .val (.int (1 : Int32)), .unset, .unset] [])) rfl (hb hby at_26)
    refine Go.st st4 ?_
    show Go _ _ _ _ _ _ _ T4 (mkF m 29 #[.val (.int p0), .val (.int (1 : Int32)), .unset, .unset] [(.ref w_BLOB)])
    refine Go.st (fun _ k => XS.astoreN X4.here hx rfl (hb hby at_29) rfl rfl (l' := #[.val (.int p0), .val (.int (1 : Int32)), .val (.ref w_BLOB), .unset]) rfl k) ?_
    show Go _ _ _ _ _ _ _ T4 (mkF m 30 #[.val (.int p0), .val (.int (1 : Int32)), .val (.ref w_BLOB), .unset] [])
    refine Go.st (fun _ k => XS.iconst X4.here hx rfl (hb hby at_30) k) ?_
    show Go _ _ _ _ _ _ _ T4 (mkF m 31 #[.val (.int p0), .val (.int (1 : Int32)), .val (.ref w_BLOB), .unset] [(.int (0 : Int32))])
    refine Go.st (fun _ k => XS.istoreN X4.here hx rfl (hb hby at_31) rfl (l' := #[.val (.int p0), .val (.int (1 : Int32)), .val (.ref w_BLOB), .val (.int (0 : Int32))]) rfl k) ?_
    show Go _ _ _ _ _ _ _ T4 (mkF m 32 #[.val (.int p0), .val (.int (1 : Int32)), .val (.ref w_BLOB), .val (.int (0 : Int32))] [])
    refine Go.st (fun _ k => XS.goto X4.here hx rfl (pc0 := 32) (pc' := 83) rfl (hb hby at_32) (by decide) (by decide) k) ?_
    show Go _ _ _ _ _ _ _ T4 (mkF m 83 #[.val (.int p0), .val (.int (1 : Int32)), .val (.ref w_BLOB), .val (.int (0 : Int32))] [])
    refine Go.st (fun _ k => XS.aloadN X4.here hx rfl (hb hby at_83) rfl rfl k) ?_
    show Go _ _ _ _ _ _ _ T4 (mkF m 84 #[.val (.int p0), .val (.int (1 : Int32)), .val (.ref w_BLOB), .val (.int (0 : Int32))] [(.ref w_BLOB)])
    obtain ⟨cq5, kq5, q5a, q5b, q5c⟩ := isOf hZ e4 E_BLOB
    obtain ⟨_, _, ⟨T5, L5, k5, n5⟩, -, X5, ⟨Lc5, hQ5, l5, y5, z5⟩, st5⟩ := X4.virtualBack hx (y := (⟨"com/example/truerow/truerow/sqlite/Affinity", "isNumeric", "()Z"⟩ : MethodName)) (z := (⟨"com/example/truerow/truerow/sqlite/Affinity", "isNumeric", "()Z"⟩ : MethodName)) hown (mvT hZ (hw _ (List.mem_of_getElem? (i := 4) rfl))) (mvT hZ (hw _ (List.mem_of_getElem? (i := 5) rfl))) (notFace_of_selects (args := #[]) (mvT hZ (hw _ (List.mem_of_getElem? (i := 7) rfl)))) (mvT hZ (hw _ (List.mem_of_getElem? (i := 7) rfl))) (mvT hZ (hw _ (List.mem_of_getElem? (i := 6) rfl))) (by decide) (backOf (W := 0) (rm1 l Z a0 hw [] w_BLOB w_NUMERIC w_INTEGER w_REAL h0 n0 Z0 S_NUMERIC S_INTEGER S_REAL) hZ (hw _ (List.mem_of_getElem? (i := 8) rfl)) (hw _ (List.mem_of_getElem? (i := 2) rfl)) (by decide) (by decide)) q5a q5c (g := (mkF m 84 #[.val (.int p0), .val (.int (1 : Int32)), .val (.ref w_BLOB), .val (.int (0 : Int32))] [(.ref w_BLOB)])) rfl (by rw [hml]; rfl) (Steps.refl _) (argsL := []) (rest := []) (lenOf pd_0 rfl) rfl (by show 2 * 0 + _ ≤ _; exact Nat.le_of_eq rfl) (hb hby at_84) (fun _ _ => ⟨rfl, e4, (by decide : 0 + 0 ≤ _), (by decide : 0 + 0 ≤ _)⟩)
    dsimp only [Pt.U, Pt.locs, Pt.cells, Pt.slots] at X5 l5 y5 z5 st5 hQ5
    subst l5 y5 z5
    obtain ⟨rfl, N5q, e5⟩ := hQ5
    have N5 := Fr.app N0 N5q
    refine Go.st (fun _ k => st5.trans k) ?_
    show Go _ _ _ _ _ _ _ T5 (mkF m 87 #[.val (.int p0), .val (.int (1 : Int32)), .val (.ref w_BLOB), .val (.int (0 : Int32))] [(.int (val_1 w_BLOB w_NUMERIC w_INTEGER w_REAL))])
    rw [show (val_1 w_BLOB w_NUMERIC w_INTEGER w_REAL) = (0 : Int32) from by unfold val_1; rw [if_neg (Ne.symm ne_w_NUMERIC_w_BLOB), if_neg (Ne.symm ne_w_INTEGER_w_BLOB), if_neg (Ne.symm ne_w_REAL_w_BLOB)]]
    show Go _ _ _ _ _ _ _ T5 (mkF m 87 #[.val (.int p0), .val (.int (1 : Int32)), .val (.ref w_BLOB), .val (.int (0 : Int32))] [(.int (0 : Int32))])
    refine Go.st (fun _ k => XS.iloadN X5.here hx rfl (hb hby at_87) rfl k) ?_
    show Go _ _ _ _ _ _ _ T5 (mkF m 88 #[.val (.int p0), .val (.int (1 : Int32)), .val (.ref w_BLOB), .val (.int (0 : Int32))] [(.int (0 : Int32)), (.int (0 : Int32))])
    refine Go.st (fun _ k => XS.icmpNo X5.here hx rfl (hb hby at_88) rfl (teq (by decide : (0 : Int32) = (0 : Int32))).2 k) ?_
    show Go _ _ _ _ _ _ _ T5 (mkF m 91 #[.val (.int p0), .val (.int (1 : Int32)), .val (.ref w_BLOB), .val (.int (0 : Int32))] [])
    refine Go.st (fun _ k => XS.iconst X5.here hx rfl (hb hby at_91) k) ?_
    show Go _ _ _ _ _ _ _ T5 (mkF m 92 #[.val (.int p0), .val (.int (1 : Int32)), .val (.ref w_BLOB), .val (.int (0 : Int32))] [(.int (1 : Int32))])
    refine Go.st (fun _ k => XS.goto X5.here hx rfl (pc0 := 92) (pc' := 96) rfl (hb hby at_92) (by decide) (by decide) k) ?_
    show Go _ _ _ _ _ _ _ T5 (mkF m 96 #[.val (.int p0), .val (.int (1 : Int32)), .val (.ref w_BLOB), .val (.int (0 : Int32))] [(.int (1 : Int32))])
    refine Go.ret X5 hlk (v := some (.int (1 : Int32))) (fun h => by rw [hret] at h; cases h) (fun fs hr => retN X5 hx (t := .boolean) hret (by simp) (hb hby at_96) hr) ?_ (by decide) (by decide)
    show Q0 Z p0 w_NONE w_NUMERIC w_INTEGER w_REAL w_TEXT w_BLOB h0 n0 (some (.int (1 : Int32))) T5.heap _
    rw [e5]
    exact ⟨rfl, N5⟩
  · rw [hk1]
    show Go _ _ _ _ _ _ _ s₁ (mkF m 7 #[.val (.int p0), .unset, .unset, .unset] [(.int (2 : Int32))])
    refine Go.st (fun _ k => XS.istoreN X0.here hx rfl (hb hby at_7) rfl (l' := #[.val (.int p0), .val (.int (2 : Int32)), .unset, .unset]) rfl k) ?_
    show Go _ _ _ _ _ _ _ s₁ (mkF m 8 #[.val (.int p0), .val (.int (2 : Int32)), .unset, .unset] [])
    refine Go.st (fun _ k => XS.iloadN X0.here hx rfl (hb hby at_8) rfl k) ?_
    show Go _ _ _ _ _ _ _ s₁ (mkF m 9 #[.val (.int p0), .val (.int (2 : Int32)), .unset, .unset] [(.int (2 : Int32))])
    refine Go.st (fun _ k => XS.ifYes X0.here hx rfl (pc0 := 9) (pc' := 21) rfl (hb hby at_9) rfl ((if0 _ _).trans (feq (by decide : ¬ ((2 : Int32) = (0 : Int32)))).2) (by decide) (by decide) k) ?_
    show Go _ _ _ _ _ _ _ s₁ (mkF m 21 #[.val (.int p0), .val (.int (2 : Int32)), .unset, .unset] [])
    refine Go.st (fun _ k => XS.iloadN X0.here hx rfl (hb hby at_21) rfl k) ?_
    show Go _ _ _ _ _ _ _ s₁ (mkF m 22 #[.val (.int p0), .val (.int (2 : Int32)), .unset, .unset] [(.int (2 : Int32))])
    refine Go.st (fun _ k => XS.iconst X0.here hx rfl (hb hby at_22) k) ?_
    show Go _ _ _ _ _ _ _ s₁ (mkF m 23 #[.val (.int p0), .val (.int (2 : Int32)), .unset, .unset] [(.int (1 : Int32)), (.int (2 : Int32))])
    refine Go.st (fun _ k => XS.icmpYes X0.here hx rfl (pc0 := 23) (pc' := 35) rfl (hb hby at_23) rfl (feq (by decide : ¬ ((2 : Int32) = (1 : Int32)))).2 (by decide) (by decide) k) ?_
    show Go _ _ _ _ _ _ _ s₁ (mkF m 35 #[.val (.int p0), .val (.int (2 : Int32)), .unset, .unset] [])
    refine Go.st (fun _ k => XS.iloadN X0.here hx rfl (hb hby at_35) rfl k) ?_
    show Go _ _ _ _ _ _ _ s₁ (mkF m 36 #[.val (.int p0), .val (.int (2 : Int32)), .unset, .unset] [(.int (2 : Int32))])
    refine Go.st (fun _ k => XS.iconst X0.here hx rfl (hb hby at_36) k) ?_
    show Go _ _ _ _ _ _ _ s₁ (mkF m 37 #[.val (.int p0), .val (.int (2 : Int32)), .unset, .unset] [(.int (2 : Int32)), (.int (2 : Int32))])
    refine Go.st (fun _ k => XS.icmpNo X0.here hx rfl (hb hby at_37) rfl (teq (by decide : (2 : Int32) = (2 : Int32))).2 k) ?_
    show Go _ _ _ _ _ _ _ s₁ (mkF m 40 #[.val (.int p0), .val (.int (2 : Int32)), .unset, .unset] [])
    obtain ⟨T6, X6, e6, st6⟩ := getS2 X0 hx hZ hown (host := "") (Or.inl (hw _ (List.mem_of_getElem? (i := 16) rfl))) Via.refl e0 S_TEXT (g := (mkF m 40 #[.val (.int p0), .val (.int (2 : Int32)), .unset, .unset] [])) rfl (hb hby at_40)
    refine Go.st st6 ?_
    show Go _ _ _ _ _ _ _ T6 (mkF m 43 #[.val (.int p0), .val (.int (2 : Int32)), .unset, .unset] [(.ref w_TEXT)])
    refine Go.st (fun _ k => XS.astoreN X6.here hx rfl (hb hby at_43) rfl rfl (l' := #[.val (.int p0), .val (.int (2 : Int32)), .val (.ref w_TEXT), .unset]) rfl k) ?_
    show Go _ _ _ _ _ _ _ T6 (mkF m 44 #[.val (.int p0), .val (.int (2 : Int32)), .val (.ref w_TEXT), .unset] [])
    refine Go.st (fun _ k => XS.iconst X6.here hx rfl (hb hby at_44) k) ?_
    show Go _ _ _ _ _ _ _ T6 (mkF m 45 #[.val (.int p0), .val (.int (2 : Int32)), .val (.ref w_TEXT), .unset] [(.int (0 : Int32))])
    refine Go.st (fun _ k => XS.istoreN X6.here hx rfl (hb hby at_45) rfl (l' := #[.val (.int p0), .val (.int (2 : Int32)), .val (.ref w_TEXT), .val (.int (0 : Int32))]) rfl k) ?_
    show Go _ _ _ _ _ _ _ T6 (mkF m 46 #[.val (.int p0), .val (.int (2 : Int32)), .val (.ref w_TEXT), .val (.int (0 : Int32))] [])
    refine Go.st (fun _ k => XS.goto X6.here hx rfl (pc0 := 46) (pc' := 83) rfl (hb hby at_46) (by decide) (by decide) k) ?_
    show Go _ _ _ _ _ _ _ T6 (mkF m 83 #[.val (.int p0), .val (.int (2 : Int32)), .val (.ref w_TEXT), .val (.int (0 : Int32))] [])
    refine Go.st (fun _ k => XS.aloadN X6.here hx rfl (hb hby at_83) rfl rfl k) ?_
    show Go _ _ _ _ _ _ _ T6 (mkF m 84 #[.val (.int p0), .val (.int (2 : Int32)), .val (.ref w_TEXT), .val (.int (0 : Int32))] [(.ref w_TEXT)])
    obtain ⟨cq7, kq7, q7a, q7b, q7c⟩ := isOf hZ e6 E_TEXT
    obtain ⟨_, _, ⟨T7, L7, k7, n7⟩, -, X7, ⟨Lc7, hQ7, l7, y7, z7⟩, st7⟩ := X6.virtualBack hx (y := (⟨"com/example/truerow/truerow/sqlite/Affinity", "isNumeric", "()Z"⟩ : MethodName)) (z := (⟨"com/example/truerow/truerow/sqlite/Affinity", "isNumeric", "()Z"⟩ : MethodName)) hown (mvT hZ (hw _ (List.mem_of_getElem? (i := 4) rfl))) (mvT hZ (hw _ (List.mem_of_getElem? (i := 5) rfl))) (notFace_of_selects (args := #[]) (mvT hZ (hw _ (List.mem_of_getElem? (i := 7) rfl)))) (mvT hZ (hw _ (List.mem_of_getElem? (i := 7) rfl))) (mvT hZ (hw _ (List.mem_of_getElem? (i := 6) rfl))) (by decide) (backOf (W := 0) (rm1 l Z a0 hw [] w_TEXT w_NUMERIC w_INTEGER w_REAL h0 n0 Z0 S_NUMERIC S_INTEGER S_REAL) hZ (hw _ (List.mem_of_getElem? (i := 8) rfl)) (hw _ (List.mem_of_getElem? (i := 2) rfl)) (by decide) (by decide)) q7a q7c (g := (mkF m 84 #[.val (.int p0), .val (.int (2 : Int32)), .val (.ref w_TEXT), .val (.int (0 : Int32))] [(.ref w_TEXT)])) rfl (by rw [hml]; rfl) (Steps.refl _) (argsL := []) (rest := []) (lenOf pd_0 rfl) rfl (by show 2 * 0 + _ ≤ _; exact Nat.le_of_eq rfl) (hb hby at_84) (fun _ _ => ⟨rfl, e6, (by decide : 0 + 0 ≤ _), (by decide : 0 + 0 ≤ _)⟩)
    dsimp only [Pt.U, Pt.locs, Pt.cells, Pt.slots] at X7 l7 y7 z7 st7 hQ7
    subst l7 y7 z7
    obtain ⟨rfl, N7q, e7⟩ := hQ7
    have N7 := Fr.app N0 N7q
    refine Go.st (fun _ k => st7.trans k) ?_
    show Go _ _ _ _ _ _ _ T7 (mkF m 87 #[.val (.int p0), .val (.int (2 : Int32)), .val (.ref w_TEXT), .val (.int (0 : Int32))] [(.int (val_1 w_TEXT w_NUMERIC w_INTEGER w_REAL))])
    rw [show (val_1 w_TEXT w_NUMERIC w_INTEGER w_REAL) = (0 : Int32) from by unfold val_1; rw [if_neg (Ne.symm ne_w_NUMERIC_w_TEXT), if_neg (Ne.symm ne_w_INTEGER_w_TEXT), if_neg (Ne.symm ne_w_REAL_w_TEXT)]]
    show Go _ _ _ _ _ _ _ T7 (mkF m 87 #[.val (.int p0), .val (.int (2 : Int32)), .val (.ref w_TEXT), .val (.int (0 : Int32))] [(.int (0 : Int32))])
    refine Go.st (fun _ k => XS.iloadN X7.here hx rfl (hb hby at_87) rfl k) ?_
    show Go _ _ _ _ _ _ _ T7 (mkF m 88 #[.val (.int p0), .val (.int (2 : Int32)), .val (.ref w_TEXT), .val (.int (0 : Int32))] [(.int (0 : Int32)), (.int (0 : Int32))])
    refine Go.st (fun _ k => XS.icmpNo X7.here hx rfl (hb hby at_88) rfl (teq (by decide : (0 : Int32) = (0 : Int32))).2 k) ?_
    show Go _ _ _ _ _ _ _ T7 (mkF m 91 #[.val (.int p0), .val (.int (2 : Int32)), .val (.ref w_TEXT), .val (.int (0 : Int32))] [])
    refine Go.st (fun _ k => XS.iconst X7.here hx rfl (hb hby at_91) k) ?_
    show Go _ _ _ _ _ _ _ T7 (mkF m 92 #[.val (.int p0), .val (.int (2 : Int32)), .val (.ref w_TEXT), .val (.int (0 : Int32))] [(.int (1 : Int32))])
    refine Go.st (fun _ k => XS.goto X7.here hx rfl (pc0 := 92) (pc' := 96) rfl (hb hby at_92) (by decide) (by decide) k) ?_
    show Go _ _ _ _ _ _ _ T7 (mkF m 96 #[.val (.int p0), .val (.int (2 : Int32)), .val (.ref w_TEXT), .val (.int (0 : Int32))] [(.int (1 : Int32))])
    refine Go.ret X7 hlk (v := some (.int (1 : Int32))) (fun h => by rw [hret] at h; cases h) (fun fs hr => retN X7 hx (t := .boolean) hret (by simp) (hb hby at_96) hr) ?_ (by decide) (by decide)
    show Q0 Z p0 w_NONE w_NUMERIC w_INTEGER w_REAL w_TEXT w_BLOB h0 n0 (some (.int (1 : Int32))) T7.heap _
    rw [e7]
    exact ⟨rfl, N7⟩
  · rw [hk1]
    show Go _ _ _ _ _ _ _ s₁ (mkF m 7 #[.val (.int p0), .unset, .unset, .unset] [(.int (3 : Int32))])
    refine Go.st (fun _ k => XS.istoreN X0.here hx rfl (hb hby at_7) rfl (l' := #[.val (.int p0), .val (.int (3 : Int32)), .unset, .unset]) rfl k) ?_
    show Go _ _ _ _ _ _ _ s₁ (mkF m 8 #[.val (.int p0), .val (.int (3 : Int32)), .unset, .unset] [])
    refine Go.st (fun _ k => XS.iloadN X0.here hx rfl (hb hby at_8) rfl k) ?_
    show Go _ _ _ _ _ _ _ s₁ (mkF m 9 #[.val (.int p0), .val (.int (3 : Int32)), .unset, .unset] [(.int (3 : Int32))])
    refine Go.st (fun _ k => XS.ifYes X0.here hx rfl (pc0 := 9) (pc' := 21) rfl (hb hby at_9) rfl ((if0 _ _).trans (feq (by decide : ¬ ((3 : Int32) = (0 : Int32)))).2) (by decide) (by decide) k) ?_
    show Go _ _ _ _ _ _ _ s₁ (mkF m 21 #[.val (.int p0), .val (.int (3 : Int32)), .unset, .unset] [])
    refine Go.st (fun _ k => XS.iloadN X0.here hx rfl (hb hby at_21) rfl k) ?_
    show Go _ _ _ _ _ _ _ s₁ (mkF m 22 #[.val (.int p0), .val (.int (3 : Int32)), .unset, .unset] [(.int (3 : Int32))])
    refine Go.st (fun _ k => XS.iconst X0.here hx rfl (hb hby at_22) k) ?_
    show Go _ _ _ _ _ _ _ s₁ (mkF m 23 #[.val (.int p0), .val (.int (3 : Int32)), .unset, .unset] [(.int (1 : Int32)), (.int (3 : Int32))])
    refine Go.st (fun _ k => XS.icmpYes X0.here hx rfl (pc0 := 23) (pc' := 35) rfl (hb hby at_23) rfl (feq (by decide : ¬ ((3 : Int32) = (1 : Int32)))).2 (by decide) (by decide) k) ?_
    show Go _ _ _ _ _ _ _ s₁ (mkF m 35 #[.val (.int p0), .val (.int (3 : Int32)), .unset, .unset] [])
    refine Go.st (fun _ k => XS.iloadN X0.here hx rfl (hb hby at_35) rfl k) ?_
    show Go _ _ _ _ _ _ _ s₁ (mkF m 36 #[.val (.int p0), .val (.int (3 : Int32)), .unset, .unset] [(.int (3 : Int32))])
    refine Go.st (fun _ k => XS.iconst X0.here hx rfl (hb hby at_36) k) ?_
    show Go _ _ _ _ _ _ _ s₁ (mkF m 37 #[.val (.int p0), .val (.int (3 : Int32)), .unset, .unset] [(.int (2 : Int32)), (.int (3 : Int32))])
    refine Go.st (fun _ k => XS.icmpYes X0.here hx rfl (pc0 := 37) (pc' := 49) rfl (hb hby at_37) rfl (feq (by decide : ¬ ((3 : Int32) = (2 : Int32)))).2 (by decide) (by decide) k) ?_
    show Go _ _ _ _ _ _ _ s₁ (mkF m 49 #[.val (.int p0), .val (.int (3 : Int32)), .unset, .unset] [])
    refine Go.st (fun _ k => XS.iloadN X0.here hx rfl (hb hby at_49) rfl k) ?_
    show Go _ _ _ _ _ _ _ s₁ (mkF m 50 #[.val (.int p0), .val (.int (3 : Int32)), .unset, .unset] [(.int (3 : Int32))])
    refine Go.st (fun _ k => XS.iconst X0.here hx rfl (hb hby at_50) k) ?_
    show Go _ _ _ _ _ _ _ s₁ (mkF m 51 #[.val (.int p0), .val (.int (3 : Int32)), .unset, .unset] [(.int (3 : Int32)), (.int (3 : Int32))])
    refine Go.st (fun _ k => XS.icmpNo X0.here hx rfl (hb hby at_51) rfl (teq (by decide : (3 : Int32) = (3 : Int32))).2 k) ?_
    show Go _ _ _ _ _ _ _ s₁ (mkF m 54 #[.val (.int p0), .val (.int (3 : Int32)), .unset, .unset] [])
    obtain ⟨T8, X8, e8, st8⟩ := getS2 X0 hx hZ hown (host := "") (Or.inl (hw _ (List.mem_of_getElem? (i := 15) rfl))) Via.refl e0 S_NUMERIC (g := (mkF m 54 #[.val (.int p0), .val (.int (3 : Int32)), .unset, .unset] [])) rfl (hb hby at_54)
    refine Go.st st8 ?_
    show Go _ _ _ _ _ _ _ T8 (mkF m 57 #[.val (.int p0), .val (.int (3 : Int32)), .unset, .unset] [(.ref w_NUMERIC)])
    refine Go.st (fun _ k => XS.astoreN X8.here hx rfl (hb hby at_57) rfl rfl (l' := #[.val (.int p0), .val (.int (3 : Int32)), .val (.ref w_NUMERIC), .unset]) rfl k) ?_
    show Go _ _ _ _ _ _ _ T8 (mkF m 58 #[.val (.int p0), .val (.int (3 : Int32)), .val (.ref w_NUMERIC), .unset] [])
    refine Go.st (fun _ k => XS.iconst X8.here hx rfl (hb hby at_58) k) ?_
    show Go _ _ _ _ _ _ _ T8 (mkF m 59 #[.val (.int p0), .val (.int (3 : Int32)), .val (.ref w_NUMERIC), .unset] [(.int (1 : Int32))])
    refine Go.st (fun _ k => XS.istoreN X8.here hx rfl (hb hby at_59) rfl (l' := #[.val (.int p0), .val (.int (3 : Int32)), .val (.ref w_NUMERIC), .val (.int (1 : Int32))]) rfl k) ?_
    show Go _ _ _ _ _ _ _ T8 (mkF m 60 #[.val (.int p0), .val (.int (3 : Int32)), .val (.ref w_NUMERIC), .val (.int (1 : Int32))] [])
    refine Go.st (fun _ k => XS.goto X8.here hx rfl (pc0 := 60) (pc' := 83) rfl (hb hby at_60) (by decide) (by decide) k) ?_
    show Go _ _ _ _ _ _ _ T8 (mkF m 83 #[.val (.int p0), .val (.int (3 : Int32)), .val (.ref w_NUMERIC), .val (.int (1 : Int32))] [])
    refine Go.st (fun _ k => XS.aloadN X8.here hx rfl (hb hby at_83) rfl rfl k) ?_
    show Go _ _ _ _ _ _ _ T8 (mkF m 84 #[.val (.int p0), .val (.int (3 : Int32)), .val (.ref w_NUMERIC), .val (.int (1 : Int32))] [(.ref w_NUMERIC)])
    obtain ⟨cq9, kq9, q9a, q9b, q9c⟩ := isOf hZ e8 E_NUMERIC
    obtain ⟨_, _, ⟨T9, L9, k9, n9⟩, -, X9, ⟨Lc9, hQ9, l9, y9, z9⟩, st9⟩ := X8.virtualBack hx (y := (⟨"com/example/truerow/truerow/sqlite/Affinity", "isNumeric", "()Z"⟩ : MethodName)) (z := (⟨"com/example/truerow/truerow/sqlite/Affinity", "isNumeric", "()Z"⟩ : MethodName)) hown (mvT hZ (hw _ (List.mem_of_getElem? (i := 4) rfl))) (mvT hZ (hw _ (List.mem_of_getElem? (i := 5) rfl))) (notFace_of_selects (args := #[]) (mvT hZ (hw _ (List.mem_of_getElem? (i := 7) rfl)))) (mvT hZ (hw _ (List.mem_of_getElem? (i := 7) rfl))) (mvT hZ (hw _ (List.mem_of_getElem? (i := 6) rfl))) (by decide) (backOf (W := 0) (rm1 l Z a0 hw [] w_NUMERIC w_NUMERIC w_INTEGER w_REAL h0 n0 Z0 S_NUMERIC S_INTEGER S_REAL) hZ (hw _ (List.mem_of_getElem? (i := 8) rfl)) (hw _ (List.mem_of_getElem? (i := 2) rfl)) (by decide) (by decide)) q9a q9c (g := (mkF m 84 #[.val (.int p0), .val (.int (3 : Int32)), .val (.ref w_NUMERIC), .val (.int (1 : Int32))] [(.ref w_NUMERIC)])) rfl (by rw [hml]; rfl) (Steps.refl _) (argsL := []) (rest := []) (lenOf pd_0 rfl) rfl (by show 2 * 0 + _ ≤ _; exact Nat.le_of_eq rfl) (hb hby at_84) (fun _ _ => ⟨rfl, e8, (by decide : 0 + 0 ≤ _), (by decide : 0 + 0 ≤ _)⟩)
    dsimp only [Pt.U, Pt.locs, Pt.cells, Pt.slots] at X9 l9 y9 z9 st9 hQ9
    subst l9 y9 z9
    obtain ⟨rfl, N9q, e9⟩ := hQ9
    have N9 := Fr.app N0 N9q
    refine Go.st (fun _ k => st9.trans k) ?_
    show Go _ _ _ _ _ _ _ T9 (mkF m 87 #[.val (.int p0), .val (.int (3 : Int32)), .val (.ref w_NUMERIC), .val (.int (1 : Int32))] [(.int (val_1 w_NUMERIC w_NUMERIC w_INTEGER w_REAL))])
    rw [show (val_1 w_NUMERIC w_NUMERIC w_INTEGER w_REAL) = (1 : Int32) from by unfold val_1; rw [if_pos rfl]]
    show Go _ _ _ _ _ _ _ T9 (mkF m 87 #[.val (.int p0), .val (.int (3 : Int32)), .val (.ref w_NUMERIC), .val (.int (1 : Int32))] [(.int (1 : Int32))])
    refine Go.st (fun _ k => XS.iloadN X9.here hx rfl (hb hby at_87) rfl k) ?_
    show Go _ _ _ _ _ _ _ T9 (mkF m 88 #[.val (.int p0), .val (.int (3 : Int32)), .val (.ref w_NUMERIC), .val (.int (1 : Int32))] [(.int (1 : Int32)), (.int (1 : Int32))])
    refine Go.st (fun _ k => XS.icmpNo X9.here hx rfl (hb hby at_88) rfl (teq (by decide : (1 : Int32) = (1 : Int32))).2 k) ?_
    show Go _ _ _ _ _ _ _ T9 (mkF m 91 #[.val (.int p0), .val (.int (3 : Int32)), .val (.ref w_NUMERIC), .val (.int (1 : Int32))] [])
    refine Go.st (fun _ k => XS.iconst X9.here hx rfl (hb hby at_91) k) ?_
    show Go _ _ _ _ _ _ _ T9 (mkF m 92 #[.val (.int p0), .val (.int (3 : Int32)), .val (.ref w_NUMERIC), .val (.int (1 : Int32))] [(.int (1 : Int32))])
    refine Go.st (fun _ k => XS.goto X9.here hx rfl (pc0 := 92) (pc' := 96) rfl (hb hby at_92) (by decide) (by decide) k) ?_
    show Go _ _ _ _ _ _ _ T9 (mkF m 96 #[.val (.int p0), .val (.int (3 : Int32)), .val (.ref w_NUMERIC), .val (.int (1 : Int32))] [(.int (1 : Int32))])
    refine Go.ret X9 hlk (v := some (.int (1 : Int32))) (fun h => by rw [hret] at h; cases h) (fun fs hr => retN X9 hx (t := .boolean) hret (by simp) (hb hby at_96) hr) ?_ (by decide) (by decide)
    show Q0 Z p0 w_NONE w_NUMERIC w_INTEGER w_REAL w_TEXT w_BLOB h0 n0 (some (.int (1 : Int32))) T9.heap _
    rw [e9]
    exact ⟨rfl, N9⟩
  · rw [hk1]
    show Go _ _ _ _ _ _ _ s₁ (mkF m 7 #[.val (.int p0), .unset, .unset, .unset] [(.int (4 : Int32))])
    refine Go.st (fun _ k => XS.istoreN X0.here hx rfl (hb hby at_7) rfl (l' := #[.val (.int p0), .val (.int (4 : Int32)), .unset, .unset]) rfl k) ?_
    show Go _ _ _ _ _ _ _ s₁ (mkF m 8 #[.val (.int p0), .val (.int (4 : Int32)), .unset, .unset] [])
    refine Go.st (fun _ k => XS.iloadN X0.here hx rfl (hb hby at_8) rfl k) ?_
    show Go _ _ _ _ _ _ _ s₁ (mkF m 9 #[.val (.int p0), .val (.int (4 : Int32)), .unset, .unset] [(.int (4 : Int32))])
    refine Go.st (fun _ k => XS.ifYes X0.here hx rfl (pc0 := 9) (pc' := 21) rfl (hb hby at_9) rfl ((if0 _ _).trans (feq (by decide : ¬ ((4 : Int32) = (0 : Int32)))).2) (by decide) (by decide) k) ?_
    show Go _ _ _ _ _ _ _ s₁ (mkF m 21 #[.val (.int p0), .val (.int (4 : Int32)), .unset, .unset] [])
    refine Go.st (fun _ k => XS.iloadN X0.here hx rfl (hb hby at_21) rfl k) ?_
    show Go _ _ _ _ _ _ _ s₁ (mkF m 22 #[.val (.int p0), .val (.int (4 : Int32)), .unset, .unset] [(.int (4 : Int32))])
    refine Go.st (fun _ k => XS.iconst X0.here hx rfl (hb hby at_22) k) ?_
    show Go _ _ _ _ _ _ _ s₁ (mkF m 23 #[.val (.int p0), .val (.int (4 : Int32)), .unset, .unset] [(.int (1 : Int32)), (.int (4 : Int32))])
    refine Go.st (fun _ k => XS.icmpYes X0.here hx rfl (pc0 := 23) (pc' := 35) rfl (hb hby at_23) rfl (feq (by decide : ¬ ((4 : Int32) = (1 : Int32)))).2 (by decide) (by decide) k) ?_
    show Go _ _ _ _ _ _ _ s₁ (mkF m 35 #[.val (.int p0), .val (.int (4 : Int32)), .unset, .unset] [])
    refine Go.st (fun _ k => XS.iloadN X0.here hx rfl (hb hby at_35) rfl k) ?_
    show Go _ _ _ _ _ _ _ s₁ (mkF m 36 #[.val (.int p0), .val (.int (4 : Int32)), .unset, .unset] [(.int (4 : Int32))])
    refine Go.st (fun _ k => XS.iconst X0.here hx rfl (hb hby at_36) k) ?_
    show Go _ _ _ _ _ _ _ s₁ (mkF m 37 #[.val (.int p0), .val (.int (4 : Int32)), .unset, .unset] [(.int (2 : Int32)), (.int (4 : Int32))])
    refine Go.st (fun _ k => XS.icmpYes X0.here hx rfl (pc0 := 37) (pc' := 49) rfl (hb hby at_37) rfl (feq (by decide : ¬ ((4 : Int32) = (2 : Int32)))).2 (by decide) (by decide) k) ?_
    show Go _ _ _ _ _ _ _ s₁ (mkF m 49 #[.val (.int p0), .val (.int (4 : Int32)), .unset, .unset] [])
    refine Go.st (fun _ k => XS.iloadN X0.here hx rfl (hb hby at_49) rfl k) ?_
    show Go _ _ _ _ _ _ _ s₁ (mkF m 50 #[.val (.int p0), .val (.int (4 : Int32)), .unset, .unset] [(.int (4 : Int32))])
    refine Go.st (fun _ k => XS.iconst X0.here hx rfl (hb hby at_50) k) ?_
    show Go _ _ _ _ _ _ _ s₁ (mkF m 51 #[.val (.int p0), .val (.int (4 : Int32)), .unset, .unset] [(.int (3 : Int32)), (.int (4 : Int32))])
    refine Go.st (fun _ k => XS.icmpYes X0.here hx rfl (pc0 := 51) (pc' := 63) rfl (hb hby at_51) rfl (feq (by decide : ¬ ((4 : Int32) = (3 : Int32)))).2 (by decide) (by decide) k) ?_
    show Go _ _ _ _ _ _ _ s₁ (mkF m 63 #[.val (.int p0), .val (.int (4 : Int32)), .unset, .unset] [])
    refine Go.st (fun _ k => XS.iloadN X0.here hx rfl (hb hby at_63) rfl k) ?_
    show Go _ _ _ _ _ _ _ s₁ (mkF m 64 #[.val (.int p0), .val (.int (4 : Int32)), .unset, .unset] [(.int (4 : Int32))])
    refine Go.st (fun _ k => XS.iconst X0.here hx rfl (hb hby at_64) k) ?_
    show Go _ _ _ _ _ _ _ s₁ (mkF m 65 #[.val (.int p0), .val (.int (4 : Int32)), .unset, .unset] [(.int (4 : Int32)), (.int (4 : Int32))])
    refine Go.st (fun _ k => XS.icmpNo X0.here hx rfl (hb hby at_65) rfl (teq (by decide : (4 : Int32) = (4 : Int32))).2 k) ?_
    show Go _ _ _ _ _ _ _ s₁ (mkF m 68 #[.val (.int p0), .val (.int (4 : Int32)), .unset, .unset] [])
    obtain ⟨T10, X10, e10, st10⟩ := getS2 X0 hx hZ hown (host := "") (Or.inl (hw _ (List.mem_of_getElem? (i := 21) rfl))) Via.refl e0 S_INTEGER (g := (mkF m 68 #[.val (.int p0), .val (.int (4 : Int32)), .unset, .unset] [])) rfl (hb hby at_68)
    refine Go.st st10 ?_
    show Go _ _ _ _ _ _ _ T10 (mkF m 71 #[.val (.int p0), .val (.int (4 : Int32)), .unset, .unset] [(.ref w_INTEGER)])
    refine Go.st (fun _ k => XS.astoreN X10.here hx rfl (hb hby at_71) rfl rfl (l' := #[.val (.int p0), .val (.int (4 : Int32)), .val (.ref w_INTEGER), .unset]) rfl k) ?_
    show Go _ _ _ _ _ _ _ T10 (mkF m 72 #[.val (.int p0), .val (.int (4 : Int32)), .val (.ref w_INTEGER), .unset] [])
    refine Go.st (fun _ k => XS.iconst X10.here hx rfl (hb hby at_72) k) ?_
    show Go _ _ _ _ _ _ _ T10 (mkF m 73 #[.val (.int p0), .val (.int (4 : Int32)), .val (.ref w_INTEGER), .unset] [(.int (1 : Int32))])
    refine Go.st (fun _ k => XS.istoreN X10.here hx rfl (hb hby at_73) rfl (l' := #[.val (.int p0), .val (.int (4 : Int32)), .val (.ref w_INTEGER), .val (.int (1 : Int32))]) rfl k) ?_
    show Go _ _ _ _ _ _ _ T10 (mkF m 74 #[.val (.int p0), .val (.int (4 : Int32)), .val (.ref w_INTEGER), .val (.int (1 : Int32))] [])
    refine Go.st (fun _ k => XS.goto X10.here hx rfl (pc0 := 74) (pc' := 83) rfl (hb hby at_74) (by decide) (by decide) k) ?_
    show Go _ _ _ _ _ _ _ T10 (mkF m 83 #[.val (.int p0), .val (.int (4 : Int32)), .val (.ref w_INTEGER), .val (.int (1 : Int32))] [])
    refine Go.st (fun _ k => XS.aloadN X10.here hx rfl (hb hby at_83) rfl rfl k) ?_
    show Go _ _ _ _ _ _ _ T10 (mkF m 84 #[.val (.int p0), .val (.int (4 : Int32)), .val (.ref w_INTEGER), .val (.int (1 : Int32))] [(.ref w_INTEGER)])
    obtain ⟨cq11, kq11, q11a, q11b, q11c⟩ := isOf hZ e10 E_INTEGER
    obtain ⟨_, _, ⟨T11, L11, k11, n11⟩, -, X11, ⟨Lc11, hQ11, l11, y11, z11⟩, st11⟩ := X10.virtualBack hx (y := (⟨"com/example/truerow/truerow/sqlite/Affinity", "isNumeric", "()Z"⟩ : MethodName)) (z := (⟨"com/example/truerow/truerow/sqlite/Affinity", "isNumeric", "()Z"⟩ : MethodName)) hown (mvT hZ (hw _ (List.mem_of_getElem? (i := 4) rfl))) (mvT hZ (hw _ (List.mem_of_getElem? (i := 5) rfl))) (notFace_of_selects (args := #[]) (mvT hZ (hw _ (List.mem_of_getElem? (i := 7) rfl)))) (mvT hZ (hw _ (List.mem_of_getElem? (i := 7) rfl))) (mvT hZ (hw _ (List.mem_of_getElem? (i := 6) rfl))) (by decide) (backOf (W := 0) (rm1 l Z a0 hw [] w_INTEGER w_NUMERIC w_INTEGER w_REAL h0 n0 Z0 S_NUMERIC S_INTEGER S_REAL) hZ (hw _ (List.mem_of_getElem? (i := 8) rfl)) (hw _ (List.mem_of_getElem? (i := 2) rfl)) (by decide) (by decide)) q11a q11c (g := (mkF m 84 #[.val (.int p0), .val (.int (4 : Int32)), .val (.ref w_INTEGER), .val (.int (1 : Int32))] [(.ref w_INTEGER)])) rfl (by rw [hml]; rfl) (Steps.refl _) (argsL := []) (rest := []) (lenOf pd_0 rfl) rfl (by show 2 * 0 + _ ≤ _; exact Nat.le_of_eq rfl) (hb hby at_84) (fun _ _ => ⟨rfl, e10, (by decide : 0 + 0 ≤ _), (by decide : 0 + 0 ≤ _)⟩)
    dsimp only [Pt.U, Pt.locs, Pt.cells, Pt.slots] at X11 l11 y11 z11 st11 hQ11
    subst l11 y11 z11
    obtain ⟨rfl, N11q, e11⟩ := hQ11
    have N11 := Fr.app N0 N11q
    refine Go.st (fun _ k => st11.trans k) ?_
    show Go _ _ _ _ _ _ _ T11 (mkF m 87 #[.val (.int p0), .val (.int (4 : Int32)), .val (.ref w_INTEGER), .val (.int (1 : Int32))] [(.int (val_1 w_INTEGER w_NUMERIC w_INTEGER w_REAL))])
    rw [show (val_1 w_INTEGER w_NUMERIC w_INTEGER w_REAL) = (1 : Int32) from by unfold val_1; rw [if_neg (Ne.symm ne_w_NUMERIC_w_INTEGER), if_pos rfl]]
    show Go _ _ _ _ _ _ _ T11 (mkF m 87 #[.val (.int p0), .val (.int (4 : Int32)), .val (.ref w_INTEGER), .val (.int (1 : Int32))] [(.int (1 : Int32))])
    refine Go.st (fun _ k => XS.iloadN X11.here hx rfl (hb hby at_87) rfl k) ?_
    show Go _ _ _ _ _ _ _ T11 (mkF m 88 #[.val (.int p0), .val (.int (4 : Int32)), .val (.ref w_INTEGER), .val (.int (1 : Int32))] [(.int (1 : Int32)), (.int (1 : Int32))])
    refine Go.st (fun _ k => XS.icmpNo X11.here hx rfl (hb hby at_88) rfl (teq (by decide : (1 : Int32) = (1 : Int32))).2 k) ?_
    show Go _ _ _ _ _ _ _ T11 (mkF m 91 #[.val (.int p0), .val (.int (4 : Int32)), .val (.ref w_INTEGER), .val (.int (1 : Int32))] [])
    refine Go.st (fun _ k => XS.iconst X11.here hx rfl (hb hby at_91) k) ?_
    show Go _ _ _ _ _ _ _ T11 (mkF m 92 #[.val (.int p0), .val (.int (4 : Int32)), .val (.ref w_INTEGER), .val (.int (1 : Int32))] [(.int (1 : Int32))])
    refine Go.st (fun _ k => XS.goto X11.here hx rfl (pc0 := 92) (pc' := 96) rfl (hb hby at_92) (by decide) (by decide) k) ?_
    show Go _ _ _ _ _ _ _ T11 (mkF m 96 #[.val (.int p0), .val (.int (4 : Int32)), .val (.ref w_INTEGER), .val (.int (1 : Int32))] [(.int (1 : Int32))])
    refine Go.ret X11 hlk (v := some (.int (1 : Int32))) (fun h => by rw [hret] at h; cases h) (fun fs hr => retN X11 hx (t := .boolean) hret (by simp) (hb hby at_96) hr) ?_ (by decide) (by decide)
    show Q0 Z p0 w_NONE w_NUMERIC w_INTEGER w_REAL w_TEXT w_BLOB h0 n0 (some (.int (1 : Int32))) T11.heap _
    rw [e11]
    exact ⟨rfl, N11⟩
  · rw [hk1]
    show Go _ _ _ _ _ _ _ s₁ (mkF m 7 #[.val (.int p0), .unset, .unset, .unset] [(.int (5 : Int32))])
    refine Go.st (fun _ k => XS.istoreN X0.here hx rfl (hb hby at_7) rfl (l' := #[.val (.int p0), .val (.int (5 : Int32)), .unset, .unset]) rfl k) ?_
    show Go _ _ _ _ _ _ _ s₁ (mkF m 8 #[.val (.int p0), .val (.int (5 : Int32)), .unset, .unset] [])
    refine Go.st (fun _ k => XS.iloadN X0.here hx rfl (hb hby at_8) rfl k) ?_
    show Go _ _ _ _ _ _ _ s₁ (mkF m 9 #[.val (.int p0), .val (.int (5 : Int32)), .unset, .unset] [(.int (5 : Int32))])
    refine Go.st (fun _ k => XS.ifYes X0.here hx rfl (pc0 := 9) (pc' := 21) rfl (hb hby at_9) rfl ((if0 _ _).trans (feq (by decide : ¬ ((5 : Int32) = (0 : Int32)))).2) (by decide) (by decide) k) ?_
    show Go _ _ _ _ _ _ _ s₁ (mkF m 21 #[.val (.int p0), .val (.int (5 : Int32)), .unset, .unset] [])
    refine Go.st (fun _ k => XS.iloadN X0.here hx rfl (hb hby at_21) rfl k) ?_
    show Go _ _ _ _ _ _ _ s₁ (mkF m 22 #[.val (.int p0), .val (.int (5 : Int32)), .unset, .unset] [(.int (5 : Int32))])
    refine Go.st (fun _ k => XS.iconst X0.here hx rfl (hb hby at_22) k) ?_
    show Go _ _ _ _ _ _ _ s₁ (mkF m 23 #[.val (.int p0), .val (.int (5 : Int32)), .unset, .unset] [(.int (1 : Int32)), (.int (5 : Int32))])
    refine Go.st (fun _ k => XS.icmpYes X0.here hx rfl (pc0 := 23) (pc' := 35) rfl (hb hby at_23) rfl (feq (by decide : ¬ ((5 : Int32) = (1 : Int32)))).2 (by decide) (by decide) k) ?_
    show Go _ _ _ _ _ _ _ s₁ (mkF m 35 #[.val (.int p0), .val (.int (5 : Int32)), .unset, .unset] [])
    refine Go.st (fun _ k => XS.iloadN X0.here hx rfl (hb hby at_35) rfl k) ?_
    show Go _ _ _ _ _ _ _ s₁ (mkF m 36 #[.val (.int p0), .val (.int (5 : Int32)), .unset, .unset] [(.int (5 : Int32))])
    refine Go.st (fun _ k => XS.iconst X0.here hx rfl (hb hby at_36) k) ?_
    show Go _ _ _ _ _ _ _ s₁ (mkF m 37 #[.val (.int p0), .val (.int (5 : Int32)), .unset, .unset] [(.int (2 : Int32)), (.int (5 : Int32))])
    refine Go.st (fun _ k => XS.icmpYes X0.here hx rfl (pc0 := 37) (pc' := 49) rfl (hb hby at_37) rfl (feq (by decide : ¬ ((5 : Int32) = (2 : Int32)))).2 (by decide) (by decide) k) ?_
    show Go _ _ _ _ _ _ _ s₁ (mkF m 49 #[.val (.int p0), .val (.int (5 : Int32)), .unset, .unset] [])
    refine Go.st (fun _ k => XS.iloadN X0.here hx rfl (hb hby at_49) rfl k) ?_
    show Go _ _ _ _ _ _ _ s₁ (mkF m 50 #[.val (.int p0), .val (.int (5 : Int32)), .unset, .unset] [(.int (5 : Int32))])
    refine Go.st (fun _ k => XS.iconst X0.here hx rfl (hb hby at_50) k) ?_
    show Go _ _ _ _ _ _ _ s₁ (mkF m 51 #[.val (.int p0), .val (.int (5 : Int32)), .unset, .unset] [(.int (3 : Int32)), (.int (5 : Int32))])
    refine Go.st (fun _ k => XS.icmpYes X0.here hx rfl (pc0 := 51) (pc' := 63) rfl (hb hby at_51) rfl (feq (by decide : ¬ ((5 : Int32) = (3 : Int32)))).2 (by decide) (by decide) k) ?_
    show Go _ _ _ _ _ _ _ s₁ (mkF m 63 #[.val (.int p0), .val (.int (5 : Int32)), .unset, .unset] [])
    refine Go.st (fun _ k => XS.iloadN X0.here hx rfl (hb hby at_63) rfl k) ?_
    show Go _ _ _ _ _ _ _ s₁ (mkF m 64 #[.val (.int p0), .val (.int (5 : Int32)), .unset, .unset] [(.int (5 : Int32))])
    refine Go.st (fun _ k => XS.iconst X0.here hx rfl (hb hby at_64) k) ?_
    show Go _ _ _ _ _ _ _ s₁ (mkF m 65 #[.val (.int p0), .val (.int (5 : Int32)), .unset, .unset] [(.int (4 : Int32)), (.int (5 : Int32))])
    refine Go.st (fun _ k => XS.icmpYes X0.here hx rfl (pc0 := 65) (pc' := 77) rfl (hb hby at_65) rfl (feq (by decide : ¬ ((5 : Int32) = (4 : Int32)))).2 (by decide) (by decide) k) ?_
    show Go _ _ _ _ _ _ _ s₁ (mkF m 77 #[.val (.int p0), .val (.int (5 : Int32)), .unset, .unset] [])
    obtain ⟨T12, X12, e12, st12⟩ := getS2 X0 hx hZ hown (host := "") (Or.inl (hw _ (List.mem_of_getElem? (i := 20) rfl))) Via.refl e0 S_REAL (g := (mkF m 77 #[.val (.int p0), .val (.int (5 : Int32)), .unset, .unset] [])) rfl (hb hby at_77)
    refine Go.st st12 ?_
    show Go _ _ _ _ _ _ _ T12 (mkF m 80 #[.val (.int p0), .val (.int (5 : Int32)), .unset, .unset] [(.ref w_REAL)])
    refine Go.st (fun _ k => XS.astoreN X12.here hx rfl (hb hby at_80) rfl rfl (l' := #[.val (.int p0), .val (.int (5 : Int32)), .val (.ref w_REAL), .unset]) rfl k) ?_
    show Go _ _ _ _ _ _ _ T12 (mkF m 81 #[.val (.int p0), .val (.int (5 : Int32)), .val (.ref w_REAL), .unset] [])
    refine Go.st (fun _ k => XS.iconst X12.here hx rfl (hb hby at_81) k) ?_
    show Go _ _ _ _ _ _ _ T12 (mkF m 82 #[.val (.int p0), .val (.int (5 : Int32)), .val (.ref w_REAL), .unset] [(.int (1 : Int32))])
    refine Go.st (fun _ k => XS.istoreN X12.here hx rfl (hb hby at_82) rfl (l' := #[.val (.int p0), .val (.int (5 : Int32)), .val (.ref w_REAL), .val (.int (1 : Int32))]) rfl k) ?_
    show Go _ _ _ _ _ _ _ T12 (mkF m 83 #[.val (.int p0), .val (.int (5 : Int32)), .val (.ref w_REAL), .val (.int (1 : Int32))] [])
    refine Go.st (fun _ k => XS.aloadN X12.here hx rfl (hb hby at_83) rfl rfl k) ?_
    show Go _ _ _ _ _ _ _ T12 (mkF m 84 #[.val (.int p0), .val (.int (5 : Int32)), .val (.ref w_REAL), .val (.int (1 : Int32))] [(.ref w_REAL)])
    obtain ⟨cq13, kq13, q13a, q13b, q13c⟩ := isOf hZ e12 E_REAL
    obtain ⟨_, _, ⟨T13, L13, k13, n13⟩, -, X13, ⟨Lc13, hQ13, l13, y13, z13⟩, st13⟩ := X12.virtualBack hx (y := (⟨"com/example/truerow/truerow/sqlite/Affinity", "isNumeric", "()Z"⟩ : MethodName)) (z := (⟨"com/example/truerow/truerow/sqlite/Affinity", "isNumeric", "()Z"⟩ : MethodName)) hown (mvT hZ (hw _ (List.mem_of_getElem? (i := 4) rfl))) (mvT hZ (hw _ (List.mem_of_getElem? (i := 5) rfl))) (notFace_of_selects (args := #[]) (mvT hZ (hw _ (List.mem_of_getElem? (i := 7) rfl)))) (mvT hZ (hw _ (List.mem_of_getElem? (i := 7) rfl))) (mvT hZ (hw _ (List.mem_of_getElem? (i := 6) rfl))) (by decide) (backOf (W := 0) (rm1 l Z a0 hw [] w_REAL w_NUMERIC w_INTEGER w_REAL h0 n0 Z0 S_NUMERIC S_INTEGER S_REAL) hZ (hw _ (List.mem_of_getElem? (i := 8) rfl)) (hw _ (List.mem_of_getElem? (i := 2) rfl)) (by decide) (by decide)) q13a q13c (g := (mkF m 84 #[.val (.int p0), .val (.int (5 : Int32)), .val (.ref w_REAL), .val (.int (1 : Int32))] [(.ref w_REAL)])) rfl (by rw [hml]; rfl) (Steps.refl _) (argsL := []) (rest := []) (lenOf pd_0 rfl) rfl (by show 2 * 0 + _ ≤ _; exact Nat.le_of_eq rfl) (hb hby at_84) (fun _ _ => ⟨rfl, e12, (by decide : 0 + 0 ≤ _), (by decide : 0 + 0 ≤ _)⟩)
    dsimp only [Pt.U, Pt.locs, Pt.cells, Pt.slots] at X13 l13 y13 z13 st13 hQ13
    subst l13 y13 z13
    obtain ⟨rfl, N13q, e13⟩ := hQ13
    have N13 := Fr.app N0 N13q
    refine Go.st (fun _ k => st13.trans k) ?_
    show Go _ _ _ _ _ _ _ T13 (mkF m 87 #[.val (.int p0), .val (.int (5 : Int32)), .val (.ref w_REAL), .val (.int (1 : Int32))] [(.int (val_1 w_REAL w_NUMERIC w_INTEGER w_REAL))])
    rw [show (val_1 w_REAL w_NUMERIC w_INTEGER w_REAL) = (1 : Int32) from by unfold val_1; rw [if_neg (Ne.symm ne_w_NUMERIC_w_REAL), if_neg (Ne.symm ne_w_INTEGER_w_REAL), if_pos rfl]]
    show Go _ _ _ _ _ _ _ T13 (mkF m 87 #[.val (.int p0), .val (.int (5 : Int32)), .val (.ref w_REAL), .val (.int (1 : Int32))] [(.int (1 : Int32))])
    refine Go.st (fun _ k => XS.iloadN X13.here hx rfl (hb hby at_87) rfl k) ?_
    show Go _ _ _ _ _ _ _ T13 (mkF m 88 #[.val (.int p0), .val (.int (5 : Int32)), .val (.ref w_REAL), .val (.int (1 : Int32))] [(.int (1 : Int32)), (.int (1 : Int32))])
    refine Go.st (fun _ k => XS.icmpNo X13.here hx rfl (hb hby at_88) rfl (teq (by decide : (1 : Int32) = (1 : Int32))).2 k) ?_
    show Go _ _ _ _ _ _ _ T13 (mkF m 91 #[.val (.int p0), .val (.int (5 : Int32)), .val (.ref w_REAL), .val (.int (1 : Int32))] [])
    refine Go.st (fun _ k => XS.iconst X13.here hx rfl (hb hby at_91) k) ?_
    show Go _ _ _ _ _ _ _ T13 (mkF m 92 #[.val (.int p0), .val (.int (5 : Int32)), .val (.ref w_REAL), .val (.int (1 : Int32))] [(.int (1 : Int32))])
    refine Go.st (fun _ k => XS.goto X13.here hx rfl (pc0 := 92) (pc' := 96) rfl (hb hby at_92) (by decide) (by decide) k) ?_
    show Go _ _ _ _ _ _ _ T13 (mkF m 96 #[.val (.int p0), .val (.int (5 : Int32)), .val (.ref w_REAL), .val (.int (1 : Int32))] [(.int (1 : Int32))])
    refine Go.ret X13 hlk (v := some (.int (1 : Int32))) (fun h => by rw [hret] at h; cases h) (fun fs hr => retN X13 hx (t := .boolean) hret (by simp) (hb hby at_96) hr) ?_ (by decide) (by decide)
    show Q0 Z p0 w_NONE w_NUMERIC w_INTEGER w_REAL w_TEXT w_BLOB h0 n0 (some (.int (1 : Int32))) T13.heap _
    rw [e13]
    exact ⟨rfl, N13⟩
set_option maxRecDepth 65536 in
set_option maxHeartbeats 40000000 in
theorem comes_1 {Post : Tables → Env → Array Value → State → Outcome → State → Prop} (hpost : ∀ tb e args s v u, (limb_1_1.after args s (.returned v) u = true ∧ limb_1_2.after args s (.returned v) u = true ∧ True) → FrameEnd s (.returned v) u (Jvm.fieldLocs frame_1_writes args s ++ Jvm.arrayLocs frame_1_arrays args s ++ Jvm.staticLocs frame_1_statics s) 0 0 → Post tb e args s (.returned v) u) :
    ArmFor flags0 classFile x code maxLocals ret World_1 tables_1 room_1 Calls_1 rest_1 Pre_1 Post := by
  intro l hfl _ _ p e ha hc hk s m args below hf hA hF happ hP
  obtain ⟨hcalls, hrest, hpre⟩ := hP
  obtain ⟨-, -, -, hnamed, -, -, -, hat⟩ := (Spec.applies_iff hf).mp happ
  obtain ⟨hg, hn⟩ := and_e (Cond.before_iff.mp (show (Jvm.Cond.and given_1 narrow_1).before args s = true from hpre))
  obtain ⟨g1, g2⟩ := and_e hg
  obtain ⟨w0, rfl⟩ : ∃ w0 : Value, args = #[w0] := by
    have hs : args.size = 1 := by simpa [Cond.value, given_1] using g1
    obtain ⟨L⟩ := args
    match L, hs with
    | [w0], _ => exact ⟨w0, rfl⟩
  have hw := fun d (hd : d ∈ tables_1) => atoms_spec (ws := Jvm.Cond.code x code maxLocals ret :: tables_1) hat d (List.mem_cons_of_mem _ hd)
  have hfit : Fit s := fun {y c} hc i hi => by
    obtain ⟨ha, rfl⟩ := Array.getElem?_eq_some_iff.mp hc
    have q := List.all_eq_true.mp ((Array.all_eq_true_iff_forall_mem.mp hF) _ (Array.getElem_mem ha)) i (List.mem_range.mpr hi)
    simpa [Array.getElem?_eq_getElem hi] using q
  obtain ⟨i0, ei0⟩ := is_v g2
  obtain rfl : w0 = (.int i0) := Option.some.inj ei0
  obtain ⟨g3, g4⟩ := and_e hn
  obtain ⟨g5, g6⟩ := and_e g4
  obtain ⟨g7, g8⟩ := and_e g6
  obtain ⟨g9, g10⟩ := and_e g8
  obtain ⟨g11, g12⟩ := and_e g10
  obtain ⟨g13, g14⟩ := and_e g12
  obtain ⟨g15, g16⟩ := and_e g14
  obtain ⟨g17, g18⟩ := and_e g16
  obtain ⟨g19, g20⟩ := and_e g18
  obtain ⟨g21, g22⟩ := and_e g20
  obtain ⟨g23, g24⟩ := and_e g22
  obtain ⟨w_NONE, ev_NONE⟩ := exa_v g3
  have S_NONE := Sta.start ev_NONE (Or.inr ⟨(hw _ (List.mem_of_getElem? (i := 2) rfl)), (hw _ (List.mem_of_getElem? (i := 3) rfl))⟩)
  have E_NONE := Exa.start ev_NONE g3
  obtain ⟨w_NUMERIC, ev_NUMERIC⟩ := exa_v g5
  have S_NUMERIC := Sta.start ev_NUMERIC (Or.inr ⟨(hw _ (List.mem_of_getElem? (i := 2) rfl)), (hw _ (List.mem_of_getElem? (i := 10) rfl))⟩)
  have E_NUMERIC := Exa.start ev_NUMERIC g5
  have F_NONE_ordinal := own_fld ev_NONE g7
  have F_NUMERIC_ordinal := own_fld ev_NUMERIC g9
  obtain ⟨w_INTEGER, ev_INTEGER⟩ := exa_v g11
  have S_INTEGER := Sta.start ev_INTEGER (Or.inr ⟨(hw _ (List.mem_of_getElem? (i := 2) rfl)), (hw _ (List.mem_of_getElem? (i := 12) rfl))⟩)
  have E_INTEGER := Exa.start ev_INTEGER g11
  have F_INTEGER_ordinal := own_fld ev_INTEGER g13
  obtain ⟨w_REAL, ev_REAL⟩ := exa_v g15
  have S_REAL := Sta.start ev_REAL (Or.inr ⟨(hw _ (List.mem_of_getElem? (i := 2) rfl)), (hw _ (List.mem_of_getElem? (i := 14) rfl))⟩)
  have E_REAL := Exa.start ev_REAL g15
  have F_REAL_ordinal := own_fld ev_REAL g17
  obtain ⟨w_TEXT, ev_TEXT⟩ := exa_v g19
  have S_TEXT := Sta.start ev_TEXT (Or.inr ⟨(hw _ (List.mem_of_getElem? (i := 2) rfl)), (hw _ (List.mem_of_getElem? (i := 17) rfl))⟩)
  have E_TEXT := Exa.start ev_TEXT g19
  have F_TEXT_ordinal := own_fld ev_TEXT g21
  obtain ⟨w_BLOB, ev_BLOB⟩ := exa_v g23
  have S_BLOB := Sta.start ev_BLOB (Or.inr ⟨(hw _ (List.mem_of_getElem? (i := 2) rfl)), (hw _ (List.mem_of_getElem? (i := 19) rfl))⟩)
  have E_BLOB := Exa.start ev_BLOB g23
  have F_BLOB_ordinal := own_fld ev_BLOB g24
  obtain ⟨n, o, h1, h2, h3, _, L, rfl, ⟨rfl, N⟩, hq⟩ := rm0 l s _ hw tables_1 i0 w_NONE w_NUMERIC w_INTEGER w_REAL w_TEXT w_BLOB s.heap s.heap.size (Nat.le_refl _) S_NONE E_NONE S_NUMERIC E_NUMERIC F_NONE_ordinal F_NUMERIC_ordinal S_INTEGER E_INTEGER F_INTEGER_ordinal S_REAL E_REAL F_REAL_ordinal S_TEXT E_TEXT F_TEXT_ordinal S_BLOB E_BLOB F_BLOB_ordinal p e ha hc hk s m _ below hf ((Spec.applies_iff_loose hf).mp happ).1 ⟨rfl, State.Warmed39.refl s, rfl⟩ trivial
  refine ⟨n, _, h1, h2, h3, hpost _ _ _ _ _ _ ⟨Cond.after_iff.mpr rfl, Cond.after_iff.mpr (eq_i res_at (Term.int_eval (1)) rfl), trivial⟩ ⟨hq.1, hq.2.1, (hq.2.2.sift fun y hy => Or.inr (N y hy)).mono (by decide) (by decide)⟩⟩
theorem main_1_1 : Claimed_1_1 := comes_1 fun _ _ _ _ _ _ h hF => ⟨h.1, hF⟩
theorem main_1_2 : Claimed_1_2 := comes_1 fun _ _ _ _ _ _ h hF => ⟨h.2.1, hF⟩
end Jvm.Pilot.@@N@@
namespace Jvm.Pilot.@@N@@
open Jvm Jvm.ClassFile Sem Op Lib Jvm.Free Jvm.Stand Jvm.Pilot.@@N@@.Jvm.D
/-! MADE BY PROGRAM (witnessworld.py) out of the Statement's table words and the real class files: 12 classes; the members and pool entries that the words name. The judged class is class 1, her method 1. -/
namespace start1
open Jvm.ClassFile
def u (s : String) : CpInfo := .utf8 (stringToUtf16 s)
/-- a pool by its gaps: so many unusable entries, then the entry; so many at the end -/
def gap : Nat → List CpInfo → List CpInfo
  | 0, r => r
  | n + 1, r => .unusable :: gap n r
def poolList (es : List (Nat × CpInfo)) (last : Nat) : List CpInfo := es.foldr (fun e r => gap e.1 (e.2 :: r)) (gap last [])
def pool (es : List (Nat × CpInfo)) (last : Nat) : Array CpInfo := ⟨poolList es last⟩
def fileOf (pool : Array CpInfo) (this : Nat) (attrs : Array Attribute := #[]) (ms : Array MethodInfo := #[]) (fl : Nat := 33) (sup : Nat := 0) (ifs : Array Nat := #[]) (fds : Array FieldInfo := #[]) : ClassFile where
  minorVersion := 0
  majorVersion := 65
  constantPool := pool
  accessFlags := fl
  thisClass := this
  superClass := sup
  interfaces := ifs
  fields := fds
  methods := ms
  attributes := attrs
def plain (name : String) (sup : Option ClassId) : Class where
  name := name
  kind := .ordinary
  loader := none
  accessFlags := 33
  super := sup
  interfaces := #[]
  cf := none
  fields := #[]
  methods := #[]
  instanceTypes := #[]
  staticTypes := #[]
  resolved := #[]
  callSites := []
  init := .initialized
  statics := none
  mirror := none

def pool0 : Array CpInfo := pool [(5, u "<init>"), (0, u "()V"), (1, .class_ 10), (1, u "java/lang/Object")] 113

def k0m0 : Method := { name := "<init>", desc := "()V", sig := { parameters := [], returnType := none }, accessFlags := 1, code := none }
/-- java/lang/Object -/
def k0 : Class := { plain "java/lang/Object" none with
  accessFlags := 33
  interfaces := #[]
  cf := some (fileOf pool0 8 #[] #[{ accessFlags := 1, nameIndex := 5, descriptorIndex := 6, attributes := #[] }] 33 0 #[] #[])
  fields := #[]
  methods := #[k0m0]
  instanceTypes := #[]
  staticTypes := #[]
  resolved := Array.replicate 124 none
  statics := none }

def pool1 : Array CpInfo := pool [(2, .class_ 4), (1, u "java/lang/Object"), (0, u "<init>"), (0, u "()V"), (0, .integer 2147483647), (0, .fieldref 9 10), (0, .class_ 11), (0, .nameAndType 12 13), (0, u "com/example/truerow/truerow/sqlite/Affinity"), (0, u "NONE"), (0, u "Lcom/example/truerow/truerow/sqlite/Affinity;"), (0, .fieldref 9 15), (0, .nameAndType 16 13), (0, u "BLOB"), (0, .fieldref 9 18), (0, .nameAndType 19 13), (0, u "TEXT"), (0, .fieldref 9 21), (0, .nameAndType 22 13), (0, u "NUMERIC"), (0, .fieldref 9 24), (0, .nameAndType 25 13), (0, u "INTEGER"), (0, .fieldref 9 27), (0, .nameAndType 28 13), (0, u "REAL"), (0, .methodref 9 30), (0, .nameAndType 31 32), (0, u "isNumeric"), (0, u "()Z"), (0, .class_ 34), (0, u "com/example/truerow/truerow/sqlite/AffinityIsNumericPinLaw"), (2, u "law"), (0, u "(I)Z")] 3

def k1m0 : Method := { name := "<init>", desc := "()V", sig := { parameters := [], returnType := none }, accessFlags := 2, code := none }
def k1c1 : Code := { maxStack := 2, maxLocals := 4, code := code, exceptionTable := #[], attributes := #[] }
def k1m1 : Method := { name := "law", desc := "(I)Z", sig := { parameters := [.int], returnType := some .boolean }, accessFlags := 9, code := some k1c1 }
/-- com/example/truerow/truerow/sqlite/AffinityIsNumericPinLaw -/
def k1 : Class := { plain "com/example/truerow/truerow/sqlite/AffinityIsNumericPinLaw" (some 0) with
  accessFlags := 49
  interfaces := #[]
  cf := some (fileOf pool1 33 #[] #[{ accessFlags := 2, nameIndex := 5, descriptorIndex := 6, attributes := #[] }, { accessFlags := 9, nameIndex := 37, descriptorIndex := 38, attributes := #[] }] 49 2 #[] #[])
  fields := #[]
  methods := #[k1m0, k1m1]
  instanceTypes := #[]
  staticTypes := #[]
  resolved := Array.replicate 42 none
  statics := none }

def pool2 : Array CpInfo := pool [(1, .class_ 2), (0, u "java/lang/constant/Constable"), (0, .class_ 4), (0, u "java/lang/Object")] 6

/-- java/lang/constant/Constable -/
def k2 : Class := { plain "java/lang/constant/Constable" (some 0) with
  accessFlags := 1537
  interfaces := #[]
  cf := some (fileOf pool2 1 #[] #[] 1537 3 #[] #[])
  fields := #[]
  methods := #[]
  instanceTypes := #[]
  staticTypes := #[]
  resolved := Array.replicate 11 none
  statics := none }

def pool3 : Array CpInfo := pool [(1, .class_ 2), (0, u "java/lang/Comparable"), (0, .class_ 4), (0, u "java/lang/Object")] 7

/-- java/lang/Comparable -/
def k3 : Class := { plain "java/lang/Comparable" (some 0) with
  accessFlags := 1537
  interfaces := #[]
  cf := some (fileOf pool3 1 #[] #[] 1537 3 #[] #[])
  fields := #[]
  methods := #[]
  instanceTypes := #[]
  staticTypes := #[]
  resolved := Array.replicate 12 none
  statics := none }

def pool4 : Array CpInfo := pool [(1, .class_ 2), (0, u "java/io/Serializable"), (0, .class_ 4), (0, u "java/lang/Object")] 2

/-- java/io/Serializable -/
def k4 : Class := { plain "java/io/Serializable" (some 0) with
  accessFlags := 1537
  interfaces := #[]
  cf := some (fileOf pool4 1 #[] #[] 1537 3 #[] #[])
  fields := #[]
  methods := #[]
  instanceTypes := #[]
  staticTypes := #[]
  resolved := Array.replicate 7 none
  statics := none }

def pool5 : Array CpInfo := pool [(2, .class_ 4), (1, u "java/lang/Enum"), (0, u "name"), (0, u "Ljava/lang/String;"), (2, u "ordinal"), (0, u "I"), (1, .class_ 14), (1, u "java/lang/Object"), (4, u "hash"), (86, .class_ 108), (1, u "java/lang/Enum$EnumDesc"), (2, .class_ 112), (0, u "java/lang/constant/Constable"), (0, .class_ 114), (0, u "java/lang/Comparable"), (0, .class_ 116), (0, u "java/io/Serializable")] 87

/-- java/lang/Enum -/
def k5 : Class := { plain "java/lang/Enum" (some 0) with
  accessFlags := 1057
  interfaces := #[2, 3, 4]
  cf := some (fileOf pool5 2 #[.nestMembers #[106]] #[] 1057 12 #[111, 113, 115] #[{ accessFlags := 18, nameIndex := 5, descriptorIndex := 6, attributes := #[] }, { accessFlags := 18, nameIndex := 9, descriptorIndex := 10, attributes := #[] }, { accessFlags := 2, nameIndex := 19, descriptorIndex := 10, attributes := #[] }])
  fields := #[{ name := "name", type := (.object "java/lang/String"), accessFlags := 18, slot := 0, constantValue := 0 }, { name := "ordinal", type := .int, accessFlags := 18, slot := 1, constantValue := 0 }, { name := "hash", type := .int, accessFlags := 2, slot := 2, constantValue := 0 }]
  methods := #[]
  instanceTypes := #[(.object "java/lang/String"), .int, .int]
  staticTypes := #[]
  resolved := Array.replicate 204 none
  statics := none }

def pool6 : Array CpInfo := pool [(1, .class_ 2), (0, u "com/example/truerow/truerow/sqlite/Affinity"), (2, u "NONE"), (0, u "Lcom/example/truerow/truerow/sqlite/Affinity;"), (2, u "BLOB"), (2, u "TEXT"), (0, .fieldref 1 14), (0, .nameAndType 15 6), (0, u "NUMERIC"), (0, .fieldref 1 17), (0, .nameAndType 18 6), (0, u "INTEGER"), (0, .fieldref 1 20), (0, .nameAndType 21 6), (0, u "REAL"), (2, u "$VALUES"), (0, u "[Lcom/example/truerow/truerow/sqlite/Affinity;"), (6, .class_ 34), (1, u "java/lang/Enum"), (34, u "()Z"), (56, u "isNumeric")] 33

def k6c0 : Code := { maxStack := 2, maxLocals := 1, code := prog_76_method_6_code, exceptionTable := #[], attributes := #[] }
def k6m0 : Method := { name := "isNumeric", desc := "()Z", sig := { parameters := [], returnType := some .boolean }, accessFlags := 0, code := some k6c0 }
/-- com/example/truerow/truerow/sqlite/Affinity -/
def k6 : Class := { plain "com/example/truerow/truerow/sqlite/Affinity" (some 5) with
  accessFlags := 16432
  interfaces := #[]
  cf := some (fileOf pool6 1 #[] #[{ accessFlags := 0, nameIndex := 126, descriptorIndex := 69, attributes := #[] }] 16432 32 #[] #[{ accessFlags := 16409, nameIndex := 5, descriptorIndex := 6, attributes := #[] }, { accessFlags := 16409, nameIndex := 9, descriptorIndex := 6, attributes := #[] }, { accessFlags := 16409, nameIndex := 12, descriptorIndex := 6, attributes := #[] }, { accessFlags := 16409, nameIndex := 15, descriptorIndex := 6, attributes := #[] }, { accessFlags := 16409, nameIndex := 18, descriptorIndex := 6, attributes := #[] }, { accessFlags := 16409, nameIndex := 21, descriptorIndex := 6, attributes := #[] }, { accessFlags := 4122, nameIndex := 24, descriptorIndex := 25, attributes := #[] }])
  fields := #[{ name := "NONE", type := (.object "com/example/truerow/truerow/sqlite/Affinity"), accessFlags := 16409, slot := 0, constantValue := 0 }, { name := "BLOB", type := (.object "com/example/truerow/truerow/sqlite/Affinity"), accessFlags := 16409, slot := 1, constantValue := 0 }, { name := "TEXT", type := (.object "com/example/truerow/truerow/sqlite/Affinity"), accessFlags := 16409, slot := 2, constantValue := 0 }, { name := "NUMERIC", type := (.object "com/example/truerow/truerow/sqlite/Affinity"), accessFlags := 16409, slot := 3, constantValue := 0 }, { name := "INTEGER", type := (.object "com/example/truerow/truerow/sqlite/Affinity"), accessFlags := 16409, slot := 4, constantValue := 0 }, { name := "REAL", type := (.object "com/example/truerow/truerow/sqlite/Affinity"), accessFlags := 16409, slot := 5, constantValue := 0 }, { name := "$VALUES", type := (.array (.object "com/example/truerow/truerow/sqlite/Affinity")), accessFlags := 4122, slot := 6, constantValue := 0 }]
  methods := #[k6m0]
  instanceTypes := #[(.object "java/lang/String"), .int, .int]
  staticTypes := #[(.object "com/example/truerow/truerow/sqlite/Affinity"), (.object "com/example/truerow/truerow/sqlite/Affinity"), (.object "com/example/truerow/truerow/sqlite/Affinity"), (.object "com/example/truerow/truerow/sqlite/Affinity"), (.object "com/example/truerow/truerow/sqlite/Affinity"), (.object "com/example/truerow/truerow/sqlite/Affinity"), (.array (.object "com/example/truerow/truerow/sqlite/Affinity"))]
  resolved := Array.replicate 160 none
  statics := some 0 }

def pool7 : Array CpInfo := pool [(1, u "java/lang/Cloneable"), (0, .class_ 1), (0, u "java/lang/Object"), (0, .class_ 3)] 3

/-- java/lang/Cloneable -/
def k7 : Class := { plain "java/lang/Cloneable" (some 0) with
  accessFlags := 1537
  interfaces := #[]
  cf := some (fileOf pool7 2 #[] #[] 1537 4 #[] #[])
  fields := #[]
  methods := #[]
  instanceTypes := #[]
  staticTypes := #[]
  resolved := Array.replicate 8 none
  statics := none }

/-- the primitive byte -/
def k8 : Class := { plain "byte" none with kind := .primitive 'B', accessFlags := 0x411 }
/-- [B -/
def k9 : Class := { plain "[B" (some 0) with kind := .array 8 .byte, interfaces := #[7, 4], accessFlags := 1041 }

/-- the primitive int -/
def k10 : Class := { plain "int" none with kind := .primitive 'I', accessFlags := 0x411 }
/-- [I -/
def k11 : Class := { plain "[I" (some 0) with kind := .array 10 .int, interfaces := #[7, 4], accessFlags := 1041 }

def heap : Heap := #[{ cls := 6, slots := #[.ref 1, .ref 6, .ref 5, .ref 2, .ref 3, .ref 4, .null], vm := .statics 6 },
  { cls := 6, slots := #[.null, .int 0, .int 0], vm := .none },
  { cls := 6, slots := #[.null, .int 3, .int 0], vm := .none },
  { cls := 6, slots := #[.null, .int 4, .int 0], vm := .none },
  { cls := 6, slots := #[.null, .int 5, .int 0], vm := .none },
  { cls := 6, slots := #[.null, .int 2, .int 0], vm := .none },
  { cls := 6, slots := #[.null, .int 1, .int 0], vm := .none }]
def classes : Array Class := #[k0, k1, k2, k3, k4, k5, k6, k7, k8, k9, k10, k11]
def interned : List (Array UInt16 × Addr) := []
def slotsUsed : Nat := 25
def theMethod : MethodId := ⟨1, 1⟩
def args0 : Array Value := #[.int 5]
def aboutOver (below : List Frame) : State where
  vm := { classes := classes, interned := interned.toArray }
  heap := heap
  slotsUsed := slotsUsed
  threads := #[{ frames := .invoking theMethod args0 :: below }]
def below0 : List Frame := [.native { method := ⟨0, 0⟩, args := #[] }]
def about1 : State := aboutOver below0
def p0 : Program := .bare "" "" ""
def e0 : Env := launch0.env 0 0 0
theorem w_frames : about1.frames = Frame.invoking theMethod args0 :: below0 := rfl
set_option maxRecDepth 65536 in
theorem w_args : argsFit about1.vm theMethod args0 = true := by decide +kernel
set_option maxRecDepth 65536 in
theorem w_heap : heapFits about1 = true := by decide +kernel
set_option maxRecDepth 65536 in
theorem w_runnable : about1.curStatus? = some .runnable := by decide +kernel
set_option maxRecDepth 65536 in
theorem w_alone : about1.alone = true := by decide +kernel
set_option maxRecDepth 65536 in
theorem w_named : about1.methodNamed? x = some theMethod := by decide +kernel
set_option maxRecDepth 65536 in
theorem w_hears : about1.hears theMethod below0 = true := by decide +kernel
set_option maxRecDepth 65536 in
theorem w_ripe : about1.ripe theMethod args0 below0 = true := by decide +kernel
theorem w_running : about1.status = .running := rfl
set_option maxRecDepth 65536 in
theorem w_room : about1.hasRoom e0.platform room_1 = true :=
  launch0.hasRoom_least _ room_1 (by decide +kernel) (by decide +kernel) (by decide +kernel) (by decide +kernel) (by decide +kernel) (by decide +kernel)
theorem allAtoms_all (ts : List Jvm.Cond) (a : Array Jvm.Value) (st : Jvm.State) : (allAtoms ts).before a st = ts.all (fun c => c.before a st) := by
  induction ts with
  | nil => rfl
  | cons c t ih =>
    show (Jvm.Cond.and c (allAtoms t)).before a st = _
    rw [Jvm.Cond.before_and, ih, List.all_cons]
def words1 : List Jvm.Cond := Jvm.Cond.code x code maxLocals ret :: tables_1
/-- a 'code' word, met by the world's own term for the bytes: nothing is compared byte by byte -/
theorem code_word {y : MethodName} {bytes : ByteArray} {mx : Nat} {rt : Option FieldType} {a : Array Value} {s : State} {m : MethodId} {meth : Method} {c : Code} (h1 : s.methodNamed? y = some m) (h2 : s.vm.method? m = some meth) (h3 : meth.code = some c) (h4 : c.code = bytes)
    (h5 : (c.maxLocals == mx && c.exceptionTable.isEmpty && decide (c.maxStack ≤ mostOperands) && decide (meth.sig.returnType = rt) && !meth.locks && decide (parseMethodDescriptor y.desc = some meth.sig)) = true) : (Jvm.Cond.code y bytes mx rt).before a s = true := by
  simp only [Bool.and_eq_true, beq_iff_eq, Bool.not_eq_true', decide_eq_true_eq] at h5
  obtain ⟨⟨⟨⟨⟨g1, g2⟩, g3⟩, g4⟩, g5⟩, g6⟩ := h5
  simp [Cond.before, Cond.holds, Cond.value, h1, h2, h3, h4, g1, g2, g3, g4, g5, g6]
def isCode : Jvm.Cond → Bool
  | .code _ _ _ _ => true
  | _ => false
theorem all_split {L : List Jvm.Cond} {P : Jvm.Cond → Bool} (h1 : L.all (fun c => isCode c || P c) = true) (h2 : ∀ c ∈ L.filter isCode, P c = true) : L.all P = true := by
  refine List.all_eq_true.mpr fun c hc => ?_
  have h := List.all_eq_true.mp h1 c hc
  rcases Bool.eq_false_or_eq_true (isCode c) with hi | hi
  · exact h2 c (List.mem_filter.mpr ⟨hc, hi⟩)
  · simpa [hi] using h
set_option maxRecDepth 65536 in
theorem w_c0 : (Jvm.Cond.code x code maxLocals ret).before args0 about1 = true := code_word (m := ⟨1, 1⟩) (meth := k1m1) (c := k1c1) (by decide +kernel) rfl rfl rfl (by decide +kernel)
set_option maxRecDepth 65536 in
theorem w_c1 : (Jvm.Cond.code ({ cls := "com/example/truerow/truerow/sqlite/Affinity", name := "isNumeric", desc := "()Z" } : Jvm.MethodName) prog_76_method_6_code (1 : Nat) (Option.some Jvm.ClassFile.FieldType.boolean)).before args0 about1 = true := code_word (m := ⟨6, 0⟩) (meth := k6m0) (c := k6c0) (by decide +kernel) rfl rfl rfl (by decide +kernel)
def codes1 : List Jvm.Cond := [Jvm.Cond.code x code maxLocals ret, Jvm.Cond.code ({ cls := "com/example/truerow/truerow/sqlite/Affinity", name := "isNumeric", desc := "()Z" } : Jvm.MethodName) prog_76_method_6_code (1 : Nat) (Option.some Jvm.ClassFile.FieldType.boolean)]
set_option maxRecDepth 65536 in
theorem codes_eq : words1.filter isCode = codes1 := rfl
theorem w_codes : ∀ c ∈ words1.filter isCode, c.before args0 about1 = true := by
  rw [codes_eq]
  intro c hc
  simp only [codes1, List.mem_cons, List.not_mem_nil, or_false] at hc
  rcases hc with rfl | rfl
  · exact w_c0
  · exact w_c1
set_option maxRecDepth 65536 in
theorem w_t1 : words1.all (fun c => isCode c || c.before args0 about1) = true := by decide +kernel
theorem w_tables : (allAtoms (Jvm.Cond.code x code maxLocals ret :: tables_1)).before args0 about1 = true := by
  rw [allAtoms_all]
  show words1.all (fun c => c.before args0 about1) = true
  refine all_split ?_ w_codes
  rw [w_t1]
set_option maxRecDepth 65536 in
theorem w_case : (Jvm.Cond.and given_1 narrow_1).before args0 about1 = true := by decide +kernel
theorem w_applies : (headSpec (Jvm.Cond.code x code maxLocals ret :: tables_1) room_1).applies x e0.platform about1 = true :=
  (Spec.applies_iff w_frames).mpr ⟨w_running, w_runnable, w_alone, w_named, w_hears, w_ripe, w_room, w_tables⟩
theorem atStart : AtStart classFile x code maxLocals ret World_1 tables_1 room_1 Calls_1 rest_1 Pre_1 launch0 p0 e0 about1 theMethod args0 below0 :=
  ⟨lists_1, trivial, launch0.admits_env _ _ _, launch0.least_env, fairChoices_fair.cas, fairChoices_fair.clock, w_frames, w_args, w_heap, w_applies, trivial, trivial, w_case⟩
end start1
theorem witness_1 : WitnessClaimed_1 := ⟨start1.p0, start1.e0, start1.about1, start1.theMethod, start1.args0, start1.below0, start1.atStart⟩
end Jvm.Pilot.@@N@@
