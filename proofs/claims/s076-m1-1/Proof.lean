import JvmDerived
import JvmDerived.Pilot.@@N@@Statement
import JvmDerived.Pilot.@@N@@Code
set_option linter.unusedVariables false
set_option linter.unusedSimpArgs false
namespace Jvm.Pilot.@@N@@
open Jvm Jvm.ClassFile Sem Op Lib Jvm.Free Jvm.Stand Jvm.LawKit Jvm.RoadKit Bundle Jvm.Pilot.@@N@@.Jvm.D
section Own
variable {p : Program} {l : Launch} {e : Env} {R : Room} {s : State} {m : MethodId} {args : Array Value} {below : List Frame} {meth : Method} {c : Code} {T T' : State} {locs : List Loc} {cells slots : Nat}
/-- from the frame f on the run returns, and what it leaves is said by Q -/
def Go (p : Program) (e : Env) (below : List Frame) (s : State) (Q : Option Value → Heap → List Loc → Prop) (cs ss : Nat) (T : State) (f : JFrame) : Prop :=
  ∃ s₂ o, Steps p.tables e below (T.setTop f) s₂ ∧ s₂.status = .running ∧ Ended s₂ below o ∧ ∃ v L, o = .returned v ∧ Q v s₂.heap L ∧ FrameEnd s o s₂ L cs ss
theorem Go.st {Q : Option Value → Heap → List Loc → Prop} {cs ss : Nat} {f f' : JFrame} (k : ∀ t, Steps p.tables e below (T'.setTop f') t → Steps p.tables e below (T.setTop f) t) (h : Go p e below s Q cs ss T' f') : Go p e below s Q cs ss T f := by
  obtain ⟨s₂, o, h1, h2⟩ := h
  exact ⟨s₂, o, k _ h1, h2⟩
theorem Go.start {Q : Option Value → Heap → List Loc → Prop} {cs ss ml : Nat} {f : JFrame} (hf : entryFrame m args ml = f) (h : Go p e below s Q cs ss T f) :
    ∃ s₂ o, Steps p.tables e below (T.setTop (entryFrame m args ml)) s₂ ∧ s₂.status = .running ∧ Ended s₂ below o ∧ ∃ v L, o = .returned v ∧ Q v s₂.heap L ∧ FrameEnd s o s₂ L cs ss := by
  subst hf; exact h
theorem Go.fr {Q : Option Value → Heap → List Loc → Prop} {cs ss : Nat} {f f' : JFrame} (q : f = f') (h : Go p e below s Q cs ss T f') : Go p e below s Q cs ss T f := by
  subst q; exact h
theorem Go.ret {Q : Option Value → Heap → List Loc → Prop} {cs ss : Nat} {f : JFrame} (X : Stand p l e R s m args below meth c T locs cells slots) (hlk : meth.locks = false) {v : Option Value} (hv : meth.sig.returnType = none → v = none)
    (k : ∀ fs, (∀ (f : JFrame) (acts : List Action), f.method = m → f.locked = none → f.entered = [] → (doReturn e (T.setTop f) acts v).1 = T.setFrames fs) → Steps p.tables e below (T.setTop f) (T.setFrames fs))
    (hQ : Q v T.heap locs) (hc : cells ≤ cs) (hs : slots ≤ ss) : Go p e below s Q cs ss T f := by
  obtain ⟨fs, hr, hrun, hended, hW, hsame⟩ := X.leave (v := v) hv hlk
  exact ⟨_, _, k fs hr, hrun, hended, _, _, rfl, hQ, ⟨_, rfl⟩, hW, hsame.mono hc hs⟩
theorem own_fld {t : Term} {a : Addr} {C n d : String} {k : Int32} (ev : t.eval args s none [] s = some (.ref a)) (h : (Jvm.Cond.eq (.field t C n d) (.int k)).value args s none s [] = some true) : Fld s s.heap a C n d (.int k) := by
  have q : (Term.field t C n d).eval args s none [] s = s.fieldOf? a C n d := fld_at ev
  have q2 : (Term.field t C n d).eval args s none [] s = some (.int k) := Cond.eq_int (Cond.before_iff.mpr h) rfl
  exact Fld.start (q.symm.trans q2)
theorem own_sta {Z : State} {h h' : Heap} {C n d : String} {v : Value} {ws : List Addr} (F : Sta Z h C n d v) (K : Keep h h' ws) (q : ∀ x ∈ ws, ∃ c : Cell, h[x]? = some c ∧ ∀ q, c.vm ≠ .statics q) : Sta Z h' C n d v := by
  obtain ⟨cf, i, k, f, st, cell, h1, h2, h3, h4, h5, h6, h7⟩ := F
  refine ⟨cf, i, k, f, st, cell, h1, h2, h3, h4, K.2.1 st cell h5 fun hm => ?_, h6, h7⟩
  obtain ⟨c, hc, hn⟩ := q st hm
  cases hc.symm.trans h5
  cases hv : cell.vm <;> simp [hv, VmData.isStatics] at h6 hn
theorem own_bb (x : Int32) : x.toInt8.toInt32.toInt8.toInt32 = x.toInt8.toInt32 := by simp
theorem own_arvcell {Z : State} {h : Heap} {a : Addr} {k : ClassId} {ty : FieldType} {z : Int32} {vs : List Value} {dv : Value} (F : Arv Z h a k ty z vs dv) : ∃ c : Cell, h[a]? = some c ∧ ∀ q, c.vm ≠ .statics q := by
  obtain ⟨c, A, -⟩ := F
  exact ⟨c, A.1, fun q hq => by have := A.plain; simp [hq, VmData.isStatics] at this⟩
/-- a static that holds a reference or null -/
def StaR (Z : State) (h : Heap) (C n d : String) : Prop := Sta Z h C n d .null ∨ ∃ a, Sta Z h C n d (.ref a)
theorem StaR.ext {Z : State} {h h' : Heap} {C n d : String} (F : StaR Z h C n d) (E : Ext h h') : StaR Z h' C n d := F.imp (fun q => q.ext E) fun ⟨a, q⟩ => ⟨a, q.ext E⟩
theorem StaR.wr {Z : State} {h h' : Heap} {C n d : String} {a : Addr} {sl : Nat} {v : Value} (F : StaR Z h C n d) (W : Wr h h' a sl v) : StaR Z h' C n d := F.imp (fun q => q.wr W) fun ⟨a, q⟩ => ⟨a, q.wr W⟩
theorem own_staR {Z : State} {h h' : Heap} {C n d : String} {ws : List Addr} (F : StaR Z h C n d) (K : Keep h h' ws) (q : ∀ x ∈ ws, ∃ c : Cell, h[x]? = some c ∧ ∀ q, c.vm ≠ .statics q) : StaR Z h' C n d := F.imp (fun r => own_sta r K q) fun ⟨a, r⟩ => ⟨a, own_sta r K q⟩
end Own
theorem pn_com_example_truerow_truerow_postgres_Type : plainName "com/example/truerow/truerow/postgres/Type" = true := by first | (simp [plainName, overriddenIn]; done) | decide +kernel
theorem pn_com_example_truerow_truerow_postgres_TypeCastsToPinLaw : plainName "com/example/truerow/truerow/postgres/TypeCastsToPinLaw" = true := by first | (simp [plainName, overriddenIn]; done) | decide +kernel
theorem pd_0 : parseMethodDescriptor "(Lcom/example/truerow/truerow/postgres/Type;)Z" = some ⟨[(.object "com/example/truerow/truerow/postgres/Type")], some .boolean⟩ := by decide +kernel
theorem pd_1 : parseMethodDescriptor "(II)Z" = some ⟨[.int, .int], some .boolean⟩ := by decide +kernel
theorem own_rem (x k : Int32) (hk : 0 < k.toInt) : 0 ≤ ((x &&& 2147483647) % k).toInt ∧ ((x &&& 2147483647) % k).toInt < k.toInt := by
  have h := c_mask x 2147483647 31 (by decide) (by decide)
  have h0 : 0 ≤ (x &&& 2147483647).toInt := by rw [h]; omega
  have h2 := (c_iremV (x &&& 2147483647) k).1 h0 hk
  exact ⟨h2.1, h2.2.1⟩
theorem own_i32 {x : Int32} {k : Int} (h : x.toInt = k) (y : Int32) (hy : y.toInt = k) : x = y := Int32.toInt_inj.mp (h.trans hy.symm)
theorem own_and3 (x : Int32) : x &&& 3 = 0 ∨ x &&& 3 = 1 ∨ x &&& 3 = 2 ∨ x &&& 3 = 3 := by
  have h := c_mask x 3 2 (by decide) (by decide)
  generalize x &&& 3 = y at h ⊢
  have : y.toInt = 0 ∨ y.toInt = 1 ∨ y.toInt = 2 ∨ y.toInt = 3 := by omega
  rcases this with h | h | h | h
  · exact Or.inl (own_i32 h 0 (by decide))
  · exact Or.inr (Or.inl (own_i32 h 1 (by decide)))
  · exact Or.inr (Or.inr (Or.inl (own_i32 h 2 (by decide))))
  · exact Or.inr (Or.inr (Or.inr ((own_i32 h 3 (by decide)))))
theorem d1_0 : decode prog_39_method_9_code 0 = .ok (.aload_n 0, 1) := by decide +kernel
theorem d1_1 : decode prog_39_method_9_code 1 = .ok (.getstatic 7, 3) := by decide +kernel
theorem d1_4 : decode prog_39_method_9_code 4 = .ok (.if_acmp .ne 10, 3) := by decide +kernel
theorem d1_7 : decode prog_39_method_9_code 7 = .ok (.aload_n 1, 1) := by decide +kernel
theorem d1_8 : decode prog_39_method_9_code 8 = .ok (.getstatic 10, 3) := by decide +kernel
theorem d1_11 : decode prog_39_method_9_code 11 = .ok (.if_acmp .eq 17, 3) := by decide +kernel
theorem d1_14 : decode prog_39_method_9_code 14 = .ok (.aload_n 0, 1) := by decide +kernel
theorem d1_15 : decode prog_39_method_9_code 15 = .ok (.getstatic 10, 3) := by decide +kernel
theorem d1_18 : decode prog_39_method_9_code 18 = .ok (.if_acmp .ne 14, 3) := by decide +kernel
theorem d1_21 : decode prog_39_method_9_code 21 = .ok (.aload_n 1, 1) := by decide +kernel
theorem d1_22 : decode prog_39_method_9_code 22 = .ok (.getstatic 7, 3) := by decide +kernel
theorem d1_25 : decode prog_39_method_9_code 25 = .ok (.if_acmp .ne 7, 3) := by decide +kernel
theorem d1_28 : decode prog_39_method_9_code 28 = .ok (.iconst 1, 1) := by decide +kernel
theorem d1_29 : decode prog_39_method_9_code 29 = .ok (.goto 4, 3) := by decide +kernel
theorem d1_32 : decode prog_39_method_9_code 32 = .ok (.iconst 0, 1) := by decide +kernel
theorem d1_33 : decode prog_39_method_9_code 33 = .ok (.istore_n 2, 1) := by decide +kernel
theorem d1_34 : decode prog_39_method_9_code 34 = .ok (.iload_n 2, 1) := by decide +kernel
theorem d1_35 : decode prog_39_method_9_code 35 = .ok (.ifCond .ne 7, 3) := by decide +kernel
theorem d1_38 : decode prog_39_method_9_code 38 = .ok (.iconst 1, 1) := by decide +kernel
theorem d1_39 : decode prog_39_method_9_code 39 = .ok (.goto 4, 3) := by decide +kernel
theorem d1_42 : decode prog_39_method_9_code 42 = .ok (.iconst 0, 1) := by decide +kernel
theorem d1_43 : decode prog_39_method_9_code 43 = .ok (.ireturn, 1) := by decide +kernel
def val_1 (o0 : Addr) (o1 : Addr) (w_BIGINT : Addr) (w_BOOLEAN : Addr) : Int32 := (if o0 = w_BIGINT then (if o1 = w_BOOLEAN then (0 : Int32) else (if o0 = w_BOOLEAN then (if o1 = w_BIGINT then (0 : Int32) else (1 : Int32)) else (1 : Int32))) else (if o0 = w_BOOLEAN then (if o1 = w_BIGINT then (0 : Int32) else (1 : Int32)) else (1 : Int32)))
theorem ef_1 (m : MethodId) (o0 : Addr) (o1 : Addr) : entryFrame m #[(.ref o0), (.ref o1)] 3 = mkF m 0 #[.val (.ref o0), .val (.ref o1), .unset] [] := by first | (simp [entryFrame, mkF, argsToLocals, Value.category]; done) | rfl
def Q1 (Z : State) (o0 : Addr) (o1 : Addr) (w_BIGINT : Addr) (w_BOOLEAN : Addr) (h0 : Heap) (n0 : Nat) (v : Option Value) (h : Heap) (L : List Loc) : Prop := v = some (.int (val_1 o0 o1 w_BIGINT w_BOOLEAN)) ∧ Fr n0 L ∧ h = h0
set_option maxRecDepth 65536 in
set_option maxHeartbeats 40000000 in
theorem rm1 (l : Launch) (Z : State) (a0 : Array Value) (hw : ∀ d ∈ tables_1, d.before a0 Z = true) (ws : List Jvm.Cond) (o0 : Addr) (o1 : Addr) (w_BIGINT : Addr) (w_BOOLEAN : Addr) (h0 : Heap) (n0 : Nat) (Z0 : n0 ≤ h0.size) (S_BIGINT : Sta Z h0 "com/example/truerow/truerow/postgres/Type" "BIGINT" "Lcom/example/truerow/truerow/postgres/Type;" (.ref w_BIGINT)) (S_BOOLEAN : Sta Z h0 "com/example/truerow/truerow/postgres/Type" "BOOLEAN" "Lcom/example/truerow/truerow/postgres/Type;" (.ref w_BOOLEAN)) :
    MetFree l (⟨"com/example/truerow/truerow/postgres/Type", "castsTo", "(Lcom/example/truerow/truerow/postgres/Type;)Z"⟩ : MethodName) (head1 (Jvm.Cond.code (⟨"com/example/truerow/truerow/postgres/Type", "castsTo", "(Lcom/example/truerow/truerow/postgres/Type;)Z"⟩ : MethodName) prog_39_method_9_code 3 (some .boolean) :: ws) ({ frames := 0, cells := 0, slots := 0, locals := 0 } : Room)) (fun a U => a = #[(.ref o0), (.ref o1)] ∧ Z.Warmed39 U.vm ∧ U.heap = h0) (fun _ _ _ _ _ => True) (fun _ U o U' => ∃ v L, o = .returned v ∧ Q1 Z o0 o1 w_BIGINT w_BOOLEAN h0 n0 v U'.heap L ∧ FrameEnd U o U' L ({ frames := 0, cells := 0, slots := 0, locals := 0 } : Room).cells ({ frames := 0, cells := 0, slots := 0, locals := 0 } : Room).slots) := by
  refine MetFree.of_bodySF (plainFor_of_name pn_com_example_truerow_truerow_postgres_Type) hisR ?_
  intro p e s m args below meth c s₁ Bd hml0 hP hK
  obtain ⟨rfl, hZ, hh⟩ := hP
  have hx := Bd.exec
  have hby := Bd.bytes
  have hlk : meth.locks = false := BodyLoose.notSynchronized Bd
  have hret := Bd.returns
  have hml : c.maxLocals = 3 := hml0
  have hown : s.vm.findClass "com/example/truerow/truerow/postgres/Type" = some m.cls := findClass_of_methodNamed Bd.named
  have hnm := (name_of_methodNamed Bd.named Bd.method).1
  have X0 : Stand p l e ({ frames := 0, cells := 0, slots := 0, locals := 0 } : Room) s m #[(.ref o0), (.ref o1)] below meth c s₁ [] 0 0 := Stand.of_body Bd
  have e0 : s₁.heap = h0 := by rw [← hh, Bd.state]; rfl
  have N0 := Fr.nil n0
  refine Go.start (Q := Q1 Z o0 o1 w_BIGINT w_BOOLEAN h0 n0) (ef_1 m o0 o1) ?_
  show Go _ _ _ _ _ _ _ s₁ (mkF m 0 #[.val (.ref o0), .val (.ref o1), .unset] [])
  refine Go.st (fun _ k => XS.aloadN X0.here hx rfl (hb hby d1_0) rfl rfl k) ?_
  show Go _ _ _ _ _ _ _ s₁ (mkF m 1 #[.val (.ref o0), .val (.ref o1), .unset] [(.ref o0)])
  obtain ⟨T1, X1, e1, st1⟩ := getS2 X0 hx hZ hown (host := "") (Or.inl (hw _ (List.mem_of_getElem? (i := 17) rfl))) Via.refl e0 S_BIGINT (g := (mkF m 1 #[.val (.ref o0), .val (.ref o1), .unset] [(.ref o0)])) rfl (hb hby d1_1)
  refine Go.st st1 ?_
  show Go _ _ _ _ _ _ _ T1 (mkF m 4 #[.val (.ref o0), .val (.ref o1), .unset] [(.ref w_BIGINT), (.ref o0)])
  by_cases ha2 : o0 = w_BIGINT
  · refine Go.st (fun _ k => Jvm.RoadKit.acmp (g := (mkF m 4 #[.val (.ref o0), .val (.ref o1), .unset] [(.ref w_BIGINT), (.ref o0)])) X1 hx rfl rfl rfl (pc0 := 4) (pc' := 7) (same := true) rfl (hb hby d1_4) rfl (decide_eq_true (congrArg Value.ref ha2)) (by decide) (by decide) k) ?_
    show Go _ _ _ _ _ _ _ T1 (mkF m 7 #[.val (.ref o0), .val (.ref o1), .unset] [])
    refine Go.st (fun _ k => XS.aloadN X1.here hx rfl (hb hby d1_7) rfl rfl k) ?_
    show Go _ _ _ _ _ _ _ T1 (mkF m 8 #[.val (.ref o0), .val (.ref o1), .unset] [(.ref o1)])
    obtain ⟨T3, X3, e3, st3⟩ := getS2 X1 hx hZ hown (host := "") (Or.inl (hw _ (List.mem_of_getElem? (i := 18) rfl))) Via.refl e1 S_BOOLEAN (g := (mkF m 8 #[.val (.ref o0), .val (.ref o1), .unset] [(.ref o1)])) rfl (hb hby d1_8)
    refine Go.st st3 ?_
    show Go _ _ _ _ _ _ _ T3 (mkF m 11 #[.val (.ref o0), .val (.ref o1), .unset] [(.ref w_BOOLEAN), (.ref o1)])
    by_cases ha4 : o1 = w_BOOLEAN
    · refine Go.st (fun _ k => Jvm.RoadKit.acmp (g := (mkF m 11 #[.val (.ref o0), .val (.ref o1), .unset] [(.ref w_BOOLEAN), (.ref o1)])) X3 hx rfl rfl rfl (pc0 := 11) (pc' := 28) (same := true) rfl (hb hby d1_11) rfl (decide_eq_true (congrArg Value.ref ha4)) (by decide) (by decide) k) ?_
      show Go _ _ _ _ _ _ _ T3 (mkF m 28 #[.val (.ref o0), .val (.ref o1), .unset] [])
      refine Go.st (fun _ k => XS.iconst X3.here hx rfl (hb hby d1_28) k) ?_
      show Go _ _ _ _ _ _ _ T3 (mkF m 29 #[.val (.ref o0), .val (.ref o1), .unset] [(.int (1 : Int32))])
      refine Go.st (fun _ k => XS.goto X3.here hx rfl (pc0 := 29) (pc' := 33) rfl (hb hby d1_29) (by decide) (by decide) k) ?_
      show Go _ _ _ _ _ _ _ T3 (mkF m 33 #[.val (.ref o0), .val (.ref o1), .unset] [(.int (1 : Int32))])
      refine Go.st (fun _ k => XS.istoreN X3.here hx rfl (hb hby d1_33) rfl (l' := #[.val (.ref o0), .val (.ref o1), .val (.int (1 : Int32))]) rfl k) ?_
      show Go _ _ _ _ _ _ _ T3 (mkF m 34 #[.val (.ref o0), .val (.ref o1), .val (.int (1 : Int32))] [])
      refine Go.st (fun _ k => XS.iloadN X3.here hx rfl (hb hby d1_34) rfl k) ?_
      show Go _ _ _ _ _ _ _ T3 (mkF m 35 #[.val (.ref o0), .val (.ref o1), .val (.int (1 : Int32))] [(.int (1 : Int32))])
      refine Go.st (fun _ k => XS.ifYes X3.here hx rfl (pc0 := 35) (pc' := 42) rfl (hb hby d1_35) rfl ((if0 _ _).trans (feq (by decide : ¬ ((1 : Int32) = (0 : Int32)))).2) (by decide) (by decide) k) ?_
      show Go _ _ _ _ _ _ _ T3 (mkF m 42 #[.val (.ref o0), .val (.ref o1), .val (.int (1 : Int32))] [])
      refine Go.st (fun _ k => XS.iconst X3.here hx rfl (hb hby d1_42) k) ?_
      show Go _ _ _ _ _ _ _ T3 (mkF m 43 #[.val (.ref o0), .val (.ref o1), .val (.int (1 : Int32))] [(.int (0 : Int32))])
      refine Go.ret X3 hlk (v := some (.int (0 : Int32))) (fun h => by rw [hret] at h; cases h) (fun fs hr => retN X3 hx (t := .boolean) hret (by simp) (hb hby d1_43) hr) ?_ (by decide) (by decide)
      show Q1 Z o0 o1 w_BIGINT w_BOOLEAN h0 n0 (some (.int (0 : Int32))) T3.heap _
      rw [e3]
      refine ⟨?_, N0, rfl⟩
      unfold val_1
      rw [if_pos ha2, if_pos ha4]
    · refine Go.st (fun _ k => Jvm.RoadKit.acmp (g := (mkF m 11 #[.val (.ref o0), .val (.ref o1), .unset] [(.ref w_BOOLEAN), (.ref o1)])) X3 hx rfl rfl rfl (pc0 := 11) (pc' := 14) (same := false) rfl (hb hby d1_11) rfl (decide_eq_false fun q => ha4 (Value.ref.inj q)) (by decide) (by decide) k) ?_
      show Go _ _ _ _ _ _ _ T3 (mkF m 14 #[.val (.ref o0), .val (.ref o1), .unset] [])
      refine Go.st (fun _ k => XS.aloadN X3.here hx rfl (hb hby d1_14) rfl rfl k) ?_
      show Go _ _ _ _ _ _ _ T3 (mkF m 15 #[.val (.ref o0), .val (.ref o1), .unset] [(.ref o0)])
      obtain ⟨T5, X5, e5, st5⟩ := getS2 X3 hx hZ hown (host := "") (Or.inl (hw _ (List.mem_of_getElem? (i := 18) rfl))) Via.refl e3 S_BOOLEAN (g := (mkF m 15 #[.val (.ref o0), .val (.ref o1), .unset] [(.ref o0)])) rfl (hb hby d1_15)
      refine Go.st st5 ?_
      show Go _ _ _ _ _ _ _ T5 (mkF m 18 #[.val (.ref o0), .val (.ref o1), .unset] [(.ref w_BOOLEAN), (.ref o0)])
      by_cases ha6 : o0 = w_BOOLEAN
      · refine Go.st (fun _ k => Jvm.RoadKit.acmp (g := (mkF m 18 #[.val (.ref o0), .val (.ref o1), .unset] [(.ref w_BOOLEAN), (.ref o0)])) X5 hx rfl rfl rfl (pc0 := 18) (pc' := 21) (same := true) rfl (hb hby d1_18) rfl (decide_eq_true (congrArg Value.ref ha6)) (by decide) (by decide) k) ?_
        show Go _ _ _ _ _ _ _ T5 (mkF m 21 #[.val (.ref o0), .val (.ref o1), .unset] [])
        refine Go.st (fun _ k => XS.aloadN X5.here hx rfl (hb hby d1_21) rfl rfl k) ?_
        show Go _ _ _ _ _ _ _ T5 (mkF m 22 #[.val (.ref o0), .val (.ref o1), .unset] [(.ref o1)])
        obtain ⟨T7, X7, e7, st7⟩ := getS2 X5 hx hZ hown (host := "") (Or.inl (hw _ (List.mem_of_getElem? (i := 17) rfl))) Via.refl e5 S_BIGINT (g := (mkF m 22 #[.val (.ref o0), .val (.ref o1), .unset] [(.ref o1)])) rfl (hb hby d1_22)
        refine Go.st st7 ?_
        show Go _ _ _ _ _ _ _ T7 (mkF m 25 #[.val (.ref o0), .val (.ref o1), .unset] [(.ref w_BIGINT), (.ref o1)])
        by_cases ha8 : o1 = w_BIGINT
        · refine Go.st (fun _ k => Jvm.RoadKit.acmp (g := (mkF m 25 #[.val (.ref o0), .val (.ref o1), .unset] [(.ref w_BIGINT), (.ref o1)])) X7 hx rfl rfl rfl (pc0 := 25) (pc' := 28) (same := true) rfl (hb hby d1_25) rfl (decide_eq_true (congrArg Value.ref ha8)) (by decide) (by decide) k) ?_
          show Go _ _ _ _ _ _ _ T7 (mkF m 28 #[.val (.ref o0), .val (.ref o1), .unset] [])
          refine Go.st (fun _ k => XS.iconst X7.here hx rfl (hb hby d1_28) k) ?_
          show Go _ _ _ _ _ _ _ T7 (mkF m 29 #[.val (.ref o0), .val (.ref o1), .unset] [(.int (1 : Int32))])
          refine Go.st (fun _ k => XS.goto X7.here hx rfl (pc0 := 29) (pc' := 33) rfl (hb hby d1_29) (by decide) (by decide) k) ?_
          show Go _ _ _ _ _ _ _ T7 (mkF m 33 #[.val (.ref o0), .val (.ref o1), .unset] [(.int (1 : Int32))])
          refine Go.st (fun _ k => XS.istoreN X7.here hx rfl (hb hby d1_33) rfl (l' := #[.val (.ref o0), .val (.ref o1), .val (.int (1 : Int32))]) rfl k) ?_
          show Go _ _ _ _ _ _ _ T7 (mkF m 34 #[.val (.ref o0), .val (.ref o1), .val (.int (1 : Int32))] [])
          refine Go.st (fun _ k => XS.iloadN X7.here hx rfl (hb hby d1_34) rfl k) ?_
          show Go _ _ _ _ _ _ _ T7 (mkF m 35 #[.val (.ref o0), .val (.ref o1), .val (.int (1 : Int32))] [(.int (1 : Int32))])
          refine Go.st (fun _ k => XS.ifYes X7.here hx rfl (pc0 := 35) (pc' := 42) rfl (hb hby d1_35) rfl ((if0 _ _).trans (feq (by decide : ¬ ((1 : Int32) = (0 : Int32)))).2) (by decide) (by decide) k) ?_
          show Go _ _ _ _ _ _ _ T7 (mkF m 42 #[.val (.ref o0), .val (.ref o1), .val (.int (1 : Int32))] [])
          refine Go.st (fun _ k => XS.iconst X7.here hx rfl (hb hby d1_42) k) ?_
          show Go _ _ _ _ _ _ _ T7 (mkF m 43 #[.val (.ref o0), .val (.ref o1), .val (.int (1 : Int32))] [(.int (0 : Int32))])
          refine Go.ret X7 hlk (v := some (.int (0 : Int32))) (fun h => by rw [hret] at h; cases h) (fun fs hr => retN X7 hx (t := .boolean) hret (by simp) (hb hby d1_43) hr) ?_ (by decide) (by decide)
          show Q1 Z o0 o1 w_BIGINT w_BOOLEAN h0 n0 (some (.int (0 : Int32))) T7.heap _
          rw [e7]
          refine ⟨?_, N0, rfl⟩
          unfold val_1
          rw [if_pos ha2, if_neg ha4, if_pos ha6, if_pos ha8]
        · refine Go.st (fun _ k => Jvm.RoadKit.acmp (g := (mkF m 25 #[.val (.ref o0), .val (.ref o1), .unset] [(.ref w_BIGINT), (.ref o1)])) X7 hx rfl rfl rfl (pc0 := 25) (pc' := 32) (same := false) rfl (hb hby d1_25) rfl (decide_eq_false fun q => ha8 (Value.ref.inj q)) (by decide) (by decide) k) ?_
          show Go _ _ _ _ _ _ _ T7 (mkF m 32 #[.val (.ref o0), .val (.ref o1), .unset] [])
          refine Go.st (fun _ k => XS.iconst X7.here hx rfl (hb hby d1_32) k) ?_
          show Go _ _ _ _ _ _ _ T7 (mkF m 33 #[.val (.ref o0), .val (.ref o1), .unset] [(.int (0 : Int32))])
          refine Go.st (fun _ k => XS.istoreN X7.here hx rfl (hb hby d1_33) rfl (l' := #[.val (.ref o0), .val (.ref o1), .val (.int (0 : Int32))]) rfl k) ?_
          show Go _ _ _ _ _ _ _ T7 (mkF m 34 #[.val (.ref o0), .val (.ref o1), .val (.int (0 : Int32))] [])
          refine Go.st (fun _ k => XS.iloadN X7.here hx rfl (hb hby d1_34) rfl k) ?_
          show Go _ _ _ _ _ _ _ T7 (mkF m 35 #[.val (.ref o0), .val (.ref o1), .val (.int (0 : Int32))] [(.int (0 : Int32))])
          refine Go.st (fun _ k => XS.ifNo X7.here hx rfl (hb hby d1_35) rfl ((if0 _ _).trans (teq (by decide : (0 : Int32) = (0 : Int32))).2) k) ?_
          show Go _ _ _ _ _ _ _ T7 (mkF m 38 #[.val (.ref o0), .val (.ref o1), .val (.int (0 : Int32))] [])
          refine Go.st (fun _ k => XS.iconst X7.here hx rfl (hb hby d1_38) k) ?_
          show Go _ _ _ _ _ _ _ T7 (mkF m 39 #[.val (.ref o0), .val (.ref o1), .val (.int (0 : Int32))] [(.int (1 : Int32))])
          refine Go.st (fun _ k => XS.goto X7.here hx rfl (pc0 := 39) (pc' := 43) rfl (hb hby d1_39) (by decide) (by decide) k) ?_
          show Go _ _ _ _ _ _ _ T7 (mkF m 43 #[.val (.ref o0), .val (.ref o1), .val (.int (0 : Int32))] [(.int (1 : Int32))])
          refine Go.ret X7 hlk (v := some (.int (1 : Int32))) (fun h => by rw [hret] at h; cases h) (fun fs hr => retN X7 hx (t := .boolean) hret (by simp) (hb hby d1_43) hr) ?_ (by decide) (by decide)
          show Q1 Z o0 o1 w_BIGINT w_BOOLEAN h0 n0 (some (.int (1 : Int32))) T7.heap _
          rw [e7]
          refine ⟨?_, N0, rfl⟩
          unfold val_1
          rw [if_pos ha2, if_neg ha4, if_pos ha6, if_neg ha8]
      · refine Go.st (fun _ k => Jvm.RoadKit.acmp (g := (mkF m 18 #[.val (.ref o0), .val (.ref o1), .unset] [(.ref w_BOOLEAN), (.ref o0)])) X5 hx rfl rfl rfl (pc0 := 18) (pc' := 32) (same := false) rfl (hb hby d1_18) rfl (decide_eq_false fun q => ha6 (Value.ref.inj q)) (by decide) (by decide) k) ?_
        show Go _ _ _ _ _ _ _ T5 (mkF m 32 #[.val (.ref o0), .val (.ref o1), .unset] [])
        refine Go.st (fun _ k => XS.iconst X5.here hx rfl (hb hby d1_32) k) ?_
        show Go _ _ _ _ _ _ _ T5 (mkF m 33 #[.val (.ref o0), .val (.ref o1), .unset] [(.int (0 : Int32))])
        refine Go.st (fun _ k => XS.istoreN X5.here hx rfl (hb hby d1_33) rfl (l' := #[.val (.ref o0), .val (.ref o1), .val (.int (0 : Int32))]) rfl k) ?_
        show Go _ _ _ _ _ _ _ T5 (mkF m 34 #[.val (.ref o0), .val (.ref o1), .val (.int (0 : Int32))] [])
        refine Go.st (fun _ k => XS.iloadN X5.here hx rfl (hb hby d1_34) rfl k) ?_
        show Go _ _ _ _ _ _ _ T5 (mkF m 35 #[.val (.ref o0), .val (.ref o1), .val (.int (0 : Int32))] [(.int (0 : Int32))])
        refine Go.st (fun _ k => XS.ifNo X5.here hx rfl (hb hby d1_35) rfl ((if0 _ _).trans (teq (by decide : (0 : Int32) = (0 : Int32))).2) k) ?_
        show Go _ _ _ _ _ _ _ T5 (mkF m 38 #[.val (.ref o0), .val (.ref o1), .val (.int (0 : Int32))] [])
        refine Go.st (fun _ k => XS.iconst X5.here hx rfl (hb hby d1_38) k) ?_
        show Go _ _ _ _ _ _ _ T5 (mkF m 39 #[.val (.ref o0), .val (.ref o1), .val (.int (0 : Int32))] [(.int (1 : Int32))])
        refine Go.st (fun _ k => XS.goto X5.here hx rfl (pc0 := 39) (pc' := 43) rfl (hb hby d1_39) (by decide) (by decide) k) ?_
        show Go _ _ _ _ _ _ _ T5 (mkF m 43 #[.val (.ref o0), .val (.ref o1), .val (.int (0 : Int32))] [(.int (1 : Int32))])
        refine Go.ret X5 hlk (v := some (.int (1 : Int32))) (fun h => by rw [hret] at h; cases h) (fun fs hr => retN X5 hx (t := .boolean) hret (by simp) (hb hby d1_43) hr) ?_ (by decide) (by decide)
        show Q1 Z o0 o1 w_BIGINT w_BOOLEAN h0 n0 (some (.int (1 : Int32))) T5.heap _
        rw [e5]
        refine ⟨?_, N0, rfl⟩
        unfold val_1
        rw [if_pos ha2, if_neg ha4, if_neg ha6]
  · refine Go.st (fun _ k => Jvm.RoadKit.acmp (g := (mkF m 4 #[.val (.ref o0), .val (.ref o1), .unset] [(.ref w_BIGINT), (.ref o0)])) X1 hx rfl rfl rfl (pc0 := 4) (pc' := 14) (same := false) rfl (hb hby d1_4) rfl (decide_eq_false fun q => ha2 (Value.ref.inj q)) (by decide) (by decide) k) ?_
    show Go _ _ _ _ _ _ _ T1 (mkF m 14 #[.val (.ref o0), .val (.ref o1), .unset] [])
    refine Go.st (fun _ k => XS.aloadN X1.here hx rfl (hb hby d1_14) rfl rfl k) ?_
    show Go _ _ _ _ _ _ _ T1 (mkF m 15 #[.val (.ref o0), .val (.ref o1), .unset] [(.ref o0)])
    obtain ⟨T9, X9, e9, st9⟩ := getS2 X1 hx hZ hown (host := "") (Or.inl (hw _ (List.mem_of_getElem? (i := 18) rfl))) Via.refl e1 S_BOOLEAN (g := (mkF m 15 #[.val (.ref o0), .val (.ref o1), .unset] [(.ref o0)])) rfl (hb hby d1_15)
    refine Go.st st9 ?_
    show Go _ _ _ _ _ _ _ T9 (mkF m 18 #[.val (.ref o0), .val (.ref o1), .unset] [(.ref w_BOOLEAN), (.ref o0)])
    by_cases ha10 : o0 = w_BOOLEAN
    · refine Go.st (fun _ k => Jvm.RoadKit.acmp (g := (mkF m 18 #[.val (.ref o0), .val (.ref o1), .unset] [(.ref w_BOOLEAN), (.ref o0)])) X9 hx rfl rfl rfl (pc0 := 18) (pc' := 21) (same := true) rfl (hb hby d1_18) rfl (decide_eq_true (congrArg Value.ref ha10)) (by decide) (by decide) k) ?_
      show Go _ _ _ _ _ _ _ T9 (mkF m 21 #[.val (.ref o0), .val (.ref o1), .unset] [])
      refine Go.st (fun _ k => XS.aloadN X9.here hx rfl (hb hby d1_21) rfl rfl k) ?_
      show Go _ _ _ _ _ _ _ T9 (mkF m 22 #[.val (.ref o0), .val (.ref o1), .unset] [(.ref o1)])
      obtain ⟨T11, X11, e11, st11⟩ := getS2 X9 hx hZ hown (host := "") (Or.inl (hw _ (List.mem_of_getElem? (i := 17) rfl))) Via.refl e9 S_BIGINT (g := (mkF m 22 #[.val (.ref o0), .val (.ref o1), .unset] [(.ref o1)])) rfl (hb hby d1_22)
      refine Go.st st11 ?_
      show Go _ _ _ _ _ _ _ T11 (mkF m 25 #[.val (.ref o0), .val (.ref o1), .unset] [(.ref w_BIGINT), (.ref o1)])
      by_cases ha12 : o1 = w_BIGINT
      · refine Go.st (fun _ k => Jvm.RoadKit.acmp (g := (mkF m 25 #[.val (.ref o0), .val (.ref o1), .unset] [(.ref w_BIGINT), (.ref o1)])) X11 hx rfl rfl rfl (pc0 := 25) (pc' := 28) (same := true) rfl (hb hby d1_25) rfl (decide_eq_true (congrArg Value.ref ha12)) (by decide) (by decide) k) ?_
        show Go _ _ _ _ _ _ _ T11 (mkF m 28 #[.val (.ref o0), .val (.ref o1), .unset] [])
        refine Go.st (fun _ k => XS.iconst X11.here hx rfl (hb hby d1_28) k) ?_
        show Go _ _ _ _ _ _ _ T11 (mkF m 29 #[.val (.ref o0), .val (.ref o1), .unset] [(.int (1 : Int32))])
        refine Go.st (fun _ k => XS.goto X11.here hx rfl (pc0 := 29) (pc' := 33) rfl (hb hby d1_29) (by decide) (by decide) k) ?_
        show Go _ _ _ _ _ _ _ T11 (mkF m 33 #[.val (.ref o0), .val (.ref o1), .unset] [(.int (1 : Int32))])
        refine Go.st (fun _ k => XS.istoreN X11.here hx rfl (hb hby d1_33) rfl (l' := #[.val (.ref o0), .val (.ref o1), .val (.int (1 : Int32))]) rfl k) ?_
        show Go _ _ _ _ _ _ _ T11 (mkF m 34 #[.val (.ref o0), .val (.ref o1), .val (.int (1 : Int32))] [])
        refine Go.st (fun _ k => XS.iloadN X11.here hx rfl (hb hby d1_34) rfl k) ?_
        show Go _ _ _ _ _ _ _ T11 (mkF m 35 #[.val (.ref o0), .val (.ref o1), .val (.int (1 : Int32))] [(.int (1 : Int32))])
        refine Go.st (fun _ k => XS.ifYes X11.here hx rfl (pc0 := 35) (pc' := 42) rfl (hb hby d1_35) rfl ((if0 _ _).trans (feq (by decide : ¬ ((1 : Int32) = (0 : Int32)))).2) (by decide) (by decide) k) ?_
        show Go _ _ _ _ _ _ _ T11 (mkF m 42 #[.val (.ref o0), .val (.ref o1), .val (.int (1 : Int32))] [])
        refine Go.st (fun _ k => XS.iconst X11.here hx rfl (hb hby d1_42) k) ?_
        show Go _ _ _ _ _ _ _ T11 (mkF m 43 #[.val (.ref o0), .val (.ref o1), .val (.int (1 : Int32))] [(.int (0 : Int32))])
        refine Go.ret X11 hlk (v := some (.int (0 : Int32))) (fun h => by rw [hret] at h; cases h) (fun fs hr => retN X11 hx (t := .boolean) hret (by simp) (hb hby d1_43) hr) ?_ (by decide) (by decide)
        show Q1 Z o0 o1 w_BIGINT w_BOOLEAN h0 n0 (some (.int (0 : Int32))) T11.heap _
        rw [e11]
        refine ⟨?_, N0, rfl⟩
        unfold val_1
        rw [if_neg ha2, if_pos ha10, if_pos ha12]
      · refine Go.st (fun _ k => Jvm.RoadKit.acmp (g := (mkF m 25 #[.val (.ref o0), .val (.ref o1), .unset] [(.ref w_BIGINT), (.ref o1)])) X11 hx rfl rfl rfl (pc0 := 25) (pc' := 32) (same := false) rfl (hb hby d1_25) rfl (decide_eq_false fun q => ha12 (Value.ref.inj q)) (by decide) (by decide) k) ?_
        show Go _ _ _ _ _ _ _ T11 (mkF m 32 #[.val (.ref o0), .val (.ref o1), .unset] [])
        refine Go.st (fun _ k => XS.iconst X11.here hx rfl (hb hby d1_32) k) ?_
        show Go _ _ _ _ _ _ _ T11 (mkF m 33 #[.val (.ref o0), .val (.ref o1), .unset] [(.int (0 : Int32))])
        refine Go.st (fun _ k => XS.istoreN X11.here hx rfl (hb hby d1_33) rfl (l' := #[.val (.ref o0), .val (.ref o1), .val (.int (0 : Int32))]) rfl k) ?_
        show Go _ _ _ _ _ _ _ T11 (mkF m 34 #[.val (.ref o0), .val (.ref o1), .val (.int (0 : Int32))] [])
        refine Go.st (fun _ k => XS.iloadN X11.here hx rfl (hb hby d1_34) rfl k) ?_
        show Go _ _ _ _ _ _ _ T11 (mkF m 35 #[.val (.ref o0), .val (.ref o1), .val (.int (0 : Int32))] [(.int (0 : Int32))])
        refine Go.st (fun _ k => XS.ifNo X11.here hx rfl (hb hby d1_35) rfl ((if0 _ _).trans (teq (by decide : (0 : Int32) = (0 : Int32))).2) k) ?_
        show Go _ _ _ _ _ _ _ T11 (mkF m 38 #[.val (.ref o0), .val (.ref o1), .val (.int (0 : Int32))] [])
        refine Go.st (fun _ k => XS.iconst X11.here hx rfl (hb hby d1_38) k) ?_
        show Go _ _ _ _ _ _ _ T11 (mkF m 39 #[.val (.ref o0), .val (.ref o1), .val (.int (0 : Int32))] [(.int (1 : Int32))])
        refine Go.st (fun _ k => XS.goto X11.here hx rfl (pc0 := 39) (pc' := 43) rfl (hb hby d1_39) (by decide) (by decide) k) ?_
        show Go _ _ _ _ _ _ _ T11 (mkF m 43 #[.val (.ref o0), .val (.ref o1), .val (.int (0 : Int32))] [(.int (1 : Int32))])
        refine Go.ret X11 hlk (v := some (.int (1 : Int32))) (fun h => by rw [hret] at h; cases h) (fun fs hr => retN X11 hx (t := .boolean) hret (by simp) (hb hby d1_43) hr) ?_ (by decide) (by decide)
        show Q1 Z o0 o1 w_BIGINT w_BOOLEAN h0 n0 (some (.int (1 : Int32))) T11.heap _
        rw [e11]
        refine ⟨?_, N0, rfl⟩
        unfold val_1
        rw [if_neg ha2, if_pos ha10, if_neg ha12]
    · refine Go.st (fun _ k => Jvm.RoadKit.acmp (g := (mkF m 18 #[.val (.ref o0), .val (.ref o1), .unset] [(.ref w_BOOLEAN), (.ref o0)])) X9 hx rfl rfl rfl (pc0 := 18) (pc' := 32) (same := false) rfl (hb hby d1_18) rfl (decide_eq_false fun q => ha10 (Value.ref.inj q)) (by decide) (by decide) k) ?_
      show Go _ _ _ _ _ _ _ T9 (mkF m 32 #[.val (.ref o0), .val (.ref o1), .unset] [])
      refine Go.st (fun _ k => XS.iconst X9.here hx rfl (hb hby d1_32) k) ?_
      show Go _ _ _ _ _ _ _ T9 (mkF m 33 #[.val (.ref o0), .val (.ref o1), .unset] [(.int (0 : Int32))])
      refine Go.st (fun _ k => XS.istoreN X9.here hx rfl (hb hby d1_33) rfl (l' := #[.val (.ref o0), .val (.ref o1), .val (.int (0 : Int32))]) rfl k) ?_
      show Go _ _ _ _ _ _ _ T9 (mkF m 34 #[.val (.ref o0), .val (.ref o1), .val (.int (0 : Int32))] [])
      refine Go.st (fun _ k => XS.iloadN X9.here hx rfl (hb hby d1_34) rfl k) ?_
      show Go _ _ _ _ _ _ _ T9 (mkF m 35 #[.val (.ref o0), .val (.ref o1), .val (.int (0 : Int32))] [(.int (0 : Int32))])
      refine Go.st (fun _ k => XS.ifNo X9.here hx rfl (hb hby d1_35) rfl ((if0 _ _).trans (teq (by decide : (0 : Int32) = (0 : Int32))).2) k) ?_
      show Go _ _ _ _ _ _ _ T9 (mkF m 38 #[.val (.ref o0), .val (.ref o1), .val (.int (0 : Int32))] [])
      refine Go.st (fun _ k => XS.iconst X9.here hx rfl (hb hby d1_38) k) ?_
      show Go _ _ _ _ _ _ _ T9 (mkF m 39 #[.val (.ref o0), .val (.ref o1), .val (.int (0 : Int32))] [(.int (1 : Int32))])
      refine Go.st (fun _ k => XS.goto X9.here hx rfl (pc0 := 39) (pc' := 43) rfl (hb hby d1_39) (by decide) (by decide) k) ?_
      show Go _ _ _ _ _ _ _ T9 (mkF m 43 #[.val (.ref o0), .val (.ref o1), .val (.int (0 : Int32))] [(.int (1 : Int32))])
      refine Go.ret X9 hlk (v := some (.int (1 : Int32))) (fun h => by rw [hret] at h; cases h) (fun fs hr => retN X9 hx (t := .boolean) hret (by simp) (hb hby d1_43) hr) ?_ (by decide) (by decide)
      show Q1 Z o0 o1 w_BIGINT w_BOOLEAN h0 n0 (some (.int (1 : Int32))) T9.heap _
      rw [e9]
      refine ⟨?_, N0, rfl⟩
      unfold val_1
      rw [if_neg ha2, if_neg ha10]
theorem d2_0 : decode method_2_code 0 = .ok (.iload_n 0, 1) := by decide +kernel
theorem d2_1 : decode method_2_code 1 = .ok (.iload_n 1, 1) := by decide +kernel
theorem d2_2 : decode method_2_code 2 = .ok (.if_icmp .ne 7, 3) := by decide +kernel
theorem d2_5 : decode method_2_code 5 = .ok (.iconst 1, 1) := by decide +kernel
theorem d2_6 : decode method_2_code 6 = .ok (.goto 4, 3) := by decide +kernel
theorem d2_9 : decode method_2_code 9 = .ok (.iconst 0, 1) := by decide +kernel
theorem d2_10 : decode method_2_code 10 = .ok (.istore_n 2, 1) := by decide +kernel
theorem d2_11 : decode method_2_code 11 = .ok (.iload_n 0, 1) := by decide +kernel
theorem d2_12 : decode method_2_code 12 = .ok (.iconst 1, 1) := by decide +kernel
theorem d2_13 : decode method_2_code 13 = .ok (.if_icmp .gt 12, 3) := by decide +kernel
theorem d2_16 : decode method_2_code 16 = .ok (.iload_n 1, 1) := by decide +kernel
theorem d2_17 : decode method_2_code 17 = .ok (.iconst 1, 1) := by decide +kernel
theorem d2_18 : decode method_2_code 18 = .ok (.if_icmp .gt 7, 3) := by decide +kernel
theorem d2_21 : decode method_2_code 21 = .ok (.iconst 1, 1) := by decide +kernel
theorem d2_22 : decode method_2_code 22 = .ok (.goto 4, 3) := by decide +kernel
theorem d2_25 : decode method_2_code 25 = .ok (.iconst 0, 1) := by decide +kernel
theorem d2_26 : decode method_2_code 26 = .ok (.istore_n 3, 1) := by decide +kernel
theorem d2_27 : decode method_2_code 27 = .ok (.iload_n 0, 1) := by decide +kernel
theorem d2_28 : decode method_2_code 28 = .ok (.ifCond .ne 8, 3) := by decide +kernel
theorem d2_31 : decode method_2_code 31 = .ok (.iload_n 1, 1) := by decide +kernel
theorem d2_32 : decode method_2_code 32 = .ok (.iconst 2, 1) := by decide +kernel
theorem d2_33 : decode method_2_code 33 = .ok (.if_icmp .eq 12, 3) := by decide +kernel
theorem d2_36 : decode method_2_code 36 = .ok (.iload_n 0, 1) := by decide +kernel
theorem d2_37 : decode method_2_code 37 = .ok (.iconst 2, 1) := by decide +kernel
theorem d2_38 : decode method_2_code 38 = .ok (.if_icmp .ne 11, 3) := by decide +kernel
theorem d2_41 : decode method_2_code 41 = .ok (.iload_n 1, 1) := by decide +kernel
theorem d2_42 : decode method_2_code 42 = .ok (.ifCond .ne 7, 3) := by decide +kernel
theorem d2_45 : decode method_2_code 45 = .ok (.iconst 1, 1) := by decide +kernel
theorem d2_46 : decode method_2_code 46 = .ok (.goto 4, 3) := by decide +kernel
theorem d2_49 : decode method_2_code 49 = .ok (.iconst 0, 1) := by decide +kernel
theorem d2_50 : decode method_2_code 50 = .ok (.istore 4, 2) := by decide +kernel
theorem d2_52 : decode method_2_code 52 = .ok (.iload_n 0, 1) := by decide +kernel
theorem d2_53 : decode method_2_code 53 = .ok (.iconst 3, 1) := by decide +kernel
theorem d2_54 : decode method_2_code 54 = .ok (.if_icmp .eq 8, 3) := by decide +kernel
theorem d2_57 : decode method_2_code 57 = .ok (.iload_n 1, 1) := by decide +kernel
theorem d2_58 : decode method_2_code 58 = .ok (.iconst 3, 1) := by decide +kernel
theorem d2_59 : decode method_2_code 59 = .ok (.if_icmp .ne 7, 3) := by decide +kernel
theorem d2_62 : decode method_2_code 62 = .ok (.iconst 1, 1) := by decide +kernel
theorem d2_63 : decode method_2_code 63 = .ok (.goto 4, 3) := by decide +kernel
theorem d2_66 : decode method_2_code 66 = .ok (.iconst 0, 1) := by decide +kernel
theorem d2_67 : decode method_2_code 67 = .ok (.istore 5, 2) := by decide +kernel
theorem d2_69 : decode method_2_code 69 = .ok (.iload_n 2, 1) := by decide +kernel
theorem d2_70 : decode method_2_code 70 = .ok (.ifCond .ne 17, 3) := by decide +kernel
theorem d2_73 : decode method_2_code 73 = .ok (.iload_n 3, 1) := by decide +kernel
theorem d2_74 : decode method_2_code 74 = .ok (.ifCond .ne 13, 3) := by decide +kernel
theorem d2_77 : decode method_2_code 77 = .ok (.iload 4, 2) := by decide +kernel
theorem d2_79 : decode method_2_code 79 = .ok (.ifCond .ne 8, 3) := by decide +kernel
theorem d2_82 : decode method_2_code 82 = .ok (.iload 5, 2) := by decide +kernel
theorem d2_84 : decode method_2_code 84 = .ok (.ifCond .eq 7, 3) := by decide +kernel
theorem d2_87 : decode method_2_code 87 = .ok (.iconst 1, 1) := by decide +kernel
theorem d2_88 : decode method_2_code 88 = .ok (.goto 4, 3) := by decide +kernel
theorem d2_91 : decode method_2_code 91 = .ok (.iconst 0, 1) := by decide +kernel
theorem d2_92 : decode method_2_code 92 = .ok (.ireturn, 1) := by decide +kernel
def val_2 (p0 : Int32) (p1 : Int32) : Int32 := (if p0 = (0 : Int32) then (1 : Int32) else (if p0 = (1 : Int32) then (if p1 = (0 : Int32) then (1 : Int32) else (if p1 = (1 : Int32) then (1 : Int32) else (if p1 = (2 : Int32) then (0 : Int32) else (1 : Int32)))) else (if p0 = (2 : Int32) then (if p1 = (0 : Int32) then (1 : Int32) else (if p1 = (1 : Int32) then (0 : Int32) else (1 : Int32))) else (1 : Int32))))
theorem ef_2 (m : MethodId) (p0 : Int32) (p1 : Int32) : entryFrame m #[(.int p0), (.int p1)] 6 = mkF m 0 #[.val (.int p0), .val (.int p1), .unset, .unset, .unset, .unset] [] := by first | (simp [entryFrame, mkF, argsToLocals, Value.category]; done) | rfl
def Q2 (Z : State) (p0 : Int32) (p1 : Int32) (h0 : Heap) (n0 : Nat) (v : Option Value) (h : Heap) (L : List Loc) : Prop := v = some (.int (val_2 p0 p1)) ∧ Fr n0 L ∧ h = h0
set_option maxRecDepth 65536 in
set_option maxHeartbeats 40000000 in
theorem rm2 (l : Launch) (Z : State) (a0 : Array Value) (hw : ∀ d ∈ tables_1, d.before a0 Z = true) (ws : List Jvm.Cond) (p0 : Int32) (p1 : Int32) (h0 : Heap) (n0 : Nat) (Z0 : n0 ≤ h0.size) (V_p0 : p0 = 0 ∨ p0 = 1 ∨ p0 = 2 ∨ p0 = 3) (V_p1 : p1 = 0 ∨ p1 = 1 ∨ p1 = 2 ∨ p1 = 3) :
    MetFree l (⟨"com/example/truerow/truerow/postgres/TypeCastsToPinLaw", "expected", "(II)Z"⟩ : MethodName) (head1 (Jvm.Cond.code (⟨"com/example/truerow/truerow/postgres/TypeCastsToPinLaw", "expected", "(II)Z"⟩ : MethodName) method_2_code 6 (some .boolean) :: ws) ({ frames := 0, cells := 0, slots := 0, locals := 0 } : Room)) (fun a U => a = #[(.int p0), (.int p1)] ∧ Z.Warmed39 U.vm ∧ U.heap = h0) (fun _ _ _ _ _ => True) (fun _ U o U' => ∃ v L, o = .returned v ∧ Q2 Z p0 p1 h0 n0 v U'.heap L ∧ FrameEnd U o U' L ({ frames := 0, cells := 0, slots := 0, locals := 0 } : Room).cells ({ frames := 0, cells := 0, slots := 0, locals := 0 } : Room).slots) := by
  refine MetFree.of_bodySF (plainFor_of_name pn_com_example_truerow_truerow_postgres_TypeCastsToPinLaw) hisR ?_
  intro p e s m args below meth c s₁ Bd hml0 hP hK
  obtain ⟨rfl, hZ, hh⟩ := hP
  have hx := Bd.exec
  have hby := Bd.bytes
  have hlk : meth.locks = false := BodyLoose.notSynchronized Bd
  have hret := Bd.returns
  have hml : c.maxLocals = 6 := hml0
  have hown : s.vm.findClass "com/example/truerow/truerow/postgres/TypeCastsToPinLaw" = some m.cls := findClass_of_methodNamed Bd.named
  have hnm := (name_of_methodNamed Bd.named Bd.method).1
  have X0 : Stand p l e ({ frames := 0, cells := 0, slots := 0, locals := 0 } : Room) s m #[(.int p0), (.int p1)] below meth c s₁ [] 0 0 := Stand.of_body Bd
  have e0 : s₁.heap = h0 := by rw [← hh, Bd.state]; rfl
  have N0 := Fr.nil n0
  refine Go.start (Q := Q2 Z p0 p1 h0 n0) (ef_2 m p0 p1) ?_
  rcases id V_p0 with hv1 | hv1 | hv1 | hv1
  · rcases id V_p1 with hv2 | hv2 | hv2 | hv2
    · show Go _ _ _ _ _ _ _ s₁ (mkF m 0 #[.val (.int p0), .val (.int p1), .unset, .unset, .unset, .unset] [])
      refine Go.st (fun _ k => XS.iloadN X0.here hx rfl (hb hby d2_0) rfl k) ?_
      show Go _ _ _ _ _ _ _ s₁ (mkF m 1 #[.val (.int p0), .val (.int p1), .unset, .unset, .unset, .unset] [(.int p0)])
      refine Go.st (fun _ k => XS.iloadN X0.here hx rfl (hb hby d2_1) rfl k) ?_
      show Go _ _ _ _ _ _ _ s₁ (mkF m 2 #[.val (.int p0), .val (.int p1), .unset, .unset, .unset, .unset] [(.int p1), (.int p0)])
      refine Go.st (fun _ k => XS.icmpNo X0.here hx rfl (hb hby d2_2) rfl (teq (by rw [hv1, hv2] <;> decide +kernel : p0 = p1)).2 k) ?_
      show Go _ _ _ _ _ _ _ s₁ (mkF m 5 #[.val (.int p0), .val (.int p1), .unset, .unset, .unset, .unset] [])
      refine Go.st (fun _ k => XS.iconst X0.here hx rfl (hb hby d2_5) k) ?_
      show Go _ _ _ _ _ _ _ s₁ (mkF m 6 #[.val (.int p0), .val (.int p1), .unset, .unset, .unset, .unset] [(.int (1 : Int32))])
      refine Go.st (fun _ k => XS.goto X0.here hx rfl (pc0 := 6) (pc' := 10) rfl (hb hby d2_6) (by decide) (by decide) k) ?_
      show Go _ _ _ _ _ _ _ s₁ (mkF m 10 #[.val (.int p0), .val (.int p1), .unset, .unset, .unset, .unset] [(.int (1 : Int32))])
      refine Go.st (fun _ k => XS.istoreN X0.here hx rfl (hb hby d2_10) rfl (l' := #[.val (.int p0), .val (.int p1), .val (.int (1 : Int32)), .unset, .unset, .unset]) rfl k) ?_
      show Go _ _ _ _ _ _ _ s₁ (mkF m 11 #[.val (.int p0), .val (.int p1), .val (.int (1 : Int32)), .unset, .unset, .unset] [])
      refine Go.st (fun _ k => XS.iloadN X0.here hx rfl (hb hby d2_11) rfl k) ?_
      show Go _ _ _ _ _ _ _ s₁ (mkF m 12 #[.val (.int p0), .val (.int p1), .val (.int (1 : Int32)), .unset, .unset, .unset] [(.int p0)])
      refine Go.st (fun _ k => XS.iconst X0.here hx rfl (hb hby d2_12) k) ?_
      show Go _ _ _ _ _ _ _ s₁ (mkF m 13 #[.val (.int p0), .val (.int p1), .val (.int (1 : Int32)), .unset, .unset, .unset] [(.int (1 : Int32)), (.int p0)])
      refine Go.st (fun _ k => XS.icmpNo X0.here hx rfl (hb hby d2_13) rfl (flt (by rw [hv1] <;> decide +kernel : ¬ ((1 : Int32) < p0))).2.2.1 k) ?_
      show Go _ _ _ _ _ _ _ s₁ (mkF m 16 #[.val (.int p0), .val (.int p1), .val (.int (1 : Int32)), .unset, .unset, .unset] [])
      refine Go.st (fun _ k => XS.iloadN X0.here hx rfl (hb hby d2_16) rfl k) ?_
      show Go _ _ _ _ _ _ _ s₁ (mkF m 17 #[.val (.int p0), .val (.int p1), .val (.int (1 : Int32)), .unset, .unset, .unset] [(.int p1)])
      refine Go.st (fun _ k => XS.iconst X0.here hx rfl (hb hby d2_17) k) ?_
      show Go _ _ _ _ _ _ _ s₁ (mkF m 18 #[.val (.int p0), .val (.int p1), .val (.int (1 : Int32)), .unset, .unset, .unset] [(.int (1 : Int32)), (.int p1)])
      refine Go.st (fun _ k => XS.icmpNo X0.here hx rfl (hb hby d2_18) rfl (flt (by rw [hv2] <;> decide +kernel : ¬ ((1 : Int32) < p1))).2.2.1 k) ?_
      show Go _ _ _ _ _ _ _ s₁ (mkF m 21 #[.val (.int p0), .val (.int p1), .val (.int (1 : Int32)), .unset, .unset, .unset] [])
      refine Go.st (fun _ k => XS.iconst X0.here hx rfl (hb hby d2_21) k) ?_
      show Go _ _ _ _ _ _ _ s₁ (mkF m 22 #[.val (.int p0), .val (.int p1), .val (.int (1 : Int32)), .unset, .unset, .unset] [(.int (1 : Int32))])
      refine Go.st (fun _ k => XS.goto X0.here hx rfl (pc0 := 22) (pc' := 26) rfl (hb hby d2_22) (by decide) (by decide) k) ?_
      show Go _ _ _ _ _ _ _ s₁ (mkF m 26 #[.val (.int p0), .val (.int p1), .val (.int (1 : Int32)), .unset, .unset, .unset] [(.int (1 : Int32))])
      refine Go.st (fun _ k => XS.istoreN X0.here hx rfl (hb hby d2_26) rfl (l' := #[.val (.int p0), .val (.int p1), .val (.int (1 : Int32)), .val (.int (1 : Int32)), .unset, .unset]) rfl k) ?_
      show Go _ _ _ _ _ _ _ s₁ (mkF m 27 #[.val (.int p0), .val (.int p1), .val (.int (1 : Int32)), .val (.int (1 : Int32)), .unset, .unset] [])
      refine Go.st (fun _ k => XS.iloadN X0.here hx rfl (hb hby d2_27) rfl k) ?_
      show Go _ _ _ _ _ _ _ s₁ (mkF m 28 #[.val (.int p0), .val (.int p1), .val (.int (1 : Int32)), .val (.int (1 : Int32)), .unset, .unset] [(.int p0)])
      refine Go.st (fun _ k => XS.ifNo X0.here hx rfl (hb hby d2_28) rfl ((if0 _ _).trans (teq hv1).2) k) ?_
      show Go _ _ _ _ _ _ _ s₁ (mkF m 31 #[.val (.int p0), .val (.int p1), .val (.int (1 : Int32)), .val (.int (1 : Int32)), .unset, .unset] [])
      refine Go.st (fun _ k => XS.iloadN X0.here hx rfl (hb hby d2_31) rfl k) ?_
      show Go _ _ _ _ _ _ _ s₁ (mkF m 32 #[.val (.int p0), .val (.int p1), .val (.int (1 : Int32)), .val (.int (1 : Int32)), .unset, .unset] [(.int p1)])
      refine Go.st (fun _ k => XS.iconst X0.here hx rfl (hb hby d2_32) k) ?_
      show Go _ _ _ _ _ _ _ s₁ (mkF m 33 #[.val (.int p0), .val (.int p1), .val (.int (1 : Int32)), .val (.int (1 : Int32)), .unset, .unset] [(.int (2 : Int32)), (.int p1)])
      refine Go.st (fun _ k => XS.icmpNo X0.here hx rfl (hb hby d2_33) rfl (feq (by rw [hv2]; decide : ¬ (p1 = (2 : Int32)))).1 k) ?_
      show Go _ _ _ _ _ _ _ s₁ (mkF m 36 #[.val (.int p0), .val (.int p1), .val (.int (1 : Int32)), .val (.int (1 : Int32)), .unset, .unset] [])
      refine Go.st (fun _ k => XS.iloadN X0.here hx rfl (hb hby d2_36) rfl k) ?_
      show Go _ _ _ _ _ _ _ s₁ (mkF m 37 #[.val (.int p0), .val (.int p1), .val (.int (1 : Int32)), .val (.int (1 : Int32)), .unset, .unset] [(.int p0)])
      refine Go.st (fun _ k => XS.iconst X0.here hx rfl (hb hby d2_37) k) ?_
      show Go _ _ _ _ _ _ _ s₁ (mkF m 38 #[.val (.int p0), .val (.int p1), .val (.int (1 : Int32)), .val (.int (1 : Int32)), .unset, .unset] [(.int (2 : Int32)), (.int p0)])
      refine Go.st (fun _ k => XS.icmpYes X0.here hx rfl (pc0 := 38) (pc' := 49) rfl (hb hby d2_38) rfl (feq (by rw [hv1]; decide : ¬ (p0 = (2 : Int32)))).2 (by decide) (by decide) k) ?_
      show Go _ _ _ _ _ _ _ s₁ (mkF m 49 #[.val (.int p0), .val (.int p1), .val (.int (1 : Int32)), .val (.int (1 : Int32)), .unset, .unset] [])
      refine Go.st (fun _ k => XS.iconst X0.here hx rfl (hb hby d2_49) k) ?_
      show Go _ _ _ _ _ _ _ s₁ (mkF m 50 #[.val (.int p0), .val (.int p1), .val (.int (1 : Int32)), .val (.int (1 : Int32)), .unset, .unset] [(.int (0 : Int32))])
      refine Go.st (fun _ k => XS.istore X0.here hx rfl (hb hby d2_50) rfl (l' := #[.val (.int p0), .val (.int p1), .val (.int (1 : Int32)), .val (.int (1 : Int32)), .val (.int (0 : Int32)), .unset]) rfl k) ?_
      show Go _ _ _ _ _ _ _ s₁ (mkF m 52 #[.val (.int p0), .val (.int p1), .val (.int (1 : Int32)), .val (.int (1 : Int32)), .val (.int (0 : Int32)), .unset] [])
      refine Go.st (fun _ k => XS.iloadN X0.here hx rfl (hb hby d2_52) rfl k) ?_
      show Go _ _ _ _ _ _ _ s₁ (mkF m 53 #[.val (.int p0), .val (.int p1), .val (.int (1 : Int32)), .val (.int (1 : Int32)), .val (.int (0 : Int32)), .unset] [(.int p0)])
      refine Go.st (fun _ k => XS.iconst X0.here hx rfl (hb hby d2_53) k) ?_
      show Go _ _ _ _ _ _ _ s₁ (mkF m 54 #[.val (.int p0), .val (.int p1), .val (.int (1 : Int32)), .val (.int (1 : Int32)), .val (.int (0 : Int32)), .unset] [(.int (3 : Int32)), (.int p0)])
      refine Go.st (fun _ k => XS.icmpNo X0.here hx rfl (hb hby d2_54) rfl (feq (by rw [hv1]; decide : ¬ (p0 = (3 : Int32)))).1 k) ?_
      show Go _ _ _ _ _ _ _ s₁ (mkF m 57 #[.val (.int p0), .val (.int p1), .val (.int (1 : Int32)), .val (.int (1 : Int32)), .val (.int (0 : Int32)), .unset] [])
      refine Go.st (fun _ k => XS.iloadN X0.here hx rfl (hb hby d2_57) rfl k) ?_
      show Go _ _ _ _ _ _ _ s₁ (mkF m 58 #[.val (.int p0), .val (.int p1), .val (.int (1 : Int32)), .val (.int (1 : Int32)), .val (.int (0 : Int32)), .unset] [(.int p1)])
      refine Go.st (fun _ k => XS.iconst X0.here hx rfl (hb hby d2_58) k) ?_
      show Go _ _ _ _ _ _ _ s₁ (mkF m 59 #[.val (.int p0), .val (.int p1), .val (.int (1 : Int32)), .val (.int (1 : Int32)), .val (.int (0 : Int32)), .unset] [(.int (3 : Int32)), (.int p1)])
      refine Go.st (fun _ k => XS.icmpYes X0.here hx rfl (pc0 := 59) (pc' := 66) rfl (hb hby d2_59) rfl (feq (by rw [hv2]; decide : ¬ (p1 = (3 : Int32)))).2 (by decide) (by decide) k) ?_
      show Go _ _ _ _ _ _ _ s₁ (mkF m 66 #[.val (.int p0), .val (.int p1), .val (.int (1 : Int32)), .val (.int (1 : Int32)), .val (.int (0 : Int32)), .unset] [])
      refine Go.st (fun _ k => XS.iconst X0.here hx rfl (hb hby d2_66) k) ?_
      show Go _ _ _ _ _ _ _ s₁ (mkF m 67 #[.val (.int p0), .val (.int p1), .val (.int (1 : Int32)), .val (.int (1 : Int32)), .val (.int (0 : Int32)), .unset] [(.int (0 : Int32))])
      refine Go.st (fun _ k => XS.istore X0.here hx rfl (hb hby d2_67) rfl (l' := #[.val (.int p0), .val (.int p1), .val (.int (1 : Int32)), .val (.int (1 : Int32)), .val (.int (0 : Int32)), .val (.int (0 : Int32))]) rfl k) ?_
      show Go _ _ _ _ _ _ _ s₁ (mkF m 69 #[.val (.int p0), .val (.int p1), .val (.int (1 : Int32)), .val (.int (1 : Int32)), .val (.int (0 : Int32)), .val (.int (0 : Int32))] [])
      refine Go.st (fun _ k => XS.iloadN X0.here hx rfl (hb hby d2_69) rfl k) ?_
      show Go _ _ _ _ _ _ _ s₁ (mkF m 70 #[.val (.int p0), .val (.int p1), .val (.int (1 : Int32)), .val (.int (1 : Int32)), .val (.int (0 : Int32)), .val (.int (0 : Int32))] [(.int (1 : Int32))])
      refine Go.st (fun _ k => XS.ifYes X0.here hx rfl (pc0 := 70) (pc' := 87) rfl (hb hby d2_70) rfl ((if0 _ _).trans (feq (by decide : ¬ ((1 : Int32) = (0 : Int32)))).2) (by decide) (by decide) k) ?_
      show Go _ _ _ _ _ _ _ s₁ (mkF m 87 #[.val (.int p0), .val (.int p1), .val (.int (1 : Int32)), .val (.int (1 : Int32)), .val (.int (0 : Int32)), .val (.int (0 : Int32))] [])
      refine Go.st (fun _ k => XS.iconst X0.here hx rfl (hb hby d2_87) k) ?_
      show Go _ _ _ _ _ _ _ s₁ (mkF m 88 #[.val (.int p0), .val (.int p1), .val (.int (1 : Int32)), .val (.int (1 : Int32)), .val (.int (0 : Int32)), .val (.int (0 : Int32))] [(.int (1 : Int32))])
      refine Go.st (fun _ k => XS.goto X0.here hx rfl (pc0 := 88) (pc' := 92) rfl (hb hby d2_88) (by decide) (by decide) k) ?_
      show Go _ _ _ _ _ _ _ s₁ (mkF m 92 #[.val (.int p0), .val (.int p1), .val (.int (1 : Int32)), .val (.int (1 : Int32)), .val (.int (0 : Int32)), .val (.int (0 : Int32))] [(.int (1 : Int32))])
      refine Go.ret X0 hlk (v := some (.int (1 : Int32))) (fun h => by rw [hret] at h; cases h) (fun fs hr => retN X0 hx (t := .boolean) hret (by simp) (hb hby d2_92) hr) ?_ (by decide) (by decide)
      show Q2 Z p0 p1 h0 n0 (some (.int (1 : Int32))) s₁.heap _
      rw [e0]
      refine ⟨?_, N0, rfl⟩
      unfold val_2
      rw [if_pos hv1]
    · show Go _ _ _ _ _ _ _ s₁ (mkF m 0 #[.val (.int p0), .val (.int p1), .unset, .unset, .unset, .unset] [])
      refine Go.st (fun _ k => XS.iloadN X0.here hx rfl (hb hby d2_0) rfl k) ?_
      show Go _ _ _ _ _ _ _ s₁ (mkF m 1 #[.val (.int p0), .val (.int p1), .unset, .unset, .unset, .unset] [(.int p0)])
      refine Go.st (fun _ k => XS.iloadN X0.here hx rfl (hb hby d2_1) rfl k) ?_
      show Go _ _ _ _ _ _ _ s₁ (mkF m 2 #[.val (.int p0), .val (.int p1), .unset, .unset, .unset, .unset] [(.int p1), (.int p0)])
      refine Go.st (fun _ k => XS.icmpYes X0.here hx rfl (pc0 := 2) (pc' := 9) rfl (hb hby d2_2) rfl (feq (by rw [hv1, hv2] <;> decide +kernel : ¬ (p0 = p1))).2 (by decide) (by decide) k) ?_
      show Go _ _ _ _ _ _ _ s₁ (mkF m 9 #[.val (.int p0), .val (.int p1), .unset, .unset, .unset, .unset] [])
      refine Go.st (fun _ k => XS.iconst X0.here hx rfl (hb hby d2_9) k) ?_
      show Go _ _ _ _ _ _ _ s₁ (mkF m 10 #[.val (.int p0), .val (.int p1), .unset, .unset, .unset, .unset] [(.int (0 : Int32))])
      refine Go.st (fun _ k => XS.istoreN X0.here hx rfl (hb hby d2_10) rfl (l' := #[.val (.int p0), .val (.int p1), .val (.int (0 : Int32)), .unset, .unset, .unset]) rfl k) ?_
      show Go _ _ _ _ _ _ _ s₁ (mkF m 11 #[.val (.int p0), .val (.int p1), .val (.int (0 : Int32)), .unset, .unset, .unset] [])
      refine Go.st (fun _ k => XS.iloadN X0.here hx rfl (hb hby d2_11) rfl k) ?_
      show Go _ _ _ _ _ _ _ s₁ (mkF m 12 #[.val (.int p0), .val (.int p1), .val (.int (0 : Int32)), .unset, .unset, .unset] [(.int p0)])
      refine Go.st (fun _ k => XS.iconst X0.here hx rfl (hb hby d2_12) k) ?_
      show Go _ _ _ _ _ _ _ s₁ (mkF m 13 #[.val (.int p0), .val (.int p1), .val (.int (0 : Int32)), .unset, .unset, .unset] [(.int (1 : Int32)), (.int p0)])
      refine Go.st (fun _ k => XS.icmpNo X0.here hx rfl (hb hby d2_13) rfl (flt (by rw [hv1] <;> decide +kernel : ¬ ((1 : Int32) < p0))).2.2.1 k) ?_
      show Go _ _ _ _ _ _ _ s₁ (mkF m 16 #[.val (.int p0), .val (.int p1), .val (.int (0 : Int32)), .unset, .unset, .unset] [])
      refine Go.st (fun _ k => XS.iloadN X0.here hx rfl (hb hby d2_16) rfl k) ?_
      show Go _ _ _ _ _ _ _ s₁ (mkF m 17 #[.val (.int p0), .val (.int p1), .val (.int (0 : Int32)), .unset, .unset, .unset] [(.int p1)])
      refine Go.st (fun _ k => XS.iconst X0.here hx rfl (hb hby d2_17) k) ?_
      show Go _ _ _ _ _ _ _ s₁ (mkF m 18 #[.val (.int p0), .val (.int p1), .val (.int (0 : Int32)), .unset, .unset, .unset] [(.int (1 : Int32)), (.int p1)])
      refine Go.st (fun _ k => XS.icmpNo X0.here hx rfl (hb hby d2_18) rfl (flt (by rw [hv2] <;> decide +kernel : ¬ ((1 : Int32) < p1))).2.2.1 k) ?_
      show Go _ _ _ _ _ _ _ s₁ (mkF m 21 #[.val (.int p0), .val (.int p1), .val (.int (0 : Int32)), .unset, .unset, .unset] [])
      refine Go.st (fun _ k => XS.iconst X0.here hx rfl (hb hby d2_21) k) ?_
      show Go _ _ _ _ _ _ _ s₁ (mkF m 22 #[.val (.int p0), .val (.int p1), .val (.int (0 : Int32)), .unset, .unset, .unset] [(.int (1 : Int32))])
      refine Go.st (fun _ k => XS.goto X0.here hx rfl (pc0 := 22) (pc' := 26) rfl (hb hby d2_22) (by decide) (by decide) k) ?_
      show Go _ _ _ _ _ _ _ s₁ (mkF m 26 #[.val (.int p0), .val (.int p1), .val (.int (0 : Int32)), .unset, .unset, .unset] [(.int (1 : Int32))])
      refine Go.st (fun _ k => XS.istoreN X0.here hx rfl (hb hby d2_26) rfl (l' := #[.val (.int p0), .val (.int p1), .val (.int (0 : Int32)), .val (.int (1 : Int32)), .unset, .unset]) rfl k) ?_
      show Go _ _ _ _ _ _ _ s₁ (mkF m 27 #[.val (.int p0), .val (.int p1), .val (.int (0 : Int32)), .val (.int (1 : Int32)), .unset, .unset] [])
      refine Go.st (fun _ k => XS.iloadN X0.here hx rfl (hb hby d2_27) rfl k) ?_
      show Go _ _ _ _ _ _ _ s₁ (mkF m 28 #[.val (.int p0), .val (.int p1), .val (.int (0 : Int32)), .val (.int (1 : Int32)), .unset, .unset] [(.int p0)])
      refine Go.st (fun _ k => XS.ifNo X0.here hx rfl (hb hby d2_28) rfl ((if0 _ _).trans (teq hv1).2) k) ?_
      show Go _ _ _ _ _ _ _ s₁ (mkF m 31 #[.val (.int p0), .val (.int p1), .val (.int (0 : Int32)), .val (.int (1 : Int32)), .unset, .unset] [])
      refine Go.st (fun _ k => XS.iloadN X0.here hx rfl (hb hby d2_31) rfl k) ?_
      show Go _ _ _ _ _ _ _ s₁ (mkF m 32 #[.val (.int p0), .val (.int p1), .val (.int (0 : Int32)), .val (.int (1 : Int32)), .unset, .unset] [(.int p1)])
      refine Go.st (fun _ k => XS.iconst X0.here hx rfl (hb hby d2_32) k) ?_
      show Go _ _ _ _ _ _ _ s₁ (mkF m 33 #[.val (.int p0), .val (.int p1), .val (.int (0 : Int32)), .val (.int (1 : Int32)), .unset, .unset] [(.int (2 : Int32)), (.int p1)])
      refine Go.st (fun _ k => XS.icmpNo X0.here hx rfl (hb hby d2_33) rfl (feq (by rw [hv2]; decide : ¬ (p1 = (2 : Int32)))).1 k) ?_
      show Go _ _ _ _ _ _ _ s₁ (mkF m 36 #[.val (.int p0), .val (.int p1), .val (.int (0 : Int32)), .val (.int (1 : Int32)), .unset, .unset] [])
      refine Go.st (fun _ k => XS.iloadN X0.here hx rfl (hb hby d2_36) rfl k) ?_
      show Go _ _ _ _ _ _ _ s₁ (mkF m 37 #[.val (.int p0), .val (.int p1), .val (.int (0 : Int32)), .val (.int (1 : Int32)), .unset, .unset] [(.int p0)])
      refine Go.st (fun _ k => XS.iconst X0.here hx rfl (hb hby d2_37) k) ?_
      show Go _ _ _ _ _ _ _ s₁ (mkF m 38 #[.val (.int p0), .val (.int p1), .val (.int (0 : Int32)), .val (.int (1 : Int32)), .unset, .unset] [(.int (2 : Int32)), (.int p0)])
      refine Go.st (fun _ k => XS.icmpYes X0.here hx rfl (pc0 := 38) (pc' := 49) rfl (hb hby d2_38) rfl (feq (by rw [hv1]; decide : ¬ (p0 = (2 : Int32)))).2 (by decide) (by decide) k) ?_
      show Go _ _ _ _ _ _ _ s₁ (mkF m 49 #[.val (.int p0), .val (.int p1), .val (.int (0 : Int32)), .val (.int (1 : Int32)), .unset, .unset] [])
      refine Go.st (fun _ k => XS.iconst X0.here hx rfl (hb hby d2_49) k) ?_
      show Go _ _ _ _ _ _ _ s₁ (mkF m 50 #[.val (.int p0), .val (.int p1), .val (.int (0 : Int32)), .val (.int (1 : Int32)), .unset, .unset] [(.int (0 : Int32))])
      refine Go.st (fun _ k => XS.istore X0.here hx rfl (hb hby d2_50) rfl (l' := #[.val (.int p0), .val (.int p1), .val (.int (0 : Int32)), .val (.int (1 : Int32)), .val (.int (0 : Int32)), .unset]) rfl k) ?_
      show Go _ _ _ _ _ _ _ s₁ (mkF m 52 #[.val (.int p0), .val (.int p1), .val (.int (0 : Int32)), .val (.int (1 : Int32)), .val (.int (0 : Int32)), .unset] [])
      refine Go.st (fun _ k => XS.iloadN X0.here hx rfl (hb hby d2_52) rfl k) ?_
      show Go _ _ _ _ _ _ _ s₁ (mkF m 53 #[.val (.int p0), .val (.int p1), .val (.int (0 : Int32)), .val (.int (1 : Int32)), .val (.int (0 : Int32)), .unset] [(.int p0)])
      refine Go.st (fun _ k => XS.iconst X0.here hx rfl (hb hby d2_53) k) ?_
      show Go _ _ _ _ _ _ _ s₁ (mkF m 54 #[.val (.int p0), .val (.int p1), .val (.int (0 : Int32)), .val (.int (1 : Int32)), .val (.int (0 : Int32)), .unset] [(.int (3 : Int32)), (.int p0)])
      refine Go.st (fun _ k => XS.icmpNo X0.here hx rfl (hb hby d2_54) rfl (feq (by rw [hv1]; decide : ¬ (p0 = (3 : Int32)))).1 k) ?_
      show Go _ _ _ _ _ _ _ s₁ (mkF m 57 #[.val (.int p0), .val (.int p1), .val (.int (0 : Int32)), .val (.int (1 : Int32)), .val (.int (0 : Int32)), .unset] [])
      refine Go.st (fun _ k => XS.iloadN X0.here hx rfl (hb hby d2_57) rfl k) ?_
      show Go _ _ _ _ _ _ _ s₁ (mkF m 58 #[.val (.int p0), .val (.int p1), .val (.int (0 : Int32)), .val (.int (1 : Int32)), .val (.int (0 : Int32)), .unset] [(.int p1)])
      refine Go.st (fun _ k => XS.iconst X0.here hx rfl (hb hby d2_58) k) ?_
      show Go _ _ _ _ _ _ _ s₁ (mkF m 59 #[.val (.int p0), .val (.int p1), .val (.int (0 : Int32)), .val (.int (1 : Int32)), .val (.int (0 : Int32)), .unset] [(.int (3 : Int32)), (.int p1)])
      refine Go.st (fun _ k => XS.icmpYes X0.here hx rfl (pc0 := 59) (pc' := 66) rfl (hb hby d2_59) rfl (feq (by rw [hv2]; decide : ¬ (p1 = (3 : Int32)))).2 (by decide) (by decide) k) ?_
      show Go _ _ _ _ _ _ _ s₁ (mkF m 66 #[.val (.int p0), .val (.int p1), .val (.int (0 : Int32)), .val (.int (1 : Int32)), .val (.int (0 : Int32)), .unset] [])
      refine Go.st (fun _ k => XS.iconst X0.here hx rfl (hb hby d2_66) k) ?_
      show Go _ _ _ _ _ _ _ s₁ (mkF m 67 #[.val (.int p0), .val (.int p1), .val (.int (0 : Int32)), .val (.int (1 : Int32)), .val (.int (0 : Int32)), .unset] [(.int (0 : Int32))])
      refine Go.st (fun _ k => XS.istore X0.here hx rfl (hb hby d2_67) rfl (l' := #[.val (.int p0), .val (.int p1), .val (.int (0 : Int32)), .val (.int (1 : Int32)), .val (.int (0 : Int32)), .val (.int (0 : Int32))]) rfl k) ?_
      show Go _ _ _ _ _ _ _ s₁ (mkF m 69 #[.val (.int p0), .val (.int p1), .val (.int (0 : Int32)), .val (.int (1 : Int32)), .val (.int (0 : Int32)), .val (.int (0 : Int32))] [])
      refine Go.st (fun _ k => XS.iloadN X0.here hx rfl (hb hby d2_69) rfl k) ?_
      show Go _ _ _ _ _ _ _ s₁ (mkF m 70 #[.val (.int p0), .val (.int p1), .val (.int (0 : Int32)), .val (.int (1 : Int32)), .val (.int (0 : Int32)), .val (.int (0 : Int32))] [(.int (0 : Int32))])
      refine Go.st (fun _ k => XS.ifNo X0.here hx rfl (hb hby d2_70) rfl ((if0 _ _).trans (teq (by decide : (0 : Int32) = (0 : Int32))).2) k) ?_
      show Go _ _ _ _ _ _ _ s₁ (mkF m 73 #[.val (.int p0), .val (.int p1), .val (.int (0 : Int32)), .val (.int (1 : Int32)), .val (.int (0 : Int32)), .val (.int (0 : Int32))] [])
      refine Go.st (fun _ k => XS.iloadN X0.here hx rfl (hb hby d2_73) rfl k) ?_
      show Go _ _ _ _ _ _ _ s₁ (mkF m 74 #[.val (.int p0), .val (.int p1), .val (.int (0 : Int32)), .val (.int (1 : Int32)), .val (.int (0 : Int32)), .val (.int (0 : Int32))] [(.int (1 : Int32))])
      refine Go.st (fun _ k => XS.ifYes X0.here hx rfl (pc0 := 74) (pc' := 87) rfl (hb hby d2_74) rfl ((if0 _ _).trans (feq (by decide : ¬ ((1 : Int32) = (0 : Int32)))).2) (by decide) (by decide) k) ?_
      show Go _ _ _ _ _ _ _ s₁ (mkF m 87 #[.val (.int p0), .val (.int p1), .val (.int (0 : Int32)), .val (.int (1 : Int32)), .val (.int (0 : Int32)), .val (.int (0 : Int32))] [])
      refine Go.st (fun _ k => XS.iconst X0.here hx rfl (hb hby d2_87) k) ?_
      show Go _ _ _ _ _ _ _ s₁ (mkF m 88 #[.val (.int p0), .val (.int p1), .val (.int (0 : Int32)), .val (.int (1 : Int32)), .val (.int (0 : Int32)), .val (.int (0 : Int32))] [(.int (1 : Int32))])
      refine Go.st (fun _ k => XS.goto X0.here hx rfl (pc0 := 88) (pc' := 92) rfl (hb hby d2_88) (by decide) (by decide) k) ?_
      show Go _ _ _ _ _ _ _ s₁ (mkF m 92 #[.val (.int p0), .val (.int p1), .val (.int (0 : Int32)), .val (.int (1 : Int32)), .val (.int (0 : Int32)), .val (.int (0 : Int32))] [(.int (1 : Int32))])
      refine Go.ret X0 hlk (v := some (.int (1 : Int32))) (fun h => by rw [hret] at h; cases h) (fun fs hr => retN X0 hx (t := .boolean) hret (by simp) (hb hby d2_92) hr) ?_ (by decide) (by decide)
      show Q2 Z p0 p1 h0 n0 (some (.int (1 : Int32))) s₁.heap _
      rw [e0]
      refine ⟨?_, N0, rfl⟩
      unfold val_2
      rw [if_pos hv1]
    · show Go _ _ _ _ _ _ _ s₁ (mkF m 0 #[.val (.int p0), .val (.int p1), .unset, .unset, .unset, .unset] [])
      refine Go.st (fun _ k => XS.iloadN X0.here hx rfl (hb hby d2_0) rfl k) ?_
      show Go _ _ _ _ _ _ _ s₁ (mkF m 1 #[.val (.int p0), .val (.int p1), .unset, .unset, .unset, .unset] [(.int p0)])
      refine Go.st (fun _ k => XS.iloadN X0.here hx rfl (hb hby d2_1) rfl k) ?_
      show Go _ _ _ _ _ _ _ s₁ (mkF m 2 #[.val (.int p0), .val (.int p1), .unset, .unset, .unset, .unset] [(.int p1), (.int p0)])
      refine Go.st (fun _ k => XS.icmpYes X0.here hx rfl (pc0 := 2) (pc' := 9) rfl (hb hby d2_2) rfl (feq (by rw [hv1, hv2] <;> decide +kernel : ¬ (p0 = p1))).2 (by decide) (by decide) k) ?_
      show Go _ _ _ _ _ _ _ s₁ (mkF m 9 #[.val (.int p0), .val (.int p1), .unset, .unset, .unset, .unset] [])
      refine Go.st (fun _ k => XS.iconst X0.here hx rfl (hb hby d2_9) k) ?_
      show Go _ _ _ _ _ _ _ s₁ (mkF m 10 #[.val (.int p0), .val (.int p1), .unset, .unset, .unset, .unset] [(.int (0 : Int32))])
      refine Go.st (fun _ k => XS.istoreN X0.here hx rfl (hb hby d2_10) rfl (l' := #[.val (.int p0), .val (.int p1), .val (.int (0 : Int32)), .unset, .unset, .unset]) rfl k) ?_
      show Go _ _ _ _ _ _ _ s₁ (mkF m 11 #[.val (.int p0), .val (.int p1), .val (.int (0 : Int32)), .unset, .unset, .unset] [])
      refine Go.st (fun _ k => XS.iloadN X0.here hx rfl (hb hby d2_11) rfl k) ?_
      show Go _ _ _ _ _ _ _ s₁ (mkF m 12 #[.val (.int p0), .val (.int p1), .val (.int (0 : Int32)), .unset, .unset, .unset] [(.int p0)])
      refine Go.st (fun _ k => XS.iconst X0.here hx rfl (hb hby d2_12) k) ?_
      show Go _ _ _ _ _ _ _ s₁ (mkF m 13 #[.val (.int p0), .val (.int p1), .val (.int (0 : Int32)), .unset, .unset, .unset] [(.int (1 : Int32)), (.int p0)])
      refine Go.st (fun _ k => XS.icmpNo X0.here hx rfl (hb hby d2_13) rfl (flt (by rw [hv1] <;> decide +kernel : ¬ ((1 : Int32) < p0))).2.2.1 k) ?_
      show Go _ _ _ _ _ _ _ s₁ (mkF m 16 #[.val (.int p0), .val (.int p1), .val (.int (0 : Int32)), .unset, .unset, .unset] [])
      refine Go.st (fun _ k => XS.iloadN X0.here hx rfl (hb hby d2_16) rfl k) ?_
      show Go _ _ _ _ _ _ _ s₁ (mkF m 17 #[.val (.int p0), .val (.int p1), .val (.int (0 : Int32)), .unset, .unset, .unset] [(.int p1)])
      refine Go.st (fun _ k => XS.iconst X0.here hx rfl (hb hby d2_17) k) ?_
      show Go _ _ _ _ _ _ _ s₁ (mkF m 18 #[.val (.int p0), .val (.int p1), .val (.int (0 : Int32)), .unset, .unset, .unset] [(.int (1 : Int32)), (.int p1)])
      refine Go.st (fun _ k => XS.icmpYes X0.here hx rfl (pc0 := 18) (pc' := 25) rfl (hb hby d2_18) rfl (tlt (by rw [hv2] <;> decide +kernel : (1 : Int32) < p1)).2.2.1 (by decide) (by decide) k) ?_
      show Go _ _ _ _ _ _ _ s₁ (mkF m 25 #[.val (.int p0), .val (.int p1), .val (.int (0 : Int32)), .unset, .unset, .unset] [])
      refine Go.st (fun _ k => XS.iconst X0.here hx rfl (hb hby d2_25) k) ?_
      show Go _ _ _ _ _ _ _ s₁ (mkF m 26 #[.val (.int p0), .val (.int p1), .val (.int (0 : Int32)), .unset, .unset, .unset] [(.int (0 : Int32))])
      refine Go.st (fun _ k => XS.istoreN X0.here hx rfl (hb hby d2_26) rfl (l' := #[.val (.int p0), .val (.int p1), .val (.int (0 : Int32)), .val (.int (0 : Int32)), .unset, .unset]) rfl k) ?_
      show Go _ _ _ _ _ _ _ s₁ (mkF m 27 #[.val (.int p0), .val (.int p1), .val (.int (0 : Int32)), .val (.int (0 : Int32)), .unset, .unset] [])
      refine Go.st (fun _ k => XS.iloadN X0.here hx rfl (hb hby d2_27) rfl k) ?_
      show Go _ _ _ _ _ _ _ s₁ (mkF m 28 #[.val (.int p0), .val (.int p1), .val (.int (0 : Int32)), .val (.int (0 : Int32)), .unset, .unset] [(.int p0)])
      refine Go.st (fun _ k => XS.ifNo X0.here hx rfl (hb hby d2_28) rfl ((if0 _ _).trans (teq hv1).2) k) ?_
      show Go _ _ _ _ _ _ _ s₁ (mkF m 31 #[.val (.int p0), .val (.int p1), .val (.int (0 : Int32)), .val (.int (0 : Int32)), .unset, .unset] [])
      refine Go.st (fun _ k => XS.iloadN X0.here hx rfl (hb hby d2_31) rfl k) ?_
      show Go _ _ _ _ _ _ _ s₁ (mkF m 32 #[.val (.int p0), .val (.int p1), .val (.int (0 : Int32)), .val (.int (0 : Int32)), .unset, .unset] [(.int p1)])
      refine Go.st (fun _ k => XS.iconst X0.here hx rfl (hb hby d2_32) k) ?_
      show Go _ _ _ _ _ _ _ s₁ (mkF m 33 #[.val (.int p0), .val (.int p1), .val (.int (0 : Int32)), .val (.int (0 : Int32)), .unset, .unset] [(.int (2 : Int32)), (.int p1)])
      refine Go.st (fun _ k => XS.icmpYes X0.here hx rfl (pc0 := 33) (pc' := 45) rfl (hb hby d2_33) rfl (teq hv2).1 (by decide) (by decide) k) ?_
      show Go _ _ _ _ _ _ _ s₁ (mkF m 45 #[.val (.int p0), .val (.int p1), .val (.int (0 : Int32)), .val (.int (0 : Int32)), .unset, .unset] [])
      refine Go.st (fun _ k => XS.iconst X0.here hx rfl (hb hby d2_45) k) ?_
      show Go _ _ _ _ _ _ _ s₁ (mkF m 46 #[.val (.int p0), .val (.int p1), .val (.int (0 : Int32)), .val (.int (0 : Int32)), .unset, .unset] [(.int (1 : Int32))])
      refine Go.st (fun _ k => XS.goto X0.here hx rfl (pc0 := 46) (pc' := 50) rfl (hb hby d2_46) (by decide) (by decide) k) ?_
      show Go _ _ _ _ _ _ _ s₁ (mkF m 50 #[.val (.int p0), .val (.int p1), .val (.int (0 : Int32)), .val (.int (0 : Int32)), .unset, .unset] [(.int (1 : Int32))])
      refine Go.st (fun _ k => XS.istore X0.here hx rfl (hb hby d2_50) rfl (l' := #[.val (.int p0), .val (.int p1), .val (.int (0 : Int32)), .val (.int (0 : Int32)), .val (.int (1 : Int32)), .unset]) rfl k) ?_
      show Go _ _ _ _ _ _ _ s₁ (mkF m 52 #[.val (.int p0), .val (.int p1), .val (.int (0 : Int32)), .val (.int (0 : Int32)), .val (.int (1 : Int32)), .unset] [])
      refine Go.st (fun _ k => XS.iloadN X0.here hx rfl (hb hby d2_52) rfl k) ?_
      show Go _ _ _ _ _ _ _ s₁ (mkF m 53 #[.val (.int p0), .val (.int p1), .val (.int (0 : Int32)), .val (.int (0 : Int32)), .val (.int (1 : Int32)), .unset] [(.int p0)])
      refine Go.st (fun _ k => XS.iconst X0.here hx rfl (hb hby d2_53) k) ?_
      show Go _ _ _ _ _ _ _ s₁ (mkF m 54 #[.val (.int p0), .val (.int p1), .val (.int (0 : Int32)), .val (.int (0 : Int32)), .val (.int (1 : Int32)), .unset] [(.int (3 : Int32)), (.int p0)])
      refine Go.st (fun _ k => XS.icmpNo X0.here hx rfl (hb hby d2_54) rfl (feq (by rw [hv1]; decide : ¬ (p0 = (3 : Int32)))).1 k) ?_
      show Go _ _ _ _ _ _ _ s₁ (mkF m 57 #[.val (.int p0), .val (.int p1), .val (.int (0 : Int32)), .val (.int (0 : Int32)), .val (.int (1 : Int32)), .unset] [])
      refine Go.st (fun _ k => XS.iloadN X0.here hx rfl (hb hby d2_57) rfl k) ?_
      show Go _ _ _ _ _ _ _ s₁ (mkF m 58 #[.val (.int p0), .val (.int p1), .val (.int (0 : Int32)), .val (.int (0 : Int32)), .val (.int (1 : Int32)), .unset] [(.int p1)])
      refine Go.st (fun _ k => XS.iconst X0.here hx rfl (hb hby d2_58) k) ?_
      show Go _ _ _ _ _ _ _ s₁ (mkF m 59 #[.val (.int p0), .val (.int p1), .val (.int (0 : Int32)), .val (.int (0 : Int32)), .val (.int (1 : Int32)), .unset] [(.int (3 : Int32)), (.int p1)])
      refine Go.st (fun _ k => XS.icmpYes X0.here hx rfl (pc0 := 59) (pc' := 66) rfl (hb hby d2_59) rfl (feq (by rw [hv2]; decide : ¬ (p1 = (3 : Int32)))).2 (by decide) (by decide) k) ?_
      show Go _ _ _ _ _ _ _ s₁ (mkF m 66 #[.val (.int p0), .val (.int p1), .val (.int (0 : Int32)), .val (.int (0 : Int32)), .val (.int (1 : Int32)), .unset] [])
      refine Go.st (fun _ k => XS.iconst X0.here hx rfl (hb hby d2_66) k) ?_
      show Go _ _ _ _ _ _ _ s₁ (mkF m 67 #[.val (.int p0), .val (.int p1), .val (.int (0 : Int32)), .val (.int (0 : Int32)), .val (.int (1 : Int32)), .unset] [(.int (0 : Int32))])
      refine Go.st (fun _ k => XS.istore X0.here hx rfl (hb hby d2_67) rfl (l' := #[.val (.int p0), .val (.int p1), .val (.int (0 : Int32)), .val (.int (0 : Int32)), .val (.int (1 : Int32)), .val (.int (0 : Int32))]) rfl k) ?_
      show Go _ _ _ _ _ _ _ s₁ (mkF m 69 #[.val (.int p0), .val (.int p1), .val (.int (0 : Int32)), .val (.int (0 : Int32)), .val (.int (1 : Int32)), .val (.int (0 : Int32))] [])
      refine Go.st (fun _ k => XS.iloadN X0.here hx rfl (hb hby d2_69) rfl k) ?_
      show Go _ _ _ _ _ _ _ s₁ (mkF m 70 #[.val (.int p0), .val (.int p1), .val (.int (0 : Int32)), .val (.int (0 : Int32)), .val (.int (1 : Int32)), .val (.int (0 : Int32))] [(.int (0 : Int32))])
      refine Go.st (fun _ k => XS.ifNo X0.here hx rfl (hb hby d2_70) rfl ((if0 _ _).trans (teq (by decide : (0 : Int32) = (0 : Int32))).2) k) ?_
      show Go _ _ _ _ _ _ _ s₁ (mkF m 73 #[.val (.int p0), .val (.int p1), .val (.int (0 : Int32)), .val (.int (0 : Int32)), .val (.int (1 : Int32)), .val (.int (0 : Int32))] [])
      refine Go.st (fun _ k => XS.iloadN X0.here hx rfl (hb hby d2_73) rfl k) ?_
      show Go _ _ _ _ _ _ _ s₁ (mkF m 74 #[.val (.int p0), .val (.int p1), .val (.int (0 : Int32)), .val (.int (0 : Int32)), .val (.int (1 : Int32)), .val (.int (0 : Int32))] [(.int (0 : Int32))])
      refine Go.st (fun _ k => XS.ifNo X0.here hx rfl (hb hby d2_74) rfl ((if0 _ _).trans (teq (by decide : (0 : Int32) = (0 : Int32))).2) k) ?_
      show Go _ _ _ _ _ _ _ s₁ (mkF m 77 #[.val (.int p0), .val (.int p1), .val (.int (0 : Int32)), .val (.int (0 : Int32)), .val (.int (1 : Int32)), .val (.int (0 : Int32))] [])
      refine Go.st (fun _ k => XS.iload X0.here hx rfl (hb hby d2_77) rfl k) ?_
      show Go _ _ _ _ _ _ _ s₁ (mkF m 79 #[.val (.int p0), .val (.int p1), .val (.int (0 : Int32)), .val (.int (0 : Int32)), .val (.int (1 : Int32)), .val (.int (0 : Int32))] [(.int (1 : Int32))])
      refine Go.st (fun _ k => XS.ifYes X0.here hx rfl (pc0 := 79) (pc' := 87) rfl (hb hby d2_79) rfl ((if0 _ _).trans (feq (by decide : ¬ ((1 : Int32) = (0 : Int32)))).2) (by decide) (by decide) k) ?_
      show Go _ _ _ _ _ _ _ s₁ (mkF m 87 #[.val (.int p0), .val (.int p1), .val (.int (0 : Int32)), .val (.int (0 : Int32)), .val (.int (1 : Int32)), .val (.int (0 : Int32))] [])
      refine Go.st (fun _ k => XS.iconst X0.here hx rfl (hb hby d2_87) k) ?_
      show Go _ _ _ _ _ _ _ s₁ (mkF m 88 #[.val (.int p0), .val (.int p1), .val (.int (0 : Int32)), .val (.int (0 : Int32)), .val (.int (1 : Int32)), .val (.int (0 : Int32))] [(.int (1 : Int32))])
      refine Go.st (fun _ k => XS.goto X0.here hx rfl (pc0 := 88) (pc' := 92) rfl (hb hby d2_88) (by decide) (by decide) k) ?_
      show Go _ _ _ _ _ _ _ s₁ (mkF m 92 #[.val (.int p0), .val (.int p1), .val (.int (0 : Int32)), .val (.int (0 : Int32)), .val (.int (1 : Int32)), .val (.int (0 : Int32))] [(.int (1 : Int32))])
      refine Go.ret X0 hlk (v := some (.int (1 : Int32))) (fun h => by rw [hret] at h; cases h) (fun fs hr => retN X0 hx (t := .boolean) hret (by simp) (hb hby d2_92) hr) ?_ (by decide) (by decide)
      show Q2 Z p0 p1 h0 n0 (some (.int (1 : Int32))) s₁.heap _
      rw [e0]
      refine ⟨?_, N0, rfl⟩
      unfold val_2
      rw [if_pos hv1]
    · show Go _ _ _ _ _ _ _ s₁ (mkF m 0 #[.val (.int p0), .val (.int p1), .unset, .unset, .unset, .unset] [])
      refine Go.st (fun _ k => XS.iloadN X0.here hx rfl (hb hby d2_0) rfl k) ?_
      show Go _ _ _ _ _ _ _ s₁ (mkF m 1 #[.val (.int p0), .val (.int p1), .unset, .unset, .unset, .unset] [(.int p0)])
      refine Go.st (fun _ k => XS.iloadN X0.here hx rfl (hb hby d2_1) rfl k) ?_
      show Go _ _ _ _ _ _ _ s₁ (mkF m 2 #[.val (.int p0), .val (.int p1), .unset, .unset, .unset, .unset] [(.int p1), (.int p0)])
      refine Go.st (fun _ k => XS.icmpYes X0.here hx rfl (pc0 := 2) (pc' := 9) rfl (hb hby d2_2) rfl (feq (by rw [hv1, hv2] <;> decide +kernel : ¬ (p0 = p1))).2 (by decide) (by decide) k) ?_
      show Go _ _ _ _ _ _ _ s₁ (mkF m 9 #[.val (.int p0), .val (.int p1), .unset, .unset, .unset, .unset] [])
      refine Go.st (fun _ k => XS.iconst X0.here hx rfl (hb hby d2_9) k) ?_
      show Go _ _ _ _ _ _ _ s₁ (mkF m 10 #[.val (.int p0), .val (.int p1), .unset, .unset, .unset, .unset] [(.int (0 : Int32))])
      refine Go.st (fun _ k => XS.istoreN X0.here hx rfl (hb hby d2_10) rfl (l' := #[.val (.int p0), .val (.int p1), .val (.int (0 : Int32)), .unset, .unset, .unset]) rfl k) ?_
      show Go _ _ _ _ _ _ _ s₁ (mkF m 11 #[.val (.int p0), .val (.int p1), .val (.int (0 : Int32)), .unset, .unset, .unset] [])
      refine Go.st (fun _ k => XS.iloadN X0.here hx rfl (hb hby d2_11) rfl k) ?_
      show Go _ _ _ _ _ _ _ s₁ (mkF m 12 #[.val (.int p0), .val (.int p1), .val (.int (0 : Int32)), .unset, .unset, .unset] [(.int p0)])
      refine Go.st (fun _ k => XS.iconst X0.here hx rfl (hb hby d2_12) k) ?_
      show Go _ _ _ _ _ _ _ s₁ (mkF m 13 #[.val (.int p0), .val (.int p1), .val (.int (0 : Int32)), .unset, .unset, .unset] [(.int (1 : Int32)), (.int p0)])
      refine Go.st (fun _ k => XS.icmpNo X0.here hx rfl (hb hby d2_13) rfl (flt (by rw [hv1] <;> decide +kernel : ¬ ((1 : Int32) < p0))).2.2.1 k) ?_
      show Go _ _ _ _ _ _ _ s₁ (mkF m 16 #[.val (.int p0), .val (.int p1), .val (.int (0 : Int32)), .unset, .unset, .unset] [])
      refine Go.st (fun _ k => XS.iloadN X0.here hx rfl (hb hby d2_16) rfl k) ?_
      show Go _ _ _ _ _ _ _ s₁ (mkF m 17 #[.val (.int p0), .val (.int p1), .val (.int (0 : Int32)), .unset, .unset, .unset] [(.int p1)])
      refine Go.st (fun _ k => XS.iconst X0.here hx rfl (hb hby d2_17) k) ?_
      show Go _ _ _ _ _ _ _ s₁ (mkF m 18 #[.val (.int p0), .val (.int p1), .val (.int (0 : Int32)), .unset, .unset, .unset] [(.int (1 : Int32)), (.int p1)])
      refine Go.st (fun _ k => XS.icmpYes X0.here hx rfl (pc0 := 18) (pc' := 25) rfl (hb hby d2_18) rfl (tlt (by rw [hv2] <;> decide +kernel : (1 : Int32) < p1)).2.2.1 (by decide) (by decide) k) ?_
      show Go _ _ _ _ _ _ _ s₁ (mkF m 25 #[.val (.int p0), .val (.int p1), .val (.int (0 : Int32)), .unset, .unset, .unset] [])
      refine Go.st (fun _ k => XS.iconst X0.here hx rfl (hb hby d2_25) k) ?_
      show Go _ _ _ _ _ _ _ s₁ (mkF m 26 #[.val (.int p0), .val (.int p1), .val (.int (0 : Int32)), .unset, .unset, .unset] [(.int (0 : Int32))])
      refine Go.st (fun _ k => XS.istoreN X0.here hx rfl (hb hby d2_26) rfl (l' := #[.val (.int p0), .val (.int p1), .val (.int (0 : Int32)), .val (.int (0 : Int32)), .unset, .unset]) rfl k) ?_
      show Go _ _ _ _ _ _ _ s₁ (mkF m 27 #[.val (.int p0), .val (.int p1), .val (.int (0 : Int32)), .val (.int (0 : Int32)), .unset, .unset] [])
      refine Go.st (fun _ k => XS.iloadN X0.here hx rfl (hb hby d2_27) rfl k) ?_
      show Go _ _ _ _ _ _ _ s₁ (mkF m 28 #[.val (.int p0), .val (.int p1), .val (.int (0 : Int32)), .val (.int (0 : Int32)), .unset, .unset] [(.int p0)])
      refine Go.st (fun _ k => XS.ifNo X0.here hx rfl (hb hby d2_28) rfl ((if0 _ _).trans (teq hv1).2) k) ?_
      show Go _ _ _ _ _ _ _ s₁ (mkF m 31 #[.val (.int p0), .val (.int p1), .val (.int (0 : Int32)), .val (.int (0 : Int32)), .unset, .unset] [])
      refine Go.st (fun _ k => XS.iloadN X0.here hx rfl (hb hby d2_31) rfl k) ?_
      show Go _ _ _ _ _ _ _ s₁ (mkF m 32 #[.val (.int p0), .val (.int p1), .val (.int (0 : Int32)), .val (.int (0 : Int32)), .unset, .unset] [(.int p1)])
      refine Go.st (fun _ k => XS.iconst X0.here hx rfl (hb hby d2_32) k) ?_
      show Go _ _ _ _ _ _ _ s₁ (mkF m 33 #[.val (.int p0), .val (.int p1), .val (.int (0 : Int32)), .val (.int (0 : Int32)), .unset, .unset] [(.int (2 : Int32)), (.int p1)])
      refine Go.st (fun _ k => XS.icmpNo X0.here hx rfl (hb hby d2_33) rfl (feq (by rw [hv2]; decide : ¬ (p1 = (2 : Int32)))).1 k) ?_
      show Go _ _ _ _ _ _ _ s₁ (mkF m 36 #[.val (.int p0), .val (.int p1), .val (.int (0 : Int32)), .val (.int (0 : Int32)), .unset, .unset] [])
      refine Go.st (fun _ k => XS.iloadN X0.here hx rfl (hb hby d2_36) rfl k) ?_
      show Go _ _ _ _ _ _ _ s₁ (mkF m 37 #[.val (.int p0), .val (.int p1), .val (.int (0 : Int32)), .val (.int (0 : Int32)), .unset, .unset] [(.int p0)])
      refine Go.st (fun _ k => XS.iconst X0.here hx rfl (hb hby d2_37) k) ?_
      show Go _ _ _ _ _ _ _ s₁ (mkF m 38 #[.val (.int p0), .val (.int p1), .val (.int (0 : Int32)), .val (.int (0 : Int32)), .unset, .unset] [(.int (2 : Int32)), (.int p0)])
      refine Go.st (fun _ k => XS.icmpYes X0.here hx rfl (pc0 := 38) (pc' := 49) rfl (hb hby d2_38) rfl (feq (by rw [hv1]; decide : ¬ (p0 = (2 : Int32)))).2 (by decide) (by decide) k) ?_
      show Go _ _ _ _ _ _ _ s₁ (mkF m 49 #[.val (.int p0), .val (.int p1), .val (.int (0 : Int32)), .val (.int (0 : Int32)), .unset, .unset] [])
      refine Go.st (fun _ k => XS.iconst X0.here hx rfl (hb hby d2_49) k) ?_
      show Go _ _ _ _ _ _ _ s₁ (mkF m 50 #[.val (.int p0), .val (.int p1), .val (.int (0 : Int32)), .val (.int (0 : Int32)), .unset, .unset] [(.int (0 : Int32))])
      refine Go.st (fun _ k => XS.istore X0.here hx rfl (hb hby d2_50) rfl (l' := #[.val (.int p0), .val (.int p1), .val (.int (0 : Int32)), .val (.int (0 : Int32)), .val (.int (0 : Int32)), .unset]) rfl k) ?_
      show Go _ _ _ _ _ _ _ s₁ (mkF m 52 #[.val (.int p0), .val (.int p1), .val (.int (0 : Int32)), .val (.int (0 : Int32)), .val (.int (0 : Int32)), .unset] [])
      refine Go.st (fun _ k => XS.iloadN X0.here hx rfl (hb hby d2_52) rfl k) ?_
      show Go _ _ _ _ _ _ _ s₁ (mkF m 53 #[.val (.int p0), .val (.int p1), .val (.int (0 : Int32)), .val (.int (0 : Int32)), .val (.int (0 : Int32)), .unset] [(.int p0)])
      refine Go.st (fun _ k => XS.iconst X0.here hx rfl (hb hby d2_53) k) ?_
      show Go _ _ _ _ _ _ _ s₁ (mkF m 54 #[.val (.int p0), .val (.int p1), .val (.int (0 : Int32)), .val (.int (0 : Int32)), .val (.int (0 : Int32)), .unset] [(.int (3 : Int32)), (.int p0)])
      refine Go.st (fun _ k => XS.icmpNo X0.here hx rfl (hb hby d2_54) rfl (feq (by rw [hv1]; decide : ¬ (p0 = (3 : Int32)))).1 k) ?_
      show Go _ _ _ _ _ _ _ s₁ (mkF m 57 #[.val (.int p0), .val (.int p1), .val (.int (0 : Int32)), .val (.int (0 : Int32)), .val (.int (0 : Int32)), .unset] [])
      refine Go.st (fun _ k => XS.iloadN X0.here hx rfl (hb hby d2_57) rfl k) ?_
      show Go _ _ _ _ _ _ _ s₁ (mkF m 58 #[.val (.int p0), .val (.int p1), .val (.int (0 : Int32)), .val (.int (0 : Int32)), .val (.int (0 : Int32)), .unset] [(.int p1)])
      refine Go.st (fun _ k => XS.iconst X0.here hx rfl (hb hby d2_58) k) ?_
      show Go _ _ _ _ _ _ _ s₁ (mkF m 59 #[.val (.int p0), .val (.int p1), .val (.int (0 : Int32)), .val (.int (0 : Int32)), .val (.int (0 : Int32)), .unset] [(.int (3 : Int32)), (.int p1)])
      refine Go.st (fun _ k => XS.icmpNo X0.here hx rfl (hb hby d2_59) rfl (teq hv2).2 k) ?_
      show Go _ _ _ _ _ _ _ s₁ (mkF m 62 #[.val (.int p0), .val (.int p1), .val (.int (0 : Int32)), .val (.int (0 : Int32)), .val (.int (0 : Int32)), .unset] [])
      refine Go.st (fun _ k => XS.iconst X0.here hx rfl (hb hby d2_62) k) ?_
      show Go _ _ _ _ _ _ _ s₁ (mkF m 63 #[.val (.int p0), .val (.int p1), .val (.int (0 : Int32)), .val (.int (0 : Int32)), .val (.int (0 : Int32)), .unset] [(.int (1 : Int32))])
      refine Go.st (fun _ k => XS.goto X0.here hx rfl (pc0 := 63) (pc' := 67) rfl (hb hby d2_63) (by decide) (by decide) k) ?_
      show Go _ _ _ _ _ _ _ s₁ (mkF m 67 #[.val (.int p0), .val (.int p1), .val (.int (0 : Int32)), .val (.int (0 : Int32)), .val (.int (0 : Int32)), .unset] [(.int (1 : Int32))])
      refine Go.st (fun _ k => XS.istore X0.here hx rfl (hb hby d2_67) rfl (l' := #[.val (.int p0), .val (.int p1), .val (.int (0 : Int32)), .val (.int (0 : Int32)), .val (.int (0 : Int32)), .val (.int (1 : Int32))]) rfl k) ?_
      show Go _ _ _ _ _ _ _ s₁ (mkF m 69 #[.val (.int p0), .val (.int p1), .val (.int (0 : Int32)), .val (.int (0 : Int32)), .val (.int (0 : Int32)), .val (.int (1 : Int32))] [])
      refine Go.st (fun _ k => XS.iloadN X0.here hx rfl (hb hby d2_69) rfl k) ?_
      show Go _ _ _ _ _ _ _ s₁ (mkF m 70 #[.val (.int p0), .val (.int p1), .val (.int (0 : Int32)), .val (.int (0 : Int32)), .val (.int (0 : Int32)), .val (.int (1 : Int32))] [(.int (0 : Int32))])
      refine Go.st (fun _ k => XS.ifNo X0.here hx rfl (hb hby d2_70) rfl ((if0 _ _).trans (teq (by decide : (0 : Int32) = (0 : Int32))).2) k) ?_
      show Go _ _ _ _ _ _ _ s₁ (mkF m 73 #[.val (.int p0), .val (.int p1), .val (.int (0 : Int32)), .val (.int (0 : Int32)), .val (.int (0 : Int32)), .val (.int (1 : Int32))] [])
      refine Go.st (fun _ k => XS.iloadN X0.here hx rfl (hb hby d2_73) rfl k) ?_
      show Go _ _ _ _ _ _ _ s₁ (mkF m 74 #[.val (.int p0), .val (.int p1), .val (.int (0 : Int32)), .val (.int (0 : Int32)), .val (.int (0 : Int32)), .val (.int (1 : Int32))] [(.int (0 : Int32))])
      refine Go.st (fun _ k => XS.ifNo X0.here hx rfl (hb hby d2_74) rfl ((if0 _ _).trans (teq (by decide : (0 : Int32) = (0 : Int32))).2) k) ?_
      show Go _ _ _ _ _ _ _ s₁ (mkF m 77 #[.val (.int p0), .val (.int p1), .val (.int (0 : Int32)), .val (.int (0 : Int32)), .val (.int (0 : Int32)), .val (.int (1 : Int32))] [])
      refine Go.st (fun _ k => XS.iload X0.here hx rfl (hb hby d2_77) rfl k) ?_
      show Go _ _ _ _ _ _ _ s₁ (mkF m 79 #[.val (.int p0), .val (.int p1), .val (.int (0 : Int32)), .val (.int (0 : Int32)), .val (.int (0 : Int32)), .val (.int (1 : Int32))] [(.int (0 : Int32))])
      refine Go.st (fun _ k => XS.ifNo X0.here hx rfl (hb hby d2_79) rfl ((if0 _ _).trans (teq (by decide : (0 : Int32) = (0 : Int32))).2) k) ?_
      show Go _ _ _ _ _ _ _ s₁ (mkF m 82 #[.val (.int p0), .val (.int p1), .val (.int (0 : Int32)), .val (.int (0 : Int32)), .val (.int (0 : Int32)), .val (.int (1 : Int32))] [])
      refine Go.st (fun _ k => XS.iload X0.here hx rfl (hb hby d2_82) rfl k) ?_
      show Go _ _ _ _ _ _ _ s₁ (mkF m 84 #[.val (.int p0), .val (.int p1), .val (.int (0 : Int32)), .val (.int (0 : Int32)), .val (.int (0 : Int32)), .val (.int (1 : Int32))] [(.int (1 : Int32))])
      refine Go.st (fun _ k => XS.ifNo X0.here hx rfl (hb hby d2_84) rfl ((if0 _ _).trans (feq (by decide : ¬ ((1 : Int32) = (0 : Int32)))).1) k) ?_
      show Go _ _ _ _ _ _ _ s₁ (mkF m 87 #[.val (.int p0), .val (.int p1), .val (.int (0 : Int32)), .val (.int (0 : Int32)), .val (.int (0 : Int32)), .val (.int (1 : Int32))] [])
      refine Go.st (fun _ k => XS.iconst X0.here hx rfl (hb hby d2_87) k) ?_
      show Go _ _ _ _ _ _ _ s₁ (mkF m 88 #[.val (.int p0), .val (.int p1), .val (.int (0 : Int32)), .val (.int (0 : Int32)), .val (.int (0 : Int32)), .val (.int (1 : Int32))] [(.int (1 : Int32))])
      refine Go.st (fun _ k => XS.goto X0.here hx rfl (pc0 := 88) (pc' := 92) rfl (hb hby d2_88) (by decide) (by decide) k) ?_
      show Go _ _ _ _ _ _ _ s₁ (mkF m 92 #[.val (.int p0), .val (.int p1), .val (.int (0 : Int32)), .val (.int (0 : Int32)), .val (.int (0 : Int32)), .val (.int (1 : Int32))] [(.int (1 : Int32))])
      refine Go.ret X0 hlk (v := some (.int (1 : Int32))) (fun h => by rw [hret] at h; cases h) (fun fs hr => retN X0 hx (t := .boolean) hret (by simp) (hb hby d2_92) hr) ?_ (by decide) (by decide)
      show Q2 Z p0 p1 h0 n0 (some (.int (1 : Int32))) s₁.heap _
      rw [e0]
      refine ⟨?_, N0, rfl⟩
      unfold val_2
      rw [if_pos hv1]
  · rcases id V_p1 with hv3 | hv3 | hv3 | hv3
    · show Go _ _ _ _ _ _ _ s₁ (mkF m 0 #[.val (.int p0), .val (.int p1), .unset, .unset, .unset, .unset] [])
      refine Go.st (fun _ k => XS.iloadN X0.here hx rfl (hb hby d2_0) rfl k) ?_
      show Go _ _ _ _ _ _ _ s₁ (mkF m 1 #[.val (.int p0), .val (.int p1), .unset, .unset, .unset, .unset] [(.int p0)])
      refine Go.st (fun _ k => XS.iloadN X0.here hx rfl (hb hby d2_1) rfl k) ?_
      show Go _ _ _ _ _ _ _ s₁ (mkF m 2 #[.val (.int p0), .val (.int p1), .unset, .unset, .unset, .unset] [(.int p1), (.int p0)])
      refine Go.st (fun _ k => XS.icmpYes X0.here hx rfl (pc0 := 2) (pc' := 9) rfl (hb hby d2_2) rfl (feq (by rw [hv1, hv3] <;> decide +kernel : ¬ (p0 = p1))).2 (by decide) (by decide) k) ?_
      show Go _ _ _ _ _ _ _ s₁ (mkF m 9 #[.val (.int p0), .val (.int p1), .unset, .unset, .unset, .unset] [])
      refine Go.st (fun _ k => XS.iconst X0.here hx rfl (hb hby d2_9) k) ?_
      show Go _ _ _ _ _ _ _ s₁ (mkF m 10 #[.val (.int p0), .val (.int p1), .unset, .unset, .unset, .unset] [(.int (0 : Int32))])
      refine Go.st (fun _ k => XS.istoreN X0.here hx rfl (hb hby d2_10) rfl (l' := #[.val (.int p0), .val (.int p1), .val (.int (0 : Int32)), .unset, .unset, .unset]) rfl k) ?_
      show Go _ _ _ _ _ _ _ s₁ (mkF m 11 #[.val (.int p0), .val (.int p1), .val (.int (0 : Int32)), .unset, .unset, .unset] [])
      refine Go.st (fun _ k => XS.iloadN X0.here hx rfl (hb hby d2_11) rfl k) ?_
      show Go _ _ _ _ _ _ _ s₁ (mkF m 12 #[.val (.int p0), .val (.int p1), .val (.int (0 : Int32)), .unset, .unset, .unset] [(.int p0)])
      refine Go.st (fun _ k => XS.iconst X0.here hx rfl (hb hby d2_12) k) ?_
      show Go _ _ _ _ _ _ _ s₁ (mkF m 13 #[.val (.int p0), .val (.int p1), .val (.int (0 : Int32)), .unset, .unset, .unset] [(.int (1 : Int32)), (.int p0)])
      refine Go.st (fun _ k => XS.icmpNo X0.here hx rfl (hb hby d2_13) rfl (flt (by rw [hv1] <;> decide +kernel : ¬ ((1 : Int32) < p0))).2.2.1 k) ?_
      show Go _ _ _ _ _ _ _ s₁ (mkF m 16 #[.val (.int p0), .val (.int p1), .val (.int (0 : Int32)), .unset, .unset, .unset] [])
      refine Go.st (fun _ k => XS.iloadN X0.here hx rfl (hb hby d2_16) rfl k) ?_
      show Go _ _ _ _ _ _ _ s₁ (mkF m 17 #[.val (.int p0), .val (.int p1), .val (.int (0 : Int32)), .unset, .unset, .unset] [(.int p1)])
      refine Go.st (fun _ k => XS.iconst X0.here hx rfl (hb hby d2_17) k) ?_
      show Go _ _ _ _ _ _ _ s₁ (mkF m 18 #[.val (.int p0), .val (.int p1), .val (.int (0 : Int32)), .unset, .unset, .unset] [(.int (1 : Int32)), (.int p1)])
      refine Go.st (fun _ k => XS.icmpNo X0.here hx rfl (hb hby d2_18) rfl (flt (by rw [hv3] <;> decide +kernel : ¬ ((1 : Int32) < p1))).2.2.1 k) ?_
      show Go _ _ _ _ _ _ _ s₁ (mkF m 21 #[.val (.int p0), .val (.int p1), .val (.int (0 : Int32)), .unset, .unset, .unset] [])
      refine Go.st (fun _ k => XS.iconst X0.here hx rfl (hb hby d2_21) k) ?_
      show Go _ _ _ _ _ _ _ s₁ (mkF m 22 #[.val (.int p0), .val (.int p1), .val (.int (0 : Int32)), .unset, .unset, .unset] [(.int (1 : Int32))])
      refine Go.st (fun _ k => XS.goto X0.here hx rfl (pc0 := 22) (pc' := 26) rfl (hb hby d2_22) (by decide) (by decide) k) ?_
      show Go _ _ _ _ _ _ _ s₁ (mkF m 26 #[.val (.int p0), .val (.int p1), .val (.int (0 : Int32)), .unset, .unset, .unset] [(.int (1 : Int32))])
      refine Go.st (fun _ k => XS.istoreN X0.here hx rfl (hb hby d2_26) rfl (l' := #[.val (.int p0), .val (.int p1), .val (.int (0 : Int32)), .val (.int (1 : Int32)), .unset, .unset]) rfl k) ?_
      show Go _ _ _ _ _ _ _ s₁ (mkF m 27 #[.val (.int p0), .val (.int p1), .val (.int (0 : Int32)), .val (.int (1 : Int32)), .unset, .unset] [])
      refine Go.st (fun _ k => XS.iloadN X0.here hx rfl (hb hby d2_27) rfl k) ?_
      show Go _ _ _ _ _ _ _ s₁ (mkF m 28 #[.val (.int p0), .val (.int p1), .val (.int (0 : Int32)), .val (.int (1 : Int32)), .unset, .unset] [(.int p0)])
      refine Go.st (fun _ k => XS.ifYes X0.here hx rfl (pc0 := 28) (pc' := 36) rfl (hb hby d2_28) rfl ((if0 _ _).trans (feq (by rw [hv1]; decide : ¬ (p0 = (0 : Int32)))).2) (by decide) (by decide) k) ?_
      show Go _ _ _ _ _ _ _ s₁ (mkF m 36 #[.val (.int p0), .val (.int p1), .val (.int (0 : Int32)), .val (.int (1 : Int32)), .unset, .unset] [])
      refine Go.st (fun _ k => XS.iloadN X0.here hx rfl (hb hby d2_36) rfl k) ?_
      show Go _ _ _ _ _ _ _ s₁ (mkF m 37 #[.val (.int p0), .val (.int p1), .val (.int (0 : Int32)), .val (.int (1 : Int32)), .unset, .unset] [(.int p0)])
      refine Go.st (fun _ k => XS.iconst X0.here hx rfl (hb hby d2_37) k) ?_
      show Go _ _ _ _ _ _ _ s₁ (mkF m 38 #[.val (.int p0), .val (.int p1), .val (.int (0 : Int32)), .val (.int (1 : Int32)), .unset, .unset] [(.int (2 : Int32)), (.int p0)])
      refine Go.st (fun _ k => XS.icmpYes X0.here hx rfl (pc0 := 38) (pc' := 49) rfl (hb hby d2_38) rfl (feq (by rw [hv1]; decide : ¬ (p0 = (2 : Int32)))).2 (by decide) (by decide) k) ?_
      show Go _ _ _ _ _ _ _ s₁ (mkF m 49 #[.val (.int p0), .val (.int p1), .val (.int (0 : Int32)), .val (.int (1 : Int32)), .unset, .unset] [])
      refine Go.st (fun _ k => XS.iconst X0.here hx rfl (hb hby d2_49) k) ?_
      show Go _ _ _ _ _ _ _ s₁ (mkF m 50 #[.val (.int p0), .val (.int p1), .val (.int (0 : Int32)), .val (.int (1 : Int32)), .unset, .unset] [(.int (0 : Int32))])
      refine Go.st (fun _ k => XS.istore X0.here hx rfl (hb hby d2_50) rfl (l' := #[.val (.int p0), .val (.int p1), .val (.int (0 : Int32)), .val (.int (1 : Int32)), .val (.int (0 : Int32)), .unset]) rfl k) ?_
      show Go _ _ _ _ _ _ _ s₁ (mkF m 52 #[.val (.int p0), .val (.int p1), .val (.int (0 : Int32)), .val (.int (1 : Int32)), .val (.int (0 : Int32)), .unset] [])
      refine Go.st (fun _ k => XS.iloadN X0.here hx rfl (hb hby d2_52) rfl k) ?_
      show Go _ _ _ _ _ _ _ s₁ (mkF m 53 #[.val (.int p0), .val (.int p1), .val (.int (0 : Int32)), .val (.int (1 : Int32)), .val (.int (0 : Int32)), .unset] [(.int p0)])
      refine Go.st (fun _ k => XS.iconst X0.here hx rfl (hb hby d2_53) k) ?_
      show Go _ _ _ _ _ _ _ s₁ (mkF m 54 #[.val (.int p0), .val (.int p1), .val (.int (0 : Int32)), .val (.int (1 : Int32)), .val (.int (0 : Int32)), .unset] [(.int (3 : Int32)), (.int p0)])
      refine Go.st (fun _ k => XS.icmpNo X0.here hx rfl (hb hby d2_54) rfl (feq (by rw [hv1]; decide : ¬ (p0 = (3 : Int32)))).1 k) ?_
      show Go _ _ _ _ _ _ _ s₁ (mkF m 57 #[.val (.int p0), .val (.int p1), .val (.int (0 : Int32)), .val (.int (1 : Int32)), .val (.int (0 : Int32)), .unset] [])
      refine Go.st (fun _ k => XS.iloadN X0.here hx rfl (hb hby d2_57) rfl k) ?_
      show Go _ _ _ _ _ _ _ s₁ (mkF m 58 #[.val (.int p0), .val (.int p1), .val (.int (0 : Int32)), .val (.int (1 : Int32)), .val (.int (0 : Int32)), .unset] [(.int p1)])
      refine Go.st (fun _ k => XS.iconst X0.here hx rfl (hb hby d2_58) k) ?_
      show Go _ _ _ _ _ _ _ s₁ (mkF m 59 #[.val (.int p0), .val (.int p1), .val (.int (0 : Int32)), .val (.int (1 : Int32)), .val (.int (0 : Int32)), .unset] [(.int (3 : Int32)), (.int p1)])
      refine Go.st (fun _ k => XS.icmpYes X0.here hx rfl (pc0 := 59) (pc' := 66) rfl (hb hby d2_59) rfl (feq (by rw [hv3]; decide : ¬ (p1 = (3 : Int32)))).2 (by decide) (by decide) k) ?_
      show Go _ _ _ _ _ _ _ s₁ (mkF m 66 #[.val (.int p0), .val (.int p1), .val (.int (0 : Int32)), .val (.int (1 : Int32)), .val (.int (0 : Int32)), .unset] [])
      refine Go.st (fun _ k => XS.iconst X0.here hx rfl (hb hby d2_66) k) ?_
      show Go _ _ _ _ _ _ _ s₁ (mkF m 67 #[.val (.int p0), .val (.int p1), .val (.int (0 : Int32)), .val (.int (1 : Int32)), .val (.int (0 : Int32)), .unset] [(.int (0 : Int32))])
      refine Go.st (fun _ k => XS.istore X0.here hx rfl (hb hby d2_67) rfl (l' := #[.val (.int p0), .val (.int p1), .val (.int (0 : Int32)), .val (.int (1 : Int32)), .val (.int (0 : Int32)), .val (.int (0 : Int32))]) rfl k) ?_
      show Go _ _ _ _ _ _ _ s₁ (mkF m 69 #[.val (.int p0), .val (.int p1), .val (.int (0 : Int32)), .val (.int (1 : Int32)), .val (.int (0 : Int32)), .val (.int (0 : Int32))] [])
      refine Go.st (fun _ k => XS.iloadN X0.here hx rfl (hb hby d2_69) rfl k) ?_
      show Go _ _ _ _ _ _ _ s₁ (mkF m 70 #[.val (.int p0), .val (.int p1), .val (.int (0 : Int32)), .val (.int (1 : Int32)), .val (.int (0 : Int32)), .val (.int (0 : Int32))] [(.int (0 : Int32))])
      refine Go.st (fun _ k => XS.ifNo X0.here hx rfl (hb hby d2_70) rfl ((if0 _ _).trans (teq (by decide : (0 : Int32) = (0 : Int32))).2) k) ?_
      show Go _ _ _ _ _ _ _ s₁ (mkF m 73 #[.val (.int p0), .val (.int p1), .val (.int (0 : Int32)), .val (.int (1 : Int32)), .val (.int (0 : Int32)), .val (.int (0 : Int32))] [])
      refine Go.st (fun _ k => XS.iloadN X0.here hx rfl (hb hby d2_73) rfl k) ?_
      show Go _ _ _ _ _ _ _ s₁ (mkF m 74 #[.val (.int p0), .val (.int p1), .val (.int (0 : Int32)), .val (.int (1 : Int32)), .val (.int (0 : Int32)), .val (.int (0 : Int32))] [(.int (1 : Int32))])
      refine Go.st (fun _ k => XS.ifYes X0.here hx rfl (pc0 := 74) (pc' := 87) rfl (hb hby d2_74) rfl ((if0 _ _).trans (feq (by decide : ¬ ((1 : Int32) = (0 : Int32)))).2) (by decide) (by decide) k) ?_
      show Go _ _ _ _ _ _ _ s₁ (mkF m 87 #[.val (.int p0), .val (.int p1), .val (.int (0 : Int32)), .val (.int (1 : Int32)), .val (.int (0 : Int32)), .val (.int (0 : Int32))] [])
      refine Go.st (fun _ k => XS.iconst X0.here hx rfl (hb hby d2_87) k) ?_
      show Go _ _ _ _ _ _ _ s₁ (mkF m 88 #[.val (.int p0), .val (.int p1), .val (.int (0 : Int32)), .val (.int (1 : Int32)), .val (.int (0 : Int32)), .val (.int (0 : Int32))] [(.int (1 : Int32))])
      refine Go.st (fun _ k => XS.goto X0.here hx rfl (pc0 := 88) (pc' := 92) rfl (hb hby d2_88) (by decide) (by decide) k) ?_
      show Go _ _ _ _ _ _ _ s₁ (mkF m 92 #[.val (.int p0), .val (.int p1), .val (.int (0 : Int32)), .val (.int (1 : Int32)), .val (.int (0 : Int32)), .val (.int (0 : Int32))] [(.int (1 : Int32))])
      refine Go.ret X0 hlk (v := some (.int (1 : Int32))) (fun h => by rw [hret] at h; cases h) (fun fs hr => retN X0 hx (t := .boolean) hret (by simp) (hb hby d2_92) hr) ?_ (by decide) (by decide)
      show Q2 Z p0 p1 h0 n0 (some (.int (1 : Int32))) s₁.heap _
      rw [e0]
      refine ⟨?_, N0, rfl⟩
      unfold val_2
      rw [if_neg (by rw [hv1]; decide : ¬ (p0 = (0 : Int32))), if_pos hv1, if_pos hv3]
    · show Go _ _ _ _ _ _ _ s₁ (mkF m 0 #[.val (.int p0), .val (.int p1), .unset, .unset, .unset, .unset] [])
      refine Go.st (fun _ k => XS.iloadN X0.here hx rfl (hb hby d2_0) rfl k) ?_
      show Go _ _ _ _ _ _ _ s₁ (mkF m 1 #[.val (.int p0), .val (.int p1), .unset, .unset, .unset, .unset] [(.int p0)])
      refine Go.st (fun _ k => XS.iloadN X0.here hx rfl (hb hby d2_1) rfl k) ?_
      show Go _ _ _ _ _ _ _ s₁ (mkF m 2 #[.val (.int p0), .val (.int p1), .unset, .unset, .unset, .unset] [(.int p1), (.int p0)])
      refine Go.st (fun _ k => XS.icmpNo X0.here hx rfl (hb hby d2_2) rfl (teq (by rw [hv1, hv3] <;> decide +kernel : p0 = p1)).2 k) ?_
      show Go _ _ _ _ _ _ _ s₁ (mkF m 5 #[.val (.int p0), .val (.int p1), .unset, .unset, .unset, .unset] [])
      refine Go.st (fun _ k => XS.iconst X0.here hx rfl (hb hby d2_5) k) ?_
      show Go _ _ _ _ _ _ _ s₁ (mkF m 6 #[.val (.int p0), .val (.int p1), .unset, .unset, .unset, .unset] [(.int (1 : Int32))])
      refine Go.st (fun _ k => XS.goto X0.here hx rfl (pc0 := 6) (pc' := 10) rfl (hb hby d2_6) (by decide) (by decide) k) ?_
      show Go _ _ _ _ _ _ _ s₁ (mkF m 10 #[.val (.int p0), .val (.int p1), .unset, .unset, .unset, .unset] [(.int (1 : Int32))])
      refine Go.st (fun _ k => XS.istoreN X0.here hx rfl (hb hby d2_10) rfl (l' := #[.val (.int p0), .val (.int p1), .val (.int (1 : Int32)), .unset, .unset, .unset]) rfl k) ?_
      show Go _ _ _ _ _ _ _ s₁ (mkF m 11 #[.val (.int p0), .val (.int p1), .val (.int (1 : Int32)), .unset, .unset, .unset] [])
      refine Go.st (fun _ k => XS.iloadN X0.here hx rfl (hb hby d2_11) rfl k) ?_
      show Go _ _ _ _ _ _ _ s₁ (mkF m 12 #[.val (.int p0), .val (.int p1), .val (.int (1 : Int32)), .unset, .unset, .unset] [(.int p0)])
      refine Go.st (fun _ k => XS.iconst X0.here hx rfl (hb hby d2_12) k) ?_
      show Go _ _ _ _ _ _ _ s₁ (mkF m 13 #[.val (.int p0), .val (.int p1), .val (.int (1 : Int32)), .unset, .unset, .unset] [(.int (1 : Int32)), (.int p0)])
      refine Go.st (fun _ k => XS.icmpNo X0.here hx rfl (hb hby d2_13) rfl (flt (by rw [hv1] <;> decide +kernel : ¬ ((1 : Int32) < p0))).2.2.1 k) ?_
      show Go _ _ _ _ _ _ _ s₁ (mkF m 16 #[.val (.int p0), .val (.int p1), .val (.int (1 : Int32)), .unset, .unset, .unset] [])
      refine Go.st (fun _ k => XS.iloadN X0.here hx rfl (hb hby d2_16) rfl k) ?_
      show Go _ _ _ _ _ _ _ s₁ (mkF m 17 #[.val (.int p0), .val (.int p1), .val (.int (1 : Int32)), .unset, .unset, .unset] [(.int p1)])
      refine Go.st (fun _ k => XS.iconst X0.here hx rfl (hb hby d2_17) k) ?_
      show Go _ _ _ _ _ _ _ s₁ (mkF m 18 #[.val (.int p0), .val (.int p1), .val (.int (1 : Int32)), .unset, .unset, .unset] [(.int (1 : Int32)), (.int p1)])
      refine Go.st (fun _ k => XS.icmpNo X0.here hx rfl (hb hby d2_18) rfl (flt (by rw [hv3] <;> decide +kernel : ¬ ((1 : Int32) < p1))).2.2.1 k) ?_
      show Go _ _ _ _ _ _ _ s₁ (mkF m 21 #[.val (.int p0), .val (.int p1), .val (.int (1 : Int32)), .unset, .unset, .unset] [])
      refine Go.st (fun _ k => XS.iconst X0.here hx rfl (hb hby d2_21) k) ?_
      show Go _ _ _ _ _ _ _ s₁ (mkF m 22 #[.val (.int p0), .val (.int p1), .val (.int (1 : Int32)), .unset, .unset, .unset] [(.int (1 : Int32))])
      refine Go.st (fun _ k => XS.goto X0.here hx rfl (pc0 := 22) (pc' := 26) rfl (hb hby d2_22) (by decide) (by decide) k) ?_
      show Go _ _ _ _ _ _ _ s₁ (mkF m 26 #[.val (.int p0), .val (.int p1), .val (.int (1 : Int32)), .unset, .unset, .unset] [(.int (1 : Int32))])
      refine Go.st (fun _ k => XS.istoreN X0.here hx rfl (hb hby d2_26) rfl (l' := #[.val (.int p0), .val (.int p1), .val (.int (1 : Int32)), .val (.int (1 : Int32)), .unset, .unset]) rfl k) ?_
      show Go _ _ _ _ _ _ _ s₁ (mkF m 27 #[.val (.int p0), .val (.int p1), .val (.int (1 : Int32)), .val (.int (1 : Int32)), .unset, .unset] [])
      refine Go.st (fun _ k => XS.iloadN X0.here hx rfl (hb hby d2_27) rfl k) ?_
      show Go _ _ _ _ _ _ _ s₁ (mkF m 28 #[.val (.int p0), .val (.int p1), .val (.int (1 : Int32)), .val (.int (1 : Int32)), .unset, .unset] [(.int p0)])
      refine Go.st (fun _ k => XS.ifYes X0.here hx rfl (pc0 := 28) (pc' := 36) rfl (hb hby d2_28) rfl ((if0 _ _).trans (feq (by rw [hv1]; decide : ¬ (p0 = (0 : Int32)))).2) (by decide) (by decide) k) ?_
      show Go _ _ _ _ _ _ _ s₁ (mkF m 36 #[.val (.int p0), .val (.int p1), .val (.int (1 : Int32)), .val (.int (1 : Int32)), .unset, .unset] [])
      refine Go.st (fun _ k => XS.iloadN X0.here hx rfl (hb hby d2_36) rfl k) ?_
      show Go _ _ _ _ _ _ _ s₁ (mkF m 37 #[.val (.int p0), .val (.int p1), .val (.int (1 : Int32)), .val (.int (1 : Int32)), .unset, .unset] [(.int p0)])
      refine Go.st (fun _ k => XS.iconst X0.here hx rfl (hb hby d2_37) k) ?_
      show Go _ _ _ _ _ _ _ s₁ (mkF m 38 #[.val (.int p0), .val (.int p1), .val (.int (1 : Int32)), .val (.int (1 : Int32)), .unset, .unset] [(.int (2 : Int32)), (.int p0)])
      refine Go.st (fun _ k => XS.icmpYes X0.here hx rfl (pc0 := 38) (pc' := 49) rfl (hb hby d2_38) rfl (feq (by rw [hv1]; decide : ¬ (p0 = (2 : Int32)))).2 (by decide) (by decide) k) ?_
      show Go _ _ _ _ _ _ _ s₁ (mkF m 49 #[.val (.int p0), .val (.int p1), .val (.int (1 : Int32)), .val (.int (1 : Int32)), .unset, .unset] [])
      refine Go.st (fun _ k => XS.iconst X0.here hx rfl (hb hby d2_49) k) ?_
      show Go _ _ _ _ _ _ _ s₁ (mkF m 50 #[.val (.int p0), .val (.int p1), .val (.int (1 : Int32)), .val (.int (1 : Int32)), .unset, .unset] [(.int (0 : Int32))])
      refine Go.st (fun _ k => XS.istore X0.here hx rfl (hb hby d2_50) rfl (l' := #[.val (.int p0), .val (.int p1), .val (.int (1 : Int32)), .val (.int (1 : Int32)), .val (.int (0 : Int32)), .unset]) rfl k) ?_
      show Go _ _ _ _ _ _ _ s₁ (mkF m 52 #[.val (.int p0), .val (.int p1), .val (.int (1 : Int32)), .val (.int (1 : Int32)), .val (.int (0 : Int32)), .unset] [])
      refine Go.st (fun _ k => XS.iloadN X0.here hx rfl (hb hby d2_52) rfl k) ?_
      show Go _ _ _ _ _ _ _ s₁ (mkF m 53 #[.val (.int p0), .val (.int p1), .val (.int (1 : Int32)), .val (.int (1 : Int32)), .val (.int (0 : Int32)), .unset] [(.int p0)])
      refine Go.st (fun _ k => XS.iconst X0.here hx rfl (hb hby d2_53) k) ?_
      show Go _ _ _ _ _ _ _ s₁ (mkF m 54 #[.val (.int p0), .val (.int p1), .val (.int (1 : Int32)), .val (.int (1 : Int32)), .val (.int (0 : Int32)), .unset] [(.int (3 : Int32)), (.int p0)])
      refine Go.st (fun _ k => XS.icmpNo X0.here hx rfl (hb hby d2_54) rfl (feq (by rw [hv1]; decide : ¬ (p0 = (3 : Int32)))).1 k) ?_
      show Go _ _ _ _ _ _ _ s₁ (mkF m 57 #[.val (.int p0), .val (.int p1), .val (.int (1 : Int32)), .val (.int (1 : Int32)), .val (.int (0 : Int32)), .unset] [])
      refine Go.st (fun _ k => XS.iloadN X0.here hx rfl (hb hby d2_57) rfl k) ?_
      show Go _ _ _ _ _ _ _ s₁ (mkF m 58 #[.val (.int p0), .val (.int p1), .val (.int (1 : Int32)), .val (.int (1 : Int32)), .val (.int (0 : Int32)), .unset] [(.int p1)])
      refine Go.st (fun _ k => XS.iconst X0.here hx rfl (hb hby d2_58) k) ?_
      show Go _ _ _ _ _ _ _ s₁ (mkF m 59 #[.val (.int p0), .val (.int p1), .val (.int (1 : Int32)), .val (.int (1 : Int32)), .val (.int (0 : Int32)), .unset] [(.int (3 : Int32)), (.int p1)])
      refine Go.st (fun _ k => XS.icmpYes X0.here hx rfl (pc0 := 59) (pc' := 66) rfl (hb hby d2_59) rfl (feq (by rw [hv3]; decide : ¬ (p1 = (3 : Int32)))).2 (by decide) (by decide) k) ?_
      show Go _ _ _ _ _ _ _ s₁ (mkF m 66 #[.val (.int p0), .val (.int p1), .val (.int (1 : Int32)), .val (.int (1 : Int32)), .val (.int (0 : Int32)), .unset] [])
      refine Go.st (fun _ k => XS.iconst X0.here hx rfl (hb hby d2_66) k) ?_
      show Go _ _ _ _ _ _ _ s₁ (mkF m 67 #[.val (.int p0), .val (.int p1), .val (.int (1 : Int32)), .val (.int (1 : Int32)), .val (.int (0 : Int32)), .unset] [(.int (0 : Int32))])
      refine Go.st (fun _ k => XS.istore X0.here hx rfl (hb hby d2_67) rfl (l' := #[.val (.int p0), .val (.int p1), .val (.int (1 : Int32)), .val (.int (1 : Int32)), .val (.int (0 : Int32)), .val (.int (0 : Int32))]) rfl k) ?_
      show Go _ _ _ _ _ _ _ s₁ (mkF m 69 #[.val (.int p0), .val (.int p1), .val (.int (1 : Int32)), .val (.int (1 : Int32)), .val (.int (0 : Int32)), .val (.int (0 : Int32))] [])
      refine Go.st (fun _ k => XS.iloadN X0.here hx rfl (hb hby d2_69) rfl k) ?_
      show Go _ _ _ _ _ _ _ s₁ (mkF m 70 #[.val (.int p0), .val (.int p1), .val (.int (1 : Int32)), .val (.int (1 : Int32)), .val (.int (0 : Int32)), .val (.int (0 : Int32))] [(.int (1 : Int32))])
      refine Go.st (fun _ k => XS.ifYes X0.here hx rfl (pc0 := 70) (pc' := 87) rfl (hb hby d2_70) rfl ((if0 _ _).trans (feq (by decide : ¬ ((1 : Int32) = (0 : Int32)))).2) (by decide) (by decide) k) ?_
      show Go _ _ _ _ _ _ _ s₁ (mkF m 87 #[.val (.int p0), .val (.int p1), .val (.int (1 : Int32)), .val (.int (1 : Int32)), .val (.int (0 : Int32)), .val (.int (0 : Int32))] [])
      refine Go.st (fun _ k => XS.iconst X0.here hx rfl (hb hby d2_87) k) ?_
      show Go _ _ _ _ _ _ _ s₁ (mkF m 88 #[.val (.int p0), .val (.int p1), .val (.int (1 : Int32)), .val (.int (1 : Int32)), .val (.int (0 : Int32)), .val (.int (0 : Int32))] [(.int (1 : Int32))])
      refine Go.st (fun _ k => XS.goto X0.here hx rfl (pc0 := 88) (pc' := 92) rfl (hb hby d2_88) (by decide) (by decide) k) ?_
      show Go _ _ _ _ _ _ _ s₁ (mkF m 92 #[.val (.int p0), .val (.int p1), .val (.int (1 : Int32)), .val (.int (1 : Int32)), .val (.int (0 : Int32)), .val (.int (0 : Int32))] [(.int (1 : Int32))])
      refine Go.ret X0 hlk (v := some (.int (1 : Int32))) (fun h => by rw [hret] at h; cases h) (fun fs hr => retN X0 hx (t := .boolean) hret (by simp) (hb hby d2_92) hr) ?_ (by decide) (by decide)
      show Q2 Z p0 p1 h0 n0 (some (.int (1 : Int32))) s₁.heap _
      rw [e0]
      refine ⟨?_, N0, rfl⟩
      unfold val_2
      rw [if_neg (by rw [hv1]; decide : ¬ (p0 = (0 : Int32))), if_pos hv1, if_neg (by rw [hv3]; decide : ¬ (p1 = (0 : Int32))), if_pos hv3]
    · show Go _ _ _ _ _ _ _ s₁ (mkF m 0 #[.val (.int p0), .val (.int p1), .unset, .unset, .unset, .unset] [])
      refine Go.st (fun _ k => XS.iloadN X0.here hx rfl (hb hby d2_0) rfl k) ?_
      show Go _ _ _ _ _ _ _ s₁ (mkF m 1 #[.val (.int p0), .val (.int p1), .unset, .unset, .unset, .unset] [(.int p0)])
      refine Go.st (fun _ k => XS.iloadN X0.here hx rfl (hb hby d2_1) rfl k) ?_
      show Go _ _ _ _ _ _ _ s₁ (mkF m 2 #[.val (.int p0), .val (.int p1), .unset, .unset, .unset, .unset] [(.int p1), (.int p0)])
      refine Go.st (fun _ k => XS.icmpYes X0.here hx rfl (pc0 := 2) (pc' := 9) rfl (hb hby d2_2) rfl (feq (by rw [hv1, hv3] <;> decide +kernel : ¬ (p0 = p1))).2 (by decide) (by decide) k) ?_
      show Go _ _ _ _ _ _ _ s₁ (mkF m 9 #[.val (.int p0), .val (.int p1), .unset, .unset, .unset, .unset] [])
      refine Go.st (fun _ k => XS.iconst X0.here hx rfl (hb hby d2_9) k) ?_
      show Go _ _ _ _ _ _ _ s₁ (mkF m 10 #[.val (.int p0), .val (.int p1), .unset, .unset, .unset, .unset] [(.int (0 : Int32))])
      refine Go.st (fun _ k => XS.istoreN X0.here hx rfl (hb hby d2_10) rfl (l' := #[.val (.int p0), .val (.int p1), .val (.int (0 : Int32)), .unset, .unset, .unset]) rfl k) ?_
      show Go _ _ _ _ _ _ _ s₁ (mkF m 11 #[.val (.int p0), .val (.int p1), .val (.int (0 : Int32)), .unset, .unset, .unset] [])
      refine Go.st (fun _ k => XS.iloadN X0.here hx rfl (hb hby d2_11) rfl k) ?_
      show Go _ _ _ _ _ _ _ s₁ (mkF m 12 #[.val (.int p0), .val (.int p1), .val (.int (0 : Int32)), .unset, .unset, .unset] [(.int p0)])
      refine Go.st (fun _ k => XS.iconst X0.here hx rfl (hb hby d2_12) k) ?_
      show Go _ _ _ _ _ _ _ s₁ (mkF m 13 #[.val (.int p0), .val (.int p1), .val (.int (0 : Int32)), .unset, .unset, .unset] [(.int (1 : Int32)), (.int p0)])
      refine Go.st (fun _ k => XS.icmpNo X0.here hx rfl (hb hby d2_13) rfl (flt (by rw [hv1] <;> decide +kernel : ¬ ((1 : Int32) < p0))).2.2.1 k) ?_
      show Go _ _ _ _ _ _ _ s₁ (mkF m 16 #[.val (.int p0), .val (.int p1), .val (.int (0 : Int32)), .unset, .unset, .unset] [])
      refine Go.st (fun _ k => XS.iloadN X0.here hx rfl (hb hby d2_16) rfl k) ?_
      show Go _ _ _ _ _ _ _ s₁ (mkF m 17 #[.val (.int p0), .val (.int p1), .val (.int (0 : Int32)), .unset, .unset, .unset] [(.int p1)])
      refine Go.st (fun _ k => XS.iconst X0.here hx rfl (hb hby d2_17) k) ?_
      show Go _ _ _ _ _ _ _ s₁ (mkF m 18 #[.val (.int p0), .val (.int p1), .val (.int (0 : Int32)), .unset, .unset, .unset] [(.int (1 : Int32)), (.int p1)])
      refine Go.st (fun _ k => XS.icmpYes X0.here hx rfl (pc0 := 18) (pc' := 25) rfl (hb hby d2_18) rfl (tlt (by rw [hv3] <;> decide +kernel : (1 : Int32) < p1)).2.2.1 (by decide) (by decide) k) ?_
      show Go _ _ _ _ _ _ _ s₁ (mkF m 25 #[.val (.int p0), .val (.int p1), .val (.int (0 : Int32)), .unset, .unset, .unset] [])
      refine Go.st (fun _ k => XS.iconst X0.here hx rfl (hb hby d2_25) k) ?_
      show Go _ _ _ _ _ _ _ s₁ (mkF m 26 #[.val (.int p0), .val (.int p1), .val (.int (0 : Int32)), .unset, .unset, .unset] [(.int (0 : Int32))])
      refine Go.st (fun _ k => XS.istoreN X0.here hx rfl (hb hby d2_26) rfl (l' := #[.val (.int p0), .val (.int p1), .val (.int (0 : Int32)), .val (.int (0 : Int32)), .unset, .unset]) rfl k) ?_
      show Go _ _ _ _ _ _ _ s₁ (mkF m 27 #[.val (.int p0), .val (.int p1), .val (.int (0 : Int32)), .val (.int (0 : Int32)), .unset, .unset] [])
      refine Go.st (fun _ k => XS.iloadN X0.here hx rfl (hb hby d2_27) rfl k) ?_
      show Go _ _ _ _ _ _ _ s₁ (mkF m 28 #[.val (.int p0), .val (.int p1), .val (.int (0 : Int32)), .val (.int (0 : Int32)), .unset, .unset] [(.int p0)])
      refine Go.st (fun _ k => XS.ifYes X0.here hx rfl (pc0 := 28) (pc' := 36) rfl (hb hby d2_28) rfl ((if0 _ _).trans (feq (by rw [hv1]; decide : ¬ (p0 = (0 : Int32)))).2) (by decide) (by decide) k) ?_
      show Go _ _ _ _ _ _ _ s₁ (mkF m 36 #[.val (.int p0), .val (.int p1), .val (.int (0 : Int32)), .val (.int (0 : Int32)), .unset, .unset] [])
      refine Go.st (fun _ k => XS.iloadN X0.here hx rfl (hb hby d2_36) rfl k) ?_
      show Go _ _ _ _ _ _ _ s₁ (mkF m 37 #[.val (.int p0), .val (.int p1), .val (.int (0 : Int32)), .val (.int (0 : Int32)), .unset, .unset] [(.int p0)])
      refine Go.st (fun _ k => XS.iconst X0.here hx rfl (hb hby d2_37) k) ?_
      show Go _ _ _ _ _ _ _ s₁ (mkF m 38 #[.val (.int p0), .val (.int p1), .val (.int (0 : Int32)), .val (.int (0 : Int32)), .unset, .unset] [(.int (2 : Int32)), (.int p0)])
      refine Go.st (fun _ k => XS.icmpYes X0.here hx rfl (pc0 := 38) (pc' := 49) rfl (hb hby d2_38) rfl (feq (by rw [hv1]; decide : ¬ (p0 = (2 : Int32)))).2 (by decide) (by decide) k) ?_
      show Go _ _ _ _ _ _ _ s₁ (mkF m 49 #[.val (.int p0), .val (.int p1), .val (.int (0 : Int32)), .val (.int (0 : Int32)), .unset, .unset] [])
      refine Go.st (fun _ k => XS.iconst X0.here hx rfl (hb hby d2_49) k) ?_
      show Go _ _ _ _ _ _ _ s₁ (mkF m 50 #[.val (.int p0), .val (.int p1), .val (.int (0 : Int32)), .val (.int (0 : Int32)), .unset, .unset] [(.int (0 : Int32))])
      refine Go.st (fun _ k => XS.istore X0.here hx rfl (hb hby d2_50) rfl (l' := #[.val (.int p0), .val (.int p1), .val (.int (0 : Int32)), .val (.int (0 : Int32)), .val (.int (0 : Int32)), .unset]) rfl k) ?_
      show Go _ _ _ _ _ _ _ s₁ (mkF m 52 #[.val (.int p0), .val (.int p1), .val (.int (0 : Int32)), .val (.int (0 : Int32)), .val (.int (0 : Int32)), .unset] [])
      refine Go.st (fun _ k => XS.iloadN X0.here hx rfl (hb hby d2_52) rfl k) ?_
      show Go _ _ _ _ _ _ _ s₁ (mkF m 53 #[.val (.int p0), .val (.int p1), .val (.int (0 : Int32)), .val (.int (0 : Int32)), .val (.int (0 : Int32)), .unset] [(.int p0)])
      refine Go.st (fun _ k => XS.iconst X0.here hx rfl (hb hby d2_53) k) ?_
      show Go _ _ _ _ _ _ _ s₁ (mkF m 54 #[.val (.int p0), .val (.int p1), .val (.int (0 : Int32)), .val (.int (0 : Int32)), .val (.int (0 : Int32)), .unset] [(.int (3 : Int32)), (.int p0)])
      refine Go.st (fun _ k => XS.icmpNo X0.here hx rfl (hb hby d2_54) rfl (feq (by rw [hv1]; decide : ¬ (p0 = (3 : Int32)))).1 k) ?_
      show Go _ _ _ _ _ _ _ s₁ (mkF m 57 #[.val (.int p0), .val (.int p1), .val (.int (0 : Int32)), .val (.int (0 : Int32)), .val (.int (0 : Int32)), .unset] [])
      refine Go.st (fun _ k => XS.iloadN X0.here hx rfl (hb hby d2_57) rfl k) ?_
      show Go _ _ _ _ _ _ _ s₁ (mkF m 58 #[.val (.int p0), .val (.int p1), .val (.int (0 : Int32)), .val (.int (0 : Int32)), .val (.int (0 : Int32)), .unset] [(.int p1)])
      refine Go.st (fun _ k => XS.iconst X0.here hx rfl (hb hby d2_58) k) ?_
      show Go _ _ _ _ _ _ _ s₁ (mkF m 59 #[.val (.int p0), .val (.int p1), .val (.int (0 : Int32)), .val (.int (0 : Int32)), .val (.int (0 : Int32)), .unset] [(.int (3 : Int32)), (.int p1)])
      refine Go.st (fun _ k => XS.icmpYes X0.here hx rfl (pc0 := 59) (pc' := 66) rfl (hb hby d2_59) rfl (feq (by rw [hv3]; decide : ¬ (p1 = (3 : Int32)))).2 (by decide) (by decide) k) ?_
      show Go _ _ _ _ _ _ _ s₁ (mkF m 66 #[.val (.int p0), .val (.int p1), .val (.int (0 : Int32)), .val (.int (0 : Int32)), .val (.int (0 : Int32)), .unset] [])
      refine Go.st (fun _ k => XS.iconst X0.here hx rfl (hb hby d2_66) k) ?_
      show Go _ _ _ _ _ _ _ s₁ (mkF m 67 #[.val (.int p0), .val (.int p1), .val (.int (0 : Int32)), .val (.int (0 : Int32)), .val (.int (0 : Int32)), .unset] [(.int (0 : Int32))])
      refine Go.st (fun _ k => XS.istore X0.here hx rfl (hb hby d2_67) rfl (l' := #[.val (.int p0), .val (.int p1), .val (.int (0 : Int32)), .val (.int (0 : Int32)), .val (.int (0 : Int32)), .val (.int (0 : Int32))]) rfl k) ?_
      show Go _ _ _ _ _ _ _ s₁ (mkF m 69 #[.val (.int p0), .val (.int p1), .val (.int (0 : Int32)), .val (.int (0 : Int32)), .val (.int (0 : Int32)), .val (.int (0 : Int32))] [])
      refine Go.st (fun _ k => XS.iloadN X0.here hx rfl (hb hby d2_69) rfl k) ?_
      show Go _ _ _ _ _ _ _ s₁ (mkF m 70 #[.val (.int p0), .val (.int p1), .val (.int (0 : Int32)), .val (.int (0 : Int32)), .val (.int (0 : Int32)), .val (.int (0 : Int32))] [(.int (0 : Int32))])
      refine Go.st (fun _ k => XS.ifNo X0.here hx rfl (hb hby d2_70) rfl ((if0 _ _).trans (teq (by decide : (0 : Int32) = (0 : Int32))).2) k) ?_
      show Go _ _ _ _ _ _ _ s₁ (mkF m 73 #[.val (.int p0), .val (.int p1), .val (.int (0 : Int32)), .val (.int (0 : Int32)), .val (.int (0 : Int32)), .val (.int (0 : Int32))] [])
      refine Go.st (fun _ k => XS.iloadN X0.here hx rfl (hb hby d2_73) rfl k) ?_
      show Go _ _ _ _ _ _ _ s₁ (mkF m 74 #[.val (.int p0), .val (.int p1), .val (.int (0 : Int32)), .val (.int (0 : Int32)), .val (.int (0 : Int32)), .val (.int (0 : Int32))] [(.int (0 : Int32))])
      refine Go.st (fun _ k => XS.ifNo X0.here hx rfl (hb hby d2_74) rfl ((if0 _ _).trans (teq (by decide : (0 : Int32) = (0 : Int32))).2) k) ?_
      show Go _ _ _ _ _ _ _ s₁ (mkF m 77 #[.val (.int p0), .val (.int p1), .val (.int (0 : Int32)), .val (.int (0 : Int32)), .val (.int (0 : Int32)), .val (.int (0 : Int32))] [])
      refine Go.st (fun _ k => XS.iload X0.here hx rfl (hb hby d2_77) rfl k) ?_
      show Go _ _ _ _ _ _ _ s₁ (mkF m 79 #[.val (.int p0), .val (.int p1), .val (.int (0 : Int32)), .val (.int (0 : Int32)), .val (.int (0 : Int32)), .val (.int (0 : Int32))] [(.int (0 : Int32))])
      refine Go.st (fun _ k => XS.ifNo X0.here hx rfl (hb hby d2_79) rfl ((if0 _ _).trans (teq (by decide : (0 : Int32) = (0 : Int32))).2) k) ?_
      show Go _ _ _ _ _ _ _ s₁ (mkF m 82 #[.val (.int p0), .val (.int p1), .val (.int (0 : Int32)), .val (.int (0 : Int32)), .val (.int (0 : Int32)), .val (.int (0 : Int32))] [])
      refine Go.st (fun _ k => XS.iload X0.here hx rfl (hb hby d2_82) rfl k) ?_
      show Go _ _ _ _ _ _ _ s₁ (mkF m 84 #[.val (.int p0), .val (.int p1), .val (.int (0 : Int32)), .val (.int (0 : Int32)), .val (.int (0 : Int32)), .val (.int (0 : Int32))] [(.int (0 : Int32))])
      refine Go.st (fun _ k => XS.ifYes X0.here hx rfl (pc0 := 84) (pc' := 91) rfl (hb hby d2_84) rfl ((if0 _ _).trans (teq (by decide : (0 : Int32) = (0 : Int32))).1) (by decide) (by decide) k) ?_
      show Go _ _ _ _ _ _ _ s₁ (mkF m 91 #[.val (.int p0), .val (.int p1), .val (.int (0 : Int32)), .val (.int (0 : Int32)), .val (.int (0 : Int32)), .val (.int (0 : Int32))] [])
      refine Go.st (fun _ k => XS.iconst X0.here hx rfl (hb hby d2_91) k) ?_
      show Go _ _ _ _ _ _ _ s₁ (mkF m 92 #[.val (.int p0), .val (.int p1), .val (.int (0 : Int32)), .val (.int (0 : Int32)), .val (.int (0 : Int32)), .val (.int (0 : Int32))] [(.int (0 : Int32))])
      refine Go.ret X0 hlk (v := some (.int (0 : Int32))) (fun h => by rw [hret] at h; cases h) (fun fs hr => retN X0 hx (t := .boolean) hret (by simp) (hb hby d2_92) hr) ?_ (by decide) (by decide)
      show Q2 Z p0 p1 h0 n0 (some (.int (0 : Int32))) s₁.heap _
      rw [e0]
      refine ⟨?_, N0, rfl⟩
      unfold val_2
      rw [if_neg (by rw [hv1]; decide : ¬ (p0 = (0 : Int32))), if_pos hv1, if_neg (by rw [hv3]; decide : ¬ (p1 = (0 : Int32))), if_neg (by rw [hv3]; decide : ¬ (p1 = (1 : Int32))), if_pos hv3]
    · show Go _ _ _ _ _ _ _ s₁ (mkF m 0 #[.val (.int p0), .val (.int p1), .unset, .unset, .unset, .unset] [])
      refine Go.st (fun _ k => XS.iloadN X0.here hx rfl (hb hby d2_0) rfl k) ?_
      show Go _ _ _ _ _ _ _ s₁ (mkF m 1 #[.val (.int p0), .val (.int p1), .unset, .unset, .unset, .unset] [(.int p0)])
      refine Go.st (fun _ k => XS.iloadN X0.here hx rfl (hb hby d2_1) rfl k) ?_
      show Go _ _ _ _ _ _ _ s₁ (mkF m 2 #[.val (.int p0), .val (.int p1), .unset, .unset, .unset, .unset] [(.int p1), (.int p0)])
      refine Go.st (fun _ k => XS.icmpYes X0.here hx rfl (pc0 := 2) (pc' := 9) rfl (hb hby d2_2) rfl (feq (by rw [hv1, hv3] <;> decide +kernel : ¬ (p0 = p1))).2 (by decide) (by decide) k) ?_
      show Go _ _ _ _ _ _ _ s₁ (mkF m 9 #[.val (.int p0), .val (.int p1), .unset, .unset, .unset, .unset] [])
      refine Go.st (fun _ k => XS.iconst X0.here hx rfl (hb hby d2_9) k) ?_
      show Go _ _ _ _ _ _ _ s₁ (mkF m 10 #[.val (.int p0), .val (.int p1), .unset, .unset, .unset, .unset] [(.int (0 : Int32))])
      refine Go.st (fun _ k => XS.istoreN X0.here hx rfl (hb hby d2_10) rfl (l' := #[.val (.int p0), .val (.int p1), .val (.int (0 : Int32)), .unset, .unset, .unset]) rfl k) ?_
      show Go _ _ _ _ _ _ _ s₁ (mkF m 11 #[.val (.int p0), .val (.int p1), .val (.int (0 : Int32)), .unset, .unset, .unset] [])
      refine Go.st (fun _ k => XS.iloadN X0.here hx rfl (hb hby d2_11) rfl k) ?_
      show Go _ _ _ _ _ _ _ s₁ (mkF m 12 #[.val (.int p0), .val (.int p1), .val (.int (0 : Int32)), .unset, .unset, .unset] [(.int p0)])
      refine Go.st (fun _ k => XS.iconst X0.here hx rfl (hb hby d2_12) k) ?_
      show Go _ _ _ _ _ _ _ s₁ (mkF m 13 #[.val (.int p0), .val (.int p1), .val (.int (0 : Int32)), .unset, .unset, .unset] [(.int (1 : Int32)), (.int p0)])
      refine Go.st (fun _ k => XS.icmpNo X0.here hx rfl (hb hby d2_13) rfl (flt (by rw [hv1] <;> decide +kernel : ¬ ((1 : Int32) < p0))).2.2.1 k) ?_
      show Go _ _ _ _ _ _ _ s₁ (mkF m 16 #[.val (.int p0), .val (.int p1), .val (.int (0 : Int32)), .unset, .unset, .unset] [])
      refine Go.st (fun _ k => XS.iloadN X0.here hx rfl (hb hby d2_16) rfl k) ?_
      show Go _ _ _ _ _ _ _ s₁ (mkF m 17 #[.val (.int p0), .val (.int p1), .val (.int (0 : Int32)), .unset, .unset, .unset] [(.int p1)])
      refine Go.st (fun _ k => XS.iconst X0.here hx rfl (hb hby d2_17) k) ?_
      show Go _ _ _ _ _ _ _ s₁ (mkF m 18 #[.val (.int p0), .val (.int p1), .val (.int (0 : Int32)), .unset, .unset, .unset] [(.int (1 : Int32)), (.int p1)])
      refine Go.st (fun _ k => XS.icmpYes X0.here hx rfl (pc0 := 18) (pc' := 25) rfl (hb hby d2_18) rfl (tlt (by rw [hv3] <;> decide +kernel : (1 : Int32) < p1)).2.2.1 (by decide) (by decide) k) ?_
      show Go _ _ _ _ _ _ _ s₁ (mkF m 25 #[.val (.int p0), .val (.int p1), .val (.int (0 : Int32)), .unset, .unset, .unset] [])
      refine Go.st (fun _ k => XS.iconst X0.here hx rfl (hb hby d2_25) k) ?_
      show Go _ _ _ _ _ _ _ s₁ (mkF m 26 #[.val (.int p0), .val (.int p1), .val (.int (0 : Int32)), .unset, .unset, .unset] [(.int (0 : Int32))])
      refine Go.st (fun _ k => XS.istoreN X0.here hx rfl (hb hby d2_26) rfl (l' := #[.val (.int p0), .val (.int p1), .val (.int (0 : Int32)), .val (.int (0 : Int32)), .unset, .unset]) rfl k) ?_
      show Go _ _ _ _ _ _ _ s₁ (mkF m 27 #[.val (.int p0), .val (.int p1), .val (.int (0 : Int32)), .val (.int (0 : Int32)), .unset, .unset] [])
      refine Go.st (fun _ k => XS.iloadN X0.here hx rfl (hb hby d2_27) rfl k) ?_
      show Go _ _ _ _ _ _ _ s₁ (mkF m 28 #[.val (.int p0), .val (.int p1), .val (.int (0 : Int32)), .val (.int (0 : Int32)), .unset, .unset] [(.int p0)])
      refine Go.st (fun _ k => XS.ifYes X0.here hx rfl (pc0 := 28) (pc' := 36) rfl (hb hby d2_28) rfl ((if0 _ _).trans (feq (by rw [hv1]; decide : ¬ (p0 = (0 : Int32)))).2) (by decide) (by decide) k) ?_
      show Go _ _ _ _ _ _ _ s₁ (mkF m 36 #[.val (.int p0), .val (.int p1), .val (.int (0 : Int32)), .val (.int (0 : Int32)), .unset, .unset] [])
      refine Go.st (fun _ k => XS.iloadN X0.here hx rfl (hb hby d2_36) rfl k) ?_
      show Go _ _ _ _ _ _ _ s₁ (mkF m 37 #[.val (.int p0), .val (.int p1), .val (.int (0 : Int32)), .val (.int (0 : Int32)), .unset, .unset] [(.int p0)])
      refine Go.st (fun _ k => XS.iconst X0.here hx rfl (hb hby d2_37) k) ?_
      show Go _ _ _ _ _ _ _ s₁ (mkF m 38 #[.val (.int p0), .val (.int p1), .val (.int (0 : Int32)), .val (.int (0 : Int32)), .unset, .unset] [(.int (2 : Int32)), (.int p0)])
      refine Go.st (fun _ k => XS.icmpYes X0.here hx rfl (pc0 := 38) (pc' := 49) rfl (hb hby d2_38) rfl (feq (by rw [hv1]; decide : ¬ (p0 = (2 : Int32)))).2 (by decide) (by decide) k) ?_
      show Go _ _ _ _ _ _ _ s₁ (mkF m 49 #[.val (.int p0), .val (.int p1), .val (.int (0 : Int32)), .val (.int (0 : Int32)), .unset, .unset] [])
      refine Go.st (fun _ k => XS.iconst X0.here hx rfl (hb hby d2_49) k) ?_
      show Go _ _ _ _ _ _ _ s₁ (mkF m 50 #[.val (.int p0), .val (.int p1), .val (.int (0 : Int32)), .val (.int (0 : Int32)), .unset, .unset] [(.int (0 : Int32))])
      refine Go.st (fun _ k => XS.istore X0.here hx rfl (hb hby d2_50) rfl (l' := #[.val (.int p0), .val (.int p1), .val (.int (0 : Int32)), .val (.int (0 : Int32)), .val (.int (0 : Int32)), .unset]) rfl k) ?_
      show Go _ _ _ _ _ _ _ s₁ (mkF m 52 #[.val (.int p0), .val (.int p1), .val (.int (0 : Int32)), .val (.int (0 : Int32)), .val (.int (0 : Int32)), .unset] [])
      refine Go.st (fun _ k => XS.iloadN X0.here hx rfl (hb hby d2_52) rfl k) ?_
      show Go _ _ _ _ _ _ _ s₁ (mkF m 53 #[.val (.int p0), .val (.int p1), .val (.int (0 : Int32)), .val (.int (0 : Int32)), .val (.int (0 : Int32)), .unset] [(.int p0)])
      refine Go.st (fun _ k => XS.iconst X0.here hx rfl (hb hby d2_53) k) ?_
      show Go _ _ _ _ _ _ _ s₁ (mkF m 54 #[.val (.int p0), .val (.int p1), .val (.int (0 : Int32)), .val (.int (0 : Int32)), .val (.int (0 : Int32)), .unset] [(.int (3 : Int32)), (.int p0)])
      refine Go.st (fun _ k => XS.icmpNo X0.here hx rfl (hb hby d2_54) rfl (feq (by rw [hv1]; decide : ¬ (p0 = (3 : Int32)))).1 k) ?_
      show Go _ _ _ _ _ _ _ s₁ (mkF m 57 #[.val (.int p0), .val (.int p1), .val (.int (0 : Int32)), .val (.int (0 : Int32)), .val (.int (0 : Int32)), .unset] [])
      refine Go.st (fun _ k => XS.iloadN X0.here hx rfl (hb hby d2_57) rfl k) ?_
      show Go _ _ _ _ _ _ _ s₁ (mkF m 58 #[.val (.int p0), .val (.int p1), .val (.int (0 : Int32)), .val (.int (0 : Int32)), .val (.int (0 : Int32)), .unset] [(.int p1)])
      refine Go.st (fun _ k => XS.iconst X0.here hx rfl (hb hby d2_58) k) ?_
      show Go _ _ _ _ _ _ _ s₁ (mkF m 59 #[.val (.int p0), .val (.int p1), .val (.int (0 : Int32)), .val (.int (0 : Int32)), .val (.int (0 : Int32)), .unset] [(.int (3 : Int32)), (.int p1)])
      refine Go.st (fun _ k => XS.icmpNo X0.here hx rfl (hb hby d2_59) rfl (teq hv3).2 k) ?_
      show Go _ _ _ _ _ _ _ s₁ (mkF m 62 #[.val (.int p0), .val (.int p1), .val (.int (0 : Int32)), .val (.int (0 : Int32)), .val (.int (0 : Int32)), .unset] [])
      refine Go.st (fun _ k => XS.iconst X0.here hx rfl (hb hby d2_62) k) ?_
      show Go _ _ _ _ _ _ _ s₁ (mkF m 63 #[.val (.int p0), .val (.int p1), .val (.int (0 : Int32)), .val (.int (0 : Int32)), .val (.int (0 : Int32)), .unset] [(.int (1 : Int32))])
      refine Go.st (fun _ k => XS.goto X0.here hx rfl (pc0 := 63) (pc' := 67) rfl (hb hby d2_63) (by decide) (by decide) k) ?_
      show Go _ _ _ _ _ _ _ s₁ (mkF m 67 #[.val (.int p0), .val (.int p1), .val (.int (0 : Int32)), .val (.int (0 : Int32)), .val (.int (0 : Int32)), .unset] [(.int (1 : Int32))])
      refine Go.st (fun _ k => XS.istore X0.here hx rfl (hb hby d2_67) rfl (l' := #[.val (.int p0), .val (.int p1), .val (.int (0 : Int32)), .val (.int (0 : Int32)), .val (.int (0 : Int32)), .val (.int (1 : Int32))]) rfl k) ?_
      show Go _ _ _ _ _ _ _ s₁ (mkF m 69 #[.val (.int p0), .val (.int p1), .val (.int (0 : Int32)), .val (.int (0 : Int32)), .val (.int (0 : Int32)), .val (.int (1 : Int32))] [])
      refine Go.st (fun _ k => XS.iloadN X0.here hx rfl (hb hby d2_69) rfl k) ?_
      show Go _ _ _ _ _ _ _ s₁ (mkF m 70 #[.val (.int p0), .val (.int p1), .val (.int (0 : Int32)), .val (.int (0 : Int32)), .val (.int (0 : Int32)), .val (.int (1 : Int32))] [(.int (0 : Int32))])
      refine Go.st (fun _ k => XS.ifNo X0.here hx rfl (hb hby d2_70) rfl ((if0 _ _).trans (teq (by decide : (0 : Int32) = (0 : Int32))).2) k) ?_
      show Go _ _ _ _ _ _ _ s₁ (mkF m 73 #[.val (.int p0), .val (.int p1), .val (.int (0 : Int32)), .val (.int (0 : Int32)), .val (.int (0 : Int32)), .val (.int (1 : Int32))] [])
      refine Go.st (fun _ k => XS.iloadN X0.here hx rfl (hb hby d2_73) rfl k) ?_
      show Go _ _ _ _ _ _ _ s₁ (mkF m 74 #[.val (.int p0), .val (.int p1), .val (.int (0 : Int32)), .val (.int (0 : Int32)), .val (.int (0 : Int32)), .val (.int (1 : Int32))] [(.int (0 : Int32))])
      refine Go.st (fun _ k => XS.ifNo X0.here hx rfl (hb hby d2_74) rfl ((if0 _ _).trans (teq (by decide : (0 : Int32) = (0 : Int32))).2) k) ?_
      show Go _ _ _ _ _ _ _ s₁ (mkF m 77 #[.val (.int p0), .val (.int p1), .val (.int (0 : Int32)), .val (.int (0 : Int32)), .val (.int (0 : Int32)), .val (.int (1 : Int32))] [])
      refine Go.st (fun _ k => XS.iload X0.here hx rfl (hb hby d2_77) rfl k) ?_
      show Go _ _ _ _ _ _ _ s₁ (mkF m 79 #[.val (.int p0), .val (.int p1), .val (.int (0 : Int32)), .val (.int (0 : Int32)), .val (.int (0 : Int32)), .val (.int (1 : Int32))] [(.int (0 : Int32))])
      refine Go.st (fun _ k => XS.ifNo X0.here hx rfl (hb hby d2_79) rfl ((if0 _ _).trans (teq (by decide : (0 : Int32) = (0 : Int32))).2) k) ?_
      show Go _ _ _ _ _ _ _ s₁ (mkF m 82 #[.val (.int p0), .val (.int p1), .val (.int (0 : Int32)), .val (.int (0 : Int32)), .val (.int (0 : Int32)), .val (.int (1 : Int32))] [])
      refine Go.st (fun _ k => XS.iload X0.here hx rfl (hb hby d2_82) rfl k) ?_
      show Go _ _ _ _ _ _ _ s₁ (mkF m 84 #[.val (.int p0), .val (.int p1), .val (.int (0 : Int32)), .val (.int (0 : Int32)), .val (.int (0 : Int32)), .val (.int (1 : Int32))] [(.int (1 : Int32))])
      refine Go.st (fun _ k => XS.ifNo X0.here hx rfl (hb hby d2_84) rfl ((if0 _ _).trans (feq (by decide : ¬ ((1 : Int32) = (0 : Int32)))).1) k) ?_
      show Go _ _ _ _ _ _ _ s₁ (mkF m 87 #[.val (.int p0), .val (.int p1), .val (.int (0 : Int32)), .val (.int (0 : Int32)), .val (.int (0 : Int32)), .val (.int (1 : Int32))] [])
      refine Go.st (fun _ k => XS.iconst X0.here hx rfl (hb hby d2_87) k) ?_
      show Go _ _ _ _ _ _ _ s₁ (mkF m 88 #[.val (.int p0), .val (.int p1), .val (.int (0 : Int32)), .val (.int (0 : Int32)), .val (.int (0 : Int32)), .val (.int (1 : Int32))] [(.int (1 : Int32))])
      refine Go.st (fun _ k => XS.goto X0.here hx rfl (pc0 := 88) (pc' := 92) rfl (hb hby d2_88) (by decide) (by decide) k) ?_
      show Go _ _ _ _ _ _ _ s₁ (mkF m 92 #[.val (.int p0), .val (.int p1), .val (.int (0 : Int32)), .val (.int (0 : Int32)), .val (.int (0 : Int32)), .val (.int (1 : Int32))] [(.int (1 : Int32))])
      refine Go.ret X0 hlk (v := some (.int (1 : Int32))) (fun h => by rw [hret] at h; cases h) (fun fs hr => retN X0 hx (t := .boolean) hret (by simp) (hb hby d2_92) hr) ?_ (by decide) (by decide)
      show Q2 Z p0 p1 h0 n0 (some (.int (1 : Int32))) s₁.heap _
      rw [e0]
      refine ⟨?_, N0, rfl⟩
      unfold val_2
      rw [if_neg (by rw [hv1]; decide : ¬ (p0 = (0 : Int32))), if_pos hv1, if_neg (by rw [hv3]; decide : ¬ (p1 = (0 : Int32))), if_neg (by rw [hv3]; decide : ¬ (p1 = (1 : Int32))), if_neg (by rw [hv3]; decide : ¬ (p1 = (2 : Int32)))]
  · rcases id V_p1 with hv4 | hv4 | hv4 | hv4
    · show Go _ _ _ _ _ _ _ s₁ (mkF m 0 #[.val (.int p0), .val (.int p1), .unset, .unset, .unset, .unset] [])
      refine Go.st (fun _ k => XS.iloadN X0.here hx rfl (hb hby d2_0) rfl k) ?_
      show Go _ _ _ _ _ _ _ s₁ (mkF m 1 #[.val (.int p0), .val (.int p1), .unset, .unset, .unset, .unset] [(.int p0)])
      refine Go.st (fun _ k => XS.iloadN X0.here hx rfl (hb hby d2_1) rfl k) ?_
      show Go _ _ _ _ _ _ _ s₁ (mkF m 2 #[.val (.int p0), .val (.int p1), .unset, .unset, .unset, .unset] [(.int p1), (.int p0)])
      refine Go.st (fun _ k => XS.icmpYes X0.here hx rfl (pc0 := 2) (pc' := 9) rfl (hb hby d2_2) rfl (feq (by rw [hv1, hv4] <;> decide +kernel : ¬ (p0 = p1))).2 (by decide) (by decide) k) ?_
      show Go _ _ _ _ _ _ _ s₁ (mkF m 9 #[.val (.int p0), .val (.int p1), .unset, .unset, .unset, .unset] [])
      refine Go.st (fun _ k => XS.iconst X0.here hx rfl (hb hby d2_9) k) ?_
      show Go _ _ _ _ _ _ _ s₁ (mkF m 10 #[.val (.int p0), .val (.int p1), .unset, .unset, .unset, .unset] [(.int (0 : Int32))])
      refine Go.st (fun _ k => XS.istoreN X0.here hx rfl (hb hby d2_10) rfl (l' := #[.val (.int p0), .val (.int p1), .val (.int (0 : Int32)), .unset, .unset, .unset]) rfl k) ?_
      show Go _ _ _ _ _ _ _ s₁ (mkF m 11 #[.val (.int p0), .val (.int p1), .val (.int (0 : Int32)), .unset, .unset, .unset] [])
      refine Go.st (fun _ k => XS.iloadN X0.here hx rfl (hb hby d2_11) rfl k) ?_
      show Go _ _ _ _ _ _ _ s₁ (mkF m 12 #[.val (.int p0), .val (.int p1), .val (.int (0 : Int32)), .unset, .unset, .unset] [(.int p0)])
      refine Go.st (fun _ k => XS.iconst X0.here hx rfl (hb hby d2_12) k) ?_
      show Go _ _ _ _ _ _ _ s₁ (mkF m 13 #[.val (.int p0), .val (.int p1), .val (.int (0 : Int32)), .unset, .unset, .unset] [(.int (1 : Int32)), (.int p0)])
      refine Go.st (fun _ k => XS.icmpYes X0.here hx rfl (pc0 := 13) (pc' := 25) rfl (hb hby d2_13) rfl (tlt (by rw [hv1] <;> decide +kernel : (1 : Int32) < p0)).2.2.1 (by decide) (by decide) k) ?_
      show Go _ _ _ _ _ _ _ s₁ (mkF m 25 #[.val (.int p0), .val (.int p1), .val (.int (0 : Int32)), .unset, .unset, .unset] [])
      refine Go.st (fun _ k => XS.iconst X0.here hx rfl (hb hby d2_25) k) ?_
      show Go _ _ _ _ _ _ _ s₁ (mkF m 26 #[.val (.int p0), .val (.int p1), .val (.int (0 : Int32)), .unset, .unset, .unset] [(.int (0 : Int32))])
      refine Go.st (fun _ k => XS.istoreN X0.here hx rfl (hb hby d2_26) rfl (l' := #[.val (.int p0), .val (.int p1), .val (.int (0 : Int32)), .val (.int (0 : Int32)), .unset, .unset]) rfl k) ?_
      show Go _ _ _ _ _ _ _ s₁ (mkF m 27 #[.val (.int p0), .val (.int p1), .val (.int (0 : Int32)), .val (.int (0 : Int32)), .unset, .unset] [])
      refine Go.st (fun _ k => XS.iloadN X0.here hx rfl (hb hby d2_27) rfl k) ?_
      show Go _ _ _ _ _ _ _ s₁ (mkF m 28 #[.val (.int p0), .val (.int p1), .val (.int (0 : Int32)), .val (.int (0 : Int32)), .unset, .unset] [(.int p0)])
      refine Go.st (fun _ k => XS.ifYes X0.here hx rfl (pc0 := 28) (pc' := 36) rfl (hb hby d2_28) rfl ((if0 _ _).trans (feq (by rw [hv1]; decide : ¬ (p0 = (0 : Int32)))).2) (by decide) (by decide) k) ?_
      show Go _ _ _ _ _ _ _ s₁ (mkF m 36 #[.val (.int p0), .val (.int p1), .val (.int (0 : Int32)), .val (.int (0 : Int32)), .unset, .unset] [])
      refine Go.st (fun _ k => XS.iloadN X0.here hx rfl (hb hby d2_36) rfl k) ?_
      show Go _ _ _ _ _ _ _ s₁ (mkF m 37 #[.val (.int p0), .val (.int p1), .val (.int (0 : Int32)), .val (.int (0 : Int32)), .unset, .unset] [(.int p0)])
      refine Go.st (fun _ k => XS.iconst X0.here hx rfl (hb hby d2_37) k) ?_
      show Go _ _ _ _ _ _ _ s₁ (mkF m 38 #[.val (.int p0), .val (.int p1), .val (.int (0 : Int32)), .val (.int (0 : Int32)), .unset, .unset] [(.int (2 : Int32)), (.int p0)])
      refine Go.st (fun _ k => XS.icmpNo X0.here hx rfl (hb hby d2_38) rfl (teq hv1).2 k) ?_
      show Go _ _ _ _ _ _ _ s₁ (mkF m 41 #[.val (.int p0), .val (.int p1), .val (.int (0 : Int32)), .val (.int (0 : Int32)), .unset, .unset] [])
      refine Go.st (fun _ k => XS.iloadN X0.here hx rfl (hb hby d2_41) rfl k) ?_
      show Go _ _ _ _ _ _ _ s₁ (mkF m 42 #[.val (.int p0), .val (.int p1), .val (.int (0 : Int32)), .val (.int (0 : Int32)), .unset, .unset] [(.int p1)])
      refine Go.st (fun _ k => XS.ifNo X0.here hx rfl (hb hby d2_42) rfl ((if0 _ _).trans (teq hv4).2) k) ?_
      show Go _ _ _ _ _ _ _ s₁ (mkF m 45 #[.val (.int p0), .val (.int p1), .val (.int (0 : Int32)), .val (.int (0 : Int32)), .unset, .unset] [])
      refine Go.st (fun _ k => XS.iconst X0.here hx rfl (hb hby d2_45) k) ?_
      show Go _ _ _ _ _ _ _ s₁ (mkF m 46 #[.val (.int p0), .val (.int p1), .val (.int (0 : Int32)), .val (.int (0 : Int32)), .unset, .unset] [(.int (1 : Int32))])
      refine Go.st (fun _ k => XS.goto X0.here hx rfl (pc0 := 46) (pc' := 50) rfl (hb hby d2_46) (by decide) (by decide) k) ?_
      show Go _ _ _ _ _ _ _ s₁ (mkF m 50 #[.val (.int p0), .val (.int p1), .val (.int (0 : Int32)), .val (.int (0 : Int32)), .unset, .unset] [(.int (1 : Int32))])
      refine Go.st (fun _ k => XS.istore X0.here hx rfl (hb hby d2_50) rfl (l' := #[.val (.int p0), .val (.int p1), .val (.int (0 : Int32)), .val (.int (0 : Int32)), .val (.int (1 : Int32)), .unset]) rfl k) ?_
      show Go _ _ _ _ _ _ _ s₁ (mkF m 52 #[.val (.int p0), .val (.int p1), .val (.int (0 : Int32)), .val (.int (0 : Int32)), .val (.int (1 : Int32)), .unset] [])
      refine Go.st (fun _ k => XS.iloadN X0.here hx rfl (hb hby d2_52) rfl k) ?_
      show Go _ _ _ _ _ _ _ s₁ (mkF m 53 #[.val (.int p0), .val (.int p1), .val (.int (0 : Int32)), .val (.int (0 : Int32)), .val (.int (1 : Int32)), .unset] [(.int p0)])
      refine Go.st (fun _ k => XS.iconst X0.here hx rfl (hb hby d2_53) k) ?_
      show Go _ _ _ _ _ _ _ s₁ (mkF m 54 #[.val (.int p0), .val (.int p1), .val (.int (0 : Int32)), .val (.int (0 : Int32)), .val (.int (1 : Int32)), .unset] [(.int (3 : Int32)), (.int p0)])
      refine Go.st (fun _ k => XS.icmpNo X0.here hx rfl (hb hby d2_54) rfl (feq (by rw [hv1]; decide : ¬ (p0 = (3 : Int32)))).1 k) ?_
      show Go _ _ _ _ _ _ _ s₁ (mkF m 57 #[.val (.int p0), .val (.int p1), .val (.int (0 : Int32)), .val (.int (0 : Int32)), .val (.int (1 : Int32)), .unset] [])
      refine Go.st (fun _ k => XS.iloadN X0.here hx rfl (hb hby d2_57) rfl k) ?_
      show Go _ _ _ _ _ _ _ s₁ (mkF m 58 #[.val (.int p0), .val (.int p1), .val (.int (0 : Int32)), .val (.int (0 : Int32)), .val (.int (1 : Int32)), .unset] [(.int p1)])
      refine Go.st (fun _ k => XS.iconst X0.here hx rfl (hb hby d2_58) k) ?_
      show Go _ _ _ _ _ _ _ s₁ (mkF m 59 #[.val (.int p0), .val (.int p1), .val (.int (0 : Int32)), .val (.int (0 : Int32)), .val (.int (1 : Int32)), .unset] [(.int (3 : Int32)), (.int p1)])
      refine Go.st (fun _ k => XS.icmpYes X0.here hx rfl (pc0 := 59) (pc' := 66) rfl (hb hby d2_59) rfl (feq (by rw [hv4]; decide : ¬ (p1 = (3 : Int32)))).2 (by decide) (by decide) k) ?_
      show Go _ _ _ _ _ _ _ s₁ (mkF m 66 #[.val (.int p0), .val (.int p1), .val (.int (0 : Int32)), .val (.int (0 : Int32)), .val (.int (1 : Int32)), .unset] [])
      refine Go.st (fun _ k => XS.iconst X0.here hx rfl (hb hby d2_66) k) ?_
      show Go _ _ _ _ _ _ _ s₁ (mkF m 67 #[.val (.int p0), .val (.int p1), .val (.int (0 : Int32)), .val (.int (0 : Int32)), .val (.int (1 : Int32)), .unset] [(.int (0 : Int32))])
      refine Go.st (fun _ k => XS.istore X0.here hx rfl (hb hby d2_67) rfl (l' := #[.val (.int p0), .val (.int p1), .val (.int (0 : Int32)), .val (.int (0 : Int32)), .val (.int (1 : Int32)), .val (.int (0 : Int32))]) rfl k) ?_
      show Go _ _ _ _ _ _ _ s₁ (mkF m 69 #[.val (.int p0), .val (.int p1), .val (.int (0 : Int32)), .val (.int (0 : Int32)), .val (.int (1 : Int32)), .val (.int (0 : Int32))] [])
      refine Go.st (fun _ k => XS.iloadN X0.here hx rfl (hb hby d2_69) rfl k) ?_
      show Go _ _ _ _ _ _ _ s₁ (mkF m 70 #[.val (.int p0), .val (.int p1), .val (.int (0 : Int32)), .val (.int (0 : Int32)), .val (.int (1 : Int32)), .val (.int (0 : Int32))] [(.int (0 : Int32))])
      refine Go.st (fun _ k => XS.ifNo X0.here hx rfl (hb hby d2_70) rfl ((if0 _ _).trans (teq (by decide : (0 : Int32) = (0 : Int32))).2) k) ?_
      show Go _ _ _ _ _ _ _ s₁ (mkF m 73 #[.val (.int p0), .val (.int p1), .val (.int (0 : Int32)), .val (.int (0 : Int32)), .val (.int (1 : Int32)), .val (.int (0 : Int32))] [])
      refine Go.st (fun _ k => XS.iloadN X0.here hx rfl (hb hby d2_73) rfl k) ?_
      show Go _ _ _ _ _ _ _ s₁ (mkF m 74 #[.val (.int p0), .val (.int p1), .val (.int (0 : Int32)), .val (.int (0 : Int32)), .val (.int (1 : Int32)), .val (.int (0 : Int32))] [(.int (0 : Int32))])
      refine Go.st (fun _ k => XS.ifNo X0.here hx rfl (hb hby d2_74) rfl ((if0 _ _).trans (teq (by decide : (0 : Int32) = (0 : Int32))).2) k) ?_
      show Go _ _ _ _ _ _ _ s₁ (mkF m 77 #[.val (.int p0), .val (.int p1), .val (.int (0 : Int32)), .val (.int (0 : Int32)), .val (.int (1 : Int32)), .val (.int (0 : Int32))] [])
      refine Go.st (fun _ k => XS.iload X0.here hx rfl (hb hby d2_77) rfl k) ?_
      show Go _ _ _ _ _ _ _ s₁ (mkF m 79 #[.val (.int p0), .val (.int p1), .val (.int (0 : Int32)), .val (.int (0 : Int32)), .val (.int (1 : Int32)), .val (.int (0 : Int32))] [(.int (1 : Int32))])
      refine Go.st (fun _ k => XS.ifYes X0.here hx rfl (pc0 := 79) (pc' := 87) rfl (hb hby d2_79) rfl ((if0 _ _).trans (feq (by decide : ¬ ((1 : Int32) = (0 : Int32)))).2) (by decide) (by decide) k) ?_
      show Go _ _ _ _ _ _ _ s₁ (mkF m 87 #[.val (.int p0), .val (.int p1), .val (.int (0 : Int32)), .val (.int (0 : Int32)), .val (.int (1 : Int32)), .val (.int (0 : Int32))] [])
      refine Go.st (fun _ k => XS.iconst X0.here hx rfl (hb hby d2_87) k) ?_
      show Go _ _ _ _ _ _ _ s₁ (mkF m 88 #[.val (.int p0), .val (.int p1), .val (.int (0 : Int32)), .val (.int (0 : Int32)), .val (.int (1 : Int32)), .val (.int (0 : Int32))] [(.int (1 : Int32))])
      refine Go.st (fun _ k => XS.goto X0.here hx rfl (pc0 := 88) (pc' := 92) rfl (hb hby d2_88) (by decide) (by decide) k) ?_
      show Go _ _ _ _ _ _ _ s₁ (mkF m 92 #[.val (.int p0), .val (.int p1), .val (.int (0 : Int32)), .val (.int (0 : Int32)), .val (.int (1 : Int32)), .val (.int (0 : Int32))] [(.int (1 : Int32))])
      refine Go.ret X0 hlk (v := some (.int (1 : Int32))) (fun h => by rw [hret] at h; cases h) (fun fs hr => retN X0 hx (t := .boolean) hret (by simp) (hb hby d2_92) hr) ?_ (by decide) (by decide)
      show Q2 Z p0 p1 h0 n0 (some (.int (1 : Int32))) s₁.heap _
      rw [e0]
      refine ⟨?_, N0, rfl⟩
      unfold val_2
      rw [if_neg (by rw [hv1]; decide : ¬ (p0 = (0 : Int32))), if_neg (by rw [hv1]; decide : ¬ (p0 = (1 : Int32))), if_pos hv1, if_pos hv4]
    · show Go _ _ _ _ _ _ _ s₁ (mkF m 0 #[.val (.int p0), .val (.int p1), .unset, .unset, .unset, .unset] [])
      refine Go.st (fun _ k => XS.iloadN X0.here hx rfl (hb hby d2_0) rfl k) ?_
      show Go _ _ _ _ _ _ _ s₁ (mkF m 1 #[.val (.int p0), .val (.int p1), .unset, .unset, .unset, .unset] [(.int p0)])
      refine Go.st (fun _ k => XS.iloadN X0.here hx rfl (hb hby d2_1) rfl k) ?_
      show Go _ _ _ _ _ _ _ s₁ (mkF m 2 #[.val (.int p0), .val (.int p1), .unset, .unset, .unset, .unset] [(.int p1), (.int p0)])
      refine Go.st (fun _ k => XS.icmpYes X0.here hx rfl (pc0 := 2) (pc' := 9) rfl (hb hby d2_2) rfl (feq (by rw [hv1, hv4] <;> decide +kernel : ¬ (p0 = p1))).2 (by decide) (by decide) k) ?_
      show Go _ _ _ _ _ _ _ s₁ (mkF m 9 #[.val (.int p0), .val (.int p1), .unset, .unset, .unset, .unset] [])
      refine Go.st (fun _ k => XS.iconst X0.here hx rfl (hb hby d2_9) k) ?_
      show Go _ _ _ _ _ _ _ s₁ (mkF m 10 #[.val (.int p0), .val (.int p1), .unset, .unset, .unset, .unset] [(.int (0 : Int32))])
      refine Go.st (fun _ k => XS.istoreN X0.here hx rfl (hb hby d2_10) rfl (l' := #[.val (.int p0), .val (.int p1), .val (.int (0 : Int32)), .unset, .unset, .unset]) rfl k) ?_
      show Go _ _ _ _ _ _ _ s₁ (mkF m 11 #[.val (.int p0), .val (.int p1), .val (.int (0 : Int32)), .unset, .unset, .unset] [])
      refine Go.st (fun _ k => XS.iloadN X0.here hx rfl (hb hby d2_11) rfl k) ?_
      show Go _ _ _ _ _ _ _ s₁ (mkF m 12 #[.val (.int p0), .val (.int p1), .val (.int (0 : Int32)), .unset, .unset, .unset] [(.int p0)])
      refine Go.st (fun _ k => XS.iconst X0.here hx rfl (hb hby d2_12) k) ?_
      show Go _ _ _ _ _ _ _ s₁ (mkF m 13 #[.val (.int p0), .val (.int p1), .val (.int (0 : Int32)), .unset, .unset, .unset] [(.int (1 : Int32)), (.int p0)])
      refine Go.st (fun _ k => XS.icmpYes X0.here hx rfl (pc0 := 13) (pc' := 25) rfl (hb hby d2_13) rfl (tlt (by rw [hv1] <;> decide +kernel : (1 : Int32) < p0)).2.2.1 (by decide) (by decide) k) ?_
      show Go _ _ _ _ _ _ _ s₁ (mkF m 25 #[.val (.int p0), .val (.int p1), .val (.int (0 : Int32)), .unset, .unset, .unset] [])
      refine Go.st (fun _ k => XS.iconst X0.here hx rfl (hb hby d2_25) k) ?_
      show Go _ _ _ _ _ _ _ s₁ (mkF m 26 #[.val (.int p0), .val (.int p1), .val (.int (0 : Int32)), .unset, .unset, .unset] [(.int (0 : Int32))])
      refine Go.st (fun _ k => XS.istoreN X0.here hx rfl (hb hby d2_26) rfl (l' := #[.val (.int p0), .val (.int p1), .val (.int (0 : Int32)), .val (.int (0 : Int32)), .unset, .unset]) rfl k) ?_
      show Go _ _ _ _ _ _ _ s₁ (mkF m 27 #[.val (.int p0), .val (.int p1), .val (.int (0 : Int32)), .val (.int (0 : Int32)), .unset, .unset] [])
      refine Go.st (fun _ k => XS.iloadN X0.here hx rfl (hb hby d2_27) rfl k) ?_
      show Go _ _ _ _ _ _ _ s₁ (mkF m 28 #[.val (.int p0), .val (.int p1), .val (.int (0 : Int32)), .val (.int (0 : Int32)), .unset, .unset] [(.int p0)])
      refine Go.st (fun _ k => XS.ifYes X0.here hx rfl (pc0 := 28) (pc' := 36) rfl (hb hby d2_28) rfl ((if0 _ _).trans (feq (by rw [hv1]; decide : ¬ (p0 = (0 : Int32)))).2) (by decide) (by decide) k) ?_
      show Go _ _ _ _ _ _ _ s₁ (mkF m 36 #[.val (.int p0), .val (.int p1), .val (.int (0 : Int32)), .val (.int (0 : Int32)), .unset, .unset] [])
      refine Go.st (fun _ k => XS.iloadN X0.here hx rfl (hb hby d2_36) rfl k) ?_
      show Go _ _ _ _ _ _ _ s₁ (mkF m 37 #[.val (.int p0), .val (.int p1), .val (.int (0 : Int32)), .val (.int (0 : Int32)), .unset, .unset] [(.int p0)])
      refine Go.st (fun _ k => XS.iconst X0.here hx rfl (hb hby d2_37) k) ?_
      show Go _ _ _ _ _ _ _ s₁ (mkF m 38 #[.val (.int p0), .val (.int p1), .val (.int (0 : Int32)), .val (.int (0 : Int32)), .unset, .unset] [(.int (2 : Int32)), (.int p0)])
      refine Go.st (fun _ k => XS.icmpNo X0.here hx rfl (hb hby d2_38) rfl (teq hv1).2 k) ?_
      show Go _ _ _ _ _ _ _ s₁ (mkF m 41 #[.val (.int p0), .val (.int p1), .val (.int (0 : Int32)), .val (.int (0 : Int32)), .unset, .unset] [])
      refine Go.st (fun _ k => XS.iloadN X0.here hx rfl (hb hby d2_41) rfl k) ?_
      show Go _ _ _ _ _ _ _ s₁ (mkF m 42 #[.val (.int p0), .val (.int p1), .val (.int (0 : Int32)), .val (.int (0 : Int32)), .unset, .unset] [(.int p1)])
      refine Go.st (fun _ k => XS.ifYes X0.here hx rfl (pc0 := 42) (pc' := 49) rfl (hb hby d2_42) rfl ((if0 _ _).trans (feq (by rw [hv4]; decide : ¬ (p1 = (0 : Int32)))).2) (by decide) (by decide) k) ?_
      show Go _ _ _ _ _ _ _ s₁ (mkF m 49 #[.val (.int p0), .val (.int p1), .val (.int (0 : Int32)), .val (.int (0 : Int32)), .unset, .unset] [])
      refine Go.st (fun _ k => XS.iconst X0.here hx rfl (hb hby d2_49) k) ?_
      show Go _ _ _ _ _ _ _ s₁ (mkF m 50 #[.val (.int p0), .val (.int p1), .val (.int (0 : Int32)), .val (.int (0 : Int32)), .unset, .unset] [(.int (0 : Int32))])
      refine Go.st (fun _ k => XS.istore X0.here hx rfl (hb hby d2_50) rfl (l' := #[.val (.int p0), .val (.int p1), .val (.int (0 : Int32)), .val (.int (0 : Int32)), .val (.int (0 : Int32)), .unset]) rfl k) ?_
      show Go _ _ _ _ _ _ _ s₁ (mkF m 52 #[.val (.int p0), .val (.int p1), .val (.int (0 : Int32)), .val (.int (0 : Int32)), .val (.int (0 : Int32)), .unset] [])
      refine Go.st (fun _ k => XS.iloadN X0.here hx rfl (hb hby d2_52) rfl k) ?_
      show Go _ _ _ _ _ _ _ s₁ (mkF m 53 #[.val (.int p0), .val (.int p1), .val (.int (0 : Int32)), .val (.int (0 : Int32)), .val (.int (0 : Int32)), .unset] [(.int p0)])
      refine Go.st (fun _ k => XS.iconst X0.here hx rfl (hb hby d2_53) k) ?_
      show Go _ _ _ _ _ _ _ s₁ (mkF m 54 #[.val (.int p0), .val (.int p1), .val (.int (0 : Int32)), .val (.int (0 : Int32)), .val (.int (0 : Int32)), .unset] [(.int (3 : Int32)), (.int p0)])
      refine Go.st (fun _ k => XS.icmpNo X0.here hx rfl (hb hby d2_54) rfl (feq (by rw [hv1]; decide : ¬ (p0 = (3 : Int32)))).1 k) ?_
      show Go _ _ _ _ _ _ _ s₁ (mkF m 57 #[.val (.int p0), .val (.int p1), .val (.int (0 : Int32)), .val (.int (0 : Int32)), .val (.int (0 : Int32)), .unset] [])
      refine Go.st (fun _ k => XS.iloadN X0.here hx rfl (hb hby d2_57) rfl k) ?_
      show Go _ _ _ _ _ _ _ s₁ (mkF m 58 #[.val (.int p0), .val (.int p1), .val (.int (0 : Int32)), .val (.int (0 : Int32)), .val (.int (0 : Int32)), .unset] [(.int p1)])
      refine Go.st (fun _ k => XS.iconst X0.here hx rfl (hb hby d2_58) k) ?_
      show Go _ _ _ _ _ _ _ s₁ (mkF m 59 #[.val (.int p0), .val (.int p1), .val (.int (0 : Int32)), .val (.int (0 : Int32)), .val (.int (0 : Int32)), .unset] [(.int (3 : Int32)), (.int p1)])
      refine Go.st (fun _ k => XS.icmpYes X0.here hx rfl (pc0 := 59) (pc' := 66) rfl (hb hby d2_59) rfl (feq (by rw [hv4]; decide : ¬ (p1 = (3 : Int32)))).2 (by decide) (by decide) k) ?_
      show Go _ _ _ _ _ _ _ s₁ (mkF m 66 #[.val (.int p0), .val (.int p1), .val (.int (0 : Int32)), .val (.int (0 : Int32)), .val (.int (0 : Int32)), .unset] [])
      refine Go.st (fun _ k => XS.iconst X0.here hx rfl (hb hby d2_66) k) ?_
      show Go _ _ _ _ _ _ _ s₁ (mkF m 67 #[.val (.int p0), .val (.int p1), .val (.int (0 : Int32)), .val (.int (0 : Int32)), .val (.int (0 : Int32)), .unset] [(.int (0 : Int32))])
      refine Go.st (fun _ k => XS.istore X0.here hx rfl (hb hby d2_67) rfl (l' := #[.val (.int p0), .val (.int p1), .val (.int (0 : Int32)), .val (.int (0 : Int32)), .val (.int (0 : Int32)), .val (.int (0 : Int32))]) rfl k) ?_
      show Go _ _ _ _ _ _ _ s₁ (mkF m 69 #[.val (.int p0), .val (.int p1), .val (.int (0 : Int32)), .val (.int (0 : Int32)), .val (.int (0 : Int32)), .val (.int (0 : Int32))] [])
      refine Go.st (fun _ k => XS.iloadN X0.here hx rfl (hb hby d2_69) rfl k) ?_
      show Go _ _ _ _ _ _ _ s₁ (mkF m 70 #[.val (.int p0), .val (.int p1), .val (.int (0 : Int32)), .val (.int (0 : Int32)), .val (.int (0 : Int32)), .val (.int (0 : Int32))] [(.int (0 : Int32))])
      refine Go.st (fun _ k => XS.ifNo X0.here hx rfl (hb hby d2_70) rfl ((if0 _ _).trans (teq (by decide : (0 : Int32) = (0 : Int32))).2) k) ?_
      show Go _ _ _ _ _ _ _ s₁ (mkF m 73 #[.val (.int p0), .val (.int p1), .val (.int (0 : Int32)), .val (.int (0 : Int32)), .val (.int (0 : Int32)), .val (.int (0 : Int32))] [])
      refine Go.st (fun _ k => XS.iloadN X0.here hx rfl (hb hby d2_73) rfl k) ?_
      show Go _ _ _ _ _ _ _ s₁ (mkF m 74 #[.val (.int p0), .val (.int p1), .val (.int (0 : Int32)), .val (.int (0 : Int32)), .val (.int (0 : Int32)), .val (.int (0 : Int32))] [(.int (0 : Int32))])
      refine Go.st (fun _ k => XS.ifNo X0.here hx rfl (hb hby d2_74) rfl ((if0 _ _).trans (teq (by decide : (0 : Int32) = (0 : Int32))).2) k) ?_
      show Go _ _ _ _ _ _ _ s₁ (mkF m 77 #[.val (.int p0), .val (.int p1), .val (.int (0 : Int32)), .val (.int (0 : Int32)), .val (.int (0 : Int32)), .val (.int (0 : Int32))] [])
      refine Go.st (fun _ k => XS.iload X0.here hx rfl (hb hby d2_77) rfl k) ?_
      show Go _ _ _ _ _ _ _ s₁ (mkF m 79 #[.val (.int p0), .val (.int p1), .val (.int (0 : Int32)), .val (.int (0 : Int32)), .val (.int (0 : Int32)), .val (.int (0 : Int32))] [(.int (0 : Int32))])
      refine Go.st (fun _ k => XS.ifNo X0.here hx rfl (hb hby d2_79) rfl ((if0 _ _).trans (teq (by decide : (0 : Int32) = (0 : Int32))).2) k) ?_
      show Go _ _ _ _ _ _ _ s₁ (mkF m 82 #[.val (.int p0), .val (.int p1), .val (.int (0 : Int32)), .val (.int (0 : Int32)), .val (.int (0 : Int32)), .val (.int (0 : Int32))] [])
      refine Go.st (fun _ k => XS.iload X0.here hx rfl (hb hby d2_82) rfl k) ?_
      show Go _ _ _ _ _ _ _ s₁ (mkF m 84 #[.val (.int p0), .val (.int p1), .val (.int (0 : Int32)), .val (.int (0 : Int32)), .val (.int (0 : Int32)), .val (.int (0 : Int32))] [(.int (0 : Int32))])
      refine Go.st (fun _ k => XS.ifYes X0.here hx rfl (pc0 := 84) (pc' := 91) rfl (hb hby d2_84) rfl ((if0 _ _).trans (teq (by decide : (0 : Int32) = (0 : Int32))).1) (by decide) (by decide) k) ?_
      show Go _ _ _ _ _ _ _ s₁ (mkF m 91 #[.val (.int p0), .val (.int p1), .val (.int (0 : Int32)), .val (.int (0 : Int32)), .val (.int (0 : Int32)), .val (.int (0 : Int32))] [])
      refine Go.st (fun _ k => XS.iconst X0.here hx rfl (hb hby d2_91) k) ?_
      show Go _ _ _ _ _ _ _ s₁ (mkF m 92 #[.val (.int p0), .val (.int p1), .val (.int (0 : Int32)), .val (.int (0 : Int32)), .val (.int (0 : Int32)), .val (.int (0 : Int32))] [(.int (0 : Int32))])
      refine Go.ret X0 hlk (v := some (.int (0 : Int32))) (fun h => by rw [hret] at h; cases h) (fun fs hr => retN X0 hx (t := .boolean) hret (by simp) (hb hby d2_92) hr) ?_ (by decide) (by decide)
      show Q2 Z p0 p1 h0 n0 (some (.int (0 : Int32))) s₁.heap _
      rw [e0]
      refine ⟨?_, N0, rfl⟩
      unfold val_2
      rw [if_neg (by rw [hv1]; decide : ¬ (p0 = (0 : Int32))), if_neg (by rw [hv1]; decide : ¬ (p0 = (1 : Int32))), if_pos hv1, if_neg (by rw [hv4]; decide : ¬ (p1 = (0 : Int32))), if_pos hv4]
    · show Go _ _ _ _ _ _ _ s₁ (mkF m 0 #[.val (.int p0), .val (.int p1), .unset, .unset, .unset, .unset] [])
      refine Go.st (fun _ k => XS.iloadN X0.here hx rfl (hb hby d2_0) rfl k) ?_
      show Go _ _ _ _ _ _ _ s₁ (mkF m 1 #[.val (.int p0), .val (.int p1), .unset, .unset, .unset, .unset] [(.int p0)])
      refine Go.st (fun _ k => XS.iloadN X0.here hx rfl (hb hby d2_1) rfl k) ?_
      show Go _ _ _ _ _ _ _ s₁ (mkF m 2 #[.val (.int p0), .val (.int p1), .unset, .unset, .unset, .unset] [(.int p1), (.int p0)])
      refine Go.st (fun _ k => XS.icmpNo X0.here hx rfl (hb hby d2_2) rfl (teq (by rw [hv1, hv4] <;> decide +kernel : p0 = p1)).2 k) ?_
      show Go _ _ _ _ _ _ _ s₁ (mkF m 5 #[.val (.int p0), .val (.int p1), .unset, .unset, .unset, .unset] [])
      refine Go.st (fun _ k => XS.iconst X0.here hx rfl (hb hby d2_5) k) ?_
      show Go _ _ _ _ _ _ _ s₁ (mkF m 6 #[.val (.int p0), .val (.int p1), .unset, .unset, .unset, .unset] [(.int (1 : Int32))])
      refine Go.st (fun _ k => XS.goto X0.here hx rfl (pc0 := 6) (pc' := 10) rfl (hb hby d2_6) (by decide) (by decide) k) ?_
      show Go _ _ _ _ _ _ _ s₁ (mkF m 10 #[.val (.int p0), .val (.int p1), .unset, .unset, .unset, .unset] [(.int (1 : Int32))])
      refine Go.st (fun _ k => XS.istoreN X0.here hx rfl (hb hby d2_10) rfl (l' := #[.val (.int p0), .val (.int p1), .val (.int (1 : Int32)), .unset, .unset, .unset]) rfl k) ?_
      show Go _ _ _ _ _ _ _ s₁ (mkF m 11 #[.val (.int p0), .val (.int p1), .val (.int (1 : Int32)), .unset, .unset, .unset] [])
      refine Go.st (fun _ k => XS.iloadN X0.here hx rfl (hb hby d2_11) rfl k) ?_
      show Go _ _ _ _ _ _ _ s₁ (mkF m 12 #[.val (.int p0), .val (.int p1), .val (.int (1 : Int32)), .unset, .unset, .unset] [(.int p0)])
      refine Go.st (fun _ k => XS.iconst X0.here hx rfl (hb hby d2_12) k) ?_
      show Go _ _ _ _ _ _ _ s₁ (mkF m 13 #[.val (.int p0), .val (.int p1), .val (.int (1 : Int32)), .unset, .unset, .unset] [(.int (1 : Int32)), (.int p0)])
      refine Go.st (fun _ k => XS.icmpYes X0.here hx rfl (pc0 := 13) (pc' := 25) rfl (hb hby d2_13) rfl (tlt (by rw [hv1] <;> decide +kernel : (1 : Int32) < p0)).2.2.1 (by decide) (by decide) k) ?_
      show Go _ _ _ _ _ _ _ s₁ (mkF m 25 #[.val (.int p0), .val (.int p1), .val (.int (1 : Int32)), .unset, .unset, .unset] [])
      refine Go.st (fun _ k => XS.iconst X0.here hx rfl (hb hby d2_25) k) ?_
      show Go _ _ _ _ _ _ _ s₁ (mkF m 26 #[.val (.int p0), .val (.int p1), .val (.int (1 : Int32)), .unset, .unset, .unset] [(.int (0 : Int32))])
      refine Go.st (fun _ k => XS.istoreN X0.here hx rfl (hb hby d2_26) rfl (l' := #[.val (.int p0), .val (.int p1), .val (.int (1 : Int32)), .val (.int (0 : Int32)), .unset, .unset]) rfl k) ?_
      show Go _ _ _ _ _ _ _ s₁ (mkF m 27 #[.val (.int p0), .val (.int p1), .val (.int (1 : Int32)), .val (.int (0 : Int32)), .unset, .unset] [])
      refine Go.st (fun _ k => XS.iloadN X0.here hx rfl (hb hby d2_27) rfl k) ?_
      show Go _ _ _ _ _ _ _ s₁ (mkF m 28 #[.val (.int p0), .val (.int p1), .val (.int (1 : Int32)), .val (.int (0 : Int32)), .unset, .unset] [(.int p0)])
      refine Go.st (fun _ k => XS.ifYes X0.here hx rfl (pc0 := 28) (pc' := 36) rfl (hb hby d2_28) rfl ((if0 _ _).trans (feq (by rw [hv1]; decide : ¬ (p0 = (0 : Int32)))).2) (by decide) (by decide) k) ?_
      show Go _ _ _ _ _ _ _ s₁ (mkF m 36 #[.val (.int p0), .val (.int p1), .val (.int (1 : Int32)), .val (.int (0 : Int32)), .unset, .unset] [])
      refine Go.st (fun _ k => XS.iloadN X0.here hx rfl (hb hby d2_36) rfl k) ?_
      show Go _ _ _ _ _ _ _ s₁ (mkF m 37 #[.val (.int p0), .val (.int p1), .val (.int (1 : Int32)), .val (.int (0 : Int32)), .unset, .unset] [(.int p0)])
      refine Go.st (fun _ k => XS.iconst X0.here hx rfl (hb hby d2_37) k) ?_
      show Go _ _ _ _ _ _ _ s₁ (mkF m 38 #[.val (.int p0), .val (.int p1), .val (.int (1 : Int32)), .val (.int (0 : Int32)), .unset, .unset] [(.int (2 : Int32)), (.int p0)])
      refine Go.st (fun _ k => XS.icmpNo X0.here hx rfl (hb hby d2_38) rfl (teq hv1).2 k) ?_
      show Go _ _ _ _ _ _ _ s₁ (mkF m 41 #[.val (.int p0), .val (.int p1), .val (.int (1 : Int32)), .val (.int (0 : Int32)), .unset, .unset] [])
      refine Go.st (fun _ k => XS.iloadN X0.here hx rfl (hb hby d2_41) rfl k) ?_
      show Go _ _ _ _ _ _ _ s₁ (mkF m 42 #[.val (.int p0), .val (.int p1), .val (.int (1 : Int32)), .val (.int (0 : Int32)), .unset, .unset] [(.int p1)])
      refine Go.st (fun _ k => XS.ifYes X0.here hx rfl (pc0 := 42) (pc' := 49) rfl (hb hby d2_42) rfl ((if0 _ _).trans (feq (by rw [hv4]; decide : ¬ (p1 = (0 : Int32)))).2) (by decide) (by decide) k) ?_
      show Go _ _ _ _ _ _ _ s₁ (mkF m 49 #[.val (.int p0), .val (.int p1), .val (.int (1 : Int32)), .val (.int (0 : Int32)), .unset, .unset] [])
      refine Go.st (fun _ k => XS.iconst X0.here hx rfl (hb hby d2_49) k) ?_
      show Go _ _ _ _ _ _ _ s₁ (mkF m 50 #[.val (.int p0), .val (.int p1), .val (.int (1 : Int32)), .val (.int (0 : Int32)), .unset, .unset] [(.int (0 : Int32))])
      refine Go.st (fun _ k => XS.istore X0.here hx rfl (hb hby d2_50) rfl (l' := #[.val (.int p0), .val (.int p1), .val (.int (1 : Int32)), .val (.int (0 : Int32)), .val (.int (0 : Int32)), .unset]) rfl k) ?_
      show Go _ _ _ _ _ _ _ s₁ (mkF m 52 #[.val (.int p0), .val (.int p1), .val (.int (1 : Int32)), .val (.int (0 : Int32)), .val (.int (0 : Int32)), .unset] [])
      refine Go.st (fun _ k => XS.iloadN X0.here hx rfl (hb hby d2_52) rfl k) ?_
      show Go _ _ _ _ _ _ _ s₁ (mkF m 53 #[.val (.int p0), .val (.int p1), .val (.int (1 : Int32)), .val (.int (0 : Int32)), .val (.int (0 : Int32)), .unset] [(.int p0)])
      refine Go.st (fun _ k => XS.iconst X0.here hx rfl (hb hby d2_53) k) ?_
      show Go _ _ _ _ _ _ _ s₁ (mkF m 54 #[.val (.int p0), .val (.int p1), .val (.int (1 : Int32)), .val (.int (0 : Int32)), .val (.int (0 : Int32)), .unset] [(.int (3 : Int32)), (.int p0)])
      refine Go.st (fun _ k => XS.icmpNo X0.here hx rfl (hb hby d2_54) rfl (feq (by rw [hv1]; decide : ¬ (p0 = (3 : Int32)))).1 k) ?_
      show Go _ _ _ _ _ _ _ s₁ (mkF m 57 #[.val (.int p0), .val (.int p1), .val (.int (1 : Int32)), .val (.int (0 : Int32)), .val (.int (0 : Int32)), .unset] [])
      refine Go.st (fun _ k => XS.iloadN X0.here hx rfl (hb hby d2_57) rfl k) ?_
      show Go _ _ _ _ _ _ _ s₁ (mkF m 58 #[.val (.int p0), .val (.int p1), .val (.int (1 : Int32)), .val (.int (0 : Int32)), .val (.int (0 : Int32)), .unset] [(.int p1)])
      refine Go.st (fun _ k => XS.iconst X0.here hx rfl (hb hby d2_58) k) ?_
      show Go _ _ _ _ _ _ _ s₁ (mkF m 59 #[.val (.int p0), .val (.int p1), .val (.int (1 : Int32)), .val (.int (0 : Int32)), .val (.int (0 : Int32)), .unset] [(.int (3 : Int32)), (.int p1)])
      refine Go.st (fun _ k => XS.icmpYes X0.here hx rfl (pc0 := 59) (pc' := 66) rfl (hb hby d2_59) rfl (feq (by rw [hv4]; decide : ¬ (p1 = (3 : Int32)))).2 (by decide) (by decide) k) ?_
      show Go _ _ _ _ _ _ _ s₁ (mkF m 66 #[.val (.int p0), .val (.int p1), .val (.int (1 : Int32)), .val (.int (0 : Int32)), .val (.int (0 : Int32)), .unset] [])
      refine Go.st (fun _ k => XS.iconst X0.here hx rfl (hb hby d2_66) k) ?_
      show Go _ _ _ _ _ _ _ s₁ (mkF m 67 #[.val (.int p0), .val (.int p1), .val (.int (1 : Int32)), .val (.int (0 : Int32)), .val (.int (0 : Int32)), .unset] [(.int (0 : Int32))])
      refine Go.st (fun _ k => XS.istore X0.here hx rfl (hb hby d2_67) rfl (l' := #[.val (.int p0), .val (.int p1), .val (.int (1 : Int32)), .val (.int (0 : Int32)), .val (.int (0 : Int32)), .val (.int (0 : Int32))]) rfl k) ?_
      show Go _ _ _ _ _ _ _ s₁ (mkF m 69 #[.val (.int p0), .val (.int p1), .val (.int (1 : Int32)), .val (.int (0 : Int32)), .val (.int (0 : Int32)), .val (.int (0 : Int32))] [])
      refine Go.st (fun _ k => XS.iloadN X0.here hx rfl (hb hby d2_69) rfl k) ?_
      show Go _ _ _ _ _ _ _ s₁ (mkF m 70 #[.val (.int p0), .val (.int p1), .val (.int (1 : Int32)), .val (.int (0 : Int32)), .val (.int (0 : Int32)), .val (.int (0 : Int32))] [(.int (1 : Int32))])
      refine Go.st (fun _ k => XS.ifYes X0.here hx rfl (pc0 := 70) (pc' := 87) rfl (hb hby d2_70) rfl ((if0 _ _).trans (feq (by decide : ¬ ((1 : Int32) = (0 : Int32)))).2) (by decide) (by decide) k) ?_
      show Go _ _ _ _ _ _ _ s₁ (mkF m 87 #[.val (.int p0), .val (.int p1), .val (.int (1 : Int32)), .val (.int (0 : Int32)), .val (.int (0 : Int32)), .val (.int (0 : Int32))] [])
      refine Go.st (fun _ k => XS.iconst X0.here hx rfl (hb hby d2_87) k) ?_
      show Go _ _ _ _ _ _ _ s₁ (mkF m 88 #[.val (.int p0), .val (.int p1), .val (.int (1 : Int32)), .val (.int (0 : Int32)), .val (.int (0 : Int32)), .val (.int (0 : Int32))] [(.int (1 : Int32))])
      refine Go.st (fun _ k => XS.goto X0.here hx rfl (pc0 := 88) (pc' := 92) rfl (hb hby d2_88) (by decide) (by decide) k) ?_
      show Go _ _ _ _ _ _ _ s₁ (mkF m 92 #[.val (.int p0), .val (.int p1), .val (.int (1 : Int32)), .val (.int (0 : Int32)), .val (.int (0 : Int32)), .val (.int (0 : Int32))] [(.int (1 : Int32))])
      refine Go.ret X0 hlk (v := some (.int (1 : Int32))) (fun h => by rw [hret] at h; cases h) (fun fs hr => retN X0 hx (t := .boolean) hret (by simp) (hb hby d2_92) hr) ?_ (by decide) (by decide)
      show Q2 Z p0 p1 h0 n0 (some (.int (1 : Int32))) s₁.heap _
      rw [e0]
      refine ⟨?_, N0, rfl⟩
      unfold val_2
      rw [if_neg (by rw [hv1]; decide : ¬ (p0 = (0 : Int32))), if_neg (by rw [hv1]; decide : ¬ (p0 = (1 : Int32))), if_pos hv1, if_neg (by rw [hv4]; decide : ¬ (p1 = (0 : Int32))), if_neg (by rw [hv4]; decide : ¬ (p1 = (1 : Int32)))]
    · show Go _ _ _ _ _ _ _ s₁ (mkF m 0 #[.val (.int p0), .val (.int p1), .unset, .unset, .unset, .unset] [])
      refine Go.st (fun _ k => XS.iloadN X0.here hx rfl (hb hby d2_0) rfl k) ?_
      show Go _ _ _ _ _ _ _ s₁ (mkF m 1 #[.val (.int p0), .val (.int p1), .unset, .unset, .unset, .unset] [(.int p0)])
      refine Go.st (fun _ k => XS.iloadN X0.here hx rfl (hb hby d2_1) rfl k) ?_
      show Go _ _ _ _ _ _ _ s₁ (mkF m 2 #[.val (.int p0), .val (.int p1), .unset, .unset, .unset, .unset] [(.int p1), (.int p0)])
      refine Go.st (fun _ k => XS.icmpYes X0.here hx rfl (pc0 := 2) (pc' := 9) rfl (hb hby d2_2) rfl (feq (by rw [hv1, hv4] <;> decide +kernel : ¬ (p0 = p1))).2 (by decide) (by decide) k) ?_
      show Go _ _ _ _ _ _ _ s₁ (mkF m 9 #[.val (.int p0), .val (.int p1), .unset, .unset, .unset, .unset] [])
      refine Go.st (fun _ k => XS.iconst X0.here hx rfl (hb hby d2_9) k) ?_
      show Go _ _ _ _ _ _ _ s₁ (mkF m 10 #[.val (.int p0), .val (.int p1), .unset, .unset, .unset, .unset] [(.int (0 : Int32))])
      refine Go.st (fun _ k => XS.istoreN X0.here hx rfl (hb hby d2_10) rfl (l' := #[.val (.int p0), .val (.int p1), .val (.int (0 : Int32)), .unset, .unset, .unset]) rfl k) ?_
      show Go _ _ _ _ _ _ _ s₁ (mkF m 11 #[.val (.int p0), .val (.int p1), .val (.int (0 : Int32)), .unset, .unset, .unset] [])
      refine Go.st (fun _ k => XS.iloadN X0.here hx rfl (hb hby d2_11) rfl k) ?_
      show Go _ _ _ _ _ _ _ s₁ (mkF m 12 #[.val (.int p0), .val (.int p1), .val (.int (0 : Int32)), .unset, .unset, .unset] [(.int p0)])
      refine Go.st (fun _ k => XS.iconst X0.here hx rfl (hb hby d2_12) k) ?_
      show Go _ _ _ _ _ _ _ s₁ (mkF m 13 #[.val (.int p0), .val (.int p1), .val (.int (0 : Int32)), .unset, .unset, .unset] [(.int (1 : Int32)), (.int p0)])
      refine Go.st (fun _ k => XS.icmpYes X0.here hx rfl (pc0 := 13) (pc' := 25) rfl (hb hby d2_13) rfl (tlt (by rw [hv1] <;> decide +kernel : (1 : Int32) < p0)).2.2.1 (by decide) (by decide) k) ?_
      show Go _ _ _ _ _ _ _ s₁ (mkF m 25 #[.val (.int p0), .val (.int p1), .val (.int (0 : Int32)), .unset, .unset, .unset] [])
      refine Go.st (fun _ k => XS.iconst X0.here hx rfl (hb hby d2_25) k) ?_
      show Go _ _ _ _ _ _ _ s₁ (mkF m 26 #[.val (.int p0), .val (.int p1), .val (.int (0 : Int32)), .unset, .unset, .unset] [(.int (0 : Int32))])
      refine Go.st (fun _ k => XS.istoreN X0.here hx rfl (hb hby d2_26) rfl (l' := #[.val (.int p0), .val (.int p1), .val (.int (0 : Int32)), .val (.int (0 : Int32)), .unset, .unset]) rfl k) ?_
      show Go _ _ _ _ _ _ _ s₁ (mkF m 27 #[.val (.int p0), .val (.int p1), .val (.int (0 : Int32)), .val (.int (0 : Int32)), .unset, .unset] [])
      refine Go.st (fun _ k => XS.iloadN X0.here hx rfl (hb hby d2_27) rfl k) ?_
      show Go _ _ _ _ _ _ _ s₁ (mkF m 28 #[.val (.int p0), .val (.int p1), .val (.int (0 : Int32)), .val (.int (0 : Int32)), .unset, .unset] [(.int p0)])
      refine Go.st (fun _ k => XS.ifYes X0.here hx rfl (pc0 := 28) (pc' := 36) rfl (hb hby d2_28) rfl ((if0 _ _).trans (feq (by rw [hv1]; decide : ¬ (p0 = (0 : Int32)))).2) (by decide) (by decide) k) ?_
      show Go _ _ _ _ _ _ _ s₁ (mkF m 36 #[.val (.int p0), .val (.int p1), .val (.int (0 : Int32)), .val (.int (0 : Int32)), .unset, .unset] [])
      refine Go.st (fun _ k => XS.iloadN X0.here hx rfl (hb hby d2_36) rfl k) ?_
      show Go _ _ _ _ _ _ _ s₁ (mkF m 37 #[.val (.int p0), .val (.int p1), .val (.int (0 : Int32)), .val (.int (0 : Int32)), .unset, .unset] [(.int p0)])
      refine Go.st (fun _ k => XS.iconst X0.here hx rfl (hb hby d2_37) k) ?_
      show Go _ _ _ _ _ _ _ s₁ (mkF m 38 #[.val (.int p0), .val (.int p1), .val (.int (0 : Int32)), .val (.int (0 : Int32)), .unset, .unset] [(.int (2 : Int32)), (.int p0)])
      refine Go.st (fun _ k => XS.icmpNo X0.here hx rfl (hb hby d2_38) rfl (teq hv1).2 k) ?_
      show Go _ _ _ _ _ _ _ s₁ (mkF m 41 #[.val (.int p0), .val (.int p1), .val (.int (0 : Int32)), .val (.int (0 : Int32)), .unset, .unset] [])
      refine Go.st (fun _ k => XS.iloadN X0.here hx rfl (hb hby d2_41) rfl k) ?_
      show Go _ _ _ _ _ _ _ s₁ (mkF m 42 #[.val (.int p0), .val (.int p1), .val (.int (0 : Int32)), .val (.int (0 : Int32)), .unset, .unset] [(.int p1)])
      refine Go.st (fun _ k => XS.ifYes X0.here hx rfl (pc0 := 42) (pc' := 49) rfl (hb hby d2_42) rfl ((if0 _ _).trans (feq (by rw [hv4]; decide : ¬ (p1 = (0 : Int32)))).2) (by decide) (by decide) k) ?_
      show Go _ _ _ _ _ _ _ s₁ (mkF m 49 #[.val (.int p0), .val (.int p1), .val (.int (0 : Int32)), .val (.int (0 : Int32)), .unset, .unset] [])
      refine Go.st (fun _ k => XS.iconst X0.here hx rfl (hb hby d2_49) k) ?_
      show Go _ _ _ _ _ _ _ s₁ (mkF m 50 #[.val (.int p0), .val (.int p1), .val (.int (0 : Int32)), .val (.int (0 : Int32)), .unset, .unset] [(.int (0 : Int32))])
      refine Go.st (fun _ k => XS.istore X0.here hx rfl (hb hby d2_50) rfl (l' := #[.val (.int p0), .val (.int p1), .val (.int (0 : Int32)), .val (.int (0 : Int32)), .val (.int (0 : Int32)), .unset]) rfl k) ?_
      show Go _ _ _ _ _ _ _ s₁ (mkF m 52 #[.val (.int p0), .val (.int p1), .val (.int (0 : Int32)), .val (.int (0 : Int32)), .val (.int (0 : Int32)), .unset] [])
      refine Go.st (fun _ k => XS.iloadN X0.here hx rfl (hb hby d2_52) rfl k) ?_
      show Go _ _ _ _ _ _ _ s₁ (mkF m 53 #[.val (.int p0), .val (.int p1), .val (.int (0 : Int32)), .val (.int (0 : Int32)), .val (.int (0 : Int32)), .unset] [(.int p0)])
      refine Go.st (fun _ k => XS.iconst X0.here hx rfl (hb hby d2_53) k) ?_
      show Go _ _ _ _ _ _ _ s₁ (mkF m 54 #[.val (.int p0), .val (.int p1), .val (.int (0 : Int32)), .val (.int (0 : Int32)), .val (.int (0 : Int32)), .unset] [(.int (3 : Int32)), (.int p0)])
      refine Go.st (fun _ k => XS.icmpNo X0.here hx rfl (hb hby d2_54) rfl (feq (by rw [hv1]; decide : ¬ (p0 = (3 : Int32)))).1 k) ?_
      show Go _ _ _ _ _ _ _ s₁ (mkF m 57 #[.val (.int p0), .val (.int p1), .val (.int (0 : Int32)), .val (.int (0 : Int32)), .val (.int (0 : Int32)), .unset] [])
      refine Go.st (fun _ k => XS.iloadN X0.here hx rfl (hb hby d2_57) rfl k) ?_
      show Go _ _ _ _ _ _ _ s₁ (mkF m 58 #[.val (.int p0), .val (.int p1), .val (.int (0 : Int32)), .val (.int (0 : Int32)), .val (.int (0 : Int32)), .unset] [(.int p1)])
      refine Go.st (fun _ k => XS.iconst X0.here hx rfl (hb hby d2_58) k) ?_
      show Go _ _ _ _ _ _ _ s₁ (mkF m 59 #[.val (.int p0), .val (.int p1), .val (.int (0 : Int32)), .val (.int (0 : Int32)), .val (.int (0 : Int32)), .unset] [(.int (3 : Int32)), (.int p1)])
      refine Go.st (fun _ k => XS.icmpNo X0.here hx rfl (hb hby d2_59) rfl (teq hv4).2 k) ?_
      show Go _ _ _ _ _ _ _ s₁ (mkF m 62 #[.val (.int p0), .val (.int p1), .val (.int (0 : Int32)), .val (.int (0 : Int32)), .val (.int (0 : Int32)), .unset] [])
      refine Go.st (fun _ k => XS.iconst X0.here hx rfl (hb hby d2_62) k) ?_
      show Go _ _ _ _ _ _ _ s₁ (mkF m 63 #[.val (.int p0), .val (.int p1), .val (.int (0 : Int32)), .val (.int (0 : Int32)), .val (.int (0 : Int32)), .unset] [(.int (1 : Int32))])
      refine Go.st (fun _ k => XS.goto X0.here hx rfl (pc0 := 63) (pc' := 67) rfl (hb hby d2_63) (by decide) (by decide) k) ?_
      show Go _ _ _ _ _ _ _ s₁ (mkF m 67 #[.val (.int p0), .val (.int p1), .val (.int (0 : Int32)), .val (.int (0 : Int32)), .val (.int (0 : Int32)), .unset] [(.int (1 : Int32))])
      refine Go.st (fun _ k => XS.istore X0.here hx rfl (hb hby d2_67) rfl (l' := #[.val (.int p0), .val (.int p1), .val (.int (0 : Int32)), .val (.int (0 : Int32)), .val (.int (0 : Int32)), .val (.int (1 : Int32))]) rfl k) ?_
      show Go _ _ _ _ _ _ _ s₁ (mkF m 69 #[.val (.int p0), .val (.int p1), .val (.int (0 : Int32)), .val (.int (0 : Int32)), .val (.int (0 : Int32)), .val (.int (1 : Int32))] [])
      refine Go.st (fun _ k => XS.iloadN X0.here hx rfl (hb hby d2_69) rfl k) ?_
      show Go _ _ _ _ _ _ _ s₁ (mkF m 70 #[.val (.int p0), .val (.int p1), .val (.int (0 : Int32)), .val (.int (0 : Int32)), .val (.int (0 : Int32)), .val (.int (1 : Int32))] [(.int (0 : Int32))])
      refine Go.st (fun _ k => XS.ifNo X0.here hx rfl (hb hby d2_70) rfl ((if0 _ _).trans (teq (by decide : (0 : Int32) = (0 : Int32))).2) k) ?_
      show Go _ _ _ _ _ _ _ s₁ (mkF m 73 #[.val (.int p0), .val (.int p1), .val (.int (0 : Int32)), .val (.int (0 : Int32)), .val (.int (0 : Int32)), .val (.int (1 : Int32))] [])
      refine Go.st (fun _ k => XS.iloadN X0.here hx rfl (hb hby d2_73) rfl k) ?_
      show Go _ _ _ _ _ _ _ s₁ (mkF m 74 #[.val (.int p0), .val (.int p1), .val (.int (0 : Int32)), .val (.int (0 : Int32)), .val (.int (0 : Int32)), .val (.int (1 : Int32))] [(.int (0 : Int32))])
      refine Go.st (fun _ k => XS.ifNo X0.here hx rfl (hb hby d2_74) rfl ((if0 _ _).trans (teq (by decide : (0 : Int32) = (0 : Int32))).2) k) ?_
      show Go _ _ _ _ _ _ _ s₁ (mkF m 77 #[.val (.int p0), .val (.int p1), .val (.int (0 : Int32)), .val (.int (0 : Int32)), .val (.int (0 : Int32)), .val (.int (1 : Int32))] [])
      refine Go.st (fun _ k => XS.iload X0.here hx rfl (hb hby d2_77) rfl k) ?_
      show Go _ _ _ _ _ _ _ s₁ (mkF m 79 #[.val (.int p0), .val (.int p1), .val (.int (0 : Int32)), .val (.int (0 : Int32)), .val (.int (0 : Int32)), .val (.int (1 : Int32))] [(.int (0 : Int32))])
      refine Go.st (fun _ k => XS.ifNo X0.here hx rfl (hb hby d2_79) rfl ((if0 _ _).trans (teq (by decide : (0 : Int32) = (0 : Int32))).2) k) ?_
      show Go _ _ _ _ _ _ _ s₁ (mkF m 82 #[.val (.int p0), .val (.int p1), .val (.int (0 : Int32)), .val (.int (0 : Int32)), .val (.int (0 : Int32)), .val (.int (1 : Int32))] [])
      refine Go.st (fun _ k => XS.iload X0.here hx rfl (hb hby d2_82) rfl k) ?_
      show Go _ _ _ _ _ _ _ s₁ (mkF m 84 #[.val (.int p0), .val (.int p1), .val (.int (0 : Int32)), .val (.int (0 : Int32)), .val (.int (0 : Int32)), .val (.int (1 : Int32))] [(.int (1 : Int32))])
      refine Go.st (fun _ k => XS.ifNo X0.here hx rfl (hb hby d2_84) rfl ((if0 _ _).trans (feq (by decide : ¬ ((1 : Int32) = (0 : Int32)))).1) k) ?_
      show Go _ _ _ _ _ _ _ s₁ (mkF m 87 #[.val (.int p0), .val (.int p1), .val (.int (0 : Int32)), .val (.int (0 : Int32)), .val (.int (0 : Int32)), .val (.int (1 : Int32))] [])
      refine Go.st (fun _ k => XS.iconst X0.here hx rfl (hb hby d2_87) k) ?_
      show Go _ _ _ _ _ _ _ s₁ (mkF m 88 #[.val (.int p0), .val (.int p1), .val (.int (0 : Int32)), .val (.int (0 : Int32)), .val (.int (0 : Int32)), .val (.int (1 : Int32))] [(.int (1 : Int32))])
      refine Go.st (fun _ k => XS.goto X0.here hx rfl (pc0 := 88) (pc' := 92) rfl (hb hby d2_88) (by decide) (by decide) k) ?_
      show Go _ _ _ _ _ _ _ s₁ (mkF m 92 #[.val (.int p0), .val (.int p1), .val (.int (0 : Int32)), .val (.int (0 : Int32)), .val (.int (0 : Int32)), .val (.int (1 : Int32))] [(.int (1 : Int32))])
      refine Go.ret X0 hlk (v := some (.int (1 : Int32))) (fun h => by rw [hret] at h; cases h) (fun fs hr => retN X0 hx (t := .boolean) hret (by simp) (hb hby d2_92) hr) ?_ (by decide) (by decide)
      show Q2 Z p0 p1 h0 n0 (some (.int (1 : Int32))) s₁.heap _
      rw [e0]
      refine ⟨?_, N0, rfl⟩
      unfold val_2
      rw [if_neg (by rw [hv1]; decide : ¬ (p0 = (0 : Int32))), if_neg (by rw [hv1]; decide : ¬ (p0 = (1 : Int32))), if_pos hv1, if_neg (by rw [hv4]; decide : ¬ (p1 = (0 : Int32))), if_neg (by rw [hv4]; decide : ¬ (p1 = (1 : Int32)))]
  · rcases id V_p1 with hv5 | hv5 | hv5 | hv5
    · show Go _ _ _ _ _ _ _ s₁ (mkF m 0 #[.val (.int p0), .val (.int p1), .unset, .unset, .unset, .unset] [])
      refine Go.st (fun _ k => XS.iloadN X0.here hx rfl (hb hby d2_0) rfl k) ?_
      show Go _ _ _ _ _ _ _ s₁ (mkF m 1 #[.val (.int p0), .val (.int p1), .unset, .unset, .unset, .unset] [(.int p0)])
      refine Go.st (fun _ k => XS.iloadN X0.here hx rfl (hb hby d2_1) rfl k) ?_
      show Go _ _ _ _ _ _ _ s₁ (mkF m 2 #[.val (.int p0), .val (.int p1), .unset, .unset, .unset, .unset] [(.int p1), (.int p0)])
      refine Go.st (fun _ k => XS.icmpYes X0.here hx rfl (pc0 := 2) (pc' := 9) rfl (hb hby d2_2) rfl (feq (by rw [hv1, hv5] <;> decide +kernel : ¬ (p0 = p1))).2 (by decide) (by decide) k) ?_
      show Go _ _ _ _ _ _ _ s₁ (mkF m 9 #[.val (.int p0), .val (.int p1), .unset, .unset, .unset, .unset] [])
      refine Go.st (fun _ k => XS.iconst X0.here hx rfl (hb hby d2_9) k) ?_
      show Go _ _ _ _ _ _ _ s₁ (mkF m 10 #[.val (.int p0), .val (.int p1), .unset, .unset, .unset, .unset] [(.int (0 : Int32))])
      refine Go.st (fun _ k => XS.istoreN X0.here hx rfl (hb hby d2_10) rfl (l' := #[.val (.int p0), .val (.int p1), .val (.int (0 : Int32)), .unset, .unset, .unset]) rfl k) ?_
      show Go _ _ _ _ _ _ _ s₁ (mkF m 11 #[.val (.int p0), .val (.int p1), .val (.int (0 : Int32)), .unset, .unset, .unset] [])
      refine Go.st (fun _ k => XS.iloadN X0.here hx rfl (hb hby d2_11) rfl k) ?_
      show Go _ _ _ _ _ _ _ s₁ (mkF m 12 #[.val (.int p0), .val (.int p1), .val (.int (0 : Int32)), .unset, .unset, .unset] [(.int p0)])
      refine Go.st (fun _ k => XS.iconst X0.here hx rfl (hb hby d2_12) k) ?_
      show Go _ _ _ _ _ _ _ s₁ (mkF m 13 #[.val (.int p0), .val (.int p1), .val (.int (0 : Int32)), .unset, .unset, .unset] [(.int (1 : Int32)), (.int p0)])
      refine Go.st (fun _ k => XS.icmpYes X0.here hx rfl (pc0 := 13) (pc' := 25) rfl (hb hby d2_13) rfl (tlt (by rw [hv1] <;> decide +kernel : (1 : Int32) < p0)).2.2.1 (by decide) (by decide) k) ?_
      show Go _ _ _ _ _ _ _ s₁ (mkF m 25 #[.val (.int p0), .val (.int p1), .val (.int (0 : Int32)), .unset, .unset, .unset] [])
      refine Go.st (fun _ k => XS.iconst X0.here hx rfl (hb hby d2_25) k) ?_
      show Go _ _ _ _ _ _ _ s₁ (mkF m 26 #[.val (.int p0), .val (.int p1), .val (.int (0 : Int32)), .unset, .unset, .unset] [(.int (0 : Int32))])
      refine Go.st (fun _ k => XS.istoreN X0.here hx rfl (hb hby d2_26) rfl (l' := #[.val (.int p0), .val (.int p1), .val (.int (0 : Int32)), .val (.int (0 : Int32)), .unset, .unset]) rfl k) ?_
      show Go _ _ _ _ _ _ _ s₁ (mkF m 27 #[.val (.int p0), .val (.int p1), .val (.int (0 : Int32)), .val (.int (0 : Int32)), .unset, .unset] [])
      refine Go.st (fun _ k => XS.iloadN X0.here hx rfl (hb hby d2_27) rfl k) ?_
      show Go _ _ _ _ _ _ _ s₁ (mkF m 28 #[.val (.int p0), .val (.int p1), .val (.int (0 : Int32)), .val (.int (0 : Int32)), .unset, .unset] [(.int p0)])
      refine Go.st (fun _ k => XS.ifYes X0.here hx rfl (pc0 := 28) (pc' := 36) rfl (hb hby d2_28) rfl ((if0 _ _).trans (feq (by rw [hv1]; decide : ¬ (p0 = (0 : Int32)))).2) (by decide) (by decide) k) ?_
      show Go _ _ _ _ _ _ _ s₁ (mkF m 36 #[.val (.int p0), .val (.int p1), .val (.int (0 : Int32)), .val (.int (0 : Int32)), .unset, .unset] [])
      refine Go.st (fun _ k => XS.iloadN X0.here hx rfl (hb hby d2_36) rfl k) ?_
      show Go _ _ _ _ _ _ _ s₁ (mkF m 37 #[.val (.int p0), .val (.int p1), .val (.int (0 : Int32)), .val (.int (0 : Int32)), .unset, .unset] [(.int p0)])
      refine Go.st (fun _ k => XS.iconst X0.here hx rfl (hb hby d2_37) k) ?_
      show Go _ _ _ _ _ _ _ s₁ (mkF m 38 #[.val (.int p0), .val (.int p1), .val (.int (0 : Int32)), .val (.int (0 : Int32)), .unset, .unset] [(.int (2 : Int32)), (.int p0)])
      refine Go.st (fun _ k => XS.icmpYes X0.here hx rfl (pc0 := 38) (pc' := 49) rfl (hb hby d2_38) rfl (feq (by rw [hv1]; decide : ¬ (p0 = (2 : Int32)))).2 (by decide) (by decide) k) ?_
      show Go _ _ _ _ _ _ _ s₁ (mkF m 49 #[.val (.int p0), .val (.int p1), .val (.int (0 : Int32)), .val (.int (0 : Int32)), .unset, .unset] [])
      refine Go.st (fun _ k => XS.iconst X0.here hx rfl (hb hby d2_49) k) ?_
      show Go _ _ _ _ _ _ _ s₁ (mkF m 50 #[.val (.int p0), .val (.int p1), .val (.int (0 : Int32)), .val (.int (0 : Int32)), .unset, .unset] [(.int (0 : Int32))])
      refine Go.st (fun _ k => XS.istore X0.here hx rfl (hb hby d2_50) rfl (l' := #[.val (.int p0), .val (.int p1), .val (.int (0 : Int32)), .val (.int (0 : Int32)), .val (.int (0 : Int32)), .unset]) rfl k) ?_
      show Go _ _ _ _ _ _ _ s₁ (mkF m 52 #[.val (.int p0), .val (.int p1), .val (.int (0 : Int32)), .val (.int (0 : Int32)), .val (.int (0 : Int32)), .unset] [])
      refine Go.st (fun _ k => XS.iloadN X0.here hx rfl (hb hby d2_52) rfl k) ?_
      show Go _ _ _ _ _ _ _ s₁ (mkF m 53 #[.val (.int p0), .val (.int p1), .val (.int (0 : Int32)), .val (.int (0 : Int32)), .val (.int (0 : Int32)), .unset] [(.int p0)])
      refine Go.st (fun _ k => XS.iconst X0.here hx rfl (hb hby d2_53) k) ?_
      show Go _ _ _ _ _ _ _ s₁ (mkF m 54 #[.val (.int p0), .val (.int p1), .val (.int (0 : Int32)), .val (.int (0 : Int32)), .val (.int (0 : Int32)), .unset] [(.int (3 : Int32)), (.int p0)])
      refine Go.st (fun _ k => XS.icmpYes X0.here hx rfl (pc0 := 54) (pc' := 62) rfl (hb hby d2_54) rfl (teq hv1).1 (by decide) (by decide) k) ?_
      show Go _ _ _ _ _ _ _ s₁ (mkF m 62 #[.val (.int p0), .val (.int p1), .val (.int (0 : Int32)), .val (.int (0 : Int32)), .val (.int (0 : Int32)), .unset] [])
      refine Go.st (fun _ k => XS.iconst X0.here hx rfl (hb hby d2_62) k) ?_
      show Go _ _ _ _ _ _ _ s₁ (mkF m 63 #[.val (.int p0), .val (.int p1), .val (.int (0 : Int32)), .val (.int (0 : Int32)), .val (.int (0 : Int32)), .unset] [(.int (1 : Int32))])
      refine Go.st (fun _ k => XS.goto X0.here hx rfl (pc0 := 63) (pc' := 67) rfl (hb hby d2_63) (by decide) (by decide) k) ?_
      show Go _ _ _ _ _ _ _ s₁ (mkF m 67 #[.val (.int p0), .val (.int p1), .val (.int (0 : Int32)), .val (.int (0 : Int32)), .val (.int (0 : Int32)), .unset] [(.int (1 : Int32))])
      refine Go.st (fun _ k => XS.istore X0.here hx rfl (hb hby d2_67) rfl (l' := #[.val (.int p0), .val (.int p1), .val (.int (0 : Int32)), .val (.int (0 : Int32)), .val (.int (0 : Int32)), .val (.int (1 : Int32))]) rfl k) ?_
      show Go _ _ _ _ _ _ _ s₁ (mkF m 69 #[.val (.int p0), .val (.int p1), .val (.int (0 : Int32)), .val (.int (0 : Int32)), .val (.int (0 : Int32)), .val (.int (1 : Int32))] [])
      refine Go.st (fun _ k => XS.iloadN X0.here hx rfl (hb hby d2_69) rfl k) ?_
      show Go _ _ _ _ _ _ _ s₁ (mkF m 70 #[.val (.int p0), .val (.int p1), .val (.int (0 : Int32)), .val (.int (0 : Int32)), .val (.int (0 : Int32)), .val (.int (1 : Int32))] [(.int (0 : Int32))])
      refine Go.st (fun _ k => XS.ifNo X0.here hx rfl (hb hby d2_70) rfl ((if0 _ _).trans (teq (by decide : (0 : Int32) = (0 : Int32))).2) k) ?_
      show Go _ _ _ _ _ _ _ s₁ (mkF m 73 #[.val (.int p0), .val (.int p1), .val (.int (0 : Int32)), .val (.int (0 : Int32)), .val (.int (0 : Int32)), .val (.int (1 : Int32))] [])
      refine Go.st (fun _ k => XS.iloadN X0.here hx rfl (hb hby d2_73) rfl k) ?_
      show Go _ _ _ _ _ _ _ s₁ (mkF m 74 #[.val (.int p0), .val (.int p1), .val (.int (0 : Int32)), .val (.int (0 : Int32)), .val (.int (0 : Int32)), .val (.int (1 : Int32))] [(.int (0 : Int32))])
      refine Go.st (fun _ k => XS.ifNo X0.here hx rfl (hb hby d2_74) rfl ((if0 _ _).trans (teq (by decide : (0 : Int32) = (0 : Int32))).2) k) ?_
      show Go _ _ _ _ _ _ _ s₁ (mkF m 77 #[.val (.int p0), .val (.int p1), .val (.int (0 : Int32)), .val (.int (0 : Int32)), .val (.int (0 : Int32)), .val (.int (1 : Int32))] [])
      refine Go.st (fun _ k => XS.iload X0.here hx rfl (hb hby d2_77) rfl k) ?_
      show Go _ _ _ _ _ _ _ s₁ (mkF m 79 #[.val (.int p0), .val (.int p1), .val (.int (0 : Int32)), .val (.int (0 : Int32)), .val (.int (0 : Int32)), .val (.int (1 : Int32))] [(.int (0 : Int32))])
      refine Go.st (fun _ k => XS.ifNo X0.here hx rfl (hb hby d2_79) rfl ((if0 _ _).trans (teq (by decide : (0 : Int32) = (0 : Int32))).2) k) ?_
      show Go _ _ _ _ _ _ _ s₁ (mkF m 82 #[.val (.int p0), .val (.int p1), .val (.int (0 : Int32)), .val (.int (0 : Int32)), .val (.int (0 : Int32)), .val (.int (1 : Int32))] [])
      refine Go.st (fun _ k => XS.iload X0.here hx rfl (hb hby d2_82) rfl k) ?_
      show Go _ _ _ _ _ _ _ s₁ (mkF m 84 #[.val (.int p0), .val (.int p1), .val (.int (0 : Int32)), .val (.int (0 : Int32)), .val (.int (0 : Int32)), .val (.int (1 : Int32))] [(.int (1 : Int32))])
      refine Go.st (fun _ k => XS.ifNo X0.here hx rfl (hb hby d2_84) rfl ((if0 _ _).trans (feq (by decide : ¬ ((1 : Int32) = (0 : Int32)))).1) k) ?_
      show Go _ _ _ _ _ _ _ s₁ (mkF m 87 #[.val (.int p0), .val (.int p1), .val (.int (0 : Int32)), .val (.int (0 : Int32)), .val (.int (0 : Int32)), .val (.int (1 : Int32))] [])
      refine Go.st (fun _ k => XS.iconst X0.here hx rfl (hb hby d2_87) k) ?_
      show Go _ _ _ _ _ _ _ s₁ (mkF m 88 #[.val (.int p0), .val (.int p1), .val (.int (0 : Int32)), .val (.int (0 : Int32)), .val (.int (0 : Int32)), .val (.int (1 : Int32))] [(.int (1 : Int32))])
      refine Go.st (fun _ k => XS.goto X0.here hx rfl (pc0 := 88) (pc' := 92) rfl (hb hby d2_88) (by decide) (by decide) k) ?_
      show Go _ _ _ _ _ _ _ s₁ (mkF m 92 #[.val (.int p0), .val (.int p1), .val (.int (0 : Int32)), .val (.int (0 : Int32)), .val (.int (0 : Int32)), .val (.int (1 : Int32))] [(.int (1 : Int32))])
      refine Go.ret X0 hlk (v := some (.int (1 : Int32))) (fun h => by rw [hret] at h; cases h) (fun fs hr => retN X0 hx (t := .boolean) hret (by simp) (hb hby d2_92) hr) ?_ (by decide) (by decide)
      show Q2 Z p0 p1 h0 n0 (some (.int (1 : Int32))) s₁.heap _
      rw [e0]
      refine ⟨?_, N0, rfl⟩
      unfold val_2
      rw [if_neg (by rw [hv1]; decide : ¬ (p0 = (0 : Int32))), if_neg (by rw [hv1]; decide : ¬ (p0 = (1 : Int32))), if_neg (by rw [hv1]; decide : ¬ (p0 = (2 : Int32)))]
    · show Go _ _ _ _ _ _ _ s₁ (mkF m 0 #[.val (.int p0), .val (.int p1), .unset, .unset, .unset, .unset] [])
      refine Go.st (fun _ k => XS.iloadN X0.here hx rfl (hb hby d2_0) rfl k) ?_
      show Go _ _ _ _ _ _ _ s₁ (mkF m 1 #[.val (.int p0), .val (.int p1), .unset, .unset, .unset, .unset] [(.int p0)])
      refine Go.st (fun _ k => XS.iloadN X0.here hx rfl (hb hby d2_1) rfl k) ?_
      show Go _ _ _ _ _ _ _ s₁ (mkF m 2 #[.val (.int p0), .val (.int p1), .unset, .unset, .unset, .unset] [(.int p1), (.int p0)])
      refine Go.st (fun _ k => XS.icmpYes X0.here hx rfl (pc0 := 2) (pc' := 9) rfl (hb hby d2_2) rfl (feq (by rw [hv1, hv5] <;> decide +kernel : ¬ (p0 = p1))).2 (by decide) (by decide) k) ?_
      show Go _ _ _ _ _ _ _ s₁ (mkF m 9 #[.val (.int p0), .val (.int p1), .unset, .unset, .unset, .unset] [])
      refine Go.st (fun _ k => XS.iconst X0.here hx rfl (hb hby d2_9) k) ?_
      show Go _ _ _ _ _ _ _ s₁ (mkF m 10 #[.val (.int p0), .val (.int p1), .unset, .unset, .unset, .unset] [(.int (0 : Int32))])
      refine Go.st (fun _ k => XS.istoreN X0.here hx rfl (hb hby d2_10) rfl (l' := #[.val (.int p0), .val (.int p1), .val (.int (0 : Int32)), .unset, .unset, .unset]) rfl k) ?_
      show Go _ _ _ _ _ _ _ s₁ (mkF m 11 #[.val (.int p0), .val (.int p1), .val (.int (0 : Int32)), .unset, .unset, .unset] [])
      refine Go.st (fun _ k => XS.iloadN X0.here hx rfl (hb hby d2_11) rfl k) ?_
      show Go _ _ _ _ _ _ _ s₁ (mkF m 12 #[.val (.int p0), .val (.int p1), .val (.int (0 : Int32)), .unset, .unset, .unset] [(.int p0)])
      refine Go.st (fun _ k => XS.iconst X0.here hx rfl (hb hby d2_12) k) ?_
      show Go _ _ _ _ _ _ _ s₁ (mkF m 13 #[.val (.int p0), .val (.int p1), .val (.int (0 : Int32)), .unset, .unset, .unset] [(.int (1 : Int32)), (.int p0)])
      refine Go.st (fun _ k => XS.icmpYes X0.here hx rfl (pc0 := 13) (pc' := 25) rfl (hb hby d2_13) rfl (tlt (by rw [hv1] <;> decide +kernel : (1 : Int32) < p0)).2.2.1 (by decide) (by decide) k) ?_
      show Go _ _ _ _ _ _ _ s₁ (mkF m 25 #[.val (.int p0), .val (.int p1), .val (.int (0 : Int32)), .unset, .unset, .unset] [])
      refine Go.st (fun _ k => XS.iconst X0.here hx rfl (hb hby d2_25) k) ?_
      show Go _ _ _ _ _ _ _ s₁ (mkF m 26 #[.val (.int p0), .val (.int p1), .val (.int (0 : Int32)), .unset, .unset, .unset] [(.int (0 : Int32))])
      refine Go.st (fun _ k => XS.istoreN X0.here hx rfl (hb hby d2_26) rfl (l' := #[.val (.int p0), .val (.int p1), .val (.int (0 : Int32)), .val (.int (0 : Int32)), .unset, .unset]) rfl k) ?_
      show Go _ _ _ _ _ _ _ s₁ (mkF m 27 #[.val (.int p0), .val (.int p1), .val (.int (0 : Int32)), .val (.int (0 : Int32)), .unset, .unset] [])
      refine Go.st (fun _ k => XS.iloadN X0.here hx rfl (hb hby d2_27) rfl k) ?_
      show Go _ _ _ _ _ _ _ s₁ (mkF m 28 #[.val (.int p0), .val (.int p1), .val (.int (0 : Int32)), .val (.int (0 : Int32)), .unset, .unset] [(.int p0)])
      refine Go.st (fun _ k => XS.ifYes X0.here hx rfl (pc0 := 28) (pc' := 36) rfl (hb hby d2_28) rfl ((if0 _ _).trans (feq (by rw [hv1]; decide : ¬ (p0 = (0 : Int32)))).2) (by decide) (by decide) k) ?_
      show Go _ _ _ _ _ _ _ s₁ (mkF m 36 #[.val (.int p0), .val (.int p1), .val (.int (0 : Int32)), .val (.int (0 : Int32)), .unset, .unset] [])
      refine Go.st (fun _ k => XS.iloadN X0.here hx rfl (hb hby d2_36) rfl k) ?_
      show Go _ _ _ _ _ _ _ s₁ (mkF m 37 #[.val (.int p0), .val (.int p1), .val (.int (0 : Int32)), .val (.int (0 : Int32)), .unset, .unset] [(.int p0)])
      refine Go.st (fun _ k => XS.iconst X0.here hx rfl (hb hby d2_37) k) ?_
      show Go _ _ _ _ _ _ _ s₁ (mkF m 38 #[.val (.int p0), .val (.int p1), .val (.int (0 : Int32)), .val (.int (0 : Int32)), .unset, .unset] [(.int (2 : Int32)), (.int p0)])
      refine Go.st (fun _ k => XS.icmpYes X0.here hx rfl (pc0 := 38) (pc' := 49) rfl (hb hby d2_38) rfl (feq (by rw [hv1]; decide : ¬ (p0 = (2 : Int32)))).2 (by decide) (by decide) k) ?_
      show Go _ _ _ _ _ _ _ s₁ (mkF m 49 #[.val (.int p0), .val (.int p1), .val (.int (0 : Int32)), .val (.int (0 : Int32)), .unset, .unset] [])
      refine Go.st (fun _ k => XS.iconst X0.here hx rfl (hb hby d2_49) k) ?_
      show Go _ _ _ _ _ _ _ s₁ (mkF m 50 #[.val (.int p0), .val (.int p1), .val (.int (0 : Int32)), .val (.int (0 : Int32)), .unset, .unset] [(.int (0 : Int32))])
      refine Go.st (fun _ k => XS.istore X0.here hx rfl (hb hby d2_50) rfl (l' := #[.val (.int p0), .val (.int p1), .val (.int (0 : Int32)), .val (.int (0 : Int32)), .val (.int (0 : Int32)), .unset]) rfl k) ?_
      show Go _ _ _ _ _ _ _ s₁ (mkF m 52 #[.val (.int p0), .val (.int p1), .val (.int (0 : Int32)), .val (.int (0 : Int32)), .val (.int (0 : Int32)), .unset] [])
      refine Go.st (fun _ k => XS.iloadN X0.here hx rfl (hb hby d2_52) rfl k) ?_
      show Go _ _ _ _ _ _ _ s₁ (mkF m 53 #[.val (.int p0), .val (.int p1), .val (.int (0 : Int32)), .val (.int (0 : Int32)), .val (.int (0 : Int32)), .unset] [(.int p0)])
      refine Go.st (fun _ k => XS.iconst X0.here hx rfl (hb hby d2_53) k) ?_
      show Go _ _ _ _ _ _ _ s₁ (mkF m 54 #[.val (.int p0), .val (.int p1), .val (.int (0 : Int32)), .val (.int (0 : Int32)), .val (.int (0 : Int32)), .unset] [(.int (3 : Int32)), (.int p0)])
      refine Go.st (fun _ k => XS.icmpYes X0.here hx rfl (pc0 := 54) (pc' := 62) rfl (hb hby d2_54) rfl (teq hv1).1 (by decide) (by decide) k) ?_
      show Go _ _ _ _ _ _ _ s₁ (mkF m 62 #[.val (.int p0), .val (.int p1), .val (.int (0 : Int32)), .val (.int (0 : Int32)), .val (.int (0 : Int32)), .unset] [])
      refine Go.st (fun _ k => XS.iconst X0.here hx rfl (hb hby d2_62) k) ?_
      show Go _ _ _ _ _ _ _ s₁ (mkF m 63 #[.val (.int p0), .val (.int p1), .val (.int (0 : Int32)), .val (.int (0 : Int32)), .val (.int (0 : Int32)), .unset] [(.int (1 : Int32))])
      refine Go.st (fun _ k => XS.goto X0.here hx rfl (pc0 := 63) (pc' := 67) rfl (hb hby d2_63) (by decide) (by decide) k) ?_
      show Go _ _ _ _ _ _ _ s₁ (mkF m 67 #[.val (.int p0), .val (.int p1), .val (.int (0 : Int32)), .val (.int (0 : Int32)), .val (.int (0 : Int32)), .unset] [(.int (1 : Int32))])
      refine Go.st (fun _ k => XS.istore X0.here hx rfl (hb hby d2_67) rfl (l' := #[.val (.int p0), .val (.int p1), .val (.int (0 : Int32)), .val (.int (0 : Int32)), .val (.int (0 : Int32)), .val (.int (1 : Int32))]) rfl k) ?_
      show Go _ _ _ _ _ _ _ s₁ (mkF m 69 #[.val (.int p0), .val (.int p1), .val (.int (0 : Int32)), .val (.int (0 : Int32)), .val (.int (0 : Int32)), .val (.int (1 : Int32))] [])
      refine Go.st (fun _ k => XS.iloadN X0.here hx rfl (hb hby d2_69) rfl k) ?_
      show Go _ _ _ _ _ _ _ s₁ (mkF m 70 #[.val (.int p0), .val (.int p1), .val (.int (0 : Int32)), .val (.int (0 : Int32)), .val (.int (0 : Int32)), .val (.int (1 : Int32))] [(.int (0 : Int32))])
      refine Go.st (fun _ k => XS.ifNo X0.here hx rfl (hb hby d2_70) rfl ((if0 _ _).trans (teq (by decide : (0 : Int32) = (0 : Int32))).2) k) ?_
      show Go _ _ _ _ _ _ _ s₁ (mkF m 73 #[.val (.int p0), .val (.int p1), .val (.int (0 : Int32)), .val (.int (0 : Int32)), .val (.int (0 : Int32)), .val (.int (1 : Int32))] [])
      refine Go.st (fun _ k => XS.iloadN X0.here hx rfl (hb hby d2_73) rfl k) ?_
      show Go _ _ _ _ _ _ _ s₁ (mkF m 74 #[.val (.int p0), .val (.int p1), .val (.int (0 : Int32)), .val (.int (0 : Int32)), .val (.int (0 : Int32)), .val (.int (1 : Int32))] [(.int (0 : Int32))])
      refine Go.st (fun _ k => XS.ifNo X0.here hx rfl (hb hby d2_74) rfl ((if0 _ _).trans (teq (by decide : (0 : Int32) = (0 : Int32))).2) k) ?_
      show Go _ _ _ _ _ _ _ s₁ (mkF m 77 #[.val (.int p0), .val (.int p1), .val (.int (0 : Int32)), .val (.int (0 : Int32)), .val (.int (0 : Int32)), .val (.int (1 : Int32))] [])
      refine Go.st (fun _ k => XS.iload X0.here hx rfl (hb hby d2_77) rfl k) ?_
      show Go _ _ _ _ _ _ _ s₁ (mkF m 79 #[.val (.int p0), .val (.int p1), .val (.int (0 : Int32)), .val (.int (0 : Int32)), .val (.int (0 : Int32)), .val (.int (1 : Int32))] [(.int (0 : Int32))])
      refine Go.st (fun _ k => XS.ifNo X0.here hx rfl (hb hby d2_79) rfl ((if0 _ _).trans (teq (by decide : (0 : Int32) = (0 : Int32))).2) k) ?_
      show Go _ _ _ _ _ _ _ s₁ (mkF m 82 #[.val (.int p0), .val (.int p1), .val (.int (0 : Int32)), .val (.int (0 : Int32)), .val (.int (0 : Int32)), .val (.int (1 : Int32))] [])
      refine Go.st (fun _ k => XS.iload X0.here hx rfl (hb hby d2_82) rfl k) ?_
      show Go _ _ _ _ _ _ _ s₁ (mkF m 84 #[.val (.int p0), .val (.int p1), .val (.int (0 : Int32)), .val (.int (0 : Int32)), .val (.int (0 : Int32)), .val (.int (1 : Int32))] [(.int (1 : Int32))])
      refine Go.st (fun _ k => XS.ifNo X0.here hx rfl (hb hby d2_84) rfl ((if0 _ _).trans (feq (by decide : ¬ ((1 : Int32) = (0 : Int32)))).1) k) ?_
      show Go _ _ _ _ _ _ _ s₁ (mkF m 87 #[.val (.int p0), .val (.int p1), .val (.int (0 : Int32)), .val (.int (0 : Int32)), .val (.int (0 : Int32)), .val (.int (1 : Int32))] [])
      refine Go.st (fun _ k => XS.iconst X0.here hx rfl (hb hby d2_87) k) ?_
      show Go _ _ _ _ _ _ _ s₁ (mkF m 88 #[.val (.int p0), .val (.int p1), .val (.int (0 : Int32)), .val (.int (0 : Int32)), .val (.int (0 : Int32)), .val (.int (1 : Int32))] [(.int (1 : Int32))])
      refine Go.st (fun _ k => XS.goto X0.here hx rfl (pc0 := 88) (pc' := 92) rfl (hb hby d2_88) (by decide) (by decide) k) ?_
      show Go _ _ _ _ _ _ _ s₁ (mkF m 92 #[.val (.int p0), .val (.int p1), .val (.int (0 : Int32)), .val (.int (0 : Int32)), .val (.int (0 : Int32)), .val (.int (1 : Int32))] [(.int (1 : Int32))])
      refine Go.ret X0 hlk (v := some (.int (1 : Int32))) (fun h => by rw [hret] at h; cases h) (fun fs hr => retN X0 hx (t := .boolean) hret (by simp) (hb hby d2_92) hr) ?_ (by decide) (by decide)
      show Q2 Z p0 p1 h0 n0 (some (.int (1 : Int32))) s₁.heap _
      rw [e0]
      refine ⟨?_, N0, rfl⟩
      unfold val_2
      rw [if_neg (by rw [hv1]; decide : ¬ (p0 = (0 : Int32))), if_neg (by rw [hv1]; decide : ¬ (p0 = (1 : Int32))), if_neg (by rw [hv1]; decide : ¬ (p0 = (2 : Int32)))]
    · show Go _ _ _ _ _ _ _ s₁ (mkF m 0 #[.val (.int p0), .val (.int p1), .unset, .unset, .unset, .unset] [])
      refine Go.st (fun _ k => XS.iloadN X0.here hx rfl (hb hby d2_0) rfl k) ?_
      show Go _ _ _ _ _ _ _ s₁ (mkF m 1 #[.val (.int p0), .val (.int p1), .unset, .unset, .unset, .unset] [(.int p0)])
      refine Go.st (fun _ k => XS.iloadN X0.here hx rfl (hb hby d2_1) rfl k) ?_
      show Go _ _ _ _ _ _ _ s₁ (mkF m 2 #[.val (.int p0), .val (.int p1), .unset, .unset, .unset, .unset] [(.int p1), (.int p0)])
      refine Go.st (fun _ k => XS.icmpYes X0.here hx rfl (pc0 := 2) (pc' := 9) rfl (hb hby d2_2) rfl (feq (by rw [hv1, hv5] <;> decide +kernel : ¬ (p0 = p1))).2 (by decide) (by decide) k) ?_
      show Go _ _ _ _ _ _ _ s₁ (mkF m 9 #[.val (.int p0), .val (.int p1), .unset, .unset, .unset, .unset] [])
      refine Go.st (fun _ k => XS.iconst X0.here hx rfl (hb hby d2_9) k) ?_
      show Go _ _ _ _ _ _ _ s₁ (mkF m 10 #[.val (.int p0), .val (.int p1), .unset, .unset, .unset, .unset] [(.int (0 : Int32))])
      refine Go.st (fun _ k => XS.istoreN X0.here hx rfl (hb hby d2_10) rfl (l' := #[.val (.int p0), .val (.int p1), .val (.int (0 : Int32)), .unset, .unset, .unset]) rfl k) ?_
      show Go _ _ _ _ _ _ _ s₁ (mkF m 11 #[.val (.int p0), .val (.int p1), .val (.int (0 : Int32)), .unset, .unset, .unset] [])
      refine Go.st (fun _ k => XS.iloadN X0.here hx rfl (hb hby d2_11) rfl k) ?_
      show Go _ _ _ _ _ _ _ s₁ (mkF m 12 #[.val (.int p0), .val (.int p1), .val (.int (0 : Int32)), .unset, .unset, .unset] [(.int p0)])
      refine Go.st (fun _ k => XS.iconst X0.here hx rfl (hb hby d2_12) k) ?_
      show Go _ _ _ _ _ _ _ s₁ (mkF m 13 #[.val (.int p0), .val (.int p1), .val (.int (0 : Int32)), .unset, .unset, .unset] [(.int (1 : Int32)), (.int p0)])
      refine Go.st (fun _ k => XS.icmpYes X0.here hx rfl (pc0 := 13) (pc' := 25) rfl (hb hby d2_13) rfl (tlt (by rw [hv1] <;> decide +kernel : (1 : Int32) < p0)).2.2.1 (by decide) (by decide) k) ?_
      show Go _ _ _ _ _ _ _ s₁ (mkF m 25 #[.val (.int p0), .val (.int p1), .val (.int (0 : Int32)), .unset, .unset, .unset] [])
      refine Go.st (fun _ k => XS.iconst X0.here hx rfl (hb hby d2_25) k) ?_
      show Go _ _ _ _ _ _ _ s₁ (mkF m 26 #[.val (.int p0), .val (.int p1), .val (.int (0 : Int32)), .unset, .unset, .unset] [(.int (0 : Int32))])
      refine Go.st (fun _ k => XS.istoreN X0.here hx rfl (hb hby d2_26) rfl (l' := #[.val (.int p0), .val (.int p1), .val (.int (0 : Int32)), .val (.int (0 : Int32)), .unset, .unset]) rfl k) ?_
      show Go _ _ _ _ _ _ _ s₁ (mkF m 27 #[.val (.int p0), .val (.int p1), .val (.int (0 : Int32)), .val (.int (0 : Int32)), .unset, .unset] [])
      refine Go.st (fun _ k => XS.iloadN X0.here hx rfl (hb hby d2_27) rfl k) ?_
      show Go _ _ _ _ _ _ _ s₁ (mkF m 28 #[.val (.int p0), .val (.int p1), .val (.int (0 : Int32)), .val (.int (0 : Int32)), .unset, .unset] [(.int p0)])
      refine Go.st (fun _ k => XS.ifYes X0.here hx rfl (pc0 := 28) (pc' := 36) rfl (hb hby d2_28) rfl ((if0 _ _).trans (feq (by rw [hv1]; decide : ¬ (p0 = (0 : Int32)))).2) (by decide) (by decide) k) ?_
      show Go _ _ _ _ _ _ _ s₁ (mkF m 36 #[.val (.int p0), .val (.int p1), .val (.int (0 : Int32)), .val (.int (0 : Int32)), .unset, .unset] [])
      refine Go.st (fun _ k => XS.iloadN X0.here hx rfl (hb hby d2_36) rfl k) ?_
      show Go _ _ _ _ _ _ _ s₁ (mkF m 37 #[.val (.int p0), .val (.int p1), .val (.int (0 : Int32)), .val (.int (0 : Int32)), .unset, .unset] [(.int p0)])
      refine Go.st (fun _ k => XS.iconst X0.here hx rfl (hb hby d2_37) k) ?_
      show Go _ _ _ _ _ _ _ s₁ (mkF m 38 #[.val (.int p0), .val (.int p1), .val (.int (0 : Int32)), .val (.int (0 : Int32)), .unset, .unset] [(.int (2 : Int32)), (.int p0)])
      refine Go.st (fun _ k => XS.icmpYes X0.here hx rfl (pc0 := 38) (pc' := 49) rfl (hb hby d2_38) rfl (feq (by rw [hv1]; decide : ¬ (p0 = (2 : Int32)))).2 (by decide) (by decide) k) ?_
      show Go _ _ _ _ _ _ _ s₁ (mkF m 49 #[.val (.int p0), .val (.int p1), .val (.int (0 : Int32)), .val (.int (0 : Int32)), .unset, .unset] [])
      refine Go.st (fun _ k => XS.iconst X0.here hx rfl (hb hby d2_49) k) ?_
      show Go _ _ _ _ _ _ _ s₁ (mkF m 50 #[.val (.int p0), .val (.int p1), .val (.int (0 : Int32)), .val (.int (0 : Int32)), .unset, .unset] [(.int (0 : Int32))])
      refine Go.st (fun _ k => XS.istore X0.here hx rfl (hb hby d2_50) rfl (l' := #[.val (.int p0), .val (.int p1), .val (.int (0 : Int32)), .val (.int (0 : Int32)), .val (.int (0 : Int32)), .unset]) rfl k) ?_
      show Go _ _ _ _ _ _ _ s₁ (mkF m 52 #[.val (.int p0), .val (.int p1), .val (.int (0 : Int32)), .val (.int (0 : Int32)), .val (.int (0 : Int32)), .unset] [])
      refine Go.st (fun _ k => XS.iloadN X0.here hx rfl (hb hby d2_52) rfl k) ?_
      show Go _ _ _ _ _ _ _ s₁ (mkF m 53 #[.val (.int p0), .val (.int p1), .val (.int (0 : Int32)), .val (.int (0 : Int32)), .val (.int (0 : Int32)), .unset] [(.int p0)])
      refine Go.st (fun _ k => XS.iconst X0.here hx rfl (hb hby d2_53) k) ?_
      show Go _ _ _ _ _ _ _ s₁ (mkF m 54 #[.val (.int p0), .val (.int p1), .val (.int (0 : Int32)), .val (.int (0 : Int32)), .val (.int (0 : Int32)), .unset] [(.int (3 : Int32)), (.int p0)])
      refine Go.st (fun _ k => XS.icmpYes X0.here hx rfl (pc0 := 54) (pc' := 62) rfl (hb hby d2_54) rfl (teq hv1).1 (by decide) (by decide) k) ?_
      show Go _ _ _ _ _ _ _ s₁ (mkF m 62 #[.val (.int p0), .val (.int p1), .val (.int (0 : Int32)), .val (.int (0 : Int32)), .val (.int (0 : Int32)), .unset] [])
      refine Go.st (fun _ k => XS.iconst X0.here hx rfl (hb hby d2_62) k) ?_
      show Go _ _ _ _ _ _ _ s₁ (mkF m 63 #[.val (.int p0), .val (.int p1), .val (.int (0 : Int32)), .val (.int (0 : Int32)), .val (.int (0 : Int32)), .unset] [(.int (1 : Int32))])
      refine Go.st (fun _ k => XS.goto X0.here hx rfl (pc0 := 63) (pc' := 67) rfl (hb hby d2_63) (by decide) (by decide) k) ?_
      show Go _ _ _ _ _ _ _ s₁ (mkF m 67 #[.val (.int p0), .val (.int p1), .val (.int (0 : Int32)), .val (.int (0 : Int32)), .val (.int (0 : Int32)), .unset] [(.int (1 : Int32))])
      refine Go.st (fun _ k => XS.istore X0.here hx rfl (hb hby d2_67) rfl (l' := #[.val (.int p0), .val (.int p1), .val (.int (0 : Int32)), .val (.int (0 : Int32)), .val (.int (0 : Int32)), .val (.int (1 : Int32))]) rfl k) ?_
      show Go _ _ _ _ _ _ _ s₁ (mkF m 69 #[.val (.int p0), .val (.int p1), .val (.int (0 : Int32)), .val (.int (0 : Int32)), .val (.int (0 : Int32)), .val (.int (1 : Int32))] [])
      refine Go.st (fun _ k => XS.iloadN X0.here hx rfl (hb hby d2_69) rfl k) ?_
      show Go _ _ _ _ _ _ _ s₁ (mkF m 70 #[.val (.int p0), .val (.int p1), .val (.int (0 : Int32)), .val (.int (0 : Int32)), .val (.int (0 : Int32)), .val (.int (1 : Int32))] [(.int (0 : Int32))])
      refine Go.st (fun _ k => XS.ifNo X0.here hx rfl (hb hby d2_70) rfl ((if0 _ _).trans (teq (by decide : (0 : Int32) = (0 : Int32))).2) k) ?_
      show Go _ _ _ _ _ _ _ s₁ (mkF m 73 #[.val (.int p0), .val (.int p1), .val (.int (0 : Int32)), .val (.int (0 : Int32)), .val (.int (0 : Int32)), .val (.int (1 : Int32))] [])
      refine Go.st (fun _ k => XS.iloadN X0.here hx rfl (hb hby d2_73) rfl k) ?_
      show Go _ _ _ _ _ _ _ s₁ (mkF m 74 #[.val (.int p0), .val (.int p1), .val (.int (0 : Int32)), .val (.int (0 : Int32)), .val (.int (0 : Int32)), .val (.int (1 : Int32))] [(.int (0 : Int32))])
      refine Go.st (fun _ k => XS.ifNo X0.here hx rfl (hb hby d2_74) rfl ((if0 _ _).trans (teq (by decide : (0 : Int32) = (0 : Int32))).2) k) ?_
      show Go _ _ _ _ _ _ _ s₁ (mkF m 77 #[.val (.int p0), .val (.int p1), .val (.int (0 : Int32)), .val (.int (0 : Int32)), .val (.int (0 : Int32)), .val (.int (1 : Int32))] [])
      refine Go.st (fun _ k => XS.iload X0.here hx rfl (hb hby d2_77) rfl k) ?_
      show Go _ _ _ _ _ _ _ s₁ (mkF m 79 #[.val (.int p0), .val (.int p1), .val (.int (0 : Int32)), .val (.int (0 : Int32)), .val (.int (0 : Int32)), .val (.int (1 : Int32))] [(.int (0 : Int32))])
      refine Go.st (fun _ k => XS.ifNo X0.here hx rfl (hb hby d2_79) rfl ((if0 _ _).trans (teq (by decide : (0 : Int32) = (0 : Int32))).2) k) ?_
      show Go _ _ _ _ _ _ _ s₁ (mkF m 82 #[.val (.int p0), .val (.int p1), .val (.int (0 : Int32)), .val (.int (0 : Int32)), .val (.int (0 : Int32)), .val (.int (1 : Int32))] [])
      refine Go.st (fun _ k => XS.iload X0.here hx rfl (hb hby d2_82) rfl k) ?_
      show Go _ _ _ _ _ _ _ s₁ (mkF m 84 #[.val (.int p0), .val (.int p1), .val (.int (0 : Int32)), .val (.int (0 : Int32)), .val (.int (0 : Int32)), .val (.int (1 : Int32))] [(.int (1 : Int32))])
      refine Go.st (fun _ k => XS.ifNo X0.here hx rfl (hb hby d2_84) rfl ((if0 _ _).trans (feq (by decide : ¬ ((1 : Int32) = (0 : Int32)))).1) k) ?_
      show Go _ _ _ _ _ _ _ s₁ (mkF m 87 #[.val (.int p0), .val (.int p1), .val (.int (0 : Int32)), .val (.int (0 : Int32)), .val (.int (0 : Int32)), .val (.int (1 : Int32))] [])
      refine Go.st (fun _ k => XS.iconst X0.here hx rfl (hb hby d2_87) k) ?_
      show Go _ _ _ _ _ _ _ s₁ (mkF m 88 #[.val (.int p0), .val (.int p1), .val (.int (0 : Int32)), .val (.int (0 : Int32)), .val (.int (0 : Int32)), .val (.int (1 : Int32))] [(.int (1 : Int32))])
      refine Go.st (fun _ k => XS.goto X0.here hx rfl (pc0 := 88) (pc' := 92) rfl (hb hby d2_88) (by decide) (by decide) k) ?_
      show Go _ _ _ _ _ _ _ s₁ (mkF m 92 #[.val (.int p0), .val (.int p1), .val (.int (0 : Int32)), .val (.int (0 : Int32)), .val (.int (0 : Int32)), .val (.int (1 : Int32))] [(.int (1 : Int32))])
      refine Go.ret X0 hlk (v := some (.int (1 : Int32))) (fun h => by rw [hret] at h; cases h) (fun fs hr => retN X0 hx (t := .boolean) hret (by simp) (hb hby d2_92) hr) ?_ (by decide) (by decide)
      show Q2 Z p0 p1 h0 n0 (some (.int (1 : Int32))) s₁.heap _
      rw [e0]
      refine ⟨?_, N0, rfl⟩
      unfold val_2
      rw [if_neg (by rw [hv1]; decide : ¬ (p0 = (0 : Int32))), if_neg (by rw [hv1]; decide : ¬ (p0 = (1 : Int32))), if_neg (by rw [hv1]; decide : ¬ (p0 = (2 : Int32)))]
    · show Go _ _ _ _ _ _ _ s₁ (mkF m 0 #[.val (.int p0), .val (.int p1), .unset, .unset, .unset, .unset] [])
      refine Go.st (fun _ k => XS.iloadN X0.here hx rfl (hb hby d2_0) rfl k) ?_
      show Go _ _ _ _ _ _ _ s₁ (mkF m 1 #[.val (.int p0), .val (.int p1), .unset, .unset, .unset, .unset] [(.int p0)])
      refine Go.st (fun _ k => XS.iloadN X0.here hx rfl (hb hby d2_1) rfl k) ?_
      show Go _ _ _ _ _ _ _ s₁ (mkF m 2 #[.val (.int p0), .val (.int p1), .unset, .unset, .unset, .unset] [(.int p1), (.int p0)])
      refine Go.st (fun _ k => XS.icmpNo X0.here hx rfl (hb hby d2_2) rfl (teq (by rw [hv1, hv5] <;> decide +kernel : p0 = p1)).2 k) ?_
      show Go _ _ _ _ _ _ _ s₁ (mkF m 5 #[.val (.int p0), .val (.int p1), .unset, .unset, .unset, .unset] [])
      refine Go.st (fun _ k => XS.iconst X0.here hx rfl (hb hby d2_5) k) ?_
      show Go _ _ _ _ _ _ _ s₁ (mkF m 6 #[.val (.int p0), .val (.int p1), .unset, .unset, .unset, .unset] [(.int (1 : Int32))])
      refine Go.st (fun _ k => XS.goto X0.here hx rfl (pc0 := 6) (pc' := 10) rfl (hb hby d2_6) (by decide) (by decide) k) ?_
      show Go _ _ _ _ _ _ _ s₁ (mkF m 10 #[.val (.int p0), .val (.int p1), .unset, .unset, .unset, .unset] [(.int (1 : Int32))])
      refine Go.st (fun _ k => XS.istoreN X0.here hx rfl (hb hby d2_10) rfl (l' := #[.val (.int p0), .val (.int p1), .val (.int (1 : Int32)), .unset, .unset, .unset]) rfl k) ?_
      show Go _ _ _ _ _ _ _ s₁ (mkF m 11 #[.val (.int p0), .val (.int p1), .val (.int (1 : Int32)), .unset, .unset, .unset] [])
      refine Go.st (fun _ k => XS.iloadN X0.here hx rfl (hb hby d2_11) rfl k) ?_
      show Go _ _ _ _ _ _ _ s₁ (mkF m 12 #[.val (.int p0), .val (.int p1), .val (.int (1 : Int32)), .unset, .unset, .unset] [(.int p0)])
      refine Go.st (fun _ k => XS.iconst X0.here hx rfl (hb hby d2_12) k) ?_
      show Go _ _ _ _ _ _ _ s₁ (mkF m 13 #[.val (.int p0), .val (.int p1), .val (.int (1 : Int32)), .unset, .unset, .unset] [(.int (1 : Int32)), (.int p0)])
      refine Go.st (fun _ k => XS.icmpYes X0.here hx rfl (pc0 := 13) (pc' := 25) rfl (hb hby d2_13) rfl (tlt (by rw [hv1] <;> decide +kernel : (1 : Int32) < p0)).2.2.1 (by decide) (by decide) k) ?_
      show Go _ _ _ _ _ _ _ s₁ (mkF m 25 #[.val (.int p0), .val (.int p1), .val (.int (1 : Int32)), .unset, .unset, .unset] [])
      refine Go.st (fun _ k => XS.iconst X0.here hx rfl (hb hby d2_25) k) ?_
      show Go _ _ _ _ _ _ _ s₁ (mkF m 26 #[.val (.int p0), .val (.int p1), .val (.int (1 : Int32)), .unset, .unset, .unset] [(.int (0 : Int32))])
      refine Go.st (fun _ k => XS.istoreN X0.here hx rfl (hb hby d2_26) rfl (l' := #[.val (.int p0), .val (.int p1), .val (.int (1 : Int32)), .val (.int (0 : Int32)), .unset, .unset]) rfl k) ?_
      show Go _ _ _ _ _ _ _ s₁ (mkF m 27 #[.val (.int p0), .val (.int p1), .val (.int (1 : Int32)), .val (.int (0 : Int32)), .unset, .unset] [])
      refine Go.st (fun _ k => XS.iloadN X0.here hx rfl (hb hby d2_27) rfl k) ?_
      show Go _ _ _ _ _ _ _ s₁ (mkF m 28 #[.val (.int p0), .val (.int p1), .val (.int (1 : Int32)), .val (.int (0 : Int32)), .unset, .unset] [(.int p0)])
      refine Go.st (fun _ k => XS.ifYes X0.here hx rfl (pc0 := 28) (pc' := 36) rfl (hb hby d2_28) rfl ((if0 _ _).trans (feq (by rw [hv1]; decide : ¬ (p0 = (0 : Int32)))).2) (by decide) (by decide) k) ?_
      show Go _ _ _ _ _ _ _ s₁ (mkF m 36 #[.val (.int p0), .val (.int p1), .val (.int (1 : Int32)), .val (.int (0 : Int32)), .unset, .unset] [])
      refine Go.st (fun _ k => XS.iloadN X0.here hx rfl (hb hby d2_36) rfl k) ?_
      show Go _ _ _ _ _ _ _ s₁ (mkF m 37 #[.val (.int p0), .val (.int p1), .val (.int (1 : Int32)), .val (.int (0 : Int32)), .unset, .unset] [(.int p0)])
      refine Go.st (fun _ k => XS.iconst X0.here hx rfl (hb hby d2_37) k) ?_
      show Go _ _ _ _ _ _ _ s₁ (mkF m 38 #[.val (.int p0), .val (.int p1), .val (.int (1 : Int32)), .val (.int (0 : Int32)), .unset, .unset] [(.int (2 : Int32)), (.int p0)])
      refine Go.st (fun _ k => XS.icmpYes X0.here hx rfl (pc0 := 38) (pc' := 49) rfl (hb hby d2_38) rfl (feq (by rw [hv1]; decide : ¬ (p0 = (2 : Int32)))).2 (by decide) (by decide) k) ?_
      show Go _ _ _ _ _ _ _ s₁ (mkF m 49 #[.val (.int p0), .val (.int p1), .val (.int (1 : Int32)), .val (.int (0 : Int32)), .unset, .unset] [])
      refine Go.st (fun _ k => XS.iconst X0.here hx rfl (hb hby d2_49) k) ?_
      show Go _ _ _ _ _ _ _ s₁ (mkF m 50 #[.val (.int p0), .val (.int p1), .val (.int (1 : Int32)), .val (.int (0 : Int32)), .unset, .unset] [(.int (0 : Int32))])
      refine Go.st (fun _ k => XS.istore X0.here hx rfl (hb hby d2_50) rfl (l' := #[.val (.int p0), .val (.int p1), .val (.int (1 : Int32)), .val (.int (0 : Int32)), .val (.int (0 : Int32)), .unset]) rfl k) ?_
      show Go _ _ _ _ _ _ _ s₁ (mkF m 52 #[.val (.int p0), .val (.int p1), .val (.int (1 : Int32)), .val (.int (0 : Int32)), .val (.int (0 : Int32)), .unset] [])
      refine Go.st (fun _ k => XS.iloadN X0.here hx rfl (hb hby d2_52) rfl k) ?_
      show Go _ _ _ _ _ _ _ s₁ (mkF m 53 #[.val (.int p0), .val (.int p1), .val (.int (1 : Int32)), .val (.int (0 : Int32)), .val (.int (0 : Int32)), .unset] [(.int p0)])
      refine Go.st (fun _ k => XS.iconst X0.here hx rfl (hb hby d2_53) k) ?_
      show Go _ _ _ _ _ _ _ s₁ (mkF m 54 #[.val (.int p0), .val (.int p1), .val (.int (1 : Int32)), .val (.int (0 : Int32)), .val (.int (0 : Int32)), .unset] [(.int (3 : Int32)), (.int p0)])
      refine Go.st (fun _ k => XS.icmpYes X0.here hx rfl (pc0 := 54) (pc' := 62) rfl (hb hby d2_54) rfl (teq hv1).1 (by decide) (by decide) k) ?_
      show Go _ _ _ _ _ _ _ s₁ (mkF m 62 #[.val (.int p0), .val (.int p1), .val (.int (1 : Int32)), .val (.int (0 : Int32)), .val (.int (0 : Int32)), .unset] [])
      refine Go.st (fun _ k => XS.iconst X0.here hx rfl (hb hby d2_62) k) ?_
      show Go _ _ _ _ _ _ _ s₁ (mkF m 63 #[.val (.int p0), .val (.int p1), .val (.int (1 : Int32)), .val (.int (0 : Int32)), .val (.int (0 : Int32)), .unset] [(.int (1 : Int32))])
      refine Go.st (fun _ k => XS.goto X0.here hx rfl (pc0 := 63) (pc' := 67) rfl (hb hby d2_63) (by decide) (by decide) k) ?_
      show Go _ _ _ _ _ _ _ s₁ (mkF m 67 #[.val (.int p0), .val (.int p1), .val (.int (1 : Int32)), .val (.int (0 : Int32)), .val (.int (0 : Int32)), .unset] [(.int (1 : Int32))])
      refine Go.st (fun _ k => XS.istore X0.here hx rfl (hb hby d2_67) rfl (l' := #[.val (.int p0), .val (.int p1), .val (.int (1 : Int32)), .val (.int (0 : Int32)), .val (.int (0 : Int32)), .val (.int (1 : Int32))]) rfl k) ?_
      show Go _ _ _ _ _ _ _ s₁ (mkF m 69 #[.val (.int p0), .val (.int p1), .val (.int (1 : Int32)), .val (.int (0 : Int32)), .val (.int (0 : Int32)), .val (.int (1 : Int32))] [])
      refine Go.st (fun _ k => XS.iloadN X0.here hx rfl (hb hby d2_69) rfl k) ?_
      show Go _ _ _ _ _ _ _ s₁ (mkF m 70 #[.val (.int p0), .val (.int p1), .val (.int (1 : Int32)), .val (.int (0 : Int32)), .val (.int (0 : Int32)), .val (.int (1 : Int32))] [(.int (1 : Int32))])
      refine Go.st (fun _ k => XS.ifYes X0.here hx rfl (pc0 := 70) (pc' := 87) rfl (hb hby d2_70) rfl ((if0 _ _).trans (feq (by decide : ¬ ((1 : Int32) = (0 : Int32)))).2) (by decide) (by decide) k) ?_
      show Go _ _ _ _ _ _ _ s₁ (mkF m 87 #[.val (.int p0), .val (.int p1), .val (.int (1 : Int32)), .val (.int (0 : Int32)), .val (.int (0 : Int32)), .val (.int (1 : Int32))] [])
      refine Go.st (fun _ k => XS.iconst X0.here hx rfl (hb hby d2_87) k) ?_
      show Go _ _ _ _ _ _ _ s₁ (mkF m 88 #[.val (.int p0), .val (.int p1), .val (.int (1 : Int32)), .val (.int (0 : Int32)), .val (.int (0 : Int32)), .val (.int (1 : Int32))] [(.int (1 : Int32))])
      refine Go.st (fun _ k => XS.goto X0.here hx rfl (pc0 := 88) (pc' := 92) rfl (hb hby d2_88) (by decide) (by decide) k) ?_
      show Go _ _ _ _ _ _ _ s₁ (mkF m 92 #[.val (.int p0), .val (.int p1), .val (.int (1 : Int32)), .val (.int (0 : Int32)), .val (.int (0 : Int32)), .val (.int (1 : Int32))] [(.int (1 : Int32))])
      refine Go.ret X0 hlk (v := some (.int (1 : Int32))) (fun h => by rw [hret] at h; cases h) (fun fs hr => retN X0 hx (t := .boolean) hret (by simp) (hb hby d2_92) hr) ?_ (by decide) (by decide)
      show Q2 Z p0 p1 h0 n0 (some (.int (1 : Int32))) s₁.heap _
      rw [e0]
      refine ⟨?_, N0, rfl⟩
      unfold val_2
      rw [if_neg (by rw [hv1]; decide : ¬ (p0 = (0 : Int32))), if_neg (by rw [hv1]; decide : ¬ (p0 = (1 : Int32))), if_neg (by rw [hv1]; decide : ¬ (p0 = (2 : Int32)))]
theorem ef_0 (m : MethodId) (p0 : Int32) (p1 : Int32) : entryFrame m #[(.int p0), (.int p1)] maxLocals = mkF m 0 #[.val (.int p0), .val (.int p1), .unset, .unset, .unset] [] := by first | (simp [entryFrame, mkF, argsToLocals, Value.category, maxLocals]; done) | rfl
def Q0 (Z : State) (p0 : Int32) (p1 : Int32) (w_INT : Addr) (w_BIGINT : Addr) (w_BOOLEAN : Addr) (w_TEXT : Addr) (h0 : Heap) (n0 : Nat) (v : Option Value) (h : Heap) (L : List Loc) : Prop := v = some (.int 1) ∧ Fr n0 L
set_option maxRecDepth 65536 in
set_option maxHeartbeats 40000000 in
theorem rm0 (l : Launch) (Z : State) (a0 : Array Value) (hw : ∀ d ∈ tables_1, d.before a0 Z = true) (ws : List Jvm.Cond) (p0 : Int32) (p1 : Int32) (w_INT : Addr) (w_BIGINT : Addr) (w_BOOLEAN : Addr) (w_TEXT : Addr) (h0 : Heap) (n0 : Nat) (Z0 : n0 ≤ h0.size) (S_INT : Sta Z h0 "com/example/truerow/truerow/postgres/Type" "INT" "Lcom/example/truerow/truerow/postgres/Type;" (.ref w_INT)) (E_INT : Exa Z h0 w_INT "com/example/truerow/truerow/postgres/Type") (S_BIGINT : Sta Z h0 "com/example/truerow/truerow/postgres/Type" "BIGINT" "Lcom/example/truerow/truerow/postgres/Type;" (.ref w_BIGINT)) (E_BIGINT : Exa Z h0 w_BIGINT "com/example/truerow/truerow/postgres/Type") (S_BOOLEAN : Sta Z h0 "com/example/truerow/truerow/postgres/Type" "BOOLEAN" "Lcom/example/truerow/truerow/postgres/Type;" (.ref w_BOOLEAN)) (E_BOOLEAN : Exa Z h0 w_BOOLEAN "com/example/truerow/truerow/postgres/Type") (S_TEXT : Sta Z h0 "com/example/truerow/truerow/postgres/Type" "TEXT" "Lcom/example/truerow/truerow/postgres/Type;" (.ref w_TEXT)) (E_TEXT : Exa Z h0 w_TEXT "com/example/truerow/truerow/postgres/Type") (F_INT_ordinal : Fld Z h0 w_INT "java/lang/Enum" "ordinal" "I" (.int (0 : Int32))) (F_BIGINT_ordinal : Fld Z h0 w_BIGINT "java/lang/Enum" "ordinal" "I" (.int (1 : Int32))) (F_BOOLEAN_ordinal : Fld Z h0 w_BOOLEAN "java/lang/Enum" "ordinal" "I" (.int (2 : Int32))) (F_TEXT_ordinal : Fld Z h0 w_TEXT "java/lang/Enum" "ordinal" "I" (.int (3 : Int32))) :
    MetFree l x (head1 (Jvm.Cond.code x code maxLocals ret :: ws) room_1) (fun a U => a = #[(.int p0), (.int p1)] ∧ Z.Warmed39 U.vm ∧ U.heap = h0) (fun _ _ _ _ _ => True) (fun _ U o U' => ∃ v L, o = .returned v ∧ Q0 Z p0 p1 w_INT w_BIGINT w_BOOLEAN w_TEXT h0 n0 v U'.heap L ∧ FrameEnd U o U' L room_1.cells room_1.slots) := by
  refine MetFree.of_bodySF (plainFor_of_name pn_com_example_truerow_truerow_postgres_TypeCastsToPinLaw) hisR ?_
  intro p e s m args below meth c s₁ Bd hml0 hP hK
  obtain ⟨rfl, hZ, hh⟩ := hP
  have hx := Bd.exec
  have hby := Bd.bytes
  have hlk : meth.locks = false := BodyLoose.notSynchronized Bd
  have hret := Bd.returns
  have hml : c.maxLocals = 5 := hml0
  have hown : s.vm.findClass "com/example/truerow/truerow/postgres/TypeCastsToPinLaw" = some m.cls := findClass_of_methodNamed Bd.named
  have hnm := (name_of_methodNamed Bd.named Bd.method).1
  have X0 : Stand p l e room_1 s m #[(.int p0), (.int p1)] below meth c s₁ [] 0 0 := Stand.of_body Bd
  have e0 : s₁.heap = h0 := by rw [← hh, Bd.state]; rfl
  have N0 := Fr.nil n0
  refine Go.start (Q := Q0 Z p0 p1 w_INT w_BIGINT w_BOOLEAN w_TEXT h0 n0) (ef_0 m p0 p1) ?_
  have ne_w_INT_w_BIGINT : w_INT ≠ w_BIGINT := Fld.ne F_INT_ordinal F_BIGINT_ordinal (by simp)
  have ne_w_INT_w_BOOLEAN : w_INT ≠ w_BOOLEAN := Fld.ne F_INT_ordinal F_BOOLEAN_ordinal (by simp)
  have ne_w_INT_w_TEXT : w_INT ≠ w_TEXT := Fld.ne F_INT_ordinal F_TEXT_ordinal (by simp)
  have ne_w_BIGINT_w_BOOLEAN : w_BIGINT ≠ w_BOOLEAN := Fld.ne F_BIGINT_ordinal F_BOOLEAN_ordinal (by simp)
  have ne_w_BIGINT_w_TEXT : w_BIGINT ≠ w_TEXT := Fld.ne F_BIGINT_ordinal F_TEXT_ordinal (by simp)
  have ne_w_BOOLEAN_w_TEXT : w_BOOLEAN ≠ w_TEXT := Fld.ne F_BOOLEAN_ordinal F_TEXT_ordinal (by simp)
  show Go _ _ _ _ _ _ _ s₁ (mkF m 0 #[.val (.int p0), .val (.int p1), .unset, .unset, .unset] [])
  refine Go.st (fun _ k => XS.iconst X0.here hx rfl (hb hby at_0) k) ?_
  show Go _ _ _ _ _ _ _ s₁ (mkF m 1 #[.val (.int p0), .val (.int p1), .unset, .unset, .unset] [(.int (4 : Int32))])
  obtain ⟨T1, h1, k1, X1, e1, E1, A1, O1, st1⟩ := newR X0 hx hZ hown (hw _ (List.mem_of_getElem? (i := 0) rfl)) (hw _ (List.mem_of_getElem? (i := 1) rfl)) e0 (g := (mkF m 1 #[.val (.int p0), .val (.int p1), .unset, .unset, .unset] [(.int (4 : Int32))])) rfl (hb hby at_1) rfl (by decide) (cap := 4) (by decide) (by decide) (by decide) (by decide)
  obtain ⟨b1, g1⟩ : ∃ z, z = h0.size := ⟨_, rfl⟩
  rw [← g1] at A1 st1
  have ne2 : w_INT ≠ b1 := Nat.ne_of_lt (Nat.lt_of_lt_of_le E_INT.lt (Nat.le_of_eq g1.symm))
  have ne3 : w_BIGINT ≠ b1 := Nat.ne_of_lt (Nat.lt_of_lt_of_le E_BIGINT.lt (Nat.le_of_eq g1.symm))
  have ne4 : w_BOOLEAN ≠ b1 := Nat.ne_of_lt (Nat.lt_of_lt_of_le E_BOOLEAN.lt (Nat.le_of_eq g1.symm))
  have ne5 : w_TEXT ≠ b1 := Nat.ne_of_lt (Nat.lt_of_lt_of_le E_TEXT.lt (Nat.le_of_eq g1.symm))
  have g_b1 : n0 ≤ b1 := Nat.le_trans Z0 (Nat.le_of_eq g1.symm)
  have S_INT__1 := S_INT.ext E1
  have E_INT__1 := E_INT.ext E1
  have S_BIGINT__1 := S_BIGINT.ext E1
  have E_BIGINT__1 := E_BIGINT.ext E1
  have S_BOOLEAN__1 := S_BOOLEAN.ext E1
  have E_BOOLEAN__1 := E_BOOLEAN.ext E1
  have S_TEXT__1 := S_TEXT.ext E1
  have E_TEXT__1 := E_TEXT.ext E1
  have F_INT_ordinal__1 := F_INT_ordinal.ext E1
  have F_BIGINT_ordinal__1 := F_BIGINT_ordinal.ext E1
  have F_BOOLEAN_ordinal__1 := F_BOOLEAN_ordinal.ext E1
  have F_TEXT_ordinal__1 := F_TEXT_ordinal.ext E1
  have Z1 : n0 ≤ h1.size := Nat.le_trans Z0 E1.1
  have V_b1 : Arv Z h1 b1 k1 (.object "com/example/truerow/truerow/postgres/Type") (4 : Int32) [.null, .null, .null, .null] .null := (Arv.new A1 (by decide)).pad (pad_rep [] .null 4)
  refine Go.st st1 ?_
  show Go _ _ _ _ _ _ _ T1 (mkF m 4 #[.val (.int p0), .val (.int p1), .unset, .unset, .unset] [(.ref b1)])
  refine Go.st (fun _ k => XS.dup X1.here hx rfl (hb hby at_4) rfl rfl k) ?_
  show Go _ _ _ _ _ _ _ T1 (mkF m 5 #[.val (.int p0), .val (.int p1), .unset, .unset, .unset] [(.ref b1), (.ref b1)])
  refine Go.st (fun _ k => XS.iconst X1.here hx rfl (hb hby at_5) k) ?_
  show Go _ _ _ _ _ _ _ T1 (mkF m 6 #[.val (.int p0), .val (.int p1), .unset, .unset, .unset] [(.int (0 : Int32)), (.ref b1), (.ref b1)])
  obtain ⟨T6, X6, e6, st6⟩ := getS2 X1 hx hZ hown (host := "") (Or.inl (hw _ (List.mem_of_getElem? (i := 2) rfl))) Via.refl e1 S_INT__1 (g := (mkF m 6 #[.val (.int p0), .val (.int p1), .unset, .unset, .unset] [(.int (0 : Int32)), (.ref b1), (.ref b1)])) rfl (hb hby at_6)
  refine Go.st st6 ?_
  show Go _ _ _ _ _ _ _ T6 (mkF m 9 #[.val (.int p0), .val (.int p1), .unset, .unset, .unset] [(.ref w_INT), (.int (0 : Int32)), (.ref b1), (.ref b1)])
  obtain ⟨cl7, Ar7, qq7, SS7, NN7, HH7, GG7⟩ := id V_b1
  have hin8 : ¬ ((0 : Int32) < 0 ∨ cl7.slots.size ≤ ((0 : Int32)).toNatClampNeg) := inb_of SS7 ⟨by decide, by decide⟩
  obtain ⟨T9, h9, X9, e9, W9, st9⟩ := stR X6 hx hZ e6 Ar7 (j := (0 : Int32)) hin8 rfl (Sto.ofV Ar7 qq7 O1 (Ins.self E_INT__1)) (g := (mkF m 9 #[.val (.int p0), .val (.int p1), .unset, .unset, .unset] [(.ref w_INT), (.int (0 : Int32)), (.ref b1), (.ref b1)])) rfl rfl (hb hby at_9)
  have V_b1__9 : Arv Z h9 b1 k1 (.object "com/example/truerow/truerow/postgres/Type") (4 : Int32) [(.ref w_INT), .null, .null, .null] .null := Arv.set Ar7 qq7 SS7 NN7 HH7 GG7 rfl W9 0 rfl (Nat.le_of_ble_eq_true rfl)
  have S_INT__9 := S_INT__1.wr W9
  have E_INT__9 := E_INT__1.wr W9
  have S_BIGINT__9 := S_BIGINT__1.wr W9
  have E_BIGINT__9 := E_BIGINT__1.wr W9
  have S_BOOLEAN__9 := S_BOOLEAN__1.wr W9
  have E_BOOLEAN__9 := E_BOOLEAN__1.wr W9
  have S_TEXT__9 := S_TEXT__1.wr W9
  have E_TEXT__9 := E_TEXT__1.wr W9
  have F_INT_ordinal__9 := F_INT_ordinal__1.other W9 (Or.inl ne2)
  have F_BIGINT_ordinal__9 := F_BIGINT_ordinal__1.other W9 (Or.inl ne3)
  have F_BOOLEAN_ordinal__9 := F_BOOLEAN_ordinal__1.other W9 (Or.inl ne4)
  have F_TEXT_ordinal__9 := F_TEXT_ordinal__1.other W9 (Or.inl ne5)
  have Z9 : n0 ≤ h9.size := Nat.le_trans Z1 (Keep.of_wr W9).1
  have N9 := Fr.snoc X9 N0 g_b1
  refine Go.st st9 ?_
  show Go _ _ _ _ _ _ _ T9 (mkF m 10 #[.val (.int p0), .val (.int p1), .unset, .unset, .unset] [(.ref b1)])
  refine Go.st (fun _ k => XS.dup X9.here hx rfl (hb hby at_10) rfl rfl k) ?_
  show Go _ _ _ _ _ _ _ T9 (mkF m 11 #[.val (.int p0), .val (.int p1), .unset, .unset, .unset] [(.ref b1), (.ref b1)])
  refine Go.st (fun _ k => XS.iconst X9.here hx rfl (hb hby at_11) k) ?_
  show Go _ _ _ _ _ _ _ T9 (mkF m 12 #[.val (.int p0), .val (.int p1), .unset, .unset, .unset] [(.int (1 : Int32)), (.ref b1), (.ref b1)])
  obtain ⟨T10, X10, e10, st10⟩ := getS2 X9 hx hZ hown (host := "") (Or.inl (hw _ (List.mem_of_getElem? (i := 6) rfl))) Via.refl e9 S_BIGINT__9 (g := (mkF m 12 #[.val (.int p0), .val (.int p1), .unset, .unset, .unset] [(.int (1 : Int32)), (.ref b1), (.ref b1)])) rfl (hb hby at_12)
  refine Go.st st10 ?_
  show Go _ _ _ _ _ _ _ T10 (mkF m 15 #[.val (.int p0), .val (.int p1), .unset, .unset, .unset] [(.ref w_BIGINT), (.int (1 : Int32)), (.ref b1), (.ref b1)])
  obtain ⟨cl11, Ar11, qq11, SS11, NN11, HH11, GG11⟩ := id V_b1__9
  have hin12 : ¬ ((1 : Int32) < 0 ∨ cl11.slots.size ≤ ((1 : Int32)).toNatClampNeg) := inb_of SS11 ⟨by decide, by decide⟩
  obtain ⟨T13, h13, X13, e13, W13, st13⟩ := stR X10 hx hZ e10 Ar11 (j := (1 : Int32)) hin12 rfl (Sto.ofV Ar11 qq11 O1 (Ins.self E_BIGINT__9)) (g := (mkF m 15 #[.val (.int p0), .val (.int p1), .unset, .unset, .unset] [(.ref w_BIGINT), (.int (1 : Int32)), (.ref b1), (.ref b1)])) rfl rfl (hb hby at_15)
  have V_b1__13 : Arv Z h13 b1 k1 (.object "com/example/truerow/truerow/postgres/Type") (4 : Int32) [(.ref w_INT), (.ref w_BIGINT), .null, .null] .null := Arv.set Ar11 qq11 SS11 NN11 HH11 GG11 rfl W13 1 rfl (Nat.le_of_ble_eq_true rfl)
  have S_INT__13 := S_INT__9.wr W13
  have E_INT__13 := E_INT__9.wr W13
  have S_BIGINT__13 := S_BIGINT__9.wr W13
  have E_BIGINT__13 := E_BIGINT__9.wr W13
  have S_BOOLEAN__13 := S_BOOLEAN__9.wr W13
  have E_BOOLEAN__13 := E_BOOLEAN__9.wr W13
  have S_TEXT__13 := S_TEXT__9.wr W13
  have E_TEXT__13 := E_TEXT__9.wr W13
  have F_INT_ordinal__13 := F_INT_ordinal__9.other W13 (Or.inl ne2)
  have F_BIGINT_ordinal__13 := F_BIGINT_ordinal__9.other W13 (Or.inl ne3)
  have F_BOOLEAN_ordinal__13 := F_BOOLEAN_ordinal__9.other W13 (Or.inl ne4)
  have F_TEXT_ordinal__13 := F_TEXT_ordinal__9.other W13 (Or.inl ne5)
  have Z13 : n0 ≤ h13.size := Nat.le_trans Z9 (Keep.of_wr W13).1
  have N13 := Fr.snoc X13 N9 g_b1
  refine Go.st st13 ?_
  show Go _ _ _ _ _ _ _ T13 (mkF m 16 #[.val (.int p0), .val (.int p1), .unset, .unset, .unset] [(.ref b1)])
  refine Go.st (fun _ k => XS.dup X13.here hx rfl (hb hby at_16) rfl rfl k) ?_
  show Go _ _ _ _ _ _ _ T13 (mkF m 17 #[.val (.int p0), .val (.int p1), .unset, .unset, .unset] [(.ref b1), (.ref b1)])
  refine Go.st (fun _ k => XS.iconst X13.here hx rfl (hb hby at_17) k) ?_
  show Go _ _ _ _ _ _ _ T13 (mkF m 18 #[.val (.int p0), .val (.int p1), .unset, .unset, .unset] [(.int (2 : Int32)), (.ref b1), (.ref b1)])
  obtain ⟨T14, X14, e14, st14⟩ := getS2 X13 hx hZ hown (host := "") (Or.inl (hw _ (List.mem_of_getElem? (i := 8) rfl))) Via.refl e13 S_BOOLEAN__13 (g := (mkF m 18 #[.val (.int p0), .val (.int p1), .unset, .unset, .unset] [(.int (2 : Int32)), (.ref b1), (.ref b1)])) rfl (hb hby at_18)
  refine Go.st st14 ?_
  show Go _ _ _ _ _ _ _ T14 (mkF m 21 #[.val (.int p0), .val (.int p1), .unset, .unset, .unset] [(.ref w_BOOLEAN), (.int (2 : Int32)), (.ref b1), (.ref b1)])
  obtain ⟨cl15, Ar15, qq15, SS15, NN15, HH15, GG15⟩ := id V_b1__13
  have hin16 : ¬ ((2 : Int32) < 0 ∨ cl15.slots.size ≤ ((2 : Int32)).toNatClampNeg) := inb_of SS15 ⟨by decide, by decide⟩
  obtain ⟨T17, h17, X17, e17, W17, st17⟩ := stR X14 hx hZ e14 Ar15 (j := (2 : Int32)) hin16 rfl (Sto.ofV Ar15 qq15 O1 (Ins.self E_BOOLEAN__13)) (g := (mkF m 21 #[.val (.int p0), .val (.int p1), .unset, .unset, .unset] [(.ref w_BOOLEAN), (.int (2 : Int32)), (.ref b1), (.ref b1)])) rfl rfl (hb hby at_21)
  have V_b1__17 : Arv Z h17 b1 k1 (.object "com/example/truerow/truerow/postgres/Type") (4 : Int32) [(.ref w_INT), (.ref w_BIGINT), (.ref w_BOOLEAN), .null] .null := Arv.set Ar15 qq15 SS15 NN15 HH15 GG15 rfl W17 2 rfl (Nat.le_of_ble_eq_true rfl)
  have S_INT__17 := S_INT__13.wr W17
  have E_INT__17 := E_INT__13.wr W17
  have S_BIGINT__17 := S_BIGINT__13.wr W17
  have E_BIGINT__17 := E_BIGINT__13.wr W17
  have S_BOOLEAN__17 := S_BOOLEAN__13.wr W17
  have E_BOOLEAN__17 := E_BOOLEAN__13.wr W17
  have S_TEXT__17 := S_TEXT__13.wr W17
  have E_TEXT__17 := E_TEXT__13.wr W17
  have F_INT_ordinal__17 := F_INT_ordinal__13.other W17 (Or.inl ne2)
  have F_BIGINT_ordinal__17 := F_BIGINT_ordinal__13.other W17 (Or.inl ne3)
  have F_BOOLEAN_ordinal__17 := F_BOOLEAN_ordinal__13.other W17 (Or.inl ne4)
  have F_TEXT_ordinal__17 := F_TEXT_ordinal__13.other W17 (Or.inl ne5)
  have Z17 : n0 ≤ h17.size := Nat.le_trans Z13 (Keep.of_wr W17).1
  have N17 := Fr.snoc X17 N13 g_b1
  refine Go.st st17 ?_
  show Go _ _ _ _ _ _ _ T17 (mkF m 22 #[.val (.int p0), .val (.int p1), .unset, .unset, .unset] [(.ref b1)])
  refine Go.st (fun _ k => XS.dup X17.here hx rfl (hb hby at_22) rfl rfl k) ?_
  show Go _ _ _ _ _ _ _ T17 (mkF m 23 #[.val (.int p0), .val (.int p1), .unset, .unset, .unset] [(.ref b1), (.ref b1)])
  refine Go.st (fun _ k => XS.iconst X17.here hx rfl (hb hby at_23) k) ?_
  show Go _ _ _ _ _ _ _ T17 (mkF m 24 #[.val (.int p0), .val (.int p1), .unset, .unset, .unset] [(.int (3 : Int32)), (.ref b1), (.ref b1)])
  obtain ⟨T18, X18, e18, st18⟩ := getS2 X17 hx hZ hown (host := "") (Or.inl (hw _ (List.mem_of_getElem? (i := 10) rfl))) Via.refl e17 S_TEXT__17 (g := (mkF m 24 #[.val (.int p0), .val (.int p1), .unset, .unset, .unset] [(.int (3 : Int32)), (.ref b1), (.ref b1)])) rfl (hb hby at_24)
  refine Go.st st18 ?_
  show Go _ _ _ _ _ _ _ T18 (mkF m 27 #[.val (.int p0), .val (.int p1), .unset, .unset, .unset] [(.ref w_TEXT), (.int (3 : Int32)), (.ref b1), (.ref b1)])
  obtain ⟨cl19, Ar19, qq19, SS19, NN19, HH19, GG19⟩ := id V_b1__17
  have hin20 : ¬ ((3 : Int32) < 0 ∨ cl19.slots.size ≤ ((3 : Int32)).toNatClampNeg) := inb_of SS19 ⟨by decide, by decide⟩
  obtain ⟨T21, h21, X21, e21, W21, st21⟩ := stR X18 hx hZ e18 Ar19 (j := (3 : Int32)) hin20 rfl (Sto.ofV Ar19 qq19 O1 (Ins.self E_TEXT__17)) (g := (mkF m 27 #[.val (.int p0), .val (.int p1), .unset, .unset, .unset] [(.ref w_TEXT), (.int (3 : Int32)), (.ref b1), (.ref b1)])) rfl rfl (hb hby at_27)
  have V_b1__21 : Arv Z h21 b1 k1 (.object "com/example/truerow/truerow/postgres/Type") (4 : Int32) [(.ref w_INT), (.ref w_BIGINT), (.ref w_BOOLEAN), (.ref w_TEXT)] .null := Arv.set Ar19 qq19 SS19 NN19 HH19 GG19 rfl W21 3 rfl (Nat.le_of_ble_eq_true rfl)
  have S_INT__21 := S_INT__17.wr W21
  have E_INT__21 := E_INT__17.wr W21
  have S_BIGINT__21 := S_BIGINT__17.wr W21
  have E_BIGINT__21 := E_BIGINT__17.wr W21
  have S_BOOLEAN__21 := S_BOOLEAN__17.wr W21
  have E_BOOLEAN__21 := E_BOOLEAN__17.wr W21
  have S_TEXT__21 := S_TEXT__17.wr W21
  have E_TEXT__21 := E_TEXT__17.wr W21
  have F_INT_ordinal__21 := F_INT_ordinal__17.other W21 (Or.inl ne2)
  have F_BIGINT_ordinal__21 := F_BIGINT_ordinal__17.other W21 (Or.inl ne3)
  have F_BOOLEAN_ordinal__21 := F_BOOLEAN_ordinal__17.other W21 (Or.inl ne4)
  have F_TEXT_ordinal__21 := F_TEXT_ordinal__17.other W21 (Or.inl ne5)
  have Z21 : n0 ≤ h21.size := Nat.le_trans Z17 (Keep.of_wr W21).1
  have N21 := Fr.snoc X21 N17 g_b1
  refine Go.st st21 ?_
  show Go _ _ _ _ _ _ _ T21 (mkF m 28 #[.val (.int p0), .val (.int p1), .unset, .unset, .unset] [(.ref b1)])
  refine Go.st (fun _ k => XS.astoreN X21.here hx rfl (hb hby at_28) rfl rfl (l' := #[.val (.int p0), .val (.int p1), .val (.ref b1), .unset, .unset]) rfl k) ?_
  show Go _ _ _ _ _ _ _ T21 (mkF m 29 #[.val (.int p0), .val (.int p1), .val (.ref b1), .unset, .unset] [])
  refine Go.st (fun _ k => XS.iloadN X21.here hx rfl (hb hby at_29) rfl k) ?_
  show Go _ _ _ _ _ _ _ T21 (mkF m 30 #[.val (.int p0), .val (.int p1), .val (.ref b1), .unset, .unset] [(.int p0)])
  refine Go.st (fun _ k => XS.iconst X21.here hx rfl (hb hby at_30) k) ?_
  show Go _ _ _ _ _ _ _ T21 (mkF m 31 #[.val (.int p0), .val (.int p1), .val (.ref b1), .unset, .unset] [(.int (3 : Int32)), (.int p0)])
  refine Go.st (fun _ k => XS.iand X21.here hx rfl (hb hby at_31) rfl k) ?_
  show Go _ _ _ _ _ _ _ T21 (mkF m 32 #[.val (.int p0), .val (.int p1), .val (.ref b1), .unset, .unset] [(.int (p0 &&& (3 : Int32)))])
  rcases own_and3 p0 with hk22 | hk22 | hk22 | hk22
  · rw [hk22]
    show Go _ _ _ _ _ _ _ T21 (mkF m 32 #[.val (.int p0), .val (.int p1), .val (.ref b1), .unset, .unset] [(.int (0 : Int32))])
    refine Go.st (fun _ k => XS.istoreN X21.here hx rfl (hb hby at_32) rfl (l' := #[.val (.int p0), .val (.int p1), .val (.ref b1), .val (.int (0 : Int32)), .unset]) rfl k) ?_
    show Go _ _ _ _ _ _ _ T21 (mkF m 33 #[.val (.int p0), .val (.int p1), .val (.ref b1), .val (.int (0 : Int32)), .unset] [])
    refine Go.st (fun _ k => XS.iloadN X21.here hx rfl (hb hby at_33) rfl k) ?_
    show Go _ _ _ _ _ _ _ T21 (mkF m 34 #[.val (.int p0), .val (.int p1), .val (.ref b1), .val (.int (0 : Int32)), .unset] [(.int p1)])
    refine Go.st (fun _ k => XS.iconst X21.here hx rfl (hb hby at_34) k) ?_
    show Go _ _ _ _ _ _ _ T21 (mkF m 35 #[.val (.int p0), .val (.int p1), .val (.ref b1), .val (.int (0 : Int32)), .unset] [(.int (3 : Int32)), (.int p1)])
    refine Go.st (fun _ k => XS.iand X21.here hx rfl (hb hby at_35) rfl k) ?_
    show Go _ _ _ _ _ _ _ T21 (mkF m 36 #[.val (.int p0), .val (.int p1), .val (.ref b1), .val (.int (0 : Int32)), .unset] [(.int (p1 &&& (3 : Int32)))])
    rcases own_and3 p1 with hk23 | hk23 | hk23 | hk23
    · rw [hk23]
      show Go _ _ _ _ _ _ _ T21 (mkF m 36 #[.val (.int p0), .val (.int p1), .val (.ref b1), .val (.int (0 : Int32)), .unset] [(.int (0 : Int32))])
      refine Go.st (fun _ k => XS.istore X21.here hx rfl (hb hby at_36) rfl (l' := #[.val (.int p0), .val (.int p1), .val (.ref b1), .val (.int (0 : Int32)), .val (.int (0 : Int32))]) rfl k) ?_
      show Go _ _ _ _ _ _ _ T21 (mkF m 38 #[.val (.int p0), .val (.int p1), .val (.ref b1), .val (.int (0 : Int32)), .val (.int (0 : Int32))] [])
      refine Go.st (fun _ k => XS.aloadN X21.here hx rfl (hb hby at_38) rfl rfl k) ?_
      show Go _ _ _ _ _ _ _ T21 (mkF m 39 #[.val (.int p0), .val (.int p1), .val (.ref b1), .val (.int (0 : Int32)), .val (.int (0 : Int32))] [(.ref b1)])
      refine Go.st (fun _ k => XS.iloadN X21.here hx rfl (hb hby at_39) rfl k) ?_
      show Go _ _ _ _ _ _ _ T21 (mkF m 40 #[.val (.int p0), .val (.int p1), .val (.ref b1), .val (.int (0 : Int32)), .val (.int (0 : Int32))] [(.int (0 : Int32)), (.ref b1)])
      obtain ⟨cl24, Ar24, qq24, SS24, NN24, HH24, GG24⟩ := id V_b1__21
      have hin25 : ¬ ((0 : Int32) < 0 ∨ cl24.slots.size ≤ ((0 : Int32)).toNatClampNeg) := inb_of SS24 ⟨by decide, by decide⟩
      refine Go.st (fun _ k => X21.aaload hx (j := (0 : Int32)) (v := (.ref w_INT)) (by rw [e21]; exact Ar24.1) (State.isArrayOf_alike hZ.alike Ar24.2.1) rfl Ar24.2.2 hin25 (HH24.at hin25 rfl) (g := (mkF m 40 #[.val (.int p0), .val (.int p1), .val (.ref b1), .val (.int (0 : Int32)), .val (.int (0 : Int32))] [(.int (0 : Int32)), (.ref b1)])) rfl rfl (hb hby at_40) _ k) ?_
      show Go _ _ _ _ _ _ _ T21 (mkF m 41 #[.val (.int p0), .val (.int p1), .val (.ref b1), .val (.int (0 : Int32)), .val (.int (0 : Int32))] [(.ref w_INT)])
      refine Go.st (fun _ k => XS.aloadN X21.here hx rfl (hb hby at_41) rfl rfl k) ?_
      show Go _ _ _ _ _ _ _ T21 (mkF m 42 #[.val (.int p0), .val (.int p1), .val (.ref b1), .val (.int (0 : Int32)), .val (.int (0 : Int32))] [(.ref b1), (.ref w_INT)])
      refine Go.st (fun _ k => XS.iload X21.here hx rfl (hb hby at_42) rfl k) ?_
      show Go _ _ _ _ _ _ _ T21 (mkF m 44 #[.val (.int p0), .val (.int p1), .val (.ref b1), .val (.int (0 : Int32)), .val (.int (0 : Int32))] [(.int (0 : Int32)), (.ref b1), (.ref w_INT)])
      obtain ⟨cl26, Ar26, qq26, SS26, NN26, HH26, GG26⟩ := id V_b1__21
      have hin27 : ¬ ((0 : Int32) < 0 ∨ cl26.slots.size ≤ ((0 : Int32)).toNatClampNeg) := inb_of SS26 ⟨by decide, by decide⟩
      refine Go.st (fun _ k => X21.aaload hx (j := (0 : Int32)) (v := (.ref w_INT)) (by rw [e21]; exact Ar26.1) (State.isArrayOf_alike hZ.alike Ar26.2.1) rfl Ar26.2.2 hin27 (HH26.at hin27 rfl) (g := (mkF m 44 #[.val (.int p0), .val (.int p1), .val (.ref b1), .val (.int (0 : Int32)), .val (.int (0 : Int32))] [(.int (0 : Int32)), (.ref b1), (.ref w_INT)])) rfl rfl (hb hby at_44) _ k) ?_
      show Go _ _ _ _ _ _ _ T21 (mkF m 45 #[.val (.int p0), .val (.int p1), .val (.ref b1), .val (.int (0 : Int32)), .val (.int (0 : Int32))] [(.ref w_INT), (.ref w_INT)])
      obtain ⟨cq28, kq28, q28a, q28b, q28c⟩ := isOf hZ e21 E_INT__21
      obtain ⟨_, _, ⟨T28, L28, k28, n28⟩, -, X28, ⟨Lc28, hQ28, l28, y28, z28⟩, st28⟩ := X21.virtualBack hx (y := (⟨"com/example/truerow/truerow/postgres/Type", "castsTo", "(Lcom/example/truerow/truerow/postgres/Type;)Z"⟩ : MethodName)) (z := (⟨"com/example/truerow/truerow/postgres/Type", "castsTo", "(Lcom/example/truerow/truerow/postgres/Type;)Z"⟩ : MethodName)) hown (mvT hZ (hw _ (List.mem_of_getElem? (i := 12) rfl))) (mvT hZ (hw _ (List.mem_of_getElem? (i := 13) rfl))) (notFace_of_selects (args := #[]) (mvT hZ (hw _ (List.mem_of_getElem? (i := 15) rfl)))) (mvT hZ (hw _ (List.mem_of_getElem? (i := 15) rfl))) (mvT hZ (hw _ (List.mem_of_getElem? (i := 14) rfl))) (by decide) (backOf (W := 0) (rm1 l Z a0 hw [] w_INT w_INT w_BIGINT w_BOOLEAN h21 n0 Z21 S_BIGINT__21 S_BOOLEAN__21) hZ (hw _ (List.mem_of_getElem? (i := 16) rfl)) (hw _ (List.mem_of_getElem? (i := 3) rfl)) (by decide) (by decide)) q28a q28c (g := (mkF m 45 #[.val (.int p0), .val (.int p1), .val (.ref b1), .val (.int (0 : Int32)), .val (.int (0 : Int32))] [(.ref w_INT), (.ref w_INT)])) rfl (by rw [hml]; rfl) (Steps.refl _) (argsL := [(.ref w_INT)]) (rest := []) (lenOf pd_0 rfl) rfl (by show 2 * 0 + _ ≤ _; exact Nat.le_of_eq rfl) (hb hby at_45) (fun _ _ => ⟨rfl, e21, (by decide : 1 + 0 ≤ _), (by decide : 4 + 0 ≤ _)⟩)
      dsimp only [Pt.U, Pt.locs, Pt.cells, Pt.slots] at X28 l28 y28 z28 st28 hQ28
      subst l28 y28 z28
      obtain ⟨rfl, N28q, e28⟩ := hQ28
      have N28 := Fr.app N21 N28q
      refine Go.st (fun _ k => st28.trans k) ?_
      show Go _ _ _ _ _ _ _ T28 (mkF m 48 #[.val (.int p0), .val (.int p1), .val (.ref b1), .val (.int (0 : Int32)), .val (.int (0 : Int32))] [(.int (val_1 w_INT w_INT w_BIGINT w_BOOLEAN))])
      rw [show (val_1 w_INT w_INT w_BIGINT w_BOOLEAN) = (1 : Int32) from by unfold val_1; rw [if_neg ne_w_INT_w_BIGINT, if_neg ne_w_INT_w_BOOLEAN]]
      show Go _ _ _ _ _ _ _ T28 (mkF m 48 #[.val (.int p0), .val (.int p1), .val (.ref b1), .val (.int (0 : Int32)), .val (.int (0 : Int32))] [(.int (1 : Int32))])
      refine Go.st (fun _ k => XS.iloadN X28.here hx rfl (hb hby at_48) rfl k) ?_
      show Go _ _ _ _ _ _ _ T28 (mkF m 49 #[.val (.int p0), .val (.int p1), .val (.ref b1), .val (.int (0 : Int32)), .val (.int (0 : Int32))] [(.int (0 : Int32)), (.int (1 : Int32))])
      refine Go.st (fun _ k => XS.iload X28.here hx rfl (hb hby at_49) rfl k) ?_
      show Go _ _ _ _ _ _ _ T28 (mkF m 51 #[.val (.int p0), .val (.int p1), .val (.ref b1), .val (.int (0 : Int32)), .val (.int (0 : Int32))] [(.int (0 : Int32)), (.int (0 : Int32)), (.int (1 : Int32))])
      obtain ⟨_, _, ⟨T29, L29, k29, n29⟩, -, X29, ⟨Lc29, hQ29, l29, y29, z29⟩, st29⟩ := Jvm.LawKit.callS X28 hx (y := (⟨"com/example/truerow/truerow/postgres/TypeCastsToPinLaw", "expected", "(II)Z"⟩ : MethodName)) hown (mvT hZ (hw _ (List.mem_of_getElem? (i := 19) rfl))) (mvT hZ (hw _ (List.mem_of_getElem? (i := 20) rfl))) (mvT hZ (hw _ (List.mem_of_getElem? (i := 21) rfl))) (mvT hZ (hw _ (List.mem_of_getElem? (i := 22) rfl))) (by decide) (backOf (W := 1) (rm2 l Z a0 hw [] (0 : Int32) (0 : Int32)  h21 n0 Z21 (Or.inl rfl) (Or.inl rfl)) hZ (hw _ (List.mem_of_getElem? (i := 22) rfl)) (hw _ (List.mem_of_getElem? (i := 21) rfl)) (by decide) (by decide)) (g := (mkF m 51 #[.val (.int p0), .val (.int p1), .val (.ref b1), .val (.int (0 : Int32)), .val (.int (0 : Int32))] [(.int (0 : Int32)), (.int (0 : Int32)), (.int (1 : Int32))])) rfl (by rw [hml]; rfl) (argsL := [(.int (0 : Int32)), (.int (0 : Int32))]) (rest := [(.int (1 : Int32))]) (lenOf pd_1 rfl) rfl (by show 2 * 0 + _ ≤ _; exact Nat.le_of_eq rfl) (hb hby at_51) (fun _ _ => ⟨rfl, e28, (by decide : 1 + 0 ≤ _), (by decide : 4 + 0 ≤ _)⟩)
      dsimp only [Pt.U, Pt.locs, Pt.cells, Pt.slots] at X29 l29 y29 z29 st29 hQ29
      subst l29 y29 z29
      obtain ⟨rfl, N29q, e29⟩ := hQ29
      have N29 := Fr.app N28 N29q
      refine Go.st st29 ?_
      show Go _ _ _ _ _ _ _ T29 (mkF m 54 #[.val (.int p0), .val (.int p1), .val (.ref b1), .val (.int (0 : Int32)), .val (.int (0 : Int32))] [(.int (val_2 (0 : Int32) (0 : Int32))), (.int (1 : Int32))])
      rw [show (val_2 (0 : Int32) (0 : Int32)) = (1 : Int32) from by unfold val_2; rw [if_pos (by decide +kernel : (0 : Int32) = (0 : Int32))]]
      show Go _ _ _ _ _ _ _ T29 (mkF m 54 #[.val (.int p0), .val (.int p1), .val (.ref b1), .val (.int (0 : Int32)), .val (.int (0 : Int32))] [(.int (1 : Int32)), (.int (1 : Int32))])
      refine Go.st (fun _ k => XS.icmpNo X29.here hx rfl (hb hby at_54) rfl (teq (by decide : (1 : Int32) = (1 : Int32))).2 k) ?_
      show Go _ _ _ _ _ _ _ T29 (mkF m 57 #[.val (.int p0), .val (.int p1), .val (.ref b1), .val (.int (0 : Int32)), .val (.int (0 : Int32))] [])
      refine Go.st (fun _ k => XS.iconst X29.here hx rfl (hb hby at_57) k) ?_
      show Go _ _ _ _ _ _ _ T29 (mkF m 58 #[.val (.int p0), .val (.int p1), .val (.ref b1), .val (.int (0 : Int32)), .val (.int (0 : Int32))] [(.int (1 : Int32))])
      refine Go.st (fun _ k => XS.goto X29.here hx rfl (pc0 := 58) (pc' := 62) rfl (hb hby at_58) (by decide) (by decide) k) ?_
      show Go _ _ _ _ _ _ _ T29 (mkF m 62 #[.val (.int p0), .val (.int p1), .val (.ref b1), .val (.int (0 : Int32)), .val (.int (0 : Int32))] [(.int (1 : Int32))])
      refine Go.ret X29 hlk (v := some (.int (1 : Int32))) (fun h => by rw [hret] at h; cases h) (fun fs hr => retN X29 hx (t := .boolean) hret (by simp) (hb hby at_62) hr) ?_ (by decide) (by decide)
      show Q0 Z p0 p1 w_INT w_BIGINT w_BOOLEAN w_TEXT h0 n0 (some (.int (1 : Int32))) T29.heap _
      rw [e29]
      exact ⟨rfl, N29⟩
    · rw [hk23]
      show Go _ _ _ _ _ _ _ T21 (mkF m 36 #[.val (.int p0), .val (.int p1), .val (.ref b1), .val (.int (0 : Int32)), .unset] [(.int (1 : Int32))])
      refine Go.st (fun _ k => XS.istore X21.here hx rfl (hb hby at_36) rfl (l' := #[.val (.int p0), .val (.int p1), .val (.ref b1), .val (.int (0 : Int32)), .val (.int (1 : Int32))]) rfl k) ?_
      show Go _ _ _ _ _ _ _ T21 (mkF m 38 #[.val (.int p0), .val (.int p1), .val (.ref b1), .val (.int (0 : Int32)), .val (.int (1 : Int32))] [])
      refine Go.st (fun _ k => XS.aloadN X21.here hx rfl (hb hby at_38) rfl rfl k) ?_
      show Go _ _ _ _ _ _ _ T21 (mkF m 39 #[.val (.int p0), .val (.int p1), .val (.ref b1), .val (.int (0 : Int32)), .val (.int (1 : Int32))] [(.ref b1)])
      refine Go.st (fun _ k => XS.iloadN X21.here hx rfl (hb hby at_39) rfl k) ?_
      show Go _ _ _ _ _ _ _ T21 (mkF m 40 #[.val (.int p0), .val (.int p1), .val (.ref b1), .val (.int (0 : Int32)), .val (.int (1 : Int32))] [(.int (0 : Int32)), (.ref b1)])
      obtain ⟨cl30, Ar30, qq30, SS30, NN30, HH30, GG30⟩ := id V_b1__21
      have hin31 : ¬ ((0 : Int32) < 0 ∨ cl30.slots.size ≤ ((0 : Int32)).toNatClampNeg) := inb_of SS30 ⟨by decide, by decide⟩
      refine Go.st (fun _ k => X21.aaload hx (j := (0 : Int32)) (v := (.ref w_INT)) (by rw [e21]; exact Ar30.1) (State.isArrayOf_alike hZ.alike Ar30.2.1) rfl Ar30.2.2 hin31 (HH30.at hin31 rfl) (g := (mkF m 40 #[.val (.int p0), .val (.int p1), .val (.ref b1), .val (.int (0 : Int32)), .val (.int (1 : Int32))] [(.int (0 : Int32)), (.ref b1)])) rfl rfl (hb hby at_40) _ k) ?_
      show Go _ _ _ _ _ _ _ T21 (mkF m 41 #[.val (.int p0), .val (.int p1), .val (.ref b1), .val (.int (0 : Int32)), .val (.int (1 : Int32))] [(.ref w_INT)])
      refine Go.st (fun _ k => XS.aloadN X21.here hx rfl (hb hby at_41) rfl rfl k) ?_
      show Go _ _ _ _ _ _ _ T21 (mkF m 42 #[.val (.int p0), .val (.int p1), .val (.ref b1), .val (.int (0 : Int32)), .val (.int (1 : Int32))] [(.ref b1), (.ref w_INT)])
      refine Go.st (fun _ k => XS.iload X21.here hx rfl (hb hby at_42) rfl k) ?_
      show Go _ _ _ _ _ _ _ T21 (mkF m 44 #[.val (.int p0), .val (.int p1), .val (.ref b1), .val (.int (0 : Int32)), .val (.int (1 : Int32))] [(.int (1 : Int32)), (.ref b1), (.ref w_INT)])
      obtain ⟨cl32, Ar32, qq32, SS32, NN32, HH32, GG32⟩ := id V_b1__21
      have hin33 : ¬ ((1 : Int32) < 0 ∨ cl32.slots.size ≤ ((1 : Int32)).toNatClampNeg) := inb_of SS32 ⟨by decide, by decide⟩
      refine Go.st (fun _ k => X21.aaload hx (j := (1 : Int32)) (v := (.ref w_BIGINT)) (by rw [e21]; exact Ar32.1) (State.isArrayOf_alike hZ.alike Ar32.2.1) rfl Ar32.2.2 hin33 (HH32.at hin33 rfl) (g := (mkF m 44 #[.val (.int p0), .val (.int p1), .val (.ref b1), .val (.int (0 : Int32)), .val (.int (1 : Int32))] [(.int (1 : Int32)), (.ref b1), (.ref w_INT)])) rfl rfl (hb hby at_44) _ k) ?_
      show Go _ _ _ _ _ _ _ T21 (mkF m 45 #[.val (.int p0), .val (.int p1), .val (.ref b1), .val (.int (0 : Int32)), .val (.int (1 : Int32))] [(.ref w_BIGINT), (.ref w_INT)])
      obtain ⟨cq34, kq34, q34a, q34b, q34c⟩ := isOf hZ e21 E_INT__21
      obtain ⟨_, _, ⟨T34, L34, k34, n34⟩, -, X34, ⟨Lc34, hQ34, l34, y34, z34⟩, st34⟩ := X21.virtualBack hx (y := (⟨"com/example/truerow/truerow/postgres/Type", "castsTo", "(Lcom/example/truerow/truerow/postgres/Type;)Z"⟩ : MethodName)) (z := (⟨"com/example/truerow/truerow/postgres/Type", "castsTo", "(Lcom/example/truerow/truerow/postgres/Type;)Z"⟩ : MethodName)) hown (mvT hZ (hw _ (List.mem_of_getElem? (i := 12) rfl))) (mvT hZ (hw _ (List.mem_of_getElem? (i := 13) rfl))) (notFace_of_selects (args := #[]) (mvT hZ (hw _ (List.mem_of_getElem? (i := 15) rfl)))) (mvT hZ (hw _ (List.mem_of_getElem? (i := 15) rfl))) (mvT hZ (hw _ (List.mem_of_getElem? (i := 14) rfl))) (by decide) (backOf (W := 0) (rm1 l Z a0 hw [] w_INT w_BIGINT w_BIGINT w_BOOLEAN h21 n0 Z21 S_BIGINT__21 S_BOOLEAN__21) hZ (hw _ (List.mem_of_getElem? (i := 16) rfl)) (hw _ (List.mem_of_getElem? (i := 3) rfl)) (by decide) (by decide)) q34a q34c (g := (mkF m 45 #[.val (.int p0), .val (.int p1), .val (.ref b1), .val (.int (0 : Int32)), .val (.int (1 : Int32))] [(.ref w_BIGINT), (.ref w_INT)])) rfl (by rw [hml]; rfl) (Steps.refl _) (argsL := [(.ref w_BIGINT)]) (rest := []) (lenOf pd_0 rfl) rfl (by show 2 * 0 + _ ≤ _; exact Nat.le_of_eq rfl) (hb hby at_45) (fun _ _ => ⟨rfl, e21, (by decide : 1 + 0 ≤ _), (by decide : 4 + 0 ≤ _)⟩)
      dsimp only [Pt.U, Pt.locs, Pt.cells, Pt.slots] at X34 l34 y34 z34 st34 hQ34
      subst l34 y34 z34
      obtain ⟨rfl, N34q, e34⟩ := hQ34
      have N34 := Fr.app N21 N34q
      refine Go.st (fun _ k => st34.trans k) ?_
      show Go _ _ _ _ _ _ _ T34 (mkF m 48 #[.val (.int p0), .val (.int p1), .val (.ref b1), .val (.int (0 : Int32)), .val (.int (1 : Int32))] [(.int (val_1 w_INT w_BIGINT w_BIGINT w_BOOLEAN))])
      rw [show (val_1 w_INT w_BIGINT w_BIGINT w_BOOLEAN) = (1 : Int32) from by unfold val_1; rw [if_neg ne_w_INT_w_BIGINT, if_neg ne_w_INT_w_BOOLEAN]]
      show Go _ _ _ _ _ _ _ T34 (mkF m 48 #[.val (.int p0), .val (.int p1), .val (.ref b1), .val (.int (0 : Int32)), .val (.int (1 : Int32))] [(.int (1 : Int32))])
      refine Go.st (fun _ k => XS.iloadN X34.here hx rfl (hb hby at_48) rfl k) ?_
      show Go _ _ _ _ _ _ _ T34 (mkF m 49 #[.val (.int p0), .val (.int p1), .val (.ref b1), .val (.int (0 : Int32)), .val (.int (1 : Int32))] [(.int (0 : Int32)), (.int (1 : Int32))])
      refine Go.st (fun _ k => XS.iload X34.here hx rfl (hb hby at_49) rfl k) ?_
      show Go _ _ _ _ _ _ _ T34 (mkF m 51 #[.val (.int p0), .val (.int p1), .val (.ref b1), .val (.int (0 : Int32)), .val (.int (1 : Int32))] [(.int (1 : Int32)), (.int (0 : Int32)), (.int (1 : Int32))])
      obtain ⟨_, _, ⟨T35, L35, k35, n35⟩, -, X35, ⟨Lc35, hQ35, l35, y35, z35⟩, st35⟩ := Jvm.LawKit.callS X34 hx (y := (⟨"com/example/truerow/truerow/postgres/TypeCastsToPinLaw", "expected", "(II)Z"⟩ : MethodName)) hown (mvT hZ (hw _ (List.mem_of_getElem? (i := 19) rfl))) (mvT hZ (hw _ (List.mem_of_getElem? (i := 20) rfl))) (mvT hZ (hw _ (List.mem_of_getElem? (i := 21) rfl))) (mvT hZ (hw _ (List.mem_of_getElem? (i := 22) rfl))) (by decide) (backOf (W := 1) (rm2 l Z a0 hw [] (0 : Int32) (1 : Int32)  h21 n0 Z21 (Or.inl rfl) (Or.inr (Or.inl rfl))) hZ (hw _ (List.mem_of_getElem? (i := 22) rfl)) (hw _ (List.mem_of_getElem? (i := 21) rfl)) (by decide) (by decide)) (g := (mkF m 51 #[.val (.int p0), .val (.int p1), .val (.ref b1), .val (.int (0 : Int32)), .val (.int (1 : Int32))] [(.int (1 : Int32)), (.int (0 : Int32)), (.int (1 : Int32))])) rfl (by rw [hml]; rfl) (argsL := [(.int (0 : Int32)), (.int (1 : Int32))]) (rest := [(.int (1 : Int32))]) (lenOf pd_1 rfl) rfl (by show 2 * 0 + _ ≤ _; exact Nat.le_of_eq rfl) (hb hby at_51) (fun _ _ => ⟨rfl, e34, (by decide : 1 + 0 ≤ _), (by decide : 4 + 0 ≤ _)⟩)
      dsimp only [Pt.U, Pt.locs, Pt.cells, Pt.slots] at X35 l35 y35 z35 st35 hQ35
      subst l35 y35 z35
      obtain ⟨rfl, N35q, e35⟩ := hQ35
      have N35 := Fr.app N34 N35q
      refine Go.st st35 ?_
      show Go _ _ _ _ _ _ _ T35 (mkF m 54 #[.val (.int p0), .val (.int p1), .val (.ref b1), .val (.int (0 : Int32)), .val (.int (1 : Int32))] [(.int (val_2 (0 : Int32) (1 : Int32))), (.int (1 : Int32))])
      rw [show (val_2 (0 : Int32) (1 : Int32)) = (1 : Int32) from by unfold val_2; rw [if_pos (by decide +kernel : (0 : Int32) = (0 : Int32))]]
      show Go _ _ _ _ _ _ _ T35 (mkF m 54 #[.val (.int p0), .val (.int p1), .val (.ref b1), .val (.int (0 : Int32)), .val (.int (1 : Int32))] [(.int (1 : Int32)), (.int (1 : Int32))])
      refine Go.st (fun _ k => XS.icmpNo X35.here hx rfl (hb hby at_54) rfl (teq (by decide : (1 : Int32) = (1 : Int32))).2 k) ?_
      show Go _ _ _ _ _ _ _ T35 (mkF m 57 #[.val (.int p0), .val (.int p1), .val (.ref b1), .val (.int (0 : Int32)), .val (.int (1 : Int32))] [])
      refine Go.st (fun _ k => XS.iconst X35.here hx rfl (hb hby at_57) k) ?_
      show Go _ _ _ _ _ _ _ T35 (mkF m 58 #[.val (.int p0), .val (.int p1), .val (.ref b1), .val (.int (0 : Int32)), .val (.int (1 : Int32))] [(.int (1 : Int32))])
      refine Go.st (fun _ k => XS.goto X35.here hx rfl (pc0 := 58) (pc' := 62) rfl (hb hby at_58) (by decide) (by decide) k) ?_
      show Go _ _ _ _ _ _ _ T35 (mkF m 62 #[.val (.int p0), .val (.int p1), .val (.ref b1), .val (.int (0 : Int32)), .val (.int (1 : Int32))] [(.int (1 : Int32))])
      refine Go.ret X35 hlk (v := some (.int (1 : Int32))) (fun h => by rw [hret] at h; cases h) (fun fs hr => retN X35 hx (t := .boolean) hret (by simp) (hb hby at_62) hr) ?_ (by decide) (by decide)
      show Q0 Z p0 p1 w_INT w_BIGINT w_BOOLEAN w_TEXT h0 n0 (some (.int (1 : Int32))) T35.heap _
      rw [e35]
      exact ⟨rfl, N35⟩
    · rw [hk23]
      show Go _ _ _ _ _ _ _ T21 (mkF m 36 #[.val (.int p0), .val (.int p1), .val (.ref b1), .val (.int (0 : Int32)), .unset] [(.int (2 : Int32))])
      refine Go.st (fun _ k => XS.istore X21.here hx rfl (hb hby at_36) rfl (l' := #[.val (.int p0), .val (.int p1), .val (.ref b1), .val (.int (0 : Int32)), .val (.int (2 : Int32))]) rfl k) ?_
      show Go _ _ _ _ _ _ _ T21 (mkF m 38 #[.val (.int p0), .val (.int p1), .val (.ref b1), .val (.int (0 : Int32)), .val (.int (2 : Int32))] [])
      refine Go.st (fun _ k => XS.aloadN X21.here hx rfl (hb hby at_38) rfl rfl k) ?_
      show Go _ _ _ _ _ _ _ T21 (mkF m 39 #[.val (.int p0), .val (.int p1), .val (.ref b1), .val (.int (0 : Int32)), .val (.int (2 : Int32))] [(.ref b1)])
      refine Go.st (fun _ k => XS.iloadN X21.here hx rfl (hb hby at_39) rfl k) ?_
      show Go _ _ _ _ _ _ _ T21 (mkF m 40 #[.val (.int p0), .val (.int p1), .val (.ref b1), .val (.int (0 : Int32)), .val (.int (2 : Int32))] [(.int (0 : Int32)), (.ref b1)])
      obtain ⟨cl36, Ar36, qq36, SS36, NN36, HH36, GG36⟩ := id V_b1__21
      have hin37 : ¬ ((0 : Int32) < 0 ∨ cl36.slots.size ≤ ((0 : Int32)).toNatClampNeg) := inb_of SS36 ⟨by decide, by decide⟩
      refine Go.st (fun _ k => X21.aaload hx (j := (0 : Int32)) (v := (.ref w_INT)) (by rw [e21]; exact Ar36.1) (State.isArrayOf_alike hZ.alike Ar36.2.1) rfl Ar36.2.2 hin37 (HH36.at hin37 rfl) (g := (mkF m 40 #[.val (.int p0), .val (.int p1), .val (.ref b1), .val (.int (0 : Int32)), .val (.int (2 : Int32))] [(.int (0 : Int32)), (.ref b1)])) rfl rfl (hb hby at_40) _ k) ?_
      show Go _ _ _ _ _ _ _ T21 (mkF m 41 #[.val (.int p0), .val (.int p1), .val (.ref b1), .val (.int (0 : Int32)), .val (.int (2 : Int32))] [(.ref w_INT)])
      refine Go.st (fun _ k => XS.aloadN X21.here hx rfl (hb hby at_41) rfl rfl k) ?_
      show Go _ _ _ _ _ _ _ T21 (mkF m 42 #[.val (.int p0), .val (.int p1), .val (.ref b1), .val (.int (0 : Int32)), .val (.int (2 : Int32))] [(.ref b1), (.ref w_INT)])
      refine Go.st (fun _ k => XS.iload X21.here hx rfl (hb hby at_42) rfl k) ?_
      show Go _ _ _ _ _ _ _ T21 (mkF m 44 #[.val (.int p0), .val (.int p1), .val (.ref b1), .val (.int (0 : Int32)), .val (.int (2 : Int32))] [(.int (2 : Int32)), (.ref b1), (.ref w_INT)])
      obtain ⟨cl38, Ar38, qq38, SS38, NN38, HH38, GG38⟩ := id V_b1__21
      have hin39 : ¬ ((2 : Int32) < 0 ∨ cl38.slots.size ≤ ((2 : Int32)).toNatClampNeg) := inb_of SS38 ⟨by decide, by decide⟩
      refine Go.st (fun _ k => X21.aaload hx (j := (2 : Int32)) (v := (.ref w_BOOLEAN)) (by rw [e21]; exact Ar38.1) (State.isArrayOf_alike hZ.alike Ar38.2.1) rfl Ar38.2.2 hin39 (HH38.at hin39 rfl) (g := (mkF m 44 #[.val (.int p0), .val (.int p1), .val (.ref b1), .val (.int (0 : Int32)), .val (.int (2 : Int32))] [(.int (2 : Int32)), (.ref b1), (.ref w_INT)])) rfl rfl (hb hby at_44) _ k) ?_
      show Go _ _ _ _ _ _ _ T21 (mkF m 45 #[.val (.int p0), .val (.int p1), .val (.ref b1), .val (.int (0 : Int32)), .val (.int (2 : Int32))] [(.ref w_BOOLEAN), (.ref w_INT)])
      obtain ⟨cq40, kq40, q40a, q40b, q40c⟩ := isOf hZ e21 E_INT__21
      obtain ⟨_, _, ⟨T40, L40, k40, n40⟩, -, X40, ⟨Lc40, hQ40, l40, y40, z40⟩, st40⟩ := X21.virtualBack hx (y := (⟨"com/example/truerow/truerow/postgres/Type", "castsTo", "(Lcom/example/truerow/truerow/postgres/Type;)Z"⟩ : MethodName)) (z := (⟨"com/example/truerow/truerow/postgres/Type", "castsTo", "(Lcom/example/truerow/truerow/postgres/Type;)Z"⟩ : MethodName)) hown (mvT hZ (hw _ (List.mem_of_getElem? (i := 12) rfl))) (mvT hZ (hw _ (List.mem_of_getElem? (i := 13) rfl))) (notFace_of_selects (args := #[]) (mvT hZ (hw _ (List.mem_of_getElem? (i := 15) rfl)))) (mvT hZ (hw _ (List.mem_of_getElem? (i := 15) rfl))) (mvT hZ (hw _ (List.mem_of_getElem? (i := 14) rfl))) (by decide) (backOf (W := 0) (rm1 l Z a0 hw [] w_INT w_BOOLEAN w_BIGINT w_BOOLEAN h21 n0 Z21 S_BIGINT__21 S_BOOLEAN__21) hZ (hw _ (List.mem_of_getElem? (i := 16) rfl)) (hw _ (List.mem_of_getElem? (i := 3) rfl)) (by decide) (by decide)) q40a q40c (g := (mkF m 45 #[.val (.int p0), .val (.int p1), .val (.ref b1), .val (.int (0 : Int32)), .val (.int (2 : Int32))] [(.ref w_BOOLEAN), (.ref w_INT)])) rfl (by rw [hml]; rfl) (Steps.refl _) (argsL := [(.ref w_BOOLEAN)]) (rest := []) (lenOf pd_0 rfl) rfl (by show 2 * 0 + _ ≤ _; exact Nat.le_of_eq rfl) (hb hby at_45) (fun _ _ => ⟨rfl, e21, (by decide : 1 + 0 ≤ _), (by decide : 4 + 0 ≤ _)⟩)
      dsimp only [Pt.U, Pt.locs, Pt.cells, Pt.slots] at X40 l40 y40 z40 st40 hQ40
      subst l40 y40 z40
      obtain ⟨rfl, N40q, e40⟩ := hQ40
      have N40 := Fr.app N21 N40q
      refine Go.st (fun _ k => st40.trans k) ?_
      show Go _ _ _ _ _ _ _ T40 (mkF m 48 #[.val (.int p0), .val (.int p1), .val (.ref b1), .val (.int (0 : Int32)), .val (.int (2 : Int32))] [(.int (val_1 w_INT w_BOOLEAN w_BIGINT w_BOOLEAN))])
      rw [show (val_1 w_INT w_BOOLEAN w_BIGINT w_BOOLEAN) = (1 : Int32) from by unfold val_1; rw [if_neg ne_w_INT_w_BIGINT, if_neg ne_w_INT_w_BOOLEAN]]
      show Go _ _ _ _ _ _ _ T40 (mkF m 48 #[.val (.int p0), .val (.int p1), .val (.ref b1), .val (.int (0 : Int32)), .val (.int (2 : Int32))] [(.int (1 : Int32))])
      refine Go.st (fun _ k => XS.iloadN X40.here hx rfl (hb hby at_48) rfl k) ?_
      show Go _ _ _ _ _ _ _ T40 (mkF m 49 #[.val (.int p0), .val (.int p1), .val (.ref b1), .val (.int (0 : Int32)), .val (.int (2 : Int32))] [(.int (0 : Int32)), (.int (1 : Int32))])
      refine Go.st (fun _ k => XS.iload X40.here hx rfl (hb hby at_49) rfl k) ?_
      show Go _ _ _ _ _ _ _ T40 (mkF m 51 #[.val (.int p0), .val (.int p1), .val (.ref b1), .val (.int (0 : Int32)), .val (.int (2 : Int32))] [(.int (2 : Int32)), (.int (0 : Int32)), (.int (1 : Int32))])
      obtain ⟨_, _, ⟨T41, L41, k41, n41⟩, -, X41, ⟨Lc41, hQ41, l41, y41, z41⟩, st41⟩ := Jvm.LawKit.callS X40 hx (y := (⟨"com/example/truerow/truerow/postgres/TypeCastsToPinLaw", "expected", "(II)Z"⟩ : MethodName)) hown (mvT hZ (hw _ (List.mem_of_getElem? (i := 19) rfl))) (mvT hZ (hw _ (List.mem_of_getElem? (i := 20) rfl))) (mvT hZ (hw _ (List.mem_of_getElem? (i := 21) rfl))) (mvT hZ (hw _ (List.mem_of_getElem? (i := 22) rfl))) (by decide) (backOf (W := 1) (rm2 l Z a0 hw [] (0 : Int32) (2 : Int32)  h21 n0 Z21 (Or.inl rfl) (Or.inr (Or.inr (Or.inl rfl)))) hZ (hw _ (List.mem_of_getElem? (i := 22) rfl)) (hw _ (List.mem_of_getElem? (i := 21) rfl)) (by decide) (by decide)) (g := (mkF m 51 #[.val (.int p0), .val (.int p1), .val (.ref b1), .val (.int (0 : Int32)), .val (.int (2 : Int32))] [(.int (2 : Int32)), (.int (0 : Int32)), (.int (1 : Int32))])) rfl (by rw [hml]; rfl) (argsL := [(.int (0 : Int32)), (.int (2 : Int32))]) (rest := [(.int (1 : Int32))]) (lenOf pd_1 rfl) rfl (by show 2 * 0 + _ ≤ _; exact Nat.le_of_eq rfl) (hb hby at_51) (fun _ _ => ⟨rfl, e40, (by decide : 1 + 0 ≤ _), (by decide : 4 + 0 ≤ _)⟩)
      dsimp only [Pt.U, Pt.locs, Pt.cells, Pt.slots] at X41 l41 y41 z41 st41 hQ41
      subst l41 y41 z41
      obtain ⟨rfl, N41q, e41⟩ := hQ41
      have N41 := Fr.app N40 N41q
      refine Go.st st41 ?_
      show Go _ _ _ _ _ _ _ T41 (mkF m 54 #[.val (.int p0), .val (.int p1), .val (.ref b1), .val (.int (0 : Int32)), .val (.int (2 : Int32))] [(.int (val_2 (0 : Int32) (2 : Int32))), (.int (1 : Int32))])
      rw [show (val_2 (0 : Int32) (2 : Int32)) = (1 : Int32) from by unfold val_2; rw [if_pos (by decide +kernel : (0 : Int32) = (0 : Int32))]]
      show Go _ _ _ _ _ _ _ T41 (mkF m 54 #[.val (.int p0), .val (.int p1), .val (.ref b1), .val (.int (0 : Int32)), .val (.int (2 : Int32))] [(.int (1 : Int32)), (.int (1 : Int32))])
      refine Go.st (fun _ k => XS.icmpNo X41.here hx rfl (hb hby at_54) rfl (teq (by decide : (1 : Int32) = (1 : Int32))).2 k) ?_
      show Go _ _ _ _ _ _ _ T41 (mkF m 57 #[.val (.int p0), .val (.int p1), .val (.ref b1), .val (.int (0 : Int32)), .val (.int (2 : Int32))] [])
      refine Go.st (fun _ k => XS.iconst X41.here hx rfl (hb hby at_57) k) ?_
      show Go _ _ _ _ _ _ _ T41 (mkF m 58 #[.val (.int p0), .val (.int p1), .val (.ref b1), .val (.int (0 : Int32)), .val (.int (2 : Int32))] [(.int (1 : Int32))])
      refine Go.st (fun _ k => XS.goto X41.here hx rfl (pc0 := 58) (pc' := 62) rfl (hb hby at_58) (by decide) (by decide) k) ?_
      show Go _ _ _ _ _ _ _ T41 (mkF m 62 #[.val (.int p0), .val (.int p1), .val (.ref b1), .val (.int (0 : Int32)), .val (.int (2 : Int32))] [(.int (1 : Int32))])
      refine Go.ret X41 hlk (v := some (.int (1 : Int32))) (fun h => by rw [hret] at h; cases h) (fun fs hr => retN X41 hx (t := .boolean) hret (by simp) (hb hby at_62) hr) ?_ (by decide) (by decide)
      show Q0 Z p0 p1 w_INT w_BIGINT w_BOOLEAN w_TEXT h0 n0 (some (.int (1 : Int32))) T41.heap _
      rw [e41]
      exact ⟨rfl, N41⟩
    · rw [hk23]
      show Go _ _ _ _ _ _ _ T21 (mkF m 36 #[.val (.int p0), .val (.int p1), .val (.ref b1), .val (.int (0 : Int32)), .unset] [(.int (3 : Int32))])
      refine Go.st (fun _ k => XS.istore X21.here hx rfl (hb hby at_36) rfl (l' := #[.val (.int p0), .val (.int p1), .val (.ref b1), .val (.int (0 : Int32)), .val (.int (3 : Int32))]) rfl k) ?_
      show Go _ _ _ _ _ _ _ T21 (mkF m 38 #[.val (.int p0), .val (.int p1), .val (.ref b1), .val (.int (0 : Int32)), .val (.int (3 : Int32))] [])
      refine Go.st (fun _ k => XS.aloadN X21.here hx rfl (hb hby at_38) rfl rfl k) ?_
      show Go _ _ _ _ _ _ _ T21 (mkF m 39 #[.val (.int p0), .val (.int p1), .val (.ref b1), .val (.int (0 : Int32)), .val (.int (3 : Int32))] [(.ref b1)])
      refine Go.st (fun _ k => XS.iloadN X21.here hx rfl (hb hby at_39) rfl k) ?_
      show Go _ _ _ _ _ _ _ T21 (mkF m 40 #[.val (.int p0), .val (.int p1), .val (.ref b1), .val (.int (0 : Int32)), .val (.int (3 : Int32))] [(.int (0 : Int32)), (.ref b1)])
      obtain ⟨cl42, Ar42, qq42, SS42, NN42, HH42, GG42⟩ := id V_b1__21
      have hin43 : ¬ ((0 : Int32) < 0 ∨ cl42.slots.size ≤ ((0 : Int32)).toNatClampNeg) := inb_of SS42 ⟨by decide, by decide⟩
      refine Go.st (fun _ k => X21.aaload hx (j := (0 : Int32)) (v := (.ref w_INT)) (by rw [e21]; exact Ar42.1) (State.isArrayOf_alike hZ.alike Ar42.2.1) rfl Ar42.2.2 hin43 (HH42.at hin43 rfl) (g := (mkF m 40 #[.val (.int p0), .val (.int p1), .val (.ref b1), .val (.int (0 : Int32)), .val (.int (3 : Int32))] [(.int (0 : Int32)), (.ref b1)])) rfl rfl (hb hby at_40) _ k) ?_
      show Go _ _ _ _ _ _ _ T21 (mkF m 41 #[.val (.int p0), .val (.int p1), .val (.ref b1), .val (.int (0 : Int32)), .val (.int (3 : Int32))] [(.ref w_INT)])
      refine Go.st (fun _ k => XS.aloadN X21.here hx rfl (hb hby at_41) rfl rfl k) ?_
      show Go _ _ _ _ _ _ _ T21 (mkF m 42 #[.val (.int p0), .val (.int p1), .val (.ref b1), .val (.int (0 : Int32)), .val (.int (3 : Int32))] [(.ref b1), (.ref w_INT)])
      refine Go.st (fun _ k => XS.iload X21.here hx rfl (hb hby at_42) rfl k) ?_
      show Go _ _ _ _ _ _ _ T21 (mkF m 44 #[.val (.int p0), .val (.int p1), .val (.ref b1), .val (.int (0 : Int32)), .val (.int (3 : Int32))] [(.int (3 : Int32)), (.ref b1), (.ref w_INT)])
      obtain ⟨cl44, Ar44, qq44, SS44, NN44, HH44, GG44⟩ := id V_b1__21
      have hin45 : ¬ ((3 : Int32) < 0 ∨ cl44.slots.size ≤ ((3 : Int32)).toNatClampNeg) := inb_of SS44 ⟨by decide, by decide⟩
      refine Go.st (fun _ k => X21.aaload hx (j := (3 : Int32)) (v := (.ref w_TEXT)) (by rw [e21]; exact Ar44.1) (State.isArrayOf_alike hZ.alike Ar44.2.1) rfl Ar44.2.2 hin45 (HH44.at hin45 rfl) (g := (mkF m 44 #[.val (.int p0), .val (.int p1), .val (.ref b1), .val (.int (0 : Int32)), .val (.int (3 : Int32))] [(.int (3 : Int32)), (.ref b1), (.ref w_INT)])) rfl rfl (hb hby at_44) _ k) ?_
      show Go _ _ _ _ _ _ _ T21 (mkF m 45 #[.val (.int p0), .val (.int p1), .val (.ref b1), .val (.int (0 : Int32)), .val (.int (3 : Int32))] [(.ref w_TEXT), (.ref w_INT)])
      obtain ⟨cq46, kq46, q46a, q46b, q46c⟩ := isOf hZ e21 E_INT__21
      obtain ⟨_, _, ⟨T46, L46, k46, n46⟩, -, X46, ⟨Lc46, hQ46, l46, y46, z46⟩, st46⟩ := X21.virtualBack hx (y := (⟨"com/example/truerow/truerow/postgres/Type", "castsTo", "(Lcom/example/truerow/truerow/postgres/Type;)Z"⟩ : MethodName)) (z := (⟨"com/example/truerow/truerow/postgres/Type", "castsTo", "(Lcom/example/truerow/truerow/postgres/Type;)Z"⟩ : MethodName)) hown (mvT hZ (hw _ (List.mem_of_getElem? (i := 12) rfl))) (mvT hZ (hw _ (List.mem_of_getElem? (i := 13) rfl))) (notFace_of_selects (args := #[]) (mvT hZ (hw _ (List.mem_of_getElem? (i := 15) rfl)))) (mvT hZ (hw _ (List.mem_of_getElem? (i := 15) rfl))) (mvT hZ (hw _ (List.mem_of_getElem? (i := 14) rfl))) (by decide) (backOf (W := 0) (rm1 l Z a0 hw [] w_INT w_TEXT w_BIGINT w_BOOLEAN h21 n0 Z21 S_BIGINT__21 S_BOOLEAN__21) hZ (hw _ (List.mem_of_getElem? (i := 16) rfl)) (hw _ (List.mem_of_getElem? (i := 3) rfl)) (by decide) (by decide)) q46a q46c (g := (mkF m 45 #[.val (.int p0), .val (.int p1), .val (.ref b1), .val (.int (0 : Int32)), .val (.int (3 : Int32))] [(.ref w_TEXT), (.ref w_INT)])) rfl (by rw [hml]; rfl) (Steps.refl _) (argsL := [(.ref w_TEXT)]) (rest := []) (lenOf pd_0 rfl) rfl (by show 2 * 0 + _ ≤ _; exact Nat.le_of_eq rfl) (hb hby at_45) (fun _ _ => ⟨rfl, e21, (by decide : 1 + 0 ≤ _), (by decide : 4 + 0 ≤ _)⟩)
      dsimp only [Pt.U, Pt.locs, Pt.cells, Pt.slots] at X46 l46 y46 z46 st46 hQ46
      subst l46 y46 z46
      obtain ⟨rfl, N46q, e46⟩ := hQ46
      have N46 := Fr.app N21 N46q
      refine Go.st (fun _ k => st46.trans k) ?_
      show Go _ _ _ _ _ _ _ T46 (mkF m 48 #[.val (.int p0), .val (.int p1), .val (.ref b1), .val (.int (0 : Int32)), .val (.int (3 : Int32))] [(.int (val_1 w_INT w_TEXT w_BIGINT w_BOOLEAN))])
      rw [show (val_1 w_INT w_TEXT w_BIGINT w_BOOLEAN) = (1 : Int32) from by unfold val_1; rw [if_neg ne_w_INT_w_BIGINT, if_neg ne_w_INT_w_BOOLEAN]]
      show Go _ _ _ _ _ _ _ T46 (mkF m 48 #[.val (.int p0), .val (.int p1), .val (.ref b1), .val (.int (0 : Int32)), .val (.int (3 : Int32))] [(.int (1 : Int32))])
      refine Go.st (fun _ k => XS.iloadN X46.here hx rfl (hb hby at_48) rfl k) ?_
      show Go _ _ _ _ _ _ _ T46 (mkF m 49 #[.val (.int p0), .val (.int p1), .val (.ref b1), .val (.int (0 : Int32)), .val (.int (3 : Int32))] [(.int (0 : Int32)), (.int (1 : Int32))])
      refine Go.st (fun _ k => XS.iload X46.here hx rfl (hb hby at_49) rfl k) ?_
      show Go _ _ _ _ _ _ _ T46 (mkF m 51 #[.val (.int p0), .val (.int p1), .val (.ref b1), .val (.int (0 : Int32)), .val (.int (3 : Int32))] [(.int (3 : Int32)), (.int (0 : Int32)), (.int (1 : Int32))])
      obtain ⟨_, _, ⟨T47, L47, k47, n47⟩, -, X47, ⟨Lc47, hQ47, l47, y47, z47⟩, st47⟩ := Jvm.LawKit.callS X46 hx (y := (⟨"com/example/truerow/truerow/postgres/TypeCastsToPinLaw", "expected", "(II)Z"⟩ : MethodName)) hown (mvT hZ (hw _ (List.mem_of_getElem? (i := 19) rfl))) (mvT hZ (hw _ (List.mem_of_getElem? (i := 20) rfl))) (mvT hZ (hw _ (List.mem_of_getElem? (i := 21) rfl))) (mvT hZ (hw _ (List.mem_of_getElem? (i := 22) rfl))) (by decide) (backOf (W := 1) (rm2 l Z a0 hw [] (0 : Int32) (3 : Int32)  h21 n0 Z21 (Or.inl rfl) (Or.inr (Or.inr (Or.inr (rfl))))) hZ (hw _ (List.mem_of_getElem? (i := 22) rfl)) (hw _ (List.mem_of_getElem? (i := 21) rfl)) (by decide) (by decide)) (g := (mkF m 51 #[.val (.int p0), .val (.int p1), .val (.ref b1), .val (.int (0 : Int32)), .val (.int (3 : Int32))] [(.int (3 : Int32)), (.int (0 : Int32)), (.int (1 : Int32))])) rfl (by rw [hml]; rfl) (argsL := [(.int (0 : Int32)), (.int (3 : Int32))]) (rest := [(.int (1 : Int32))]) (lenOf pd_1 rfl) rfl (by show 2 * 0 + _ ≤ _; exact Nat.le_of_eq rfl) (hb hby at_51) (fun _ _ => ⟨rfl, e46, (by decide : 1 + 0 ≤ _), (by decide : 4 + 0 ≤ _)⟩)
      dsimp only [Pt.U, Pt.locs, Pt.cells, Pt.slots] at X47 l47 y47 z47 st47 hQ47
      subst l47 y47 z47
      obtain ⟨rfl, N47q, e47⟩ := hQ47
      have N47 := Fr.app N46 N47q
      refine Go.st st47 ?_
      show Go _ _ _ _ _ _ _ T47 (mkF m 54 #[.val (.int p0), .val (.int p1), .val (.ref b1), .val (.int (0 : Int32)), .val (.int (3 : Int32))] [(.int (val_2 (0 : Int32) (3 : Int32))), (.int (1 : Int32))])
      rw [show (val_2 (0 : Int32) (3 : Int32)) = (1 : Int32) from by unfold val_2; rw [if_pos (by decide +kernel : (0 : Int32) = (0 : Int32))]]
      show Go _ _ _ _ _ _ _ T47 (mkF m 54 #[.val (.int p0), .val (.int p1), .val (.ref b1), .val (.int (0 : Int32)), .val (.int (3 : Int32))] [(.int (1 : Int32)), (.int (1 : Int32))])
      refine Go.st (fun _ k => XS.icmpNo X47.here hx rfl (hb hby at_54) rfl (teq (by decide : (1 : Int32) = (1 : Int32))).2 k) ?_
      show Go _ _ _ _ _ _ _ T47 (mkF m 57 #[.val (.int p0), .val (.int p1), .val (.ref b1), .val (.int (0 : Int32)), .val (.int (3 : Int32))] [])
      refine Go.st (fun _ k => XS.iconst X47.here hx rfl (hb hby at_57) k) ?_
      show Go _ _ _ _ _ _ _ T47 (mkF m 58 #[.val (.int p0), .val (.int p1), .val (.ref b1), .val (.int (0 : Int32)), .val (.int (3 : Int32))] [(.int (1 : Int32))])
      refine Go.st (fun _ k => XS.goto X47.here hx rfl (pc0 := 58) (pc' := 62) rfl (hb hby at_58) (by decide) (by decide) k) ?_
      show Go _ _ _ _ _ _ _ T47 (mkF m 62 #[.val (.int p0), .val (.int p1), .val (.ref b1), .val (.int (0 : Int32)), .val (.int (3 : Int32))] [(.int (1 : Int32))])
      refine Go.ret X47 hlk (v := some (.int (1 : Int32))) (fun h => by rw [hret] at h; cases h) (fun fs hr => retN X47 hx (t := .boolean) hret (by simp) (hb hby at_62) hr) ?_ (by decide) (by decide)
      show Q0 Z p0 p1 w_INT w_BIGINT w_BOOLEAN w_TEXT h0 n0 (some (.int (1 : Int32))) T47.heap _
      rw [e47]
      exact ⟨rfl, N47⟩
  · rw [hk22]
    show Go _ _ _ _ _ _ _ T21 (mkF m 32 #[.val (.int p0), .val (.int p1), .val (.ref b1), .unset, .unset] [(.int (1 : Int32))])
    refine Go.st (fun _ k => XS.istoreN X21.here hx rfl (hb hby at_32) rfl (l' := #[.val (.int p0), .val (.int p1), .val (.ref b1), .val (.int (1 : Int32)), .unset]) rfl k) ?_
    show Go _ _ _ _ _ _ _ T21 (mkF m 33 #[.val (.int p0), .val (.int p1), .val (.ref b1), .val (.int (1 : Int32)), .unset] [])
    refine Go.st (fun _ k => XS.iloadN X21.here hx rfl (hb hby at_33) rfl k) ?_
    show Go _ _ _ _ _ _ _ T21 (mkF m 34 #[.val (.int p0), .val (.int p1), .val (.ref b1), .val (.int (1 : Int32)), .unset] [(.int p1)])
    refine Go.st (fun _ k => XS.iconst X21.here hx rfl (hb hby at_34) k) ?_
    show Go _ _ _ _ _ _ _ T21 (mkF m 35 #[.val (.int p0), .val (.int p1), .val (.ref b1), .val (.int (1 : Int32)), .unset] [(.int (3 : Int32)), (.int p1)])
    refine Go.st (fun _ k => XS.iand X21.here hx rfl (hb hby at_35) rfl k) ?_
    show Go _ _ _ _ _ _ _ T21 (mkF m 36 #[.val (.int p0), .val (.int p1), .val (.ref b1), .val (.int (1 : Int32)), .unset] [(.int (p1 &&& (3 : Int32)))])
    rcases own_and3 p1 with hk48 | hk48 | hk48 | hk48
    · rw [hk48]
      show Go _ _ _ _ _ _ _ T21 (mkF m 36 #[.val (.int p0), .val (.int p1), .val (.ref b1), .val (.int (1 : Int32)), .unset] [(.int (0 : Int32))])
      refine Go.st (fun _ k => XS.istore X21.here hx rfl (hb hby at_36) rfl (l' := #[.val (.int p0), .val (.int p1), .val (.ref b1), .val (.int (1 : Int32)), .val (.int (0 : Int32))]) rfl k) ?_
      show Go _ _ _ _ _ _ _ T21 (mkF m 38 #[.val (.int p0), .val (.int p1), .val (.ref b1), .val (.int (1 : Int32)), .val (.int (0 : Int32))] [])
      refine Go.st (fun _ k => XS.aloadN X21.here hx rfl (hb hby at_38) rfl rfl k) ?_
      show Go _ _ _ _ _ _ _ T21 (mkF m 39 #[.val (.int p0), .val (.int p1), .val (.ref b1), .val (.int (1 : Int32)), .val (.int (0 : Int32))] [(.ref b1)])
      refine Go.st (fun _ k => XS.iloadN X21.here hx rfl (hb hby at_39) rfl k) ?_
      show Go _ _ _ _ _ _ _ T21 (mkF m 40 #[.val (.int p0), .val (.int p1), .val (.ref b1), .val (.int (1 : Int32)), .val (.int (0 : Int32))] [(.int (1 : Int32)), (.ref b1)])
      obtain ⟨cl49, Ar49, qq49, SS49, NN49, HH49, GG49⟩ := id V_b1__21
      have hin50 : ¬ ((1 : Int32) < 0 ∨ cl49.slots.size ≤ ((1 : Int32)).toNatClampNeg) := inb_of SS49 ⟨by decide, by decide⟩
      refine Go.st (fun _ k => X21.aaload hx (j := (1 : Int32)) (v := (.ref w_BIGINT)) (by rw [e21]; exact Ar49.1) (State.isArrayOf_alike hZ.alike Ar49.2.1) rfl Ar49.2.2 hin50 (HH49.at hin50 rfl) (g := (mkF m 40 #[.val (.int p0), .val (.int p1), .val (.ref b1), .val (.int (1 : Int32)), .val (.int (0 : Int32))] [(.int (1 : Int32)), (.ref b1)])) rfl rfl (hb hby at_40) _ k) ?_
      show Go _ _ _ _ _ _ _ T21 (mkF m 41 #[.val (.int p0), .val (.int p1), .val (.ref b1), .val (.int (1 : Int32)), .val (.int (0 : Int32))] [(.ref w_BIGINT)])
      refine Go.st (fun _ k => XS.aloadN X21.here hx rfl (hb hby at_41) rfl rfl k) ?_
      show Go _ _ _ _ _ _ _ T21 (mkF m 42 #[.val (.int p0), .val (.int p1), .val (.ref b1), .val (.int (1 : Int32)), .val (.int (0 : Int32))] [(.ref b1), (.ref w_BIGINT)])
      refine Go.st (fun _ k => XS.iload X21.here hx rfl (hb hby at_42) rfl k) ?_
      show Go _ _ _ _ _ _ _ T21 (mkF m 44 #[.val (.int p0), .val (.int p1), .val (.ref b1), .val (.int (1 : Int32)), .val (.int (0 : Int32))] [(.int (0 : Int32)), (.ref b1), (.ref w_BIGINT)])
      obtain ⟨cl51, Ar51, qq51, SS51, NN51, HH51, GG51⟩ := id V_b1__21
      have hin52 : ¬ ((0 : Int32) < 0 ∨ cl51.slots.size ≤ ((0 : Int32)).toNatClampNeg) := inb_of SS51 ⟨by decide, by decide⟩
      refine Go.st (fun _ k => X21.aaload hx (j := (0 : Int32)) (v := (.ref w_INT)) (by rw [e21]; exact Ar51.1) (State.isArrayOf_alike hZ.alike Ar51.2.1) rfl Ar51.2.2 hin52 (HH51.at hin52 rfl) (g := (mkF m 44 #[.val (.int p0), .val (.int p1), .val (.ref b1), .val (.int (1 : Int32)), .val (.int (0 : Int32))] [(.int (0 : Int32)), (.ref b1), (.ref w_BIGINT)])) rfl rfl (hb hby at_44) _ k) ?_
      show Go _ _ _ _ _ _ _ T21 (mkF m 45 #[.val (.int p0), .val (.int p1), .val (.ref b1), .val (.int (1 : Int32)), .val (.int (0 : Int32))] [(.ref w_INT), (.ref w_BIGINT)])
      obtain ⟨cq53, kq53, q53a, q53b, q53c⟩ := isOf hZ e21 E_BIGINT__21
      obtain ⟨_, _, ⟨T53, L53, k53, n53⟩, -, X53, ⟨Lc53, hQ53, l53, y53, z53⟩, st53⟩ := X21.virtualBack hx (y := (⟨"com/example/truerow/truerow/postgres/Type", "castsTo", "(Lcom/example/truerow/truerow/postgres/Type;)Z"⟩ : MethodName)) (z := (⟨"com/example/truerow/truerow/postgres/Type", "castsTo", "(Lcom/example/truerow/truerow/postgres/Type;)Z"⟩ : MethodName)) hown (mvT hZ (hw _ (List.mem_of_getElem? (i := 12) rfl))) (mvT hZ (hw _ (List.mem_of_getElem? (i := 13) rfl))) (notFace_of_selects (args := #[]) (mvT hZ (hw _ (List.mem_of_getElem? (i := 15) rfl)))) (mvT hZ (hw _ (List.mem_of_getElem? (i := 15) rfl))) (mvT hZ (hw _ (List.mem_of_getElem? (i := 14) rfl))) (by decide) (backOf (W := 0) (rm1 l Z a0 hw [] w_BIGINT w_INT w_BIGINT w_BOOLEAN h21 n0 Z21 S_BIGINT__21 S_BOOLEAN__21) hZ (hw _ (List.mem_of_getElem? (i := 16) rfl)) (hw _ (List.mem_of_getElem? (i := 3) rfl)) (by decide) (by decide)) q53a q53c (g := (mkF m 45 #[.val (.int p0), .val (.int p1), .val (.ref b1), .val (.int (1 : Int32)), .val (.int (0 : Int32))] [(.ref w_INT), (.ref w_BIGINT)])) rfl (by rw [hml]; rfl) (Steps.refl _) (argsL := [(.ref w_INT)]) (rest := []) (lenOf pd_0 rfl) rfl (by show 2 * 0 + _ ≤ _; exact Nat.le_of_eq rfl) (hb hby at_45) (fun _ _ => ⟨rfl, e21, (by decide : 1 + 0 ≤ _), (by decide : 4 + 0 ≤ _)⟩)
      dsimp only [Pt.U, Pt.locs, Pt.cells, Pt.slots] at X53 l53 y53 z53 st53 hQ53
      subst l53 y53 z53
      obtain ⟨rfl, N53q, e53⟩ := hQ53
      have N53 := Fr.app N21 N53q
      refine Go.st (fun _ k => st53.trans k) ?_
      show Go _ _ _ _ _ _ _ T53 (mkF m 48 #[.val (.int p0), .val (.int p1), .val (.ref b1), .val (.int (1 : Int32)), .val (.int (0 : Int32))] [(.int (val_1 w_BIGINT w_INT w_BIGINT w_BOOLEAN))])
      rw [show (val_1 w_BIGINT w_INT w_BIGINT w_BOOLEAN) = (1 : Int32) from by unfold val_1; rw [if_pos rfl, if_neg ne_w_INT_w_BOOLEAN, if_neg ne_w_BIGINT_w_BOOLEAN]]
      show Go _ _ _ _ _ _ _ T53 (mkF m 48 #[.val (.int p0), .val (.int p1), .val (.ref b1), .val (.int (1 : Int32)), .val (.int (0 : Int32))] [(.int (1 : Int32))])
      refine Go.st (fun _ k => XS.iloadN X53.here hx rfl (hb hby at_48) rfl k) ?_
      show Go _ _ _ _ _ _ _ T53 (mkF m 49 #[.val (.int p0), .val (.int p1), .val (.ref b1), .val (.int (1 : Int32)), .val (.int (0 : Int32))] [(.int (1 : Int32)), (.int (1 : Int32))])
      refine Go.st (fun _ k => XS.iload X53.here hx rfl (hb hby at_49) rfl k) ?_
      show Go _ _ _ _ _ _ _ T53 (mkF m 51 #[.val (.int p0), .val (.int p1), .val (.ref b1), .val (.int (1 : Int32)), .val (.int (0 : Int32))] [(.int (0 : Int32)), (.int (1 : Int32)), (.int (1 : Int32))])
      obtain ⟨_, _, ⟨T54, L54, k54, n54⟩, -, X54, ⟨Lc54, hQ54, l54, y54, z54⟩, st54⟩ := Jvm.LawKit.callS X53 hx (y := (⟨"com/example/truerow/truerow/postgres/TypeCastsToPinLaw", "expected", "(II)Z"⟩ : MethodName)) hown (mvT hZ (hw _ (List.mem_of_getElem? (i := 19) rfl))) (mvT hZ (hw _ (List.mem_of_getElem? (i := 20) rfl))) (mvT hZ (hw _ (List.mem_of_getElem? (i := 21) rfl))) (mvT hZ (hw _ (List.mem_of_getElem? (i := 22) rfl))) (by decide) (backOf (W := 1) (rm2 l Z a0 hw [] (1 : Int32) (0 : Int32)  h21 n0 Z21 (Or.inr (Or.inl rfl)) (Or.inl rfl)) hZ (hw _ (List.mem_of_getElem? (i := 22) rfl)) (hw _ (List.mem_of_getElem? (i := 21) rfl)) (by decide) (by decide)) (g := (mkF m 51 #[.val (.int p0), .val (.int p1), .val (.ref b1), .val (.int (1 : Int32)), .val (.int (0 : Int32))] [(.int (0 : Int32)), (.int (1 : Int32)), (.int (1 : Int32))])) rfl (by rw [hml]; rfl) (argsL := [(.int (1 : Int32)), (.int (0 : Int32))]) (rest := [(.int (1 : Int32))]) (lenOf pd_1 rfl) rfl (by show 2 * 0 + _ ≤ _; exact Nat.le_of_eq rfl) (hb hby at_51) (fun _ _ => ⟨rfl, e53, (by decide : 1 + 0 ≤ _), (by decide : 4 + 0 ≤ _)⟩)
      dsimp only [Pt.U, Pt.locs, Pt.cells, Pt.slots] at X54 l54 y54 z54 st54 hQ54
      subst l54 y54 z54
      obtain ⟨rfl, N54q, e54⟩ := hQ54
      have N54 := Fr.app N53 N54q
      refine Go.st st54 ?_
      show Go _ _ _ _ _ _ _ T54 (mkF m 54 #[.val (.int p0), .val (.int p1), .val (.ref b1), .val (.int (1 : Int32)), .val (.int (0 : Int32))] [(.int (val_2 (1 : Int32) (0 : Int32))), (.int (1 : Int32))])
      rw [show (val_2 (1 : Int32) (0 : Int32)) = (1 : Int32) from by unfold val_2; rw [if_neg (by decide +kernel : ¬ ((1 : Int32) = (0 : Int32))), if_pos (by decide +kernel : (1 : Int32) = (1 : Int32)), if_pos (by decide +kernel : (0 : Int32) = (0 : Int32))]]
      show Go _ _ _ _ _ _ _ T54 (mkF m 54 #[.val (.int p0), .val (.int p1), .val (.ref b1), .val (.int (1 : Int32)), .val (.int (0 : Int32))] [(.int (1 : Int32)), (.int (1 : Int32))])
      refine Go.st (fun _ k => XS.icmpNo X54.here hx rfl (hb hby at_54) rfl (teq (by decide : (1 : Int32) = (1 : Int32))).2 k) ?_
      show Go _ _ _ _ _ _ _ T54 (mkF m 57 #[.val (.int p0), .val (.int p1), .val (.ref b1), .val (.int (1 : Int32)), .val (.int (0 : Int32))] [])
      refine Go.st (fun _ k => XS.iconst X54.here hx rfl (hb hby at_57) k) ?_
      show Go _ _ _ _ _ _ _ T54 (mkF m 58 #[.val (.int p0), .val (.int p1), .val (.ref b1), .val (.int (1 : Int32)), .val (.int (0 : Int32))] [(.int (1 : Int32))])
      refine Go.st (fun _ k => XS.goto X54.here hx rfl (pc0 := 58) (pc' := 62) rfl (hb hby at_58) (by decide) (by decide) k) ?_
      show Go _ _ _ _ _ _ _ T54 (mkF m 62 #[.val (.int p0), .val (.int p1), .val (.ref b1), .val (.int (1 : Int32)), .val (.int (0 : Int32))] [(.int (1 : Int32))])
      refine Go.ret X54 hlk (v := some (.int (1 : Int32))) (fun h => by rw [hret] at h; cases h) (fun fs hr => retN X54 hx (t := .boolean) hret (by simp) (hb hby at_62) hr) ?_ (by decide) (by decide)
      show Q0 Z p0 p1 w_INT w_BIGINT w_BOOLEAN w_TEXT h0 n0 (some (.int (1 : Int32))) T54.heap _
      rw [e54]
      exact ⟨rfl, N54⟩
    · rw [hk48]
      show Go _ _ _ _ _ _ _ T21 (mkF m 36 #[.val (.int p0), .val (.int p1), .val (.ref b1), .val (.int (1 : Int32)), .unset] [(.int (1 : Int32))])
      refine Go.st (fun _ k => XS.istore X21.here hx rfl (hb hby at_36) rfl (l' := #[.val (.int p0), .val (.int p1), .val (.ref b1), .val (.int (1 : Int32)), .val (.int (1 : Int32))]) rfl k) ?_
      show Go _ _ _ _ _ _ _ T21 (mkF m 38 #[.val (.int p0), .val (.int p1), .val (.ref b1), .val (.int (1 : Int32)), .val (.int (1 : Int32))] [])
      refine Go.st (fun _ k => XS.aloadN X21.here hx rfl (hb hby at_38) rfl rfl k) ?_
      show Go _ _ _ _ _ _ _ T21 (mkF m 39 #[.val (.int p0), .val (.int p1), .val (.ref b1), .val (.int (1 : Int32)), .val (.int (1 : Int32))] [(.ref b1)])
      refine Go.st (fun _ k => XS.iloadN X21.here hx rfl (hb hby at_39) rfl k) ?_
      show Go _ _ _ _ _ _ _ T21 (mkF m 40 #[.val (.int p0), .val (.int p1), .val (.ref b1), .val (.int (1 : Int32)), .val (.int (1 : Int32))] [(.int (1 : Int32)), (.ref b1)])
      obtain ⟨cl55, Ar55, qq55, SS55, NN55, HH55, GG55⟩ := id V_b1__21
      have hin56 : ¬ ((1 : Int32) < 0 ∨ cl55.slots.size ≤ ((1 : Int32)).toNatClampNeg) := inb_of SS55 ⟨by decide, by decide⟩
      refine Go.st (fun _ k => X21.aaload hx (j := (1 : Int32)) (v := (.ref w_BIGINT)) (by rw [e21]; exact Ar55.1) (State.isArrayOf_alike hZ.alike Ar55.2.1) rfl Ar55.2.2 hin56 (HH55.at hin56 rfl) (g := (mkF m 40 #[.val (.int p0), .val (.int p1), .val (.ref b1), .val (.int (1 : Int32)), .val (.int (1 : Int32))] [(.int (1 : Int32)), (.ref b1)])) rfl rfl (hb hby at_40) _ k) ?_
      show Go _ _ _ _ _ _ _ T21 (mkF m 41 #[.val (.int p0), .val (.int p1), .val (.ref b1), .val (.int (1 : Int32)), .val (.int (1 : Int32))] [(.ref w_BIGINT)])
      refine Go.st (fun _ k => XS.aloadN X21.here hx rfl (hb hby at_41) rfl rfl k) ?_
      show Go _ _ _ _ _ _ _ T21 (mkF m 42 #[.val (.int p0), .val (.int p1), .val (.ref b1), .val (.int (1 : Int32)), .val (.int (1 : Int32))] [(.ref b1), (.ref w_BIGINT)])
      refine Go.st (fun _ k => XS.iload X21.here hx rfl (hb hby at_42) rfl k) ?_
      show Go _ _ _ _ _ _ _ T21 (mkF m 44 #[.val (.int p0), .val (.int p1), .val (.ref b1), .val (.int (1 : Int32)), .val (.int (1 : Int32))] [(.int (1 : Int32)), (.ref b1), (.ref w_BIGINT)])
      obtain ⟨cl57, Ar57, qq57, SS57, NN57, HH57, GG57⟩ := id V_b1__21
      have hin58 : ¬ ((1 : Int32) < 0 ∨ cl57.slots.size ≤ ((1 : Int32)).toNatClampNeg) := inb_of SS57 ⟨by decide, by decide⟩
      refine Go.st (fun _ k => X21.aaload hx (j := (1 : Int32)) (v := (.ref w_BIGINT)) (by rw [e21]; exact Ar57.1) (State.isArrayOf_alike hZ.alike Ar57.2.1) rfl Ar57.2.2 hin58 (HH57.at hin58 rfl) (g := (mkF m 44 #[.val (.int p0), .val (.int p1), .val (.ref b1), .val (.int (1 : Int32)), .val (.int (1 : Int32))] [(.int (1 : Int32)), (.ref b1), (.ref w_BIGINT)])) rfl rfl (hb hby at_44) _ k) ?_
      show Go _ _ _ _ _ _ _ T21 (mkF m 45 #[.val (.int p0), .val (.int p1), .val (.ref b1), .val (.int (1 : Int32)), .val (.int (1 : Int32))] [(.ref w_BIGINT), (.ref w_BIGINT)])
      obtain ⟨cq59, kq59, q59a, q59b, q59c⟩ := isOf hZ e21 E_BIGINT__21
      obtain ⟨_, _, ⟨T59, L59, k59, n59⟩, -, X59, ⟨Lc59, hQ59, l59, y59, z59⟩, st59⟩ := X21.virtualBack hx (y := (⟨"com/example/truerow/truerow/postgres/Type", "castsTo", "(Lcom/example/truerow/truerow/postgres/Type;)Z"⟩ : MethodName)) (z := (⟨"com/example/truerow/truerow/postgres/Type", "castsTo", "(Lcom/example/truerow/truerow/postgres/Type;)Z"⟩ : MethodName)) hown (mvT hZ (hw _ (List.mem_of_getElem? (i := 12) rfl))) (mvT hZ (hw _ (List.mem_of_getElem? (i := 13) rfl))) (notFace_of_selects (args := #[]) (mvT hZ (hw _ (List.mem_of_getElem? (i := 15) rfl)))) (mvT hZ (hw _ (List.mem_of_getElem? (i := 15) rfl))) (mvT hZ (hw _ (List.mem_of_getElem? (i := 14) rfl))) (by decide) (backOf (W := 0) (rm1 l Z a0 hw [] w_BIGINT w_BIGINT w_BIGINT w_BOOLEAN h21 n0 Z21 S_BIGINT__21 S_BOOLEAN__21) hZ (hw _ (List.mem_of_getElem? (i := 16) rfl)) (hw _ (List.mem_of_getElem? (i := 3) rfl)) (by decide) (by decide)) q59a q59c (g := (mkF m 45 #[.val (.int p0), .val (.int p1), .val (.ref b1), .val (.int (1 : Int32)), .val (.int (1 : Int32))] [(.ref w_BIGINT), (.ref w_BIGINT)])) rfl (by rw [hml]; rfl) (Steps.refl _) (argsL := [(.ref w_BIGINT)]) (rest := []) (lenOf pd_0 rfl) rfl (by show 2 * 0 + _ ≤ _; exact Nat.le_of_eq rfl) (hb hby at_45) (fun _ _ => ⟨rfl, e21, (by decide : 1 + 0 ≤ _), (by decide : 4 + 0 ≤ _)⟩)
      dsimp only [Pt.U, Pt.locs, Pt.cells, Pt.slots] at X59 l59 y59 z59 st59 hQ59
      subst l59 y59 z59
      obtain ⟨rfl, N59q, e59⟩ := hQ59
      have N59 := Fr.app N21 N59q
      refine Go.st (fun _ k => st59.trans k) ?_
      show Go _ _ _ _ _ _ _ T59 (mkF m 48 #[.val (.int p0), .val (.int p1), .val (.ref b1), .val (.int (1 : Int32)), .val (.int (1 : Int32))] [(.int (val_1 w_BIGINT w_BIGINT w_BIGINT w_BOOLEAN))])
      rw [show (val_1 w_BIGINT w_BIGINT w_BIGINT w_BOOLEAN) = (1 : Int32) from by unfold val_1; rw [if_pos rfl, if_neg ne_w_BIGINT_w_BOOLEAN, if_neg ne_w_BIGINT_w_BOOLEAN]]
      show Go _ _ _ _ _ _ _ T59 (mkF m 48 #[.val (.int p0), .val (.int p1), .val (.ref b1), .val (.int (1 : Int32)), .val (.int (1 : Int32))] [(.int (1 : Int32))])
      refine Go.st (fun _ k => XS.iloadN X59.here hx rfl (hb hby at_48) rfl k) ?_
      show Go _ _ _ _ _ _ _ T59 (mkF m 49 #[.val (.int p0), .val (.int p1), .val (.ref b1), .val (.int (1 : Int32)), .val (.int (1 : Int32))] [(.int (1 : Int32)), (.int (1 : Int32))])
      refine Go.st (fun _ k => XS.iload X59.here hx rfl (hb hby at_49) rfl k) ?_
      show Go _ _ _ _ _ _ _ T59 (mkF m 51 #[.val (.int p0), .val (.int p1), .val (.ref b1), .val (.int (1 : Int32)), .val (.int (1 : Int32))] [(.int (1 : Int32)), (.int (1 : Int32)), (.int (1 : Int32))])
      obtain ⟨_, _, ⟨T60, L60, k60, n60⟩, -, X60, ⟨Lc60, hQ60, l60, y60, z60⟩, st60⟩ := Jvm.LawKit.callS X59 hx (y := (⟨"com/example/truerow/truerow/postgres/TypeCastsToPinLaw", "expected", "(II)Z"⟩ : MethodName)) hown (mvT hZ (hw _ (List.mem_of_getElem? (i := 19) rfl))) (mvT hZ (hw _ (List.mem_of_getElem? (i := 20) rfl))) (mvT hZ (hw _ (List.mem_of_getElem? (i := 21) rfl))) (mvT hZ (hw _ (List.mem_of_getElem? (i := 22) rfl))) (by decide) (backOf (W := 1) (rm2 l Z a0 hw [] (1 : Int32) (1 : Int32)  h21 n0 Z21 (Or.inr (Or.inl rfl)) (Or.inr (Or.inl rfl))) hZ (hw _ (List.mem_of_getElem? (i := 22) rfl)) (hw _ (List.mem_of_getElem? (i := 21) rfl)) (by decide) (by decide)) (g := (mkF m 51 #[.val (.int p0), .val (.int p1), .val (.ref b1), .val (.int (1 : Int32)), .val (.int (1 : Int32))] [(.int (1 : Int32)), (.int (1 : Int32)), (.int (1 : Int32))])) rfl (by rw [hml]; rfl) (argsL := [(.int (1 : Int32)), (.int (1 : Int32))]) (rest := [(.int (1 : Int32))]) (lenOf pd_1 rfl) rfl (by show 2 * 0 + _ ≤ _; exact Nat.le_of_eq rfl) (hb hby at_51) (fun _ _ => ⟨rfl, e59, (by decide : 1 + 0 ≤ _), (by decide : 4 + 0 ≤ _)⟩)
      dsimp only [Pt.U, Pt.locs, Pt.cells, Pt.slots] at X60 l60 y60 z60 st60 hQ60
      subst l60 y60 z60
      obtain ⟨rfl, N60q, e60⟩ := hQ60
      have N60 := Fr.app N59 N60q
      refine Go.st st60 ?_
      show Go _ _ _ _ _ _ _ T60 (mkF m 54 #[.val (.int p0), .val (.int p1), .val (.ref b1), .val (.int (1 : Int32)), .val (.int (1 : Int32))] [(.int (val_2 (1 : Int32) (1 : Int32))), (.int (1 : Int32))])
      rw [show (val_2 (1 : Int32) (1 : Int32)) = (1 : Int32) from by unfold val_2; rw [if_neg (by decide +kernel : ¬ ((1 : Int32) = (0 : Int32))), if_pos (by decide +kernel : (1 : Int32) = (1 : Int32)), if_neg (by decide +kernel : ¬ ((1 : Int32) = (0 : Int32))), if_pos (by decide +kernel : (1 : Int32) = (1 : Int32))]]
      show Go _ _ _ _ _ _ _ T60 (mkF m 54 #[.val (.int p0), .val (.int p1), .val (.ref b1), .val (.int (1 : Int32)), .val (.int (1 : Int32))] [(.int (1 : Int32)), (.int (1 : Int32))])
      refine Go.st (fun _ k => XS.icmpNo X60.here hx rfl (hb hby at_54) rfl (teq (by decide : (1 : Int32) = (1 : Int32))).2 k) ?_
      show Go _ _ _ _ _ _ _ T60 (mkF m 57 #[.val (.int p0), .val (.int p1), .val (.ref b1), .val (.int (1 : Int32)), .val (.int (1 : Int32))] [])
      refine Go.st (fun _ k => XS.iconst X60.here hx rfl (hb hby at_57) k) ?_
      show Go _ _ _ _ _ _ _ T60 (mkF m 58 #[.val (.int p0), .val (.int p1), .val (.ref b1), .val (.int (1 : Int32)), .val (.int (1 : Int32))] [(.int (1 : Int32))])
      refine Go.st (fun _ k => XS.goto X60.here hx rfl (pc0 := 58) (pc' := 62) rfl (hb hby at_58) (by decide) (by decide) k) ?_
      show Go _ _ _ _ _ _ _ T60 (mkF m 62 #[.val (.int p0), .val (.int p1), .val (.ref b1), .val (.int (1 : Int32)), .val (.int (1 : Int32))] [(.int (1 : Int32))])
      refine Go.ret X60 hlk (v := some (.int (1 : Int32))) (fun h => by rw [hret] at h; cases h) (fun fs hr => retN X60 hx (t := .boolean) hret (by simp) (hb hby at_62) hr) ?_ (by decide) (by decide)
      show Q0 Z p0 p1 w_INT w_BIGINT w_BOOLEAN w_TEXT h0 n0 (some (.int (1 : Int32))) T60.heap _
      rw [e60]
      exact ⟨rfl, N60⟩
    · rw [hk48]
      show Go _ _ _ _ _ _ _ T21 (mkF m 36 #[.val (.int p0), .val (.int p1), .val (.ref b1), .val (.int (1 : Int32)), .unset] [(.int (2 : Int32))])
      refine Go.st (fun _ k => XS.istore X21.here hx rfl (hb hby at_36) rfl (l' := #[.val (.int p0), .val (.int p1), .val (.ref b1), .val (.int (1 : Int32)), .val (.int (2 : Int32))]) rfl k) ?_
      show Go _ _ _ _ _ _ _ T21 (mkF m 38 #[.val (.int p0), .val (.int p1), .val (.ref b1), .val (.int (1 : Int32)), .val (.int (2 : Int32))] [])
      refine Go.st (fun _ k => XS.aloadN X21.here hx rfl (hb hby at_38) rfl rfl k) ?_
      show Go _ _ _ _ _ _ _ T21 (mkF m 39 #[.val (.int p0), .val (.int p1), .val (.ref b1), .val (.int (1 : Int32)), .val (.int (2 : Int32))] [(.ref b1)])
      refine Go.st (fun _ k => XS.iloadN X21.here hx rfl (hb hby at_39) rfl k) ?_
      show Go _ _ _ _ _ _ _ T21 (mkF m 40 #[.val (.int p0), .val (.int p1), .val (.ref b1), .val (.int (1 : Int32)), .val (.int (2 : Int32))] [(.int (1 : Int32)), (.ref b1)])
      obtain ⟨cl61, Ar61, qq61, SS61, NN61, HH61, GG61⟩ := id V_b1__21
      have hin62 : ¬ ((1 : Int32) < 0 ∨ cl61.slots.size ≤ ((1 : Int32)).toNatClampNeg) := inb_of SS61 ⟨by decide, by decide⟩
      refine Go.st (fun _ k => X21.aaload hx (j := (1 : Int32)) (v := (.ref w_BIGINT)) (by rw [e21]; exact Ar61.1) (State.isArrayOf_alike hZ.alike Ar61.2.1) rfl Ar61.2.2 hin62 (HH61.at hin62 rfl) (g := (mkF m 40 #[.val (.int p0), .val (.int p1), .val (.ref b1), .val (.int (1 : Int32)), .val (.int (2 : Int32))] [(.int (1 : Int32)), (.ref b1)])) rfl rfl (hb hby at_40) _ k) ?_
      show Go _ _ _ _ _ _ _ T21 (mkF m 41 #[.val (.int p0), .val (.int p1), .val (.ref b1), .val (.int (1 : Int32)), .val (.int (2 : Int32))] [(.ref w_BIGINT)])
      refine Go.st (fun _ k => XS.aloadN X21.here hx rfl (hb hby at_41) rfl rfl k) ?_
      show Go _ _ _ _ _ _ _ T21 (mkF m 42 #[.val (.int p0), .val (.int p1), .val (.ref b1), .val (.int (1 : Int32)), .val (.int (2 : Int32))] [(.ref b1), (.ref w_BIGINT)])
      refine Go.st (fun _ k => XS.iload X21.here hx rfl (hb hby at_42) rfl k) ?_
      show Go _ _ _ _ _ _ _ T21 (mkF m 44 #[.val (.int p0), .val (.int p1), .val (.ref b1), .val (.int (1 : Int32)), .val (.int (2 : Int32))] [(.int (2 : Int32)), (.ref b1), (.ref w_BIGINT)])
      obtain ⟨cl63, Ar63, qq63, SS63, NN63, HH63, GG63⟩ := id V_b1__21
      have hin64 : ¬ ((2 : Int32) < 0 ∨ cl63.slots.size ≤ ((2 : Int32)).toNatClampNeg) := inb_of SS63 ⟨by decide, by decide⟩
      refine Go.st (fun _ k => X21.aaload hx (j := (2 : Int32)) (v := (.ref w_BOOLEAN)) (by rw [e21]; exact Ar63.1) (State.isArrayOf_alike hZ.alike Ar63.2.1) rfl Ar63.2.2 hin64 (HH63.at hin64 rfl) (g := (mkF m 44 #[.val (.int p0), .val (.int p1), .val (.ref b1), .val (.int (1 : Int32)), .val (.int (2 : Int32))] [(.int (2 : Int32)), (.ref b1), (.ref w_BIGINT)])) rfl rfl (hb hby at_44) _ k) ?_
      show Go _ _ _ _ _ _ _ T21 (mkF m 45 #[.val (.int p0), .val (.int p1), .val (.ref b1), .val (.int (1 : Int32)), .val (.int (2 : Int32))] [(.ref w_BOOLEAN), (.ref w_BIGINT)])
      obtain ⟨cq65, kq65, q65a, q65b, q65c⟩ := isOf hZ e21 E_BIGINT__21
      obtain ⟨_, _, ⟨T65, L65, k65, n65⟩, -, X65, ⟨Lc65, hQ65, l65, y65, z65⟩, st65⟩ := X21.virtualBack hx (y := (⟨"com/example/truerow/truerow/postgres/Type", "castsTo", "(Lcom/example/truerow/truerow/postgres/Type;)Z"⟩ : MethodName)) (z := (⟨"com/example/truerow/truerow/postgres/Type", "castsTo", "(Lcom/example/truerow/truerow/postgres/Type;)Z"⟩ : MethodName)) hown (mvT hZ (hw _ (List.mem_of_getElem? (i := 12) rfl))) (mvT hZ (hw _ (List.mem_of_getElem? (i := 13) rfl))) (notFace_of_selects (args := #[]) (mvT hZ (hw _ (List.mem_of_getElem? (i := 15) rfl)))) (mvT hZ (hw _ (List.mem_of_getElem? (i := 15) rfl))) (mvT hZ (hw _ (List.mem_of_getElem? (i := 14) rfl))) (by decide) (backOf (W := 0) (rm1 l Z a0 hw [] w_BIGINT w_BOOLEAN w_BIGINT w_BOOLEAN h21 n0 Z21 S_BIGINT__21 S_BOOLEAN__21) hZ (hw _ (List.mem_of_getElem? (i := 16) rfl)) (hw _ (List.mem_of_getElem? (i := 3) rfl)) (by decide) (by decide)) q65a q65c (g := (mkF m 45 #[.val (.int p0), .val (.int p1), .val (.ref b1), .val (.int (1 : Int32)), .val (.int (2 : Int32))] [(.ref w_BOOLEAN), (.ref w_BIGINT)])) rfl (by rw [hml]; rfl) (Steps.refl _) (argsL := [(.ref w_BOOLEAN)]) (rest := []) (lenOf pd_0 rfl) rfl (by show 2 * 0 + _ ≤ _; exact Nat.le_of_eq rfl) (hb hby at_45) (fun _ _ => ⟨rfl, e21, (by decide : 1 + 0 ≤ _), (by decide : 4 + 0 ≤ _)⟩)
      dsimp only [Pt.U, Pt.locs, Pt.cells, Pt.slots] at X65 l65 y65 z65 st65 hQ65
      subst l65 y65 z65
      obtain ⟨rfl, N65q, e65⟩ := hQ65
      have N65 := Fr.app N21 N65q
      refine Go.st (fun _ k => st65.trans k) ?_
      show Go _ _ _ _ _ _ _ T65 (mkF m 48 #[.val (.int p0), .val (.int p1), .val (.ref b1), .val (.int (1 : Int32)), .val (.int (2 : Int32))] [(.int (val_1 w_BIGINT w_BOOLEAN w_BIGINT w_BOOLEAN))])
      rw [show (val_1 w_BIGINT w_BOOLEAN w_BIGINT w_BOOLEAN) = (0 : Int32) from by unfold val_1; rw [if_pos rfl, if_pos rfl]]
      show Go _ _ _ _ _ _ _ T65 (mkF m 48 #[.val (.int p0), .val (.int p1), .val (.ref b1), .val (.int (1 : Int32)), .val (.int (2 : Int32))] [(.int (0 : Int32))])
      refine Go.st (fun _ k => XS.iloadN X65.here hx rfl (hb hby at_48) rfl k) ?_
      show Go _ _ _ _ _ _ _ T65 (mkF m 49 #[.val (.int p0), .val (.int p1), .val (.ref b1), .val (.int (1 : Int32)), .val (.int (2 : Int32))] [(.int (1 : Int32)), (.int (0 : Int32))])
      refine Go.st (fun _ k => XS.iload X65.here hx rfl (hb hby at_49) rfl k) ?_
      show Go _ _ _ _ _ _ _ T65 (mkF m 51 #[.val (.int p0), .val (.int p1), .val (.ref b1), .val (.int (1 : Int32)), .val (.int (2 : Int32))] [(.int (2 : Int32)), (.int (1 : Int32)), (.int (0 : Int32))])
      obtain ⟨_, _, ⟨T66, L66, k66, n66⟩, -, X66, ⟨Lc66, hQ66, l66, y66, z66⟩, st66⟩ := Jvm.LawKit.callS X65 hx (y := (⟨"com/example/truerow/truerow/postgres/TypeCastsToPinLaw", "expected", "(II)Z"⟩ : MethodName)) hown (mvT hZ (hw _ (List.mem_of_getElem? (i := 19) rfl))) (mvT hZ (hw _ (List.mem_of_getElem? (i := 20) rfl))) (mvT hZ (hw _ (List.mem_of_getElem? (i := 21) rfl))) (mvT hZ (hw _ (List.mem_of_getElem? (i := 22) rfl))) (by decide) (backOf (W := 1) (rm2 l Z a0 hw [] (1 : Int32) (2 : Int32)  h21 n0 Z21 (Or.inr (Or.inl rfl)) (Or.inr (Or.inr (Or.inl rfl)))) hZ (hw _ (List.mem_of_getElem? (i := 22) rfl)) (hw _ (List.mem_of_getElem? (i := 21) rfl)) (by decide) (by decide)) (g := (mkF m 51 #[.val (.int p0), .val (.int p1), .val (.ref b1), .val (.int (1 : Int32)), .val (.int (2 : Int32))] [(.int (2 : Int32)), (.int (1 : Int32)), (.int (0 : Int32))])) rfl (by rw [hml]; rfl) (argsL := [(.int (1 : Int32)), (.int (2 : Int32))]) (rest := [(.int (0 : Int32))]) (lenOf pd_1 rfl) rfl (by show 2 * 0 + _ ≤ _; exact Nat.le_of_eq rfl) (hb hby at_51) (fun _ _ => ⟨rfl, e65, (by decide : 1 + 0 ≤ _), (by decide : 4 + 0 ≤ _)⟩)
      dsimp only [Pt.U, Pt.locs, Pt.cells, Pt.slots] at X66 l66 y66 z66 st66 hQ66
      subst l66 y66 z66
      obtain ⟨rfl, N66q, e66⟩ := hQ66
      have N66 := Fr.app N65 N66q
      refine Go.st st66 ?_
      show Go _ _ _ _ _ _ _ T66 (mkF m 54 #[.val (.int p0), .val (.int p1), .val (.ref b1), .val (.int (1 : Int32)), .val (.int (2 : Int32))] [(.int (val_2 (1 : Int32) (2 : Int32))), (.int (0 : Int32))])
      rw [show (val_2 (1 : Int32) (2 : Int32)) = (0 : Int32) from by unfold val_2; rw [if_neg (by decide +kernel : ¬ ((1 : Int32) = (0 : Int32))), if_pos (by decide +kernel : (1 : Int32) = (1 : Int32)), if_neg (by decide +kernel : ¬ ((2 : Int32) = (0 : Int32))), if_neg (by decide +kernel : ¬ ((2 : Int32) = (1 : Int32))), if_pos (by decide +kernel : (2 : Int32) = (2 : Int32))]]
      show Go _ _ _ _ _ _ _ T66 (mkF m 54 #[.val (.int p0), .val (.int p1), .val (.ref b1), .val (.int (1 : Int32)), .val (.int (2 : Int32))] [(.int (0 : Int32)), (.int (0 : Int32))])
      refine Go.st (fun _ k => XS.icmpNo X66.here hx rfl (hb hby at_54) rfl (teq (by decide : (0 : Int32) = (0 : Int32))).2 k) ?_
      show Go _ _ _ _ _ _ _ T66 (mkF m 57 #[.val (.int p0), .val (.int p1), .val (.ref b1), .val (.int (1 : Int32)), .val (.int (2 : Int32))] [])
      refine Go.st (fun _ k => XS.iconst X66.here hx rfl (hb hby at_57) k) ?_
      show Go _ _ _ _ _ _ _ T66 (mkF m 58 #[.val (.int p0), .val (.int p1), .val (.ref b1), .val (.int (1 : Int32)), .val (.int (2 : Int32))] [(.int (1 : Int32))])
      refine Go.st (fun _ k => XS.goto X66.here hx rfl (pc0 := 58) (pc' := 62) rfl (hb hby at_58) (by decide) (by decide) k) ?_
      show Go _ _ _ _ _ _ _ T66 (mkF m 62 #[.val (.int p0), .val (.int p1), .val (.ref b1), .val (.int (1 : Int32)), .val (.int (2 : Int32))] [(.int (1 : Int32))])
      refine Go.ret X66 hlk (v := some (.int (1 : Int32))) (fun h => by rw [hret] at h; cases h) (fun fs hr => retN X66 hx (t := .boolean) hret (by simp) (hb hby at_62) hr) ?_ (by decide) (by decide)
      show Q0 Z p0 p1 w_INT w_BIGINT w_BOOLEAN w_TEXT h0 n0 (some (.int (1 : Int32))) T66.heap _
      rw [e66]
      exact ⟨rfl, N66⟩
    · rw [hk48]
      show Go _ _ _ _ _ _ _ T21 (mkF m 36 #[.val (.int p0), .val (.int p1), .val (.ref b1), .val (.int (1 : Int32)), .unset] [(.int (3 : Int32))])
      refine Go.st (fun _ k => XS.istore X21.here hx rfl (hb hby at_36) rfl (l' := #[.val (.int p0), .val (.int p1), .val (.ref b1), .val (.int (1 : Int32)), .val (.int (3 : Int32))]) rfl k) ?_
      show Go _ _ _ _ _ _ _ T21 (mkF m 38 #[.val (.int p0), .val (.int p1), .val (.ref b1), .val (.int (1 : Int32)), .val (.int (3 : Int32))] [])
      refine Go.st (fun _ k => XS.aloadN X21.here hx rfl (hb hby at_38) rfl rfl k) ?_
      show Go _ _ _ _ _ _ _ T21 (mkF m 39 #[.val (.int p0), .val (.int p1), .val (.ref b1), .val (.int (1 : Int32)), .val (.int (3 : Int32))] [(.ref b1)])
      refine Go.st (fun _ k => XS.iloadN X21.here hx rfl (hb hby at_39) rfl k) ?_
      show Go _ _ _ _ _ _ _ T21 (mkF m 40 #[.val (.int p0), .val (.int p1), .val (.ref b1), .val (.int (1 : Int32)), .val (.int (3 : Int32))] [(.int (1 : Int32)), (.ref b1)])
      obtain ⟨cl67, Ar67, qq67, SS67, NN67, HH67, GG67⟩ := id V_b1__21
      have hin68 : ¬ ((1 : Int32) < 0 ∨ cl67.slots.size ≤ ((1 : Int32)).toNatClampNeg) := inb_of SS67 ⟨by decide, by decide⟩
      refine Go.st (fun _ k => X21.aaload hx (j := (1 : Int32)) (v := (.ref w_BIGINT)) (by rw [e21]; exact Ar67.1) (State.isArrayOf_alike hZ.alike Ar67.2.1) rfl Ar67.2.2 hin68 (HH67.at hin68 rfl) (g := (mkF m 40 #[.val (.int p0), .val (.int p1), .val (.ref b1), .val (.int (1 : Int32)), .val (.int (3 : Int32))] [(.int (1 : Int32)), (.ref b1)])) rfl rfl (hb hby at_40) _ k) ?_
      show Go _ _ _ _ _ _ _ T21 (mkF m 41 #[.val (.int p0), .val (.int p1), .val (.ref b1), .val (.int (1 : Int32)), .val (.int (3 : Int32))] [(.ref w_BIGINT)])
      refine Go.st (fun _ k => XS.aloadN X21.here hx rfl (hb hby at_41) rfl rfl k) ?_
      show Go _ _ _ _ _ _ _ T21 (mkF m 42 #[.val (.int p0), .val (.int p1), .val (.ref b1), .val (.int (1 : Int32)), .val (.int (3 : Int32))] [(.ref b1), (.ref w_BIGINT)])
      refine Go.st (fun _ k => XS.iload X21.here hx rfl (hb hby at_42) rfl k) ?_
      show Go _ _ _ _ _ _ _ T21 (mkF m 44 #[.val (.int p0), .val (.int p1), .val (.ref b1), .val (.int (1 : Int32)), .val (.int (3 : Int32))] [(.int (3 : Int32)), (.ref b1), (.ref w_BIGINT)])
      obtain ⟨cl69, Ar69, qq69, SS69, NN69, HH69, GG69⟩ := id V_b1__21
      have hin70 : ¬ ((3 : Int32) < 0 ∨ cl69.slots.size ≤ ((3 : Int32)).toNatClampNeg) := inb_of SS69 ⟨by decide, by decide⟩
      refine Go.st (fun _ k => X21.aaload hx (j := (3 : Int32)) (v := (.ref w_TEXT)) (by rw [e21]; exact Ar69.1) (State.isArrayOf_alike hZ.alike Ar69.2.1) rfl Ar69.2.2 hin70 (HH69.at hin70 rfl) (g := (mkF m 44 #[.val (.int p0), .val (.int p1), .val (.ref b1), .val (.int (1 : Int32)), .val (.int (3 : Int32))] [(.int (3 : Int32)), (.ref b1), (.ref w_BIGINT)])) rfl rfl (hb hby at_44) _ k) ?_
      show Go _ _ _ _ _ _ _ T21 (mkF m 45 #[.val (.int p0), .val (.int p1), .val (.ref b1), .val (.int (1 : Int32)), .val (.int (3 : Int32))] [(.ref w_TEXT), (.ref w_BIGINT)])
      obtain ⟨cq71, kq71, q71a, q71b, q71c⟩ := isOf hZ e21 E_BIGINT__21
      obtain ⟨_, _, ⟨T71, L71, k71, n71⟩, -, X71, ⟨Lc71, hQ71, l71, y71, z71⟩, st71⟩ := X21.virtualBack hx (y := (⟨"com/example/truerow/truerow/postgres/Type", "castsTo", "(Lcom/example/truerow/truerow/postgres/Type;)Z"⟩ : MethodName)) (z := (⟨"com/example/truerow/truerow/postgres/Type", "castsTo", "(Lcom/example/truerow/truerow/postgres/Type;)Z"⟩ : MethodName)) hown (mvT hZ (hw _ (List.mem_of_getElem? (i := 12) rfl))) (mvT hZ (hw _ (List.mem_of_getElem? (i := 13) rfl))) (notFace_of_selects (args := #[]) (mvT hZ (hw _ (List.mem_of_getElem? (i := 15) rfl)))) (mvT hZ (hw _ (List.mem_of_getElem? (i := 15) rfl))) (mvT hZ (hw _ (List.mem_of_getElem? (i := 14) rfl))) (by decide) (backOf (W := 0) (rm1 l Z a0 hw [] w_BIGINT w_TEXT w_BIGINT w_BOOLEAN h21 n0 Z21 S_BIGINT__21 S_BOOLEAN__21) hZ (hw _ (List.mem_of_getElem? (i := 16) rfl)) (hw _ (List.mem_of_getElem? (i := 3) rfl)) (by decide) (by decide)) q71a q71c (g := (mkF m 45 #[.val (.int p0), .val (.int p1), .val (.ref b1), .val (.int (1 : Int32)), .val (.int (3 : Int32))] [(.ref w_TEXT), (.ref w_BIGINT)])) rfl (by rw [hml]; rfl) (Steps.refl _) (argsL := [(.ref w_TEXT)]) (rest := []) (lenOf pd_0 rfl) rfl (by show 2 * 0 + _ ≤ _; exact Nat.le_of_eq rfl) (hb hby at_45) (fun _ _ => ⟨rfl, e21, (by decide : 1 + 0 ≤ _), (by decide : 4 + 0 ≤ _)⟩)
      dsimp only [Pt.U, Pt.locs, Pt.cells, Pt.slots] at X71 l71 y71 z71 st71 hQ71
      subst l71 y71 z71
      obtain ⟨rfl, N71q, e71⟩ := hQ71
      have N71 := Fr.app N21 N71q
      refine Go.st (fun _ k => st71.trans k) ?_
      show Go _ _ _ _ _ _ _ T71 (mkF m 48 #[.val (.int p0), .val (.int p1), .val (.ref b1), .val (.int (1 : Int32)), .val (.int (3 : Int32))] [(.int (val_1 w_BIGINT w_TEXT w_BIGINT w_BOOLEAN))])
      rw [show (val_1 w_BIGINT w_TEXT w_BIGINT w_BOOLEAN) = (1 : Int32) from by unfold val_1; rw [if_pos rfl, if_neg (Ne.symm ne_w_BOOLEAN_w_TEXT), if_neg ne_w_BIGINT_w_BOOLEAN]]
      show Go _ _ _ _ _ _ _ T71 (mkF m 48 #[.val (.int p0), .val (.int p1), .val (.ref b1), .val (.int (1 : Int32)), .val (.int (3 : Int32))] [(.int (1 : Int32))])
      refine Go.st (fun _ k => XS.iloadN X71.here hx rfl (hb hby at_48) rfl k) ?_
      show Go _ _ _ _ _ _ _ T71 (mkF m 49 #[.val (.int p0), .val (.int p1), .val (.ref b1), .val (.int (1 : Int32)), .val (.int (3 : Int32))] [(.int (1 : Int32)), (.int (1 : Int32))])
      refine Go.st (fun _ k => XS.iload X71.here hx rfl (hb hby at_49) rfl k) ?_
      show Go _ _ _ _ _ _ _ T71 (mkF m 51 #[.val (.int p0), .val (.int p1), .val (.ref b1), .val (.int (1 : Int32)), .val (.int (3 : Int32))] [(.int (3 : Int32)), (.int (1 : Int32)), (.int (1 : Int32))])
      obtain ⟨_, _, ⟨T72, L72, k72, n72⟩, -, X72, ⟨Lc72, hQ72, l72, y72, z72⟩, st72⟩ := Jvm.LawKit.callS X71 hx (y := (⟨"com/example/truerow/truerow/postgres/TypeCastsToPinLaw", "expected", "(II)Z"⟩ : MethodName)) hown (mvT hZ (hw _ (List.mem_of_getElem? (i := 19) rfl))) (mvT hZ (hw _ (List.mem_of_getElem? (i := 20) rfl))) (mvT hZ (hw _ (List.mem_of_getElem? (i := 21) rfl))) (mvT hZ (hw _ (List.mem_of_getElem? (i := 22) rfl))) (by decide) (backOf (W := 1) (rm2 l Z a0 hw [] (1 : Int32) (3 : Int32)  h21 n0 Z21 (Or.inr (Or.inl rfl)) (Or.inr (Or.inr (Or.inr (rfl))))) hZ (hw _ (List.mem_of_getElem? (i := 22) rfl)) (hw _ (List.mem_of_getElem? (i := 21) rfl)) (by decide) (by decide)) (g := (mkF m 51 #[.val (.int p0), .val (.int p1), .val (.ref b1), .val (.int (1 : Int32)), .val (.int (3 : Int32))] [(.int (3 : Int32)), (.int (1 : Int32)), (.int (1 : Int32))])) rfl (by rw [hml]; rfl) (argsL := [(.int (1 : Int32)), (.int (3 : Int32))]) (rest := [(.int (1 : Int32))]) (lenOf pd_1 rfl) rfl (by show 2 * 0 + _ ≤ _; exact Nat.le_of_eq rfl) (hb hby at_51) (fun _ _ => ⟨rfl, e71, (by decide : 1 + 0 ≤ _), (by decide : 4 + 0 ≤ _)⟩)
      dsimp only [Pt.U, Pt.locs, Pt.cells, Pt.slots] at X72 l72 y72 z72 st72 hQ72
      subst l72 y72 z72
      obtain ⟨rfl, N72q, e72⟩ := hQ72
      have N72 := Fr.app N71 N72q
      refine Go.st st72 ?_
      show Go _ _ _ _ _ _ _ T72 (mkF m 54 #[.val (.int p0), .val (.int p1), .val (.ref b1), .val (.int (1 : Int32)), .val (.int (3 : Int32))] [(.int (val_2 (1 : Int32) (3 : Int32))), (.int (1 : Int32))])
      rw [show (val_2 (1 : Int32) (3 : Int32)) = (1 : Int32) from by unfold val_2; rw [if_neg (by decide +kernel : ¬ ((1 : Int32) = (0 : Int32))), if_pos (by decide +kernel : (1 : Int32) = (1 : Int32)), if_neg (by decide +kernel : ¬ ((3 : Int32) = (0 : Int32))), if_neg (by decide +kernel : ¬ ((3 : Int32) = (1 : Int32))), if_neg (by decide +kernel : ¬ ((3 : Int32) = (2 : Int32)))]]
      show Go _ _ _ _ _ _ _ T72 (mkF m 54 #[.val (.int p0), .val (.int p1), .val (.ref b1), .val (.int (1 : Int32)), .val (.int (3 : Int32))] [(.int (1 : Int32)), (.int (1 : Int32))])
      refine Go.st (fun _ k => XS.icmpNo X72.here hx rfl (hb hby at_54) rfl (teq (by decide : (1 : Int32) = (1 : Int32))).2 k) ?_
      show Go _ _ _ _ _ _ _ T72 (mkF m 57 #[.val (.int p0), .val (.int p1), .val (.ref b1), .val (.int (1 : Int32)), .val (.int (3 : Int32))] [])
      refine Go.st (fun _ k => XS.iconst X72.here hx rfl (hb hby at_57) k) ?_
      show Go _ _ _ _ _ _ _ T72 (mkF m 58 #[.val (.int p0), .val (.int p1), .val (.ref b1), .val (.int (1 : Int32)), .val (.int (3 : Int32))] [(.int (1 : Int32))])
      refine Go.st (fun _ k => XS.goto X72.here hx rfl (pc0 := 58) (pc' := 62) rfl (hb hby at_58) (by decide) (by decide) k) ?_
      show Go _ _ _ _ _ _ _ T72 (mkF m 62 #[.val (.int p0), .val (.int p1), .val (.ref b1), .val (.int (1 : Int32)), .val (.int (3 : Int32))] [(.int (1 : Int32))])
      refine Go.ret X72 hlk (v := some (.int (1 : Int32))) (fun h => by rw [hret] at h; cases h) (fun fs hr => retN X72 hx (t := .boolean) hret (by simp) (hb hby at_62) hr) ?_ (by decide) (by decide)
      show Q0 Z p0 p1 w_INT w_BIGINT w_BOOLEAN w_TEXT h0 n0 (some (.int (1 : Int32))) T72.heap _
      rw [e72]
      exact ⟨rfl, N72⟩
  · rw [hk22]
    show Go _ _ _ _ _ _ _ T21 (mkF m 32 #[.val (.int p0), .val (.int p1), .val (.ref b1), .unset, .unset] [(.int (2 : Int32))])
    refine Go.st (fun _ k => XS.istoreN X21.here hx rfl (hb hby at_32) rfl (l' := #[.val (.int p0), .val (.int p1), .val (.ref b1), .val (.int (2 : Int32)), .unset]) rfl k) ?_
    show Go _ _ _ _ _ _ _ T21 (mkF m 33 #[.val (.int p0), .val (.int p1), .val (.ref b1), .val (.int (2 : Int32)), .unset] [])
    refine Go.st (fun _ k => XS.iloadN X21.here hx rfl (hb hby at_33) rfl k) ?_
    show Go _ _ _ _ _ _ _ T21 (mkF m 34 #[.val (.int p0), .val (.int p1), .val (.ref b1), .val (.int (2 : Int32)), .unset] [(.int p1)])
    refine Go.st (fun _ k => XS.iconst X21.here hx rfl (hb hby at_34) k) ?_
    show Go _ _ _ _ _ _ _ T21 (mkF m 35 #[.val (.int p0), .val (.int p1), .val (.ref b1), .val (.int (2 : Int32)), .unset] [(.int (3 : Int32)), (.int p1)])
    refine Go.st (fun _ k => XS.iand X21.here hx rfl (hb hby at_35) rfl k) ?_
    show Go _ _ _ _ _ _ _ T21 (mkF m 36 #[.val (.int p0), .val (.int p1), .val (.ref b1), .val (.int (2 : Int32)), .unset] [(.int (p1 &&& (3 : Int32)))])
    rcases own_and3 p1 with hk73 | hk73 | hk73 | hk73
    · rw [hk73]
      show Go _ _ _ _ _ _ _ T21 (mkF m 36 #[.val (.int p0), .val (.int p1), .val (.ref b1), .val (.int (2 : Int32)), .unset] [(.int (0 : Int32))])
      refine Go.st (fun _ k => XS.istore X21.here hx rfl (hb hby at_36) rfl (l' := #[.val (.int p0), .val (.int p1), .val (.ref b1), .val (.int (2 : Int32)), .val (.int (0 : Int32))]) rfl k) ?_
      show Go _ _ _ _ _ _ _ T21 (mkF m 38 #[.val (.int p0), .val (.int p1), .val (.ref b1), .val (.int (2 : Int32)), .val (.int (0 : Int32))] [])
      refine Go.st (fun _ k => XS.aloadN X21.here hx rfl (hb hby at_38) rfl rfl k) ?_
      show Go _ _ _ _ _ _ _ T21 (mkF m 39 #[.val (.int p0), .val (.int p1), .val (.ref b1), .val (.int (2 : Int32)), .val (.int (0 : Int32))] [(.ref b1)])
      refine Go.st (fun _ k => XS.iloadN X21.here hx rfl (hb hby at_39) rfl k) ?_
      show Go _ _ _ _ _ _ _ T21 (mkF m 40 #[.val (.int p0), .val (.int p1), .val (.ref b1), .val (.int (2 : Int32)), .val (.int (0 : Int32))] [(.int (2 : Int32)), (.ref b1)])
      obtain ⟨cl74, Ar74, qq74, SS74, NN74, HH74, GG74⟩ := id V_b1__21
      have hin75 : ¬ ((2 : Int32) < 0 ∨ cl74.slots.size ≤ ((2 : Int32)).toNatClampNeg) := inb_of SS74 ⟨by decide, by decide⟩
      refine Go.st (fun _ k => X21.aaload hx (j := (2 : Int32)) (v := (.ref w_BOOLEAN)) (by rw [e21]; exact Ar74.1) (State.isArrayOf_alike hZ.alike Ar74.2.1) rfl Ar74.2.2 hin75 (HH74.at hin75 rfl) (g := (mkF m 40 #[.val (.int p0), .val (.int p1), .val (.ref b1), .val (.int (2 : Int32)), .val (.int (0 : Int32))] [(.int (2 : Int32)), (.ref b1)])) rfl rfl (hb hby at_40) _ k) ?_
      show Go _ _ _ _ _ _ _ T21 (mkF m 41 #[.val (.int p0), .val (.int p1), .val (.ref b1), .val (.int (2 : Int32)), .val (.int (0 : Int32))] [(.ref w_BOOLEAN)])
      refine Go.st (fun _ k => XS.aloadN X21.here hx rfl (hb hby at_41) rfl rfl k) ?_
      show Go _ _ _ _ _ _ _ T21 (mkF m 42 #[.val (.int p0), .val (.int p1), .val (.ref b1), .val (.int (2 : Int32)), .val (.int (0 : Int32))] [(.ref b1), (.ref w_BOOLEAN)])
      refine Go.st (fun _ k => XS.iload X21.here hx rfl (hb hby at_42) rfl k) ?_
      show Go _ _ _ _ _ _ _ T21 (mkF m 44 #[.val (.int p0), .val (.int p1), .val (.ref b1), .val (.int (2 : Int32)), .val (.int (0 : Int32))] [(.int (0 : Int32)), (.ref b1), (.ref w_BOOLEAN)])
      obtain ⟨cl76, Ar76, qq76, SS76, NN76, HH76, GG76⟩ := id V_b1__21
      have hin77 : ¬ ((0 : Int32) < 0 ∨ cl76.slots.size ≤ ((0 : Int32)).toNatClampNeg) := inb_of SS76 ⟨by decide, by decide⟩
      refine Go.st (fun _ k => X21.aaload hx (j := (0 : Int32)) (v := (.ref w_INT)) (by rw [e21]; exact Ar76.1) (State.isArrayOf_alike hZ.alike Ar76.2.1) rfl Ar76.2.2 hin77 (HH76.at hin77 rfl) (g := (mkF m 44 #[.val (.int p0), .val (.int p1), .val (.ref b1), .val (.int (2 : Int32)), .val (.int (0 : Int32))] [(.int (0 : Int32)), (.ref b1), (.ref w_BOOLEAN)])) rfl rfl (hb hby at_44) _ k) ?_
      show Go _ _ _ _ _ _ _ T21 (mkF m 45 #[.val (.int p0), .val (.int p1), .val (.ref b1), .val (.int (2 : Int32)), .val (.int (0 : Int32))] [(.ref w_INT), (.ref w_BOOLEAN)])
      obtain ⟨cq78, kq78, q78a, q78b, q78c⟩ := isOf hZ e21 E_BOOLEAN__21
      obtain ⟨_, _, ⟨T78, L78, k78, n78⟩, -, X78, ⟨Lc78, hQ78, l78, y78, z78⟩, st78⟩ := X21.virtualBack hx (y := (⟨"com/example/truerow/truerow/postgres/Type", "castsTo", "(Lcom/example/truerow/truerow/postgres/Type;)Z"⟩ : MethodName)) (z := (⟨"com/example/truerow/truerow/postgres/Type", "castsTo", "(Lcom/example/truerow/truerow/postgres/Type;)Z"⟩ : MethodName)) hown (mvT hZ (hw _ (List.mem_of_getElem? (i := 12) rfl))) (mvT hZ (hw _ (List.mem_of_getElem? (i := 13) rfl))) (notFace_of_selects (args := #[]) (mvT hZ (hw _ (List.mem_of_getElem? (i := 15) rfl)))) (mvT hZ (hw _ (List.mem_of_getElem? (i := 15) rfl))) (mvT hZ (hw _ (List.mem_of_getElem? (i := 14) rfl))) (by decide) (backOf (W := 0) (rm1 l Z a0 hw [] w_BOOLEAN w_INT w_BIGINT w_BOOLEAN h21 n0 Z21 S_BIGINT__21 S_BOOLEAN__21) hZ (hw _ (List.mem_of_getElem? (i := 16) rfl)) (hw _ (List.mem_of_getElem? (i := 3) rfl)) (by decide) (by decide)) q78a q78c (g := (mkF m 45 #[.val (.int p0), .val (.int p1), .val (.ref b1), .val (.int (2 : Int32)), .val (.int (0 : Int32))] [(.ref w_INT), (.ref w_BOOLEAN)])) rfl (by rw [hml]; rfl) (Steps.refl _) (argsL := [(.ref w_INT)]) (rest := []) (lenOf pd_0 rfl) rfl (by show 2 * 0 + _ ≤ _; exact Nat.le_of_eq rfl) (hb hby at_45) (fun _ _ => ⟨rfl, e21, (by decide : 1 + 0 ≤ _), (by decide : 4 + 0 ≤ _)⟩)
      dsimp only [Pt.U, Pt.locs, Pt.cells, Pt.slots] at X78 l78 y78 z78 st78 hQ78
      subst l78 y78 z78
      obtain ⟨rfl, N78q, e78⟩ := hQ78
      have N78 := Fr.app N21 N78q
      refine Go.st (fun _ k => st78.trans k) ?_
      show Go _ _ _ _ _ _ _ T78 (mkF m 48 #[.val (.int p0), .val (.int p1), .val (.ref b1), .val (.int (2 : Int32)), .val (.int (0 : Int32))] [(.int (val_1 w_BOOLEAN w_INT w_BIGINT w_BOOLEAN))])
      rw [show (val_1 w_BOOLEAN w_INT w_BIGINT w_BOOLEAN) = (1 : Int32) from by unfold val_1; rw [if_neg (Ne.symm ne_w_BIGINT_w_BOOLEAN), if_pos rfl, if_neg ne_w_INT_w_BIGINT]]
      show Go _ _ _ _ _ _ _ T78 (mkF m 48 #[.val (.int p0), .val (.int p1), .val (.ref b1), .val (.int (2 : Int32)), .val (.int (0 : Int32))] [(.int (1 : Int32))])
      refine Go.st (fun _ k => XS.iloadN X78.here hx rfl (hb hby at_48) rfl k) ?_
      show Go _ _ _ _ _ _ _ T78 (mkF m 49 #[.val (.int p0), .val (.int p1), .val (.ref b1), .val (.int (2 : Int32)), .val (.int (0 : Int32))] [(.int (2 : Int32)), (.int (1 : Int32))])
      refine Go.st (fun _ k => XS.iload X78.here hx rfl (hb hby at_49) rfl k) ?_
      show Go _ _ _ _ _ _ _ T78 (mkF m 51 #[.val (.int p0), .val (.int p1), .val (.ref b1), .val (.int (2 : Int32)), .val (.int (0 : Int32))] [(.int (0 : Int32)), (.int (2 : Int32)), (.int (1 : Int32))])
      obtain ⟨_, _, ⟨T79, L79, k79, n79⟩, -, X79, ⟨Lc79, hQ79, l79, y79, z79⟩, st79⟩ := Jvm.LawKit.callS X78 hx (y := (⟨"com/example/truerow/truerow/postgres/TypeCastsToPinLaw", "expected", "(II)Z"⟩ : MethodName)) hown (mvT hZ (hw _ (List.mem_of_getElem? (i := 19) rfl))) (mvT hZ (hw _ (List.mem_of_getElem? (i := 20) rfl))) (mvT hZ (hw _ (List.mem_of_getElem? (i := 21) rfl))) (mvT hZ (hw _ (List.mem_of_getElem? (i := 22) rfl))) (by decide) (backOf (W := 1) (rm2 l Z a0 hw [] (2 : Int32) (0 : Int32)  h21 n0 Z21 (Or.inr (Or.inr (Or.inl rfl))) (Or.inl rfl)) hZ (hw _ (List.mem_of_getElem? (i := 22) rfl)) (hw _ (List.mem_of_getElem? (i := 21) rfl)) (by decide) (by decide)) (g := (mkF m 51 #[.val (.int p0), .val (.int p1), .val (.ref b1), .val (.int (2 : Int32)), .val (.int (0 : Int32))] [(.int (0 : Int32)), (.int (2 : Int32)), (.int (1 : Int32))])) rfl (by rw [hml]; rfl) (argsL := [(.int (2 : Int32)), (.int (0 : Int32))]) (rest := [(.int (1 : Int32))]) (lenOf pd_1 rfl) rfl (by show 2 * 0 + _ ≤ _; exact Nat.le_of_eq rfl) (hb hby at_51) (fun _ _ => ⟨rfl, e78, (by decide : 1 + 0 ≤ _), (by decide : 4 + 0 ≤ _)⟩)
      dsimp only [Pt.U, Pt.locs, Pt.cells, Pt.slots] at X79 l79 y79 z79 st79 hQ79
      subst l79 y79 z79
      obtain ⟨rfl, N79q, e79⟩ := hQ79
      have N79 := Fr.app N78 N79q
      refine Go.st st79 ?_
      show Go _ _ _ _ _ _ _ T79 (mkF m 54 #[.val (.int p0), .val (.int p1), .val (.ref b1), .val (.int (2 : Int32)), .val (.int (0 : Int32))] [(.int (val_2 (2 : Int32) (0 : Int32))), (.int (1 : Int32))])
      rw [show (val_2 (2 : Int32) (0 : Int32)) = (1 : Int32) from by unfold val_2; rw [if_neg (by decide +kernel : ¬ ((2 : Int32) = (0 : Int32))), if_neg (by decide +kernel : ¬ ((2 : Int32) = (1 : Int32))), if_pos (by decide +kernel : (2 : Int32) = (2 : Int32)), if_pos (by decide +kernel : (0 : Int32) = (0 : Int32))]]
      show Go _ _ _ _ _ _ _ T79 (mkF m 54 #[.val (.int p0), .val (.int p1), .val (.ref b1), .val (.int (2 : Int32)), .val (.int (0 : Int32))] [(.int (1 : Int32)), (.int (1 : Int32))])
      refine Go.st (fun _ k => XS.icmpNo X79.here hx rfl (hb hby at_54) rfl (teq (by decide : (1 : Int32) = (1 : Int32))).2 k) ?_
      show Go _ _ _ _ _ _ _ T79 (mkF m 57 #[.val (.int p0), .val (.int p1), .val (.ref b1), .val (.int (2 : Int32)), .val (.int (0 : Int32))] [])
      refine Go.st (fun _ k => XS.iconst X79.here hx rfl (hb hby at_57) k) ?_
      show Go _ _ _ _ _ _ _ T79 (mkF m 58 #[.val (.int p0), .val (.int p1), .val (.ref b1), .val (.int (2 : Int32)), .val (.int (0 : Int32))] [(.int (1 : Int32))])
      refine Go.st (fun _ k => XS.goto X79.here hx rfl (pc0 := 58) (pc' := 62) rfl (hb hby at_58) (by decide) (by decide) k) ?_
      show Go _ _ _ _ _ _ _ T79 (mkF m 62 #[.val (.int p0), .val (.int p1), .val (.ref b1), .val (.int (2 : Int32)), .val (.int (0 : Int32))] [(.int (1 : Int32))])
      refine Go.ret X79 hlk (v := some (.int (1 : Int32))) (fun h => by rw [hret] at h; cases h) (fun fs hr => retN X79 hx (t := .boolean) hret (by simp) (hb hby at_62) hr) ?_ (by decide) (by decide)
      show Q0 Z p0 p1 w_INT w_BIGINT w_BOOLEAN w_TEXT h0 n0 (some (.int (1 : Int32))) T79.heap _
      rw [e79]
      exact ⟨rfl, N79⟩
    · rw [hk73]
      show Go _ _ _ _ _ _ _ T21 (mkF m 36 #[.val (.int p0), .val (.int p1), .val (.ref b1), .val (.int (2 : Int32)), .unset] [(.int (1 : Int32))])
      refine Go.st (fun _ k => XS.istore X21.here hx rfl (hb hby at_36) rfl (l' := #[.val (.int p0), .val (.int p1), .val (.ref b1), .val (.int (2 : Int32)), .val (.int (1 : Int32))]) rfl k) ?_
      show Go _ _ _ _ _ _ _ T21 (mkF m 38 #[.val (.int p0), .val (.int p1), .val (.ref b1), .val (.int (2 : Int32)), .val (.int (1 : Int32))] [])
      refine Go.st (fun _ k => XS.aloadN X21.here hx rfl (hb hby at_38) rfl rfl k) ?_
      show Go _ _ _ _ _ _ _ T21 (mkF m 39 #[.val (.int p0), .val (.int p1), .val (.ref b1), .val (.int (2 : Int32)), .val (.int (1 : Int32))] [(.ref b1)])
      refine Go.st (fun _ k => XS.iloadN X21.here hx rfl (hb hby at_39) rfl k) ?_
      show Go _ _ _ _ _ _ _ T21 (mkF m 40 #[.val (.int p0), .val (.int p1), .val (.ref b1), .val (.int (2 : Int32)), .val (.int (1 : Int32))] [(.int (2 : Int32)), (.ref b1)])
      obtain ⟨cl80, Ar80, qq80, SS80, NN80, HH80, GG80⟩ := id V_b1__21
      have hin81 : ¬ ((2 : Int32) < 0 ∨ cl80.slots.size ≤ ((2 : Int32)).toNatClampNeg) := inb_of SS80 ⟨by decide, by decide⟩
      refine Go.st (fun _ k => X21.aaload hx (j := (2 : Int32)) (v := (.ref w_BOOLEAN)) (by rw [e21]; exact Ar80.1) (State.isArrayOf_alike hZ.alike Ar80.2.1) rfl Ar80.2.2 hin81 (HH80.at hin81 rfl) (g := (mkF m 40 #[.val (.int p0), .val (.int p1), .val (.ref b1), .val (.int (2 : Int32)), .val (.int (1 : Int32))] [(.int (2 : Int32)), (.ref b1)])) rfl rfl (hb hby at_40) _ k) ?_
      show Go _ _ _ _ _ _ _ T21 (mkF m 41 #[.val (.int p0), .val (.int p1), .val (.ref b1), .val (.int (2 : Int32)), .val (.int (1 : Int32))] [(.ref w_BOOLEAN)])
      refine Go.st (fun _ k => XS.aloadN X21.here hx rfl (hb hby at_41) rfl rfl k) ?_
      show Go _ _ _ _ _ _ _ T21 (mkF m 42 #[.val (.int p0), .val (.int p1), .val (.ref b1), .val (.int (2 : Int32)), .val (.int (1 : Int32))] [(.ref b1), (.ref w_BOOLEAN)])
      refine Go.st (fun _ k => XS.iload X21.here hx rfl (hb hby at_42) rfl k) ?_
      show Go _ _ _ _ _ _ _ T21 (mkF m 44 #[.val (.int p0), .val (.int p1), .val (.ref b1), .val (.int (2 : Int32)), .val (.int (1 : Int32))] [(.int (1 : Int32)), (.ref b1), (.ref w_BOOLEAN)])
      obtain ⟨cl82, Ar82, qq82, SS82, NN82, HH82, GG82⟩ := id V_b1__21
      have hin83 : ¬ ((1 : Int32) < 0 ∨ cl82.slots.size ≤ ((1 : Int32)).toNatClampNeg) := inb_of SS82 ⟨by decide, by decide⟩
      refine Go.st (fun _ k => X21.aaload hx (j := (1 : Int32)) (v := (.ref w_BIGINT)) (by rw [e21]; exact Ar82.1) (State.isArrayOf_alike hZ.alike Ar82.2.1) rfl Ar82.2.2 hin83 (HH82.at hin83 rfl) (g := (mkF m 44 #[.val (.int p0), .val (.int p1), .val (.ref b1), .val (.int (2 : Int32)), .val (.int (1 : Int32))] [(.int (1 : Int32)), (.ref b1), (.ref w_BOOLEAN)])) rfl rfl (hb hby at_44) _ k) ?_
      show Go _ _ _ _ _ _ _ T21 (mkF m 45 #[.val (.int p0), .val (.int p1), .val (.ref b1), .val (.int (2 : Int32)), .val (.int (1 : Int32))] [(.ref w_BIGINT), (.ref w_BOOLEAN)])
      obtain ⟨cq84, kq84, q84a, q84b, q84c⟩ := isOf hZ e21 E_BOOLEAN__21
      obtain ⟨_, _, ⟨T84, L84, k84, n84⟩, -, X84, ⟨Lc84, hQ84, l84, y84, z84⟩, st84⟩ := X21.virtualBack hx (y := (⟨"com/example/truerow/truerow/postgres/Type", "castsTo", "(Lcom/example/truerow/truerow/postgres/Type;)Z"⟩ : MethodName)) (z := (⟨"com/example/truerow/truerow/postgres/Type", "castsTo", "(Lcom/example/truerow/truerow/postgres/Type;)Z"⟩ : MethodName)) hown (mvT hZ (hw _ (List.mem_of_getElem? (i := 12) rfl))) (mvT hZ (hw _ (List.mem_of_getElem? (i := 13) rfl))) (notFace_of_selects (args := #[]) (mvT hZ (hw _ (List.mem_of_getElem? (i := 15) rfl)))) (mvT hZ (hw _ (List.mem_of_getElem? (i := 15) rfl))) (mvT hZ (hw _ (List.mem_of_getElem? (i := 14) rfl))) (by decide) (backOf (W := 0) (rm1 l Z a0 hw [] w_BOOLEAN w_BIGINT w_BIGINT w_BOOLEAN h21 n0 Z21 S_BIGINT__21 S_BOOLEAN__21) hZ (hw _ (List.mem_of_getElem? (i := 16) rfl)) (hw _ (List.mem_of_getElem? (i := 3) rfl)) (by decide) (by decide)) q84a q84c (g := (mkF m 45 #[.val (.int p0), .val (.int p1), .val (.ref b1), .val (.int (2 : Int32)), .val (.int (1 : Int32))] [(.ref w_BIGINT), (.ref w_BOOLEAN)])) rfl (by rw [hml]; rfl) (Steps.refl _) (argsL := [(.ref w_BIGINT)]) (rest := []) (lenOf pd_0 rfl) rfl (by show 2 * 0 + _ ≤ _; exact Nat.le_of_eq rfl) (hb hby at_45) (fun _ _ => ⟨rfl, e21, (by decide : 1 + 0 ≤ _), (by decide : 4 + 0 ≤ _)⟩)
      dsimp only [Pt.U, Pt.locs, Pt.cells, Pt.slots] at X84 l84 y84 z84 st84 hQ84
      subst l84 y84 z84
      obtain ⟨rfl, N84q, e84⟩ := hQ84
      have N84 := Fr.app N21 N84q
      refine Go.st (fun _ k => st84.trans k) ?_
      show Go _ _ _ _ _ _ _ T84 (mkF m 48 #[.val (.int p0), .val (.int p1), .val (.ref b1), .val (.int (2 : Int32)), .val (.int (1 : Int32))] [(.int (val_1 w_BOOLEAN w_BIGINT w_BIGINT w_BOOLEAN))])
      rw [show (val_1 w_BOOLEAN w_BIGINT w_BIGINT w_BOOLEAN) = (0 : Int32) from by unfold val_1; rw [if_neg (Ne.symm ne_w_BIGINT_w_BOOLEAN), if_pos rfl, if_pos rfl]]
      show Go _ _ _ _ _ _ _ T84 (mkF m 48 #[.val (.int p0), .val (.int p1), .val (.ref b1), .val (.int (2 : Int32)), .val (.int (1 : Int32))] [(.int (0 : Int32))])
      refine Go.st (fun _ k => XS.iloadN X84.here hx rfl (hb hby at_48) rfl k) ?_
      show Go _ _ _ _ _ _ _ T84 (mkF m 49 #[.val (.int p0), .val (.int p1), .val (.ref b1), .val (.int (2 : Int32)), .val (.int (1 : Int32))] [(.int (2 : Int32)), (.int (0 : Int32))])
      refine Go.st (fun _ k => XS.iload X84.here hx rfl (hb hby at_49) rfl k) ?_
      show Go _ _ _ _ _ _ _ T84 (mkF m 51 #[.val (.int p0), .val (.int p1), .val (.ref b1), .val (.int (2 : Int32)), .val (.int (1 : Int32))] [(.int (1 : Int32)), (.int (2 : Int32)), (.int (0 : Int32))])
      obtain ⟨_, _, ⟨T85, L85, k85, n85⟩, -, X85, ⟨Lc85, hQ85, l85, y85, z85⟩, st85⟩ := Jvm.LawKit.callS X84 hx (y := (⟨"com/example/truerow/truerow/postgres/TypeCastsToPinLaw", "expected", "(II)Z"⟩ : MethodName)) hown (mvT hZ (hw _ (List.mem_of_getElem? (i := 19) rfl))) (mvT hZ (hw _ (List.mem_of_getElem? (i := 20) rfl))) (mvT hZ (hw _ (List.mem_of_getElem? (i := 21) rfl))) (mvT hZ (hw _ (List.mem_of_getElem? (i := 22) rfl))) (by decide) (backOf (W := 1) (rm2 l Z a0 hw [] (2 : Int32) (1 : Int32)  h21 n0 Z21 (Or.inr (Or.inr (Or.inl rfl))) (Or.inr (Or.inl rfl))) hZ (hw _ (List.mem_of_getElem? (i := 22) rfl)) (hw _ (List.mem_of_getElem? (i := 21) rfl)) (by decide) (by decide)) (g := (mkF m 51 #[.val (.int p0), .val (.int p1), .val (.ref b1), .val (.int (2 : Int32)), .val (.int (1 : Int32))] [(.int (1 : Int32)), (.int (2 : Int32)), (.int (0 : Int32))])) rfl (by rw [hml]; rfl) (argsL := [(.int (2 : Int32)), (.int (1 : Int32))]) (rest := [(.int (0 : Int32))]) (lenOf pd_1 rfl) rfl (by show 2 * 0 + _ ≤ _; exact Nat.le_of_eq rfl) (hb hby at_51) (fun _ _ => ⟨rfl, e84, (by decide : 1 + 0 ≤ _), (by decide : 4 + 0 ≤ _)⟩)
      dsimp only [Pt.U, Pt.locs, Pt.cells, Pt.slots] at X85 l85 y85 z85 st85 hQ85
      subst l85 y85 z85
      obtain ⟨rfl, N85q, e85⟩ := hQ85
      have N85 := Fr.app N84 N85q
      refine Go.st st85 ?_
      show Go _ _ _ _ _ _ _ T85 (mkF m 54 #[.val (.int p0), .val (.int p1), .val (.ref b1), .val (.int (2 : Int32)), .val (.int (1 : Int32))] [(.int (val_2 (2 : Int32) (1 : Int32))), (.int (0 : Int32))])
      rw [show (val_2 (2 : Int32) (1 : Int32)) = (0 : Int32) from by unfold val_2; rw [if_neg (by decide +kernel : ¬ ((2 : Int32) = (0 : Int32))), if_neg (by decide +kernel : ¬ ((2 : Int32) = (1 : Int32))), if_pos (by decide +kernel : (2 : Int32) = (2 : Int32)), if_neg (by decide +kernel : ¬ ((1 : Int32) = (0 : Int32))), if_pos (by decide +kernel : (1 : Int32) = (1 : Int32))]]
      show Go _ _ _ _ _ _ _ T85 (mkF m 54 #[.val (.int p0), .val (.int p1), .val (.ref b1), .val (.int (2 : Int32)), .val (.int (1 : Int32))] [(.int (0 : Int32)), (.int (0 : Int32))])
      refine Go.st (fun _ k => XS.icmpNo X85.here hx rfl (hb hby at_54) rfl (teq (by decide : (0 : Int32) = (0 : Int32))).2 k) ?_
      show Go _ _ _ _ _ _ _ T85 (mkF m 57 #[.val (.int p0), .val (.int p1), .val (.ref b1), .val (.int (2 : Int32)), .val (.int (1 : Int32))] [])
      refine Go.st (fun _ k => XS.iconst X85.here hx rfl (hb hby at_57) k) ?_
      show Go _ _ _ _ _ _ _ T85 (mkF m 58 #[.val (.int p0), .val (.int p1), .val (.ref b1), .val (.int (2 : Int32)), .val (.int (1 : Int32))] [(.int (1 : Int32))])
      refine Go.st (fun _ k => XS.goto X85.here hx rfl (pc0 := 58) (pc' := 62) rfl (hb hby at_58) (by decide) (by decide) k) ?_
      show Go _ _ _ _ _ _ _ T85 (mkF m 62 #[.val (.int p0), .val (.int p1), .val (.ref b1), .val (.int (2 : Int32)), .val (.int (1 : Int32))] [(.int (1 : Int32))])
      refine Go.ret X85 hlk (v := some (.int (1 : Int32))) (fun h => by rw [hret] at h; cases h) (fun fs hr => retN X85 hx (t := .boolean) hret (by simp) (hb hby at_62) hr) ?_ (by decide) (by decide)
      show Q0 Z p0 p1 w_INT w_BIGINT w_BOOLEAN w_TEXT h0 n0 (some (.int (1 : Int32))) T85.heap _
      rw [e85]
      exact ⟨rfl, N85⟩
    · rw [hk73]
      show Go _ _ _ _ _ _ _ T21 (mkF m 36 #[.val (.int p0), .val (.int p1), .val (.ref b1), .val (.int (2 : Int32)), .unset] [(.int (2 : Int32))])
      refine Go.st (fun _ k => XS.istore X21.here hx rfl (hb hby at_36) rfl (l' := #[.val (.int p0), .val (.int p1), .val (.ref b1), .val (.int (2 : Int32)), .val (.int (2 : Int32))]) rfl k) ?_
      show Go _ _ _ _ _ _ _ T21 (mkF m 38 #[.val (.int p0), .val (.int p1), .val (.ref b1), .val (.int (2 : Int32)), .val (.int (2 : Int32))] [])
      refine Go.st (fun _ k => XS.aloadN X21.here hx rfl (hb hby at_38) rfl rfl k) ?_
      show Go _ _ _ _ _ _ _ T21 (mkF m 39 #[.val (.int p0), .val (.int p1), .val (.ref b1), .val (.int (2 : Int32)), .val (.int (2 : Int32))] [(.ref b1)])
      refine Go.st (fun _ k => XS.iloadN X21.here hx rfl (hb hby at_39) rfl k) ?_
      show Go _ _ _ _ _ _ _ T21 (mkF m 40 #[.val (.int p0), .val (.int p1), .val (.ref b1), .val (.int (2 : Int32)), .val (.int (2 : Int32))] [(.int (2 : Int32)), (.ref b1)])
      obtain ⟨cl86, Ar86, qq86, SS86, NN86, HH86, GG86⟩ := id V_b1__21
      have hin87 : ¬ ((2 : Int32) < 0 ∨ cl86.slots.size ≤ ((2 : Int32)).toNatClampNeg) := inb_of SS86 ⟨by decide, by decide⟩
      refine Go.st (fun _ k => X21.aaload hx (j := (2 : Int32)) (v := (.ref w_BOOLEAN)) (by rw [e21]; exact Ar86.1) (State.isArrayOf_alike hZ.alike Ar86.2.1) rfl Ar86.2.2 hin87 (HH86.at hin87 rfl) (g := (mkF m 40 #[.val (.int p0), .val (.int p1), .val (.ref b1), .val (.int (2 : Int32)), .val (.int (2 : Int32))] [(.int (2 : Int32)), (.ref b1)])) rfl rfl (hb hby at_40) _ k) ?_
      show Go _ _ _ _ _ _ _ T21 (mkF m 41 #[.val (.int p0), .val (.int p1), .val (.ref b1), .val (.int (2 : Int32)), .val (.int (2 : Int32))] [(.ref w_BOOLEAN)])
      refine Go.st (fun _ k => XS.aloadN X21.here hx rfl (hb hby at_41) rfl rfl k) ?_
      show Go _ _ _ _ _ _ _ T21 (mkF m 42 #[.val (.int p0), .val (.int p1), .val (.ref b1), .val (.int (2 : Int32)), .val (.int (2 : Int32))] [(.ref b1), (.ref w_BOOLEAN)])
      refine Go.st (fun _ k => XS.iload X21.here hx rfl (hb hby at_42) rfl k) ?_
      show Go _ _ _ _ _ _ _ T21 (mkF m 44 #[.val (.int p0), .val (.int p1), .val (.ref b1), .val (.int (2 : Int32)), .val (.int (2 : Int32))] [(.int (2 : Int32)), (.ref b1), (.ref w_BOOLEAN)])
      obtain ⟨cl88, Ar88, qq88, SS88, NN88, HH88, GG88⟩ := id V_b1__21
      have hin89 : ¬ ((2 : Int32) < 0 ∨ cl88.slots.size ≤ ((2 : Int32)).toNatClampNeg) := inb_of SS88 ⟨by decide, by decide⟩
      refine Go.st (fun _ k => X21.aaload hx (j := (2 : Int32)) (v := (.ref w_BOOLEAN)) (by rw [e21]; exact Ar88.1) (State.isArrayOf_alike hZ.alike Ar88.2.1) rfl Ar88.2.2 hin89 (HH88.at hin89 rfl) (g := (mkF m 44 #[.val (.int p0), .val (.int p1), .val (.ref b1), .val (.int (2 : Int32)), .val (.int (2 : Int32))] [(.int (2 : Int32)), (.ref b1), (.ref w_BOOLEAN)])) rfl rfl (hb hby at_44) _ k) ?_
      show Go _ _ _ _ _ _ _ T21 (mkF m 45 #[.val (.int p0), .val (.int p1), .val (.ref b1), .val (.int (2 : Int32)), .val (.int (2 : Int32))] [(.ref w_BOOLEAN), (.ref w_BOOLEAN)])
      obtain ⟨cq90, kq90, q90a, q90b, q90c⟩ := isOf hZ e21 E_BOOLEAN__21
      obtain ⟨_, _, ⟨T90, L90, k90, n90⟩, -, X90, ⟨Lc90, hQ90, l90, y90, z90⟩, st90⟩ := X21.virtualBack hx (y := (⟨"com/example/truerow/truerow/postgres/Type", "castsTo", "(Lcom/example/truerow/truerow/postgres/Type;)Z"⟩ : MethodName)) (z := (⟨"com/example/truerow/truerow/postgres/Type", "castsTo", "(Lcom/example/truerow/truerow/postgres/Type;)Z"⟩ : MethodName)) hown (mvT hZ (hw _ (List.mem_of_getElem? (i := 12) rfl))) (mvT hZ (hw _ (List.mem_of_getElem? (i := 13) rfl))) (notFace_of_selects (args := #[]) (mvT hZ (hw _ (List.mem_of_getElem? (i := 15) rfl)))) (mvT hZ (hw _ (List.mem_of_getElem? (i := 15) rfl))) (mvT hZ (hw _ (List.mem_of_getElem? (i := 14) rfl))) (by decide) (backOf (W := 0) (rm1 l Z a0 hw [] w_BOOLEAN w_BOOLEAN w_BIGINT w_BOOLEAN h21 n0 Z21 S_BIGINT__21 S_BOOLEAN__21) hZ (hw _ (List.mem_of_getElem? (i := 16) rfl)) (hw _ (List.mem_of_getElem? (i := 3) rfl)) (by decide) (by decide)) q90a q90c (g := (mkF m 45 #[.val (.int p0), .val (.int p1), .val (.ref b1), .val (.int (2 : Int32)), .val (.int (2 : Int32))] [(.ref w_BOOLEAN), (.ref w_BOOLEAN)])) rfl (by rw [hml]; rfl) (Steps.refl _) (argsL := [(.ref w_BOOLEAN)]) (rest := []) (lenOf pd_0 rfl) rfl (by show 2 * 0 + _ ≤ _; exact Nat.le_of_eq rfl) (hb hby at_45) (fun _ _ => ⟨rfl, e21, (by decide : 1 + 0 ≤ _), (by decide : 4 + 0 ≤ _)⟩)
      dsimp only [Pt.U, Pt.locs, Pt.cells, Pt.slots] at X90 l90 y90 z90 st90 hQ90
      subst l90 y90 z90
      obtain ⟨rfl, N90q, e90⟩ := hQ90
      have N90 := Fr.app N21 N90q
      refine Go.st (fun _ k => st90.trans k) ?_
      show Go _ _ _ _ _ _ _ T90 (mkF m 48 #[.val (.int p0), .val (.int p1), .val (.ref b1), .val (.int (2 : Int32)), .val (.int (2 : Int32))] [(.int (val_1 w_BOOLEAN w_BOOLEAN w_BIGINT w_BOOLEAN))])
      rw [show (val_1 w_BOOLEAN w_BOOLEAN w_BIGINT w_BOOLEAN) = (1 : Int32) from by unfold val_1; rw [if_neg (Ne.symm ne_w_BIGINT_w_BOOLEAN), if_pos rfl, if_neg (Ne.symm ne_w_BIGINT_w_BOOLEAN)]]
      show Go _ _ _ _ _ _ _ T90 (mkF m 48 #[.val (.int p0), .val (.int p1), .val (.ref b1), .val (.int (2 : Int32)), .val (.int (2 : Int32))] [(.int (1 : Int32))])
      refine Go.st (fun _ k => XS.iloadN X90.here hx rfl (hb hby at_48) rfl k) ?_
      show Go _ _ _ _ _ _ _ T90 (mkF m 49 #[.val (.int p0), .val (.int p1), .val (.ref b1), .val (.int (2 : Int32)), .val (.int (2 : Int32))] [(.int (2 : Int32)), (.int (1 : Int32))])
      refine Go.st (fun _ k => XS.iload X90.here hx rfl (hb hby at_49) rfl k) ?_
      show Go _ _ _ _ _ _ _ T90 (mkF m 51 #[.val (.int p0), .val (.int p1), .val (.ref b1), .val (.int (2 : Int32)), .val (.int (2 : Int32))] [(.int (2 : Int32)), (.int (2 : Int32)), (.int (1 : Int32))])
      obtain ⟨_, _, ⟨T91, L91, k91, n91⟩, -, X91, ⟨Lc91, hQ91, l91, y91, z91⟩, st91⟩ := Jvm.LawKit.callS X90 hx (y := (⟨"com/example/truerow/truerow/postgres/TypeCastsToPinLaw", "expected", "(II)Z"⟩ : MethodName)) hown (mvT hZ (hw _ (List.mem_of_getElem? (i := 19) rfl))) (mvT hZ (hw _ (List.mem_of_getElem? (i := 20) rfl))) (mvT hZ (hw _ (List.mem_of_getElem? (i := 21) rfl))) (mvT hZ (hw _ (List.mem_of_getElem? (i := 22) rfl))) (by decide) (backOf (W := 1) (rm2 l Z a0 hw [] (2 : Int32) (2 : Int32)  h21 n0 Z21 (Or.inr (Or.inr (Or.inl rfl))) (Or.inr (Or.inr (Or.inl rfl)))) hZ (hw _ (List.mem_of_getElem? (i := 22) rfl)) (hw _ (List.mem_of_getElem? (i := 21) rfl)) (by decide) (by decide)) (g := (mkF m 51 #[.val (.int p0), .val (.int p1), .val (.ref b1), .val (.int (2 : Int32)), .val (.int (2 : Int32))] [(.int (2 : Int32)), (.int (2 : Int32)), (.int (1 : Int32))])) rfl (by rw [hml]; rfl) (argsL := [(.int (2 : Int32)), (.int (2 : Int32))]) (rest := [(.int (1 : Int32))]) (lenOf pd_1 rfl) rfl (by show 2 * 0 + _ ≤ _; exact Nat.le_of_eq rfl) (hb hby at_51) (fun _ _ => ⟨rfl, e90, (by decide : 1 + 0 ≤ _), (by decide : 4 + 0 ≤ _)⟩)
      dsimp only [Pt.U, Pt.locs, Pt.cells, Pt.slots] at X91 l91 y91 z91 st91 hQ91
      subst l91 y91 z91
      obtain ⟨rfl, N91q, e91⟩ := hQ91
      have N91 := Fr.app N90 N91q
      refine Go.st st91 ?_
      show Go _ _ _ _ _ _ _ T91 (mkF m 54 #[.val (.int p0), .val (.int p1), .val (.ref b1), .val (.int (2 : Int32)), .val (.int (2 : Int32))] [(.int (val_2 (2 : Int32) (2 : Int32))), (.int (1 : Int32))])
      rw [show (val_2 (2 : Int32) (2 : Int32)) = (1 : Int32) from by unfold val_2; rw [if_neg (by decide +kernel : ¬ ((2 : Int32) = (0 : Int32))), if_neg (by decide +kernel : ¬ ((2 : Int32) = (1 : Int32))), if_pos (by decide +kernel : (2 : Int32) = (2 : Int32)), if_neg (by decide +kernel : ¬ ((2 : Int32) = (0 : Int32))), if_neg (by decide +kernel : ¬ ((2 : Int32) = (1 : Int32)))]]
      show Go _ _ _ _ _ _ _ T91 (mkF m 54 #[.val (.int p0), .val (.int p1), .val (.ref b1), .val (.int (2 : Int32)), .val (.int (2 : Int32))] [(.int (1 : Int32)), (.int (1 : Int32))])
      refine Go.st (fun _ k => XS.icmpNo X91.here hx rfl (hb hby at_54) rfl (teq (by decide : (1 : Int32) = (1 : Int32))).2 k) ?_
      show Go _ _ _ _ _ _ _ T91 (mkF m 57 #[.val (.int p0), .val (.int p1), .val (.ref b1), .val (.int (2 : Int32)), .val (.int (2 : Int32))] [])
      refine Go.st (fun _ k => XS.iconst X91.here hx rfl (hb hby at_57) k) ?_
      show Go _ _ _ _ _ _ _ T91 (mkF m 58 #[.val (.int p0), .val (.int p1), .val (.ref b1), .val (.int (2 : Int32)), .val (.int (2 : Int32))] [(.int (1 : Int32))])
      refine Go.st (fun _ k => XS.goto X91.here hx rfl (pc0 := 58) (pc' := 62) rfl (hb hby at_58) (by decide) (by decide) k) ?_
      show Go _ _ _ _ _ _ _ T91 (mkF m 62 #[.val (.int p0), .val (.int p1), .val (.ref b1), .val (.int (2 : Int32)), .val (.int (2 : Int32))] [(.int (1 : Int32))])
      refine Go.ret X91 hlk (v := some (.int (1 : Int32))) (fun h => by rw [hret] at h; cases h) (fun fs hr => retN X91 hx (t := .boolean) hret (by simp) (hb hby at_62) hr) ?_ (by decide) (by decide)
      show Q0 Z p0 p1 w_INT w_BIGINT w_BOOLEAN w_TEXT h0 n0 (some (.int (1 : Int32))) T91.heap _
      rw [e91]
      exact ⟨rfl, N91⟩
    · rw [hk73]
      show Go _ _ _ _ _ _ _ T21 (mkF m 36 #[.val (.int p0), .val (.int p1), .val (.ref b1), .val (.int (2 : Int32)), .unset] [(.int (3 : Int32))])
      refine Go.st (fun _ k => XS.istore X21.here hx rfl (hb hby at_36) rfl (l' := #[.val (.int p0), .val (.int p1), .val (.ref b1), .val (.int (2 : Int32)), .val (.int (3 : Int32))]) rfl k) ?_
      show Go _ _ _ _ _ _ _ T21 (mkF m 38 #[.val (.int p0), .val (.int p1), .val (.ref b1), .val (.int (2 : Int32)), .val (.int (3 : Int32))] [])
      refine Go.st (fun _ k => XS.aloadN X21.here hx rfl (hb hby at_38) rfl rfl k) ?_
      show Go _ _ _ _ _ _ _ T21 (mkF m 39 #[.val (.int p0), .val (.int p1), .val (.ref b1), .val (.int (2 : Int32)), .val (.int (3 : Int32))] [(.ref b1)])
      refine Go.st (fun _ k => XS.iloadN X21.here hx rfl (hb hby at_39) rfl k) ?_
      show Go _ _ _ _ _ _ _ T21 (mkF m 40 #[.val (.int p0), .val (.int p1), .val (.ref b1), .val (.int (2 : Int32)), .val (.int (3 : Int32))] [(.int (2 : Int32)), (.ref b1)])
      obtain ⟨cl92, Ar92, qq92, SS92, NN92, HH92, GG92⟩ := id V_b1__21
      have hin93 : ¬ ((2 : Int32) < 0 ∨ cl92.slots.size ≤ ((2 : Int32)).toNatClampNeg) := inb_of SS92 ⟨by decide, by decide⟩
      refine Go.st (fun _ k => X21.aaload hx (j := (2 : Int32)) (v := (.ref w_BOOLEAN)) (by rw [e21]; exact Ar92.1) (State.isArrayOf_alike hZ.alike Ar92.2.1) rfl Ar92.2.2 hin93 (HH92.at hin93 rfl) (g := (mkF m 40 #[.val (.int p0), .val (.int p1), .val (.ref b1), .val (.int (2 : Int32)), .val (.int (3 : Int32))] [(.int (2 : Int32)), (.ref b1)])) rfl rfl (hb hby at_40) _ k) ?_
      show Go _ _ _ _ _ _ _ T21 (mkF m 41 #[.val (.int p0), .val (.int p1), .val (.ref b1), .val (.int (2 : Int32)), .val (.int (3 : Int32))] [(.ref w_BOOLEAN)])
      refine Go.st (fun _ k => XS.aloadN X21.here hx rfl (hb hby at_41) rfl rfl k) ?_
      show Go _ _ _ _ _ _ _ T21 (mkF m 42 #[.val (.int p0), .val (.int p1), .val (.ref b1), .val (.int (2 : Int32)), .val (.int (3 : Int32))] [(.ref b1), (.ref w_BOOLEAN)])
      refine Go.st (fun _ k => XS.iload X21.here hx rfl (hb hby at_42) rfl k) ?_
      show Go _ _ _ _ _ _ _ T21 (mkF m 44 #[.val (.int p0), .val (.int p1), .val (.ref b1), .val (.int (2 : Int32)), .val (.int (3 : Int32))] [(.int (3 : Int32)), (.ref b1), (.ref w_BOOLEAN)])
      obtain ⟨cl94, Ar94, qq94, SS94, NN94, HH94, GG94⟩ := id V_b1__21
      have hin95 : ¬ ((3 : Int32) < 0 ∨ cl94.slots.size ≤ ((3 : Int32)).toNatClampNeg) := inb_of SS94 ⟨by decide, by decide⟩
      refine Go.st (fun _ k => X21.aaload hx (j := (3 : Int32)) (v := (.ref w_TEXT)) (by rw [e21]; exact Ar94.1) (State.isArrayOf_alike hZ.alike Ar94.2.1) rfl Ar94.2.2 hin95 (HH94.at hin95 rfl) (g := (mkF m 44 #[.val (.int p0), .val (.int p1), .val (.ref b1), .val (.int (2 : Int32)), .val (.int (3 : Int32))] [(.int (3 : Int32)), (.ref b1), (.ref w_BOOLEAN)])) rfl rfl (hb hby at_44) _ k) ?_
      show Go _ _ _ _ _ _ _ T21 (mkF m 45 #[.val (.int p0), .val (.int p1), .val (.ref b1), .val (.int (2 : Int32)), .val (.int (3 : Int32))] [(.ref w_TEXT), (.ref w_BOOLEAN)])
      obtain ⟨cq96, kq96, q96a, q96b, q96c⟩ := isOf hZ e21 E_BOOLEAN__21
      obtain ⟨_, _, ⟨T96, L96, k96, n96⟩, -, X96, ⟨Lc96, hQ96, l96, y96, z96⟩, st96⟩ := X21.virtualBack hx (y := (⟨"com/example/truerow/truerow/postgres/Type", "castsTo", "(Lcom/example/truerow/truerow/postgres/Type;)Z"⟩ : MethodName)) (z := (⟨"com/example/truerow/truerow/postgres/Type", "castsTo", "(Lcom/example/truerow/truerow/postgres/Type;)Z"⟩ : MethodName)) hown (mvT hZ (hw _ (List.mem_of_getElem? (i := 12) rfl))) (mvT hZ (hw _ (List.mem_of_getElem? (i := 13) rfl))) (notFace_of_selects (args := #[]) (mvT hZ (hw _ (List.mem_of_getElem? (i := 15) rfl)))) (mvT hZ (hw _ (List.mem_of_getElem? (i := 15) rfl))) (mvT hZ (hw _ (List.mem_of_getElem? (i := 14) rfl))) (by decide) (backOf (W := 0) (rm1 l Z a0 hw [] w_BOOLEAN w_TEXT w_BIGINT w_BOOLEAN h21 n0 Z21 S_BIGINT__21 S_BOOLEAN__21) hZ (hw _ (List.mem_of_getElem? (i := 16) rfl)) (hw _ (List.mem_of_getElem? (i := 3) rfl)) (by decide) (by decide)) q96a q96c (g := (mkF m 45 #[.val (.int p0), .val (.int p1), .val (.ref b1), .val (.int (2 : Int32)), .val (.int (3 : Int32))] [(.ref w_TEXT), (.ref w_BOOLEAN)])) rfl (by rw [hml]; rfl) (Steps.refl _) (argsL := [(.ref w_TEXT)]) (rest := []) (lenOf pd_0 rfl) rfl (by show 2 * 0 + _ ≤ _; exact Nat.le_of_eq rfl) (hb hby at_45) (fun _ _ => ⟨rfl, e21, (by decide : 1 + 0 ≤ _), (by decide : 4 + 0 ≤ _)⟩)
      dsimp only [Pt.U, Pt.locs, Pt.cells, Pt.slots] at X96 l96 y96 z96 st96 hQ96
      subst l96 y96 z96
      obtain ⟨rfl, N96q, e96⟩ := hQ96
      have N96 := Fr.app N21 N96q
      refine Go.st (fun _ k => st96.trans k) ?_
      show Go _ _ _ _ _ _ _ T96 (mkF m 48 #[.val (.int p0), .val (.int p1), .val (.ref b1), .val (.int (2 : Int32)), .val (.int (3 : Int32))] [(.int (val_1 w_BOOLEAN w_TEXT w_BIGINT w_BOOLEAN))])
      rw [show (val_1 w_BOOLEAN w_TEXT w_BIGINT w_BOOLEAN) = (1 : Int32) from by unfold val_1; rw [if_neg (Ne.symm ne_w_BIGINT_w_BOOLEAN), if_pos rfl, if_neg (Ne.symm ne_w_BIGINT_w_TEXT)]]
      show Go _ _ _ _ _ _ _ T96 (mkF m 48 #[.val (.int p0), .val (.int p1), .val (.ref b1), .val (.int (2 : Int32)), .val (.int (3 : Int32))] [(.int (1 : Int32))])
      refine Go.st (fun _ k => XS.iloadN X96.here hx rfl (hb hby at_48) rfl k) ?_
      show Go _ _ _ _ _ _ _ T96 (mkF m 49 #[.val (.int p0), .val (.int p1), .val (.ref b1), .val (.int (2 : Int32)), .val (.int (3 : Int32))] [(.int (2 : Int32)), (.int (1 : Int32))])
      refine Go.st (fun _ k => XS.iload X96.here hx rfl (hb hby at_49) rfl k) ?_
      show Go _ _ _ _ _ _ _ T96 (mkF m 51 #[.val (.int p0), .val (.int p1), .val (.ref b1), .val (.int (2 : Int32)), .val (.int (3 : Int32))] [(.int (3 : Int32)), (.int (2 : Int32)), (.int (1 : Int32))])
      obtain ⟨_, _, ⟨T97, L97, k97, n97⟩, -, X97, ⟨Lc97, hQ97, l97, y97, z97⟩, st97⟩ := Jvm.LawKit.callS X96 hx (y := (⟨"com/example/truerow/truerow/postgres/TypeCastsToPinLaw", "expected", "(II)Z"⟩ : MethodName)) hown (mvT hZ (hw _ (List.mem_of_getElem? (i := 19) rfl))) (mvT hZ (hw _ (List.mem_of_getElem? (i := 20) rfl))) (mvT hZ (hw _ (List.mem_of_getElem? (i := 21) rfl))) (mvT hZ (hw _ (List.mem_of_getElem? (i := 22) rfl))) (by decide) (backOf (W := 1) (rm2 l Z a0 hw [] (2 : Int32) (3 : Int32)  h21 n0 Z21 (Or.inr (Or.inr (Or.inl rfl))) (Or.inr (Or.inr (Or.inr (rfl))))) hZ (hw _ (List.mem_of_getElem? (i := 22) rfl)) (hw _ (List.mem_of_getElem? (i := 21) rfl)) (by decide) (by decide)) (g := (mkF m 51 #[.val (.int p0), .val (.int p1), .val (.ref b1), .val (.int (2 : Int32)), .val (.int (3 : Int32))] [(.int (3 : Int32)), (.int (2 : Int32)), (.int (1 : Int32))])) rfl (by rw [hml]; rfl) (argsL := [(.int (2 : Int32)), (.int (3 : Int32))]) (rest := [(.int (1 : Int32))]) (lenOf pd_1 rfl) rfl (by show 2 * 0 + _ ≤ _; exact Nat.le_of_eq rfl) (hb hby at_51) (fun _ _ => ⟨rfl, e96, (by decide : 1 + 0 ≤ _), (by decide : 4 + 0 ≤ _)⟩)
      dsimp only [Pt.U, Pt.locs, Pt.cells, Pt.slots] at X97 l97 y97 z97 st97 hQ97
      subst l97 y97 z97
      obtain ⟨rfl, N97q, e97⟩ := hQ97
      have N97 := Fr.app N96 N97q
      refine Go.st st97 ?_
      show Go _ _ _ _ _ _ _ T97 (mkF m 54 #[.val (.int p0), .val (.int p1), .val (.ref b1), .val (.int (2 : Int32)), .val (.int (3 : Int32))] [(.int (val_2 (2 : Int32) (3 : Int32))), (.int (1 : Int32))])
      rw [show (val_2 (2 : Int32) (3 : Int32)) = (1 : Int32) from by unfold val_2; rw [if_neg (by decide +kernel : ¬ ((2 : Int32) = (0 : Int32))), if_neg (by decide +kernel : ¬ ((2 : Int32) = (1 : Int32))), if_pos (by decide +kernel : (2 : Int32) = (2 : Int32)), if_neg (by decide +kernel : ¬ ((3 : Int32) = (0 : Int32))), if_neg (by decide +kernel : ¬ ((3 : Int32) = (1 : Int32)))]]
      show Go _ _ _ _ _ _ _ T97 (mkF m 54 #[.val (.int p0), .val (.int p1), .val (.ref b1), .val (.int (2 : Int32)), .val (.int (3 : Int32))] [(.int (1 : Int32)), (.int (1 : Int32))])
      refine Go.st (fun _ k => XS.icmpNo X97.here hx rfl (hb hby at_54) rfl (teq (by decide : (1 : Int32) = (1 : Int32))).2 k) ?_
      show Go _ _ _ _ _ _ _ T97 (mkF m 57 #[.val (.int p0), .val (.int p1), .val (.ref b1), .val (.int (2 : Int32)), .val (.int (3 : Int32))] [])
      refine Go.st (fun _ k => XS.iconst X97.here hx rfl (hb hby at_57) k) ?_
      show Go _ _ _ _ _ _ _ T97 (mkF m 58 #[.val (.int p0), .val (.int p1), .val (.ref b1), .val (.int (2 : Int32)), .val (.int (3 : Int32))] [(.int (1 : Int32))])
      refine Go.st (fun _ k => XS.goto X97.here hx rfl (pc0 := 58) (pc' := 62) rfl (hb hby at_58) (by decide) (by decide) k) ?_
      show Go _ _ _ _ _ _ _ T97 (mkF m 62 #[.val (.int p0), .val (.int p1), .val (.ref b1), .val (.int (2 : Int32)), .val (.int (3 : Int32))] [(.int (1 : Int32))])
      refine Go.ret X97 hlk (v := some (.int (1 : Int32))) (fun h => by rw [hret] at h; cases h) (fun fs hr => retN X97 hx (t := .boolean) hret (by simp) (hb hby at_62) hr) ?_ (by decide) (by decide)
      show Q0 Z p0 p1 w_INT w_BIGINT w_BOOLEAN w_TEXT h0 n0 (some (.int (1 : Int32))) T97.heap _
      rw [e97]
      exact ⟨rfl, N97⟩
  · rw [hk22]
    show Go _ _ _ _ _ _ _ T21 (mkF m 32 #[.val (.int p0), .val (.int p1), .val (.ref b1), .unset, .unset] [(.int (3 : Int32))])
    refine Go.st (fun _ k => XS.istoreN X21.here hx rfl (hb hby at_32) rfl (l' := #[.val (.int p0), .val (.int p1), .val (.ref b1), .val (.int (3 : Int32)), .unset]) rfl k) ?_
    show Go _ _ _ _ _ _ _ T21 (mkF m 33 #[.val (.int p0), .val (.int p1), .val (.ref b1), .val (.int (3 : Int32)), .unset] [])
    refine Go.st (fun _ k => XS.iloadN X21.here hx rfl (hb hby at_33) rfl k) ?_
    show Go _ _ _ _ _ _ _ T21 (mkF m 34 #[.val (.int p0), .val (.int p1), .val (.ref b1), .val (.int (3 : Int32)), .unset] [(.int p1)])
    refine Go.st (fun _ k => XS.iconst X21.here hx rfl (hb hby at_34) k) ?_
    show Go _ _ _ _ _ _ _ T21 (mkF m 35 #[.val (.int p0), .val (.int p1), .val (.ref b1), .val (.int (3 : Int32)), .unset] [(.int (3 : Int32)), (.int p1)])
    refine Go.st (fun _ k => XS.iand X21.here hx rfl (hb hby at_35) rfl k) ?_
    show Go _ _ _ _ _ _ _ T21 (mkF m 36 #[.val (.int p0), .val (.int p1), .val (.ref b1), .val (.int (3 : Int32)), .unset] [(.int (p1 &&& (3 : Int32)))])
    rcases own_and3 p1 with hk98 | hk98 | hk98 | hk98
    · rw [hk98]
      show Go _ _ _ _ _ _ _ T21 (mkF m 36 #[.val (.int p0), .val (.int p1), .val (.ref b1), .val (.int (3 : Int32)), .unset] [(.int (0 : Int32))])
      refine Go.st (fun _ k => XS.istore X21.here hx rfl (hb hby at_36) rfl (l' := #[.val (.int p0), .val (.int p1), .val (.ref b1), .val (.int (3 : Int32)), .val (.int (0 : Int32))]) rfl k) ?_
      show Go _ _ _ _ _ _ _ T21 (mkF m 38 #[.val (.int p0), .val (.int p1), .val (.ref b1), .val (.int (3 : Int32)), .val (.int (0 : Int32))] [])
      refine Go.st (fun _ k => XS.aloadN X21.here hx rfl (hb hby at_38) rfl rfl k) ?_
      show Go _ _ _ _ _ _ _ T21 (mkF m 39 #[.val (.int p0), .val (.int p1), .val (.ref b1), .val (.int (3 : Int32)), .val (.int (0 : Int32))] [(.ref b1)])
      refine Go.st (fun _ k => XS.iloadN X21.here hx rfl (hb hby at_39) rfl k) ?_
      show Go _ _ _ _ _ _ _ T21 (mkF m 40 #[.val (.int p0), .val (.int p1), .val (.ref b1), .val (.int (3 : Int32)), .val (.int (0 : Int32))] [(.int (3 : Int32)), (.ref b1)])
      obtain ⟨cl99, Ar99, qq99, SS99, NN99, HH99, GG99⟩ := id V_b1__21
      have hin100 : ¬ ((3 : Int32) < 0 ∨ cl99.slots.size ≤ ((3 : Int32)).toNatClampNeg) := inb_of SS99 ⟨by decide, by decide⟩
      refine Go.st (fun _ k => X21.aaload hx (j := (3 : Int32)) (v := (.ref w_TEXT)) (by rw [e21]; exact Ar99.1) (State.isArrayOf_alike hZ.alike Ar99.2.1) rfl Ar99.2.2 hin100 (HH99.at hin100 rfl) (g := (mkF m 40 #[.val (.int p0), .val (.int p1), .val (.ref b1), .val (.int (3 : Int32)), .val (.int (0 : Int32))] [(.int (3 : Int32)), (.ref b1)])) rfl rfl (hb hby at_40) _ k) ?_
      show Go _ _ _ _ _ _ _ T21 (mkF m 41 #[.val (.int p0), .val (.int p1), .val (.ref b1), .val (.int (3 : Int32)), .val (.int (0 : Int32))] [(.ref w_TEXT)])
      refine Go.st (fun _ k => XS.aloadN X21.here hx rfl (hb hby at_41) rfl rfl k) ?_
      show Go _ _ _ _ _ _ _ T21 (mkF m 42 #[.val (.int p0), .val (.int p1), .val (.ref b1), .val (.int (3 : Int32)), .val (.int (0 : Int32))] [(.ref b1), (.ref w_TEXT)])
      refine Go.st (fun _ k => XS.iload X21.here hx rfl (hb hby at_42) rfl k) ?_
      show Go _ _ _ _ _ _ _ T21 (mkF m 44 #[.val (.int p0), .val (.int p1), .val (.ref b1), .val (.int (3 : Int32)), .val (.int (0 : Int32))] [(.int (0 : Int32)), (.ref b1), (.ref w_TEXT)])
      obtain ⟨cl101, Ar101, qq101, SS101, NN101, HH101, GG101⟩ := id V_b1__21
      have hin102 : ¬ ((0 : Int32) < 0 ∨ cl101.slots.size ≤ ((0 : Int32)).toNatClampNeg) := inb_of SS101 ⟨by decide, by decide⟩
      refine Go.st (fun _ k => X21.aaload hx (j := (0 : Int32)) (v := (.ref w_INT)) (by rw [e21]; exact Ar101.1) (State.isArrayOf_alike hZ.alike Ar101.2.1) rfl Ar101.2.2 hin102 (HH101.at hin102 rfl) (g := (mkF m 44 #[.val (.int p0), .val (.int p1), .val (.ref b1), .val (.int (3 : Int32)), .val (.int (0 : Int32))] [(.int (0 : Int32)), (.ref b1), (.ref w_TEXT)])) rfl rfl (hb hby at_44) _ k) ?_
      show Go _ _ _ _ _ _ _ T21 (mkF m 45 #[.val (.int p0), .val (.int p1), .val (.ref b1), .val (.int (3 : Int32)), .val (.int (0 : Int32))] [(.ref w_INT), (.ref w_TEXT)])
      obtain ⟨cq103, kq103, q103a, q103b, q103c⟩ := isOf hZ e21 E_TEXT__21
      obtain ⟨_, _, ⟨T103, L103, k103, n103⟩, -, X103, ⟨Lc103, hQ103, l103, y103, z103⟩, st103⟩ := X21.virtualBack hx (y := (⟨"com/example/truerow/truerow/postgres/Type", "castsTo", "(Lcom/example/truerow/truerow/postgres/Type;)Z"⟩ : MethodName)) (z := (⟨"com/example/truerow/truerow/postgres/Type", "castsTo", "(Lcom/example/truerow/truerow/postgres/Type;)Z"⟩ : MethodName)) hown (mvT hZ (hw _ (List.mem_of_getElem? (i := 12) rfl))) (mvT hZ (hw _ (List.mem_of_getElem? (i := 13) rfl))) (notFace_of_selects (args := #[]) (mvT hZ (hw _ (List.mem_of_getElem? (i := 15) rfl)))) (mvT hZ (hw _ (List.mem_of_getElem? (i := 15) rfl))) (mvT hZ (hw _ (List.mem_of_getElem? (i := 14) rfl))) (by decide) (backOf (W := 0) (rm1 l Z a0 hw [] w_TEXT w_INT w_BIGINT w_BOOLEAN h21 n0 Z21 S_BIGINT__21 S_BOOLEAN__21) hZ (hw _ (List.mem_of_getElem? (i := 16) rfl)) (hw _ (List.mem_of_getElem? (i := 3) rfl)) (by decide) (by decide)) q103a q103c (g := (mkF m 45 #[.val (.int p0), .val (.int p1), .val (.ref b1), .val (.int (3 : Int32)), .val (.int (0 : Int32))] [(.ref w_INT), (.ref w_TEXT)])) rfl (by rw [hml]; rfl) (Steps.refl _) (argsL := [(.ref w_INT)]) (rest := []) (lenOf pd_0 rfl) rfl (by show 2 * 0 + _ ≤ _; exact Nat.le_of_eq rfl) (hb hby at_45) (fun _ _ => ⟨rfl, e21, (by decide : 1 + 0 ≤ _), (by decide : 4 + 0 ≤ _)⟩)
      dsimp only [Pt.U, Pt.locs, Pt.cells, Pt.slots] at X103 l103 y103 z103 st103 hQ103
      subst l103 y103 z103
      obtain ⟨rfl, N103q, e103⟩ := hQ103
      have N103 := Fr.app N21 N103q
      refine Go.st (fun _ k => st103.trans k) ?_
      show Go _ _ _ _ _ _ _ T103 (mkF m 48 #[.val (.int p0), .val (.int p1), .val (.ref b1), .val (.int (3 : Int32)), .val (.int (0 : Int32))] [(.int (val_1 w_TEXT w_INT w_BIGINT w_BOOLEAN))])
      rw [show (val_1 w_TEXT w_INT w_BIGINT w_BOOLEAN) = (1 : Int32) from by unfold val_1; rw [if_neg (Ne.symm ne_w_BIGINT_w_TEXT), if_neg (Ne.symm ne_w_BOOLEAN_w_TEXT)]]
      show Go _ _ _ _ _ _ _ T103 (mkF m 48 #[.val (.int p0), .val (.int p1), .val (.ref b1), .val (.int (3 : Int32)), .val (.int (0 : Int32))] [(.int (1 : Int32))])
      refine Go.st (fun _ k => XS.iloadN X103.here hx rfl (hb hby at_48) rfl k) ?_
      show Go _ _ _ _ _ _ _ T103 (mkF m 49 #[.val (.int p0), .val (.int p1), .val (.ref b1), .val (.int (3 : Int32)), .val (.int (0 : Int32))] [(.int (3 : Int32)), (.int (1 : Int32))])
      refine Go.st (fun _ k => XS.iload X103.here hx rfl (hb hby at_49) rfl k) ?_
      show Go _ _ _ _ _ _ _ T103 (mkF m 51 #[.val (.int p0), .val (.int p1), .val (.ref b1), .val (.int (3 : Int32)), .val (.int (0 : Int32))] [(.int (0 : Int32)), (.int (3 : Int32)), (.int (1 : Int32))])
      obtain ⟨_, _, ⟨T104, L104, k104, n104⟩, -, X104, ⟨Lc104, hQ104, l104, y104, z104⟩, st104⟩ := Jvm.LawKit.callS X103 hx (y := (⟨"com/example/truerow/truerow/postgres/TypeCastsToPinLaw", "expected", "(II)Z"⟩ : MethodName)) hown (mvT hZ (hw _ (List.mem_of_getElem? (i := 19) rfl))) (mvT hZ (hw _ (List.mem_of_getElem? (i := 20) rfl))) (mvT hZ (hw _ (List.mem_of_getElem? (i := 21) rfl))) (mvT hZ (hw _ (List.mem_of_getElem? (i := 22) rfl))) (by decide) (backOf (W := 1) (rm2 l Z a0 hw [] (3 : Int32) (0 : Int32)  h21 n0 Z21 (Or.inr (Or.inr (Or.inr (rfl)))) (Or.inl rfl)) hZ (hw _ (List.mem_of_getElem? (i := 22) rfl)) (hw _ (List.mem_of_getElem? (i := 21) rfl)) (by decide) (by decide)) (g := (mkF m 51 #[.val (.int p0), .val (.int p1), .val (.ref b1), .val (.int (3 : Int32)), .val (.int (0 : Int32))] [(.int (0 : Int32)), (.int (3 : Int32)), (.int (1 : Int32))])) rfl (by rw [hml]; rfl) (argsL := [(.int (3 : Int32)), (.int (0 : Int32))]) (rest := [(.int (1 : Int32))]) (lenOf pd_1 rfl) rfl (by show 2 * 0 + _ ≤ _; exact Nat.le_of_eq rfl) (hb hby at_51) (fun _ _ => ⟨rfl, e103, (by decide : 1 + 0 ≤ _), (by decide : 4 + 0 ≤ _)⟩)
      dsimp only [Pt.U, Pt.locs, Pt.cells, Pt.slots] at X104 l104 y104 z104 st104 hQ104
      subst l104 y104 z104
      obtain ⟨rfl, N104q, e104⟩ := hQ104
      have N104 := Fr.app N103 N104q
      refine Go.st st104 ?_
      show Go _ _ _ _ _ _ _ T104 (mkF m 54 #[.val (.int p0), .val (.int p1), .val (.ref b1), .val (.int (3 : Int32)), .val (.int (0 : Int32))] [(.int (val_2 (3 : Int32) (0 : Int32))), (.int (1 : Int32))])
      rw [show (val_2 (3 : Int32) (0 : Int32)) = (1 : Int32) from by unfold val_2; rw [if_neg (by decide +kernel : ¬ ((3 : Int32) = (0 : Int32))), if_neg (by decide +kernel : ¬ ((3 : Int32) = (1 : Int32))), if_neg (by decide +kernel : ¬ ((3 : Int32) = (2 : Int32)))]]
      show Go _ _ _ _ _ _ _ T104 (mkF m 54 #[.val (.int p0), .val (.int p1), .val (.ref b1), .val (.int (3 : Int32)), .val (.int (0 : Int32))] [(.int (1 : Int32)), (.int (1 : Int32))])
      refine Go.st (fun _ k => XS.icmpNo X104.here hx rfl (hb hby at_54) rfl (teq (by decide : (1 : Int32) = (1 : Int32))).2 k) ?_
      show Go _ _ _ _ _ _ _ T104 (mkF m 57 #[.val (.int p0), .val (.int p1), .val (.ref b1), .val (.int (3 : Int32)), .val (.int (0 : Int32))] [])
      refine Go.st (fun _ k => XS.iconst X104.here hx rfl (hb hby at_57) k) ?_
      show Go _ _ _ _ _ _ _ T104 (mkF m 58 #[.val (.int p0), .val (.int p1), .val (.ref b1), .val (.int (3 : Int32)), .val (.int (0 : Int32))] [(.int (1 : Int32))])
      refine Go.st (fun _ k => XS.goto X104.here hx rfl (pc0 := 58) (pc' := 62) rfl (hb hby at_58) (by decide) (by decide) k) ?_
      show Go _ _ _ _ _ _ _ T104 (mkF m 62 #[.val (.int p0), .val (.int p1), .val (.ref b1), .val (.int (3 : Int32)), .val (.int (0 : Int32))] [(.int (1 : Int32))])
      refine Go.ret X104 hlk (v := some (.int (1 : Int32))) (fun h => by rw [hret] at h; cases h) (fun fs hr => retN X104 hx (t := .boolean) hret (by simp) (hb hby at_62) hr) ?_ (by decide) (by decide)
      show Q0 Z p0 p1 w_INT w_BIGINT w_BOOLEAN w_TEXT h0 n0 (some (.int (1 : Int32))) T104.heap _
      rw [e104]
      exact ⟨rfl, N104⟩
    · rw [hk98]
      show Go _ _ _ _ _ _ _ T21 (mkF m 36 #[.val (.int p0), .val (.int p1), .val (.ref b1), .val (.int (3 : Int32)), .unset] [(.int (1 : Int32))])
      refine Go.st (fun _ k => XS.istore X21.here hx rfl (hb hby at_36) rfl (l' := #[.val (.int p0), .val (.int p1), .val (.ref b1), .val (.int (3 : Int32)), .val (.int (1 : Int32))]) rfl k) ?_
      show Go _ _ _ _ _ _ _ T21 (mkF m 38 #[.val (.int p0), .val (.int p1), .val (.ref b1), .val (.int (3 : Int32)), .val (.int (1 : Int32))] [])
      refine Go.st (fun _ k => XS.aloadN X21.here hx rfl (hb hby at_38) rfl rfl k) ?_
      show Go _ _ _ _ _ _ _ T21 (mkF m 39 #[.val (.int p0), .val (.int p1), .val (.ref b1), .val (.int (3 : Int32)), .val (.int (1 : Int32))] [(.ref b1)])
      refine Go.st (fun _ k => XS.iloadN X21.here hx rfl (hb hby at_39) rfl k) ?_
      show Go _ _ _ _ _ _ _ T21 (mkF m 40 #[.val (.int p0), .val (.int p1), .val (.ref b1), .val (.int (3 : Int32)), .val (.int (1 : Int32))] [(.int (3 : Int32)), (.ref b1)])
      obtain ⟨cl105, Ar105, qq105, SS105, NN105, HH105, GG105⟩ := id V_b1__21
      have hin106 : ¬ ((3 : Int32) < 0 ∨ cl105.slots.size ≤ ((3 : Int32)).toNatClampNeg) := inb_of SS105 ⟨by decide, by decide⟩
      refine Go.st (fun _ k => X21.aaload hx (j := (3 : Int32)) (v := (.ref w_TEXT)) (by rw [e21]; exact Ar105.1) (State.isArrayOf_alike hZ.alike Ar105.2.1) rfl Ar105.2.2 hin106 (HH105.at hin106 rfl) (g := (mkF m 40 #[.val (.int p0), .val (.int p1), .val (.ref b1), .val (.int (3 : Int32)), .val (.int (1 : Int32))] [(.int (3 : Int32)), (.ref b1)])) rfl rfl (hb hby at_40) _ k) ?_
      show Go _ _ _ _ _ _ _ T21 (mkF m 41 #[.val (.int p0), .val (.int p1), .val (.ref b1), .val (.int (3 : Int32)), .val (.int (1 : Int32))] [(.ref w_TEXT)])
      refine Go.st (fun _ k => XS.aloadN X21.here hx rfl (hb hby at_41) rfl rfl k) ?_
      show Go _ _ _ _ _ _ _ T21 (mkF m 42 #[.val (.int p0), .val (.int p1), .val (.ref b1), .val (.int (3 : Int32)), .val (.int (1 : Int32))] [(.ref b1), (.ref w_TEXT)])
      refine Go.st (fun _ k => XS.iload X21.here hx rfl (hb hby at_42) rfl k) ?_
      show Go _ _ _ _ _ _ _ T21 (mkF m 44 #[.val (.int p0), .val (.int p1), .val (.ref b1), .val (.int (3 : Int32)), .val (.int (1 : Int32))] [(.int (1 : Int32)), (.ref b1), (.ref w_TEXT)])
      obtain ⟨cl107, Ar107, qq107, SS107, NN107, HH107, GG107⟩ := id V_b1__21
      have hin108 : ¬ ((1 : Int32) < 0 ∨ cl107.slots.size ≤ ((1 : Int32)).toNatClampNeg) := inb_of SS107 ⟨by decide, by decide⟩
      refine Go.st (fun _ k => X21.aaload hx (j := (1 : Int32)) (v := (.ref w_BIGINT)) (by rw [e21]; exact Ar107.1) (State.isArrayOf_alike hZ.alike Ar107.2.1) rfl Ar107.2.2 hin108 (HH107.at hin108 rfl) (g := (mkF m 44 #[.val (.int p0), .val (.int p1), .val (.ref b1), .val (.int (3 : Int32)), .val (.int (1 : Int32))] [(.int (1 : Int32)), (.ref b1), (.ref w_TEXT)])) rfl rfl (hb hby at_44) _ k) ?_
      show Go _ _ _ _ _ _ _ T21 (mkF m 45 #[.val (.int p0), .val (.int p1), .val (.ref b1), .val (.int (3 : Int32)), .val (.int (1 : Int32))] [(.ref w_BIGINT), (.ref w_TEXT)])
      obtain ⟨cq109, kq109, q109a, q109b, q109c⟩ := isOf hZ e21 E_TEXT__21
      obtain ⟨_, _, ⟨T109, L109, k109, n109⟩, -, X109, ⟨Lc109, hQ109, l109, y109, z109⟩, st109⟩ := X21.virtualBack hx (y := (⟨"com/example/truerow/truerow/postgres/Type", "castsTo", "(Lcom/example/truerow/truerow/postgres/Type;)Z"⟩ : MethodName)) (z := (⟨"com/example/truerow/truerow/postgres/Type", "castsTo", "(Lcom/example/truerow/truerow/postgres/Type;)Z"⟩ : MethodName)) hown (mvT hZ (hw _ (List.mem_of_getElem? (i := 12) rfl))) (mvT hZ (hw _ (List.mem_of_getElem? (i := 13) rfl))) (notFace_of_selects (args := #[]) (mvT hZ (hw _ (List.mem_of_getElem? (i := 15) rfl)))) (mvT hZ (hw _ (List.mem_of_getElem? (i := 15) rfl))) (mvT hZ (hw _ (List.mem_of_getElem? (i := 14) rfl))) (by decide) (backOf (W := 0) (rm1 l Z a0 hw [] w_TEXT w_BIGINT w_BIGINT w_BOOLEAN h21 n0 Z21 S_BIGINT__21 S_BOOLEAN__21) hZ (hw _ (List.mem_of_getElem? (i := 16) rfl)) (hw _ (List.mem_of_getElem? (i := 3) rfl)) (by decide) (by decide)) q109a q109c (g := (mkF m 45 #[.val (.int p0), .val (.int p1), .val (.ref b1), .val (.int (3 : Int32)), .val (.int (1 : Int32))] [(.ref w_BIGINT), (.ref w_TEXT)])) rfl (by rw [hml]; rfl) (Steps.refl _) (argsL := [(.ref w_BIGINT)]) (rest := []) (lenOf pd_0 rfl) rfl (by show 2 * 0 + _ ≤ _; exact Nat.le_of_eq rfl) (hb hby at_45) (fun _ _ => ⟨rfl, e21, (by decide : 1 + 0 ≤ _), (by decide : 4 + 0 ≤ _)⟩)
      dsimp only [Pt.U, Pt.locs, Pt.cells, Pt.slots] at X109 l109 y109 z109 st109 hQ109
      subst l109 y109 z109
      obtain ⟨rfl, N109q, e109⟩ := hQ109
      have N109 := Fr.app N21 N109q
      refine Go.st (fun _ k => st109.trans k) ?_
      show Go _ _ _ _ _ _ _ T109 (mkF m 48 #[.val (.int p0), .val (.int p1), .val (.ref b1), .val (.int (3 : Int32)), .val (.int (1 : Int32))] [(.int (val_1 w_TEXT w_BIGINT w_BIGINT w_BOOLEAN))])
      rw [show (val_1 w_TEXT w_BIGINT w_BIGINT w_BOOLEAN) = (1 : Int32) from by unfold val_1; rw [if_neg (Ne.symm ne_w_BIGINT_w_TEXT), if_neg (Ne.symm ne_w_BOOLEAN_w_TEXT)]]
      show Go _ _ _ _ _ _ _ T109 (mkF m 48 #[.val (.int p0), .val (.int p1), .val (.ref b1), .val (.int (3 : Int32)), .val (.int (1 : Int32))] [(.int (1 : Int32))])
      refine Go.st (fun _ k => XS.iloadN X109.here hx rfl (hb hby at_48) rfl k) ?_
      show Go _ _ _ _ _ _ _ T109 (mkF m 49 #[.val (.int p0), .val (.int p1), .val (.ref b1), .val (.int (3 : Int32)), .val (.int (1 : Int32))] [(.int (3 : Int32)), (.int (1 : Int32))])
      refine Go.st (fun _ k => XS.iload X109.here hx rfl (hb hby at_49) rfl k) ?_
      show Go _ _ _ _ _ _ _ T109 (mkF m 51 #[.val (.int p0), .val (.int p1), .val (.ref b1), .val (.int (3 : Int32)), .val (.int (1 : Int32))] [(.int (1 : Int32)), (.int (3 : Int32)), (.int (1 : Int32))])
      obtain ⟨_, _, ⟨T110, L110, k110, n110⟩, -, X110, ⟨Lc110, hQ110, l110, y110, z110⟩, st110⟩ := Jvm.LawKit.callS X109 hx (y := (⟨"com/example/truerow/truerow/postgres/TypeCastsToPinLaw", "expected", "(II)Z"⟩ : MethodName)) hown (mvT hZ (hw _ (List.mem_of_getElem? (i := 19) rfl))) (mvT hZ (hw _ (List.mem_of_getElem? (i := 20) rfl))) (mvT hZ (hw _ (List.mem_of_getElem? (i := 21) rfl))) (mvT hZ (hw _ (List.mem_of_getElem? (i := 22) rfl))) (by decide) (backOf (W := 1) (rm2 l Z a0 hw [] (3 : Int32) (1 : Int32)  h21 n0 Z21 (Or.inr (Or.inr (Or.inr (rfl)))) (Or.inr (Or.inl rfl))) hZ (hw _ (List.mem_of_getElem? (i := 22) rfl)) (hw _ (List.mem_of_getElem? (i := 21) rfl)) (by decide) (by decide)) (g := (mkF m 51 #[.val (.int p0), .val (.int p1), .val (.ref b1), .val (.int (3 : Int32)), .val (.int (1 : Int32))] [(.int (1 : Int32)), (.int (3 : Int32)), (.int (1 : Int32))])) rfl (by rw [hml]; rfl) (argsL := [(.int (3 : Int32)), (.int (1 : Int32))]) (rest := [(.int (1 : Int32))]) (lenOf pd_1 rfl) rfl (by show 2 * 0 + _ ≤ _; exact Nat.le_of_eq rfl) (hb hby at_51) (fun _ _ => ⟨rfl, e109, (by decide : 1 + 0 ≤ _), (by decide : 4 + 0 ≤ _)⟩)
      dsimp only [Pt.U, Pt.locs, Pt.cells, Pt.slots] at X110 l110 y110 z110 st110 hQ110
      subst l110 y110 z110
      obtain ⟨rfl, N110q, e110⟩ := hQ110
      have N110 := Fr.app N109 N110q
      refine Go.st st110 ?_
      show Go _ _ _ _ _ _ _ T110 (mkF m 54 #[.val (.int p0), .val (.int p1), .val (.ref b1), .val (.int (3 : Int32)), .val (.int (1 : Int32))] [(.int (val_2 (3 : Int32) (1 : Int32))), (.int (1 : Int32))])
      rw [show (val_2 (3 : Int32) (1 : Int32)) = (1 : Int32) from by unfold val_2; rw [if_neg (by decide +kernel : ¬ ((3 : Int32) = (0 : Int32))), if_neg (by decide +kernel : ¬ ((3 : Int32) = (1 : Int32))), if_neg (by decide +kernel : ¬ ((3 : Int32) = (2 : Int32)))]]
      show Go _ _ _ _ _ _ _ T110 (mkF m 54 #[.val (.int p0), .val (.int p1), .val (.ref b1), .val (.int (3 : Int32)), .val (.int (1 : Int32))] [(.int (1 : Int32)), (.int (1 : Int32))])
      refine Go.st (fun _ k => XS.icmpNo X110.here hx rfl (hb hby at_54) rfl (teq (by decide : (1 : Int32) = (1 : Int32))).2 k) ?_
      show Go _ _ _ _ _ _ _ T110 (mkF m 57 #[.val (.int p0), .val (.int p1), .val (.ref b1), .val (.int (3 : Int32)), .val (.int (1 : Int32))] [])
      refine Go.st (fun _ k => XS.iconst X110.here hx rfl (hb hby at_57) k) ?_
      show Go _ _ _ _ _ _ _ T110 (mkF m 58 #[.val (.int p0), .val (.int p1), .val (.ref b1), .val (.int (3 : Int32)), .val (.int (1 : Int32))] [(.int (1 : Int32))])
      refine Go.st (fun _ k => XS.goto X110.here hx rfl (pc0 := 58) (pc' := 62) rfl (hb hby at_58) (by decide) (by decide) k) ?_
      show Go _ _ _ _ _ _ _ T110 (mkF m 62 #[.val (.int p0), .val (.int p1), .val (.ref b1), .val (.int (3 : Int32)), .val (.int (1 : Int32))] [(.int (1 : Int32))])
      refine Go.ret X110 hlk (v := some (.int (1 : Int32))) (fun h => by rw [hret] at h; cases h) (fun fs hr => retN X110 hx (t := .boolean) hret (by simp) (hb hby at_62) hr) ?_ (by decide) (by decide)
      show Q0 Z p0 p1 w_INT w_BIGINT w_BOOLEAN w_TEXT h0 n0 (some (.int (1 : Int32))) T110.heap _
      rw [e110]
      exact ⟨rfl, N110⟩
    · rw [hk98]
      show Go _ _ _ _ _ _ _ T21 (mkF m 36 #[.val (.int p0), .val (.int p1), .val (.ref b1), .val (.int (3 : Int32)), .unset] [(.int (2 : Int32))])
      refine Go.st (fun _ k => XS.istore X21.here hx rfl (hb hby at_36) rfl (l' := #[.val (.int p0), .val (.int p1), .val (.ref b1), .val (.int (3 : Int32)), .val (.int (2 : Int32))]) rfl k) ?_
      show Go _ _ _ _ _ _ _ T21 (mkF m 38 #[.val (.int p0), .val (.int p1), .val (.ref b1), .val (.int (3 : Int32)), .val (.int (2 : Int32))] [])
      refine Go.st (fun _ k => XS.aloadN X21.here hx rfl (hb hby at_38) rfl rfl k) ?_
      show Go _ _ _ _ _ _ _ T21 (mkF m 39 #[.val (.int p0), .val (.int p1), .val (.ref b1), .val (.int (3 : Int32)), .val (.int (2 : Int32))] [(.ref b1)])
      refine Go.st (fun _ k => XS.iloadN X21.here hx rfl (hb hby at_39) rfl k) ?_
      show Go _ _ _ _ _ _ _ T21 (mkF m 40 #[.val (.int p0), .val (.int p1), .val (.ref b1), .val (.int (3 : Int32)), .val (.int (2 : Int32))] [(.int (3 : Int32)), (.ref b1)])
      obtain ⟨cl111, Ar111, qq111, SS111, NN111, HH111, GG111⟩ := id V_b1__21
      have hin112 : ¬ ((3 : Int32) < 0 ∨ cl111.slots.size ≤ ((3 : Int32)).toNatClampNeg) := inb_of SS111 ⟨by decide, by decide⟩
      refine Go.st (fun _ k => X21.aaload hx (j := (3 : Int32)) (v := (.ref w_TEXT)) (by rw [e21]; exact Ar111.1) (State.isArrayOf_alike hZ.alike Ar111.2.1) rfl Ar111.2.2 hin112 (HH111.at hin112 rfl) (g := (mkF m 40 #[.val (.int p0), .val (.int p1), .val (.ref b1), .val (.int (3 : Int32)), .val (.int (2 : Int32))] [(.int (3 : Int32)), (.ref b1)])) rfl rfl (hb hby at_40) _ k) ?_
      show Go _ _ _ _ _ _ _ T21 (mkF m 41 #[.val (.int p0), .val (.int p1), .val (.ref b1), .val (.int (3 : Int32)), .val (.int (2 : Int32))] [(.ref w_TEXT)])
      refine Go.st (fun _ k => XS.aloadN X21.here hx rfl (hb hby at_41) rfl rfl k) ?_
      show Go _ _ _ _ _ _ _ T21 (mkF m 42 #[.val (.int p0), .val (.int p1), .val (.ref b1), .val (.int (3 : Int32)), .val (.int (2 : Int32))] [(.ref b1), (.ref w_TEXT)])
      refine Go.st (fun _ k => XS.iload X21.here hx rfl (hb hby at_42) rfl k) ?_
      show Go _ _ _ _ _ _ _ T21 (mkF m 44 #[.val (.int p0), .val (.int p1), .val (.ref b1), .val (.int (3 : Int32)), .val (.int (2 : Int32))] [(.int (2 : Int32)), (.ref b1), (.ref w_TEXT)])
      obtain ⟨cl113, Ar113, qq113, SS113, NN113, HH113, GG113⟩ := id V_b1__21
      have hin114 : ¬ ((2 : Int32) < 0 ∨ cl113.slots.size ≤ ((2 : Int32)).toNatClampNeg) := inb_of SS113 ⟨by decide, by decide⟩
      refine Go.st (fun _ k => X21.aaload hx (j := (2 : Int32)) (v := (.ref w_BOOLEAN)) (by rw [e21]; exact Ar113.1) (State.isArrayOf_alike hZ.alike Ar113.2.1) rfl Ar113.2.2 hin114 (HH113.at hin114 rfl) (g := (mkF m 44 #[.val (.int p0), .val (.int p1), .val (.ref b1), .val (.int (3 : Int32)), .val (.int (2 : Int32))] [(.int (2 : Int32)), (.ref b1), (.ref w_TEXT)])) rfl rfl (hb hby at_44) _ k) ?_
      show Go _ _ _ _ _ _ _ T21 (mkF m 45 #[.val (.int p0), .val (.int p1), .val (.ref b1), .val (.int (3 : Int32)), .val (.int (2 : Int32))] [(.ref w_BOOLEAN), (.ref w_TEXT)])
      obtain ⟨cq115, kq115, q115a, q115b, q115c⟩ := isOf hZ e21 E_TEXT__21
      obtain ⟨_, _, ⟨T115, L115, k115, n115⟩, -, X115, ⟨Lc115, hQ115, l115, y115, z115⟩, st115⟩ := X21.virtualBack hx (y := (⟨"com/example/truerow/truerow/postgres/Type", "castsTo", "(Lcom/example/truerow/truerow/postgres/Type;)Z"⟩ : MethodName)) (z := (⟨"com/example/truerow/truerow/postgres/Type", "castsTo", "(Lcom/example/truerow/truerow/postgres/Type;)Z"⟩ : MethodName)) hown (mvT hZ (hw _ (List.mem_of_getElem? (i := 12) rfl))) (mvT hZ (hw _ (List.mem_of_getElem? (i := 13) rfl))) (notFace_of_selects (args := #[]) (mvT hZ (hw _ (List.mem_of_getElem? (i := 15) rfl)))) (mvT hZ (hw _ (List.mem_of_getElem? (i := 15) rfl))) (mvT hZ (hw _ (List.mem_of_getElem? (i := 14) rfl))) (by decide) (backOf (W := 0) (rm1 l Z a0 hw [] w_TEXT w_BOOLEAN w_BIGINT w_BOOLEAN h21 n0 Z21 S_BIGINT__21 S_BOOLEAN__21) hZ (hw _ (List.mem_of_getElem? (i := 16) rfl)) (hw _ (List.mem_of_getElem? (i := 3) rfl)) (by decide) (by decide)) q115a q115c (g := (mkF m 45 #[.val (.int p0), .val (.int p1), .val (.ref b1), .val (.int (3 : Int32)), .val (.int (2 : Int32))] [(.ref w_BOOLEAN), (.ref w_TEXT)])) rfl (by rw [hml]; rfl) (Steps.refl _) (argsL := [(.ref w_BOOLEAN)]) (rest := []) (lenOf pd_0 rfl) rfl (by show 2 * 0 + _ ≤ _; exact Nat.le_of_eq rfl) (hb hby at_45) (fun _ _ => ⟨rfl, e21, (by decide : 1 + 0 ≤ _), (by decide : 4 + 0 ≤ _)⟩)
      dsimp only [Pt.U, Pt.locs, Pt.cells, Pt.slots] at X115 l115 y115 z115 st115 hQ115
      subst l115 y115 z115
      obtain ⟨rfl, N115q, e115⟩ := hQ115
      have N115 := Fr.app N21 N115q
      refine Go.st (fun _ k => st115.trans k) ?_
      show Go _ _ _ _ _ _ _ T115 (mkF m 48 #[.val (.int p0), .val (.int p1), .val (.ref b1), .val (.int (3 : Int32)), .val (.int (2 : Int32))] [(.int (val_1 w_TEXT w_BOOLEAN w_BIGINT w_BOOLEAN))])
      rw [show (val_1 w_TEXT w_BOOLEAN w_BIGINT w_BOOLEAN) = (1 : Int32) from by unfold val_1; rw [if_neg (Ne.symm ne_w_BIGINT_w_TEXT), if_neg (Ne.symm ne_w_BOOLEAN_w_TEXT)]]
      show Go _ _ _ _ _ _ _ T115 (mkF m 48 #[.val (.int p0), .val (.int p1), .val (.ref b1), .val (.int (3 : Int32)), .val (.int (2 : Int32))] [(.int (1 : Int32))])
      refine Go.st (fun _ k => XS.iloadN X115.here hx rfl (hb hby at_48) rfl k) ?_
      show Go _ _ _ _ _ _ _ T115 (mkF m 49 #[.val (.int p0), .val (.int p1), .val (.ref b1), .val (.int (3 : Int32)), .val (.int (2 : Int32))] [(.int (3 : Int32)), (.int (1 : Int32))])
      refine Go.st (fun _ k => XS.iload X115.here hx rfl (hb hby at_49) rfl k) ?_
      show Go _ _ _ _ _ _ _ T115 (mkF m 51 #[.val (.int p0), .val (.int p1), .val (.ref b1), .val (.int (3 : Int32)), .val (.int (2 : Int32))] [(.int (2 : Int32)), (.int (3 : Int32)), (.int (1 : Int32))])
      obtain ⟨_, _, ⟨T116, L116, k116, n116⟩, -, X116, ⟨Lc116, hQ116, l116, y116, z116⟩, st116⟩ := Jvm.LawKit.callS X115 hx (y := (⟨"com/example/truerow/truerow/postgres/TypeCastsToPinLaw", "expected", "(II)Z"⟩ : MethodName)) hown (mvT hZ (hw _ (List.mem_of_getElem? (i := 19) rfl))) (mvT hZ (hw _ (List.mem_of_getElem? (i := 20) rfl))) (mvT hZ (hw _ (List.mem_of_getElem? (i := 21) rfl))) (mvT hZ (hw _ (List.mem_of_getElem? (i := 22) rfl))) (by decide) (backOf (W := 1) (rm2 l Z a0 hw [] (3 : Int32) (2 : Int32)  h21 n0 Z21 (Or.inr (Or.inr (Or.inr (rfl)))) (Or.inr (Or.inr (Or.inl rfl)))) hZ (hw _ (List.mem_of_getElem? (i := 22) rfl)) (hw _ (List.mem_of_getElem? (i := 21) rfl)) (by decide) (by decide)) (g := (mkF m 51 #[.val (.int p0), .val (.int p1), .val (.ref b1), .val (.int (3 : Int32)), .val (.int (2 : Int32))] [(.int (2 : Int32)), (.int (3 : Int32)), (.int (1 : Int32))])) rfl (by rw [hml]; rfl) (argsL := [(.int (3 : Int32)), (.int (2 : Int32))]) (rest := [(.int (1 : Int32))]) (lenOf pd_1 rfl) rfl (by show 2 * 0 + _ ≤ _; exact Nat.le_of_eq rfl) (hb hby at_51) (fun _ _ => ⟨rfl, e115, (by decide : 1 + 0 ≤ _), (by decide : 4 + 0 ≤ _)⟩)
      dsimp only [Pt.U, Pt.locs, Pt.cells, Pt.slots] at X116 l116 y116 z116 st116 hQ116
      subst l116 y116 z116
      obtain ⟨rfl, N116q, e116⟩ := hQ116
      have N116 := Fr.app N115 N116q
      refine Go.st st116 ?_
      show Go _ _ _ _ _ _ _ T116 (mkF m 54 #[.val (.int p0), .val (.int p1), .val (.ref b1), .val (.int (3 : Int32)), .val (.int (2 : Int32))] [(.int (val_2 (3 : Int32) (2 : Int32))), (.int (1 : Int32))])
      rw [show (val_2 (3 : Int32) (2 : Int32)) = (1 : Int32) from by unfold val_2; rw [if_neg (by decide +kernel : ¬ ((3 : Int32) = (0 : Int32))), if_neg (by decide +kernel : ¬ ((3 : Int32) = (1 : Int32))), if_neg (by decide +kernel : ¬ ((3 : Int32) = (2 : Int32)))]]
      show Go _ _ _ _ _ _ _ T116 (mkF m 54 #[.val (.int p0), .val (.int p1), .val (.ref b1), .val (.int (3 : Int32)), .val (.int (2 : Int32))] [(.int (1 : Int32)), (.int (1 : Int32))])
      refine Go.st (fun _ k => XS.icmpNo X116.here hx rfl (hb hby at_54) rfl (teq (by decide : (1 : Int32) = (1 : Int32))).2 k) ?_
      show Go _ _ _ _ _ _ _ T116 (mkF m 57 #[.val (.int p0), .val (.int p1), .val (.ref b1), .val (.int (3 : Int32)), .val (.int (2 : Int32))] [])
      refine Go.st (fun _ k => XS.iconst X116.here hx rfl (hb hby at_57) k) ?_
      show Go _ _ _ _ _ _ _ T116 (mkF m 58 #[.val (.int p0), .val (.int p1), .val (.ref b1), .val (.int (3 : Int32)), .val (.int (2 : Int32))] [(.int (1 : Int32))])
      refine Go.st (fun _ k => XS.goto X116.here hx rfl (pc0 := 58) (pc' := 62) rfl (hb hby at_58) (by decide) (by decide) k) ?_
      show Go _ _ _ _ _ _ _ T116 (mkF m 62 #[.val (.int p0), .val (.int p1), .val (.ref b1), .val (.int (3 : Int32)), .val (.int (2 : Int32))] [(.int (1 : Int32))])
      refine Go.ret X116 hlk (v := some (.int (1 : Int32))) (fun h => by rw [hret] at h; cases h) (fun fs hr => retN X116 hx (t := .boolean) hret (by simp) (hb hby at_62) hr) ?_ (by decide) (by decide)
      show Q0 Z p0 p1 w_INT w_BIGINT w_BOOLEAN w_TEXT h0 n0 (some (.int (1 : Int32))) T116.heap _
      rw [e116]
      exact ⟨rfl, N116⟩
    · rw [hk98]
      show Go _ _ _ _ _ _ _ T21 (mkF m 36 #[.val (.int p0), .val (.int p1), .val (.ref b1), .val (.int (3 : Int32)), .unset] [(.int (3 : Int32))])
      refine Go.st (fun _ k => XS.istore X21.here hx rfl (hb hby at_36) rfl (l' := #[.val (.int p0), .val (.int p1), .val (.ref b1), .val (.int (3 : Int32)), .val (.int (3 : Int32))]) rfl k) ?_
      show Go _ _ _ _ _ _ _ T21 (mkF m 38 #[.val (.int p0), .val (.int p1), .val (.ref b1), .val (.int (3 : Int32)), .val (.int (3 : Int32))] [])
      refine Go.st (fun _ k => XS.aloadN X21.here hx rfl (hb hby at_38) rfl rfl k) ?_
      show Go _ _ _ _ _ _ _ T21 (mkF m 39 #[.val (.int p0), .val (.int p1), .val (.ref b1), .val (.int (3 : Int32)), .val (.int (3 : Int32))] [(.ref b1)])
      refine Go.st (fun _ k => XS.iloadN X21.here hx rfl (hb hby at_39) rfl k) ?_
      show Go _ _ _ _ _ _ _ T21 (mkF m 40 #[.val (.int p0), .val (.int p1), .val (.ref b1), .val (.int (3 : Int32)), .val (.int (3 : Int32))] [(.int (3 : Int32)), (.ref b1)])
      obtain ⟨cl117, Ar117, qq117, SS117, NN117, HH117, GG117⟩ := id V_b1__21
      have hin118 : ¬ ((3 : Int32) < 0 ∨ cl117.slots.size ≤ ((3 : Int32)).toNatClampNeg) := inb_of SS117 ⟨by decide, by decide⟩
      refine Go.st (fun _ k => X21.aaload hx (j := (3 : Int32)) (v := (.ref w_TEXT)) (by rw [e21]; exact Ar117.1) (State.isArrayOf_alike hZ.alike Ar117.2.1) rfl Ar117.2.2 hin118 (HH117.at hin118 rfl) (g := (mkF m 40 #[.val (.int p0), .val (.int p1), .val (.ref b1), .val (.int (3 : Int32)), .val (.int (3 : Int32))] [(.int (3 : Int32)), (.ref b1)])) rfl rfl (hb hby at_40) _ k) ?_
      show Go _ _ _ _ _ _ _ T21 (mkF m 41 #[.val (.int p0), .val (.int p1), .val (.ref b1), .val (.int (3 : Int32)), .val (.int (3 : Int32))] [(.ref w_TEXT)])
      refine Go.st (fun _ k => XS.aloadN X21.here hx rfl (hb hby at_41) rfl rfl k) ?_
      show Go _ _ _ _ _ _ _ T21 (mkF m 42 #[.val (.int p0), .val (.int p1), .val (.ref b1), .val (.int (3 : Int32)), .val (.int (3 : Int32))] [(.ref b1), (.ref w_TEXT)])
      refine Go.st (fun _ k => XS.iload X21.here hx rfl (hb hby at_42) rfl k) ?_
      show Go _ _ _ _ _ _ _ T21 (mkF m 44 #[.val (.int p0), .val (.int p1), .val (.ref b1), .val (.int (3 : Int32)), .val (.int (3 : Int32))] [(.int (3 : Int32)), (.ref b1), (.ref w_TEXT)])
      obtain ⟨cl119, Ar119, qq119, SS119, NN119, HH119, GG119⟩ := id V_b1__21
      have hin120 : ¬ ((3 : Int32) < 0 ∨ cl119.slots.size ≤ ((3 : Int32)).toNatClampNeg) := inb_of SS119 ⟨by decide, by decide⟩
      refine Go.st (fun _ k => X21.aaload hx (j := (3 : Int32)) (v := (.ref w_TEXT)) (by rw [e21]; exact Ar119.1) (State.isArrayOf_alike hZ.alike Ar119.2.1) rfl Ar119.2.2 hin120 (HH119.at hin120 rfl) (g := (mkF m 44 #[.val (.int p0), .val (.int p1), .val (.ref b1), .val (.int (3 : Int32)), .val (.int (3 : Int32))] [(.int (3 : Int32)), (.ref b1), (.ref w_TEXT)])) rfl rfl (hb hby at_44) _ k) ?_
      show Go _ _ _ _ _ _ _ T21 (mkF m 45 #[.val (.int p0), .val (.int p1), .val (.ref b1), .val (.int (3 : Int32)), .val (.int (3 : Int32))] [(.ref w_TEXT), (.ref w_TEXT)])
      obtain ⟨cq121, kq121, q121a, q121b, q121c⟩ := isOf hZ e21 E_TEXT__21
      obtain ⟨_, _, ⟨T121, L121, k121, n121⟩, -, X121, ⟨Lc121, hQ121, l121, y121, z121⟩, st121⟩ := X21.virtualBack hx (y := (⟨"com/example/truerow/truerow/postgres/Type", "castsTo", "(Lcom/example/truerow/truerow/postgres/Type;)Z"⟩ : MethodName)) (z := (⟨"com/example/truerow/truerow/postgres/Type", "castsTo", "(Lcom/example/truerow/truerow/postgres/Type;)Z"⟩ : MethodName)) hown (mvT hZ (hw _ (List.mem_of_getElem? (i := 12) rfl))) (mvT hZ (hw _ (List.mem_of_getElem? (i := 13) rfl))) (notFace_of_selects (args := #[]) (mvT hZ (hw _ (List.mem_of_getElem? (i := 15) rfl)))) (mvT hZ (hw _ (List.mem_of_getElem? (i := 15) rfl))) (mvT hZ (hw _ (List.mem_of_getElem? (i := 14) rfl))) (by decide) (backOf (W := 0) (rm1 l Z a0 hw [] w_TEXT w_TEXT w_BIGINT w_BOOLEAN h21 n0 Z21 S_BIGINT__21 S_BOOLEAN__21) hZ (hw _ (List.mem_of_getElem? (i := 16) rfl)) (hw _ (List.mem_of_getElem? (i := 3) rfl)) (by decide) (by decide)) q121a q121c (g := (mkF m 45 #[.val (.int p0), .val (.int p1), .val (.ref b1), .val (.int (3 : Int32)), .val (.int (3 : Int32))] [(.ref w_TEXT), (.ref w_TEXT)])) rfl (by rw [hml]; rfl) (Steps.refl _) (argsL := [(.ref w_TEXT)]) (rest := []) (lenOf pd_0 rfl) rfl (by show 2 * 0 + _ ≤ _; exact Nat.le_of_eq rfl) (hb hby at_45) (fun _ _ => ⟨rfl, e21, (by decide : 1 + 0 ≤ _), (by decide : 4 + 0 ≤ _)⟩)
      dsimp only [Pt.U, Pt.locs, Pt.cells, Pt.slots] at X121 l121 y121 z121 st121 hQ121
      subst l121 y121 z121
      obtain ⟨rfl, N121q, e121⟩ := hQ121
      have N121 := Fr.app N21 N121q
      refine Go.st (fun _ k => st121.trans k) ?_
      show Go _ _ _ _ _ _ _ T121 (mkF m 48 #[.val (.int p0), .val (.int p1), .val (.ref b1), .val (.int (3 : Int32)), .val (.int (3 : Int32))] [(.int (val_1 w_TEXT w_TEXT w_BIGINT w_BOOLEAN))])
      rw [show (val_1 w_TEXT w_TEXT w_BIGINT w_BOOLEAN) = (1 : Int32) from by unfold val_1; rw [if_neg (Ne.symm ne_w_BIGINT_w_TEXT), if_neg (Ne.symm ne_w_BOOLEAN_w_TEXT)]]
      show Go _ _ _ _ _ _ _ T121 (mkF m 48 #[.val (.int p0), .val (.int p1), .val (.ref b1), .val (.int (3 : Int32)), .val (.int (3 : Int32))] [(.int (1 : Int32))])
      refine Go.st (fun _ k => XS.iloadN X121.here hx rfl (hb hby at_48) rfl k) ?_
      show Go _ _ _ _ _ _ _ T121 (mkF m 49 #[.val (.int p0), .val (.int p1), .val (.ref b1), .val (.int (3 : Int32)), .val (.int (3 : Int32))] [(.int (3 : Int32)), (.int (1 : Int32))])
      refine Go.st (fun _ k => XS.iload X121.here hx rfl (hb hby at_49) rfl k) ?_
      show Go _ _ _ _ _ _ _ T121 (mkF m 51 #[.val (.int p0), .val (.int p1), .val (.ref b1), .val (.int (3 : Int32)), .val (.int (3 : Int32))] [(.int (3 : Int32)), (.int (3 : Int32)), (.int (1 : Int32))])
      obtain ⟨_, _, ⟨T122, L122, k122, n122⟩, -, X122, ⟨Lc122, hQ122, l122, y122, z122⟩, st122⟩ := Jvm.LawKit.callS X121 hx (y := (⟨"com/example/truerow/truerow/postgres/TypeCastsToPinLaw", "expected", "(II)Z"⟩ : MethodName)) hown (mvT hZ (hw _ (List.mem_of_getElem? (i := 19) rfl))) (mvT hZ (hw _ (List.mem_of_getElem? (i := 20) rfl))) (mvT hZ (hw _ (List.mem_of_getElem? (i := 21) rfl))) (mvT hZ (hw _ (List.mem_of_getElem? (i := 22) rfl))) (by decide) (backOf (W := 1) (rm2 l Z a0 hw [] (3 : Int32) (3 : Int32)  h21 n0 Z21 (Or.inr (Or.inr (Or.inr (rfl)))) (Or.inr (Or.inr (Or.inr (rfl))))) hZ (hw _ (List.mem_of_getElem? (i := 22) rfl)) (hw _ (List.mem_of_getElem? (i := 21) rfl)) (by decide) (by decide)) (g := (mkF m 51 #[.val (.int p0), .val (.int p1), .val (.ref b1), .val (.int (3 : Int32)), .val (.int (3 : Int32))] [(.int (3 : Int32)), (.int (3 : Int32)), (.int (1 : Int32))])) rfl (by rw [hml]; rfl) (argsL := [(.int (3 : Int32)), (.int (3 : Int32))]) (rest := [(.int (1 : Int32))]) (lenOf pd_1 rfl) rfl (by show 2 * 0 + _ ≤ _; exact Nat.le_of_eq rfl) (hb hby at_51) (fun _ _ => ⟨rfl, e121, (by decide : 1 + 0 ≤ _), (by decide : 4 + 0 ≤ _)⟩)
      dsimp only [Pt.U, Pt.locs, Pt.cells, Pt.slots] at X122 l122 y122 z122 st122 hQ122
      subst l122 y122 z122
      obtain ⟨rfl, N122q, e122⟩ := hQ122
      have N122 := Fr.app N121 N122q
      refine Go.st st122 ?_
      show Go _ _ _ _ _ _ _ T122 (mkF m 54 #[.val (.int p0), .val (.int p1), .val (.ref b1), .val (.int (3 : Int32)), .val (.int (3 : Int32))] [(.int (val_2 (3 : Int32) (3 : Int32))), (.int (1 : Int32))])
      rw [show (val_2 (3 : Int32) (3 : Int32)) = (1 : Int32) from by unfold val_2; rw [if_neg (by decide +kernel : ¬ ((3 : Int32) = (0 : Int32))), if_neg (by decide +kernel : ¬ ((3 : Int32) = (1 : Int32))), if_neg (by decide +kernel : ¬ ((3 : Int32) = (2 : Int32)))]]
      show Go _ _ _ _ _ _ _ T122 (mkF m 54 #[.val (.int p0), .val (.int p1), .val (.ref b1), .val (.int (3 : Int32)), .val (.int (3 : Int32))] [(.int (1 : Int32)), (.int (1 : Int32))])
      refine Go.st (fun _ k => XS.icmpNo X122.here hx rfl (hb hby at_54) rfl (teq (by decide : (1 : Int32) = (1 : Int32))).2 k) ?_
      show Go _ _ _ _ _ _ _ T122 (mkF m 57 #[.val (.int p0), .val (.int p1), .val (.ref b1), .val (.int (3 : Int32)), .val (.int (3 : Int32))] [])
      refine Go.st (fun _ k => XS.iconst X122.here hx rfl (hb hby at_57) k) ?_
      show Go _ _ _ _ _ _ _ T122 (mkF m 58 #[.val (.int p0), .val (.int p1), .val (.ref b1), .val (.int (3 : Int32)), .val (.int (3 : Int32))] [(.int (1 : Int32))])
      refine Go.st (fun _ k => XS.goto X122.here hx rfl (pc0 := 58) (pc' := 62) rfl (hb hby at_58) (by decide) (by decide) k) ?_
      show Go _ _ _ _ _ _ _ T122 (mkF m 62 #[.val (.int p0), .val (.int p1), .val (.ref b1), .val (.int (3 : Int32)), .val (.int (3 : Int32))] [(.int (1 : Int32))])
      refine Go.ret X122 hlk (v := some (.int (1 : Int32))) (fun h => by rw [hret] at h; cases h) (fun fs hr => retN X122 hx (t := .boolean) hret (by simp) (hb hby at_62) hr) ?_ (by decide) (by decide)
      show Q0 Z p0 p1 w_INT w_BIGINT w_BOOLEAN w_TEXT h0 n0 (some (.int (1 : Int32))) T122.heap _
      rw [e122]
      exact ⟨rfl, N122⟩
set_option maxRecDepth 65536 in
set_option maxHeartbeats 40000000 in
theorem comes_1 {Post : Tables → Env → Array Value → State → Outcome → State → Prop} (hpost : ∀ tb e args s v u, (limb_1_1.after args s (.returned v) u = true ∧ limb_1_2.after args s (.returned v) u = true ∧ True) → FrameEnd s (.returned v) u (Jvm.fieldLocs frame_1_writes args s ++ Jvm.arrayLocs frame_1_arrays args s ++ Jvm.staticLocs frame_1_statics s) 16 128 → Post tb e args s (.returned v) u) :
    ArmFor flags0 classFile x code maxLocals ret World_1 tables_1 room_1 Calls_1 rest_1 Pre_1 Post := by
  intro l hfl _ _ p e ha hc hk s m args below hf hA hF happ hP
  obtain ⟨hcalls, hrest, hpre⟩ := hP
  obtain ⟨-, -, -, hnamed, -, -, -, hat⟩ := (Spec.applies_iff hf).mp happ
  obtain ⟨hg, hn⟩ := and_e (Cond.before_iff.mp (show (Jvm.Cond.and given_1 narrow_1).before args s = true from hpre))
  obtain ⟨g1, g2⟩ := and_e hg
  obtain ⟨g3, g4⟩ := and_e g2
  obtain ⟨w0, w1, rfl⟩ : ∃ w0 w1 : Value, args = #[w0, w1] := by
    have hs : args.size = 2 := by simpa [Cond.value, given_1] using g1
    obtain ⟨L⟩ := args
    match L, hs with
    | [w0, w1], _ => exact ⟨w0, w1, rfl⟩
  have hw := fun d (hd : d ∈ tables_1) => atoms_spec (ws := Jvm.Cond.code x code maxLocals ret :: tables_1) hat d (List.mem_cons_of_mem _ hd)
  have hfit : Fit s := fun {y c} hc i hi => by
    obtain ⟨ha, rfl⟩ := Array.getElem?_eq_some_iff.mp hc
    have q := List.all_eq_true.mp ((Array.all_eq_true_iff_forall_mem.mp hF) _ (Array.getElem_mem ha)) i (List.mem_range.mpr hi)
    simpa [Array.getElem?_eq_getElem hi] using q
  obtain ⟨i0, ei0⟩ := is_v g3
  obtain rfl : w0 = (.int i0) := Option.some.inj ei0
  obtain ⟨i1, ei1⟩ := is_v g4
  obtain rfl : w1 = (.int i1) := Option.some.inj ei1
  obtain ⟨g5, g6⟩ := and_e hn
  obtain ⟨g7, g8⟩ := and_e g6
  obtain ⟨g9, g10⟩ := and_e g8
  obtain ⟨g11, g12⟩ := and_e g10
  obtain ⟨g13, g14⟩ := and_e g12
  obtain ⟨g15, g16⟩ := and_e g14
  obtain ⟨g17, g18⟩ := and_e g16
  obtain ⟨w_INT, ev_INT⟩ := exa_v g5
  have S_INT := Sta.start ev_INT (Or.inr ⟨(hw _ (List.mem_of_getElem? (i := 3) rfl)), (hw _ (List.mem_of_getElem? (i := 4) rfl))⟩)
  have E_INT := Exa.start ev_INT g5
  obtain ⟨w_BIGINT, ev_BIGINT⟩ := exa_v g7
  have S_BIGINT := Sta.start ev_BIGINT (Or.inr ⟨(hw _ (List.mem_of_getElem? (i := 3) rfl)), (hw _ (List.mem_of_getElem? (i := 7) rfl))⟩)
  have E_BIGINT := Exa.start ev_BIGINT g7
  obtain ⟨w_BOOLEAN, ev_BOOLEAN⟩ := exa_v g9
  have S_BOOLEAN := Sta.start ev_BOOLEAN (Or.inr ⟨(hw _ (List.mem_of_getElem? (i := 3) rfl)), (hw _ (List.mem_of_getElem? (i := 9) rfl))⟩)
  have E_BOOLEAN := Exa.start ev_BOOLEAN g9
  obtain ⟨w_TEXT, ev_TEXT⟩ := exa_v g11
  have S_TEXT := Sta.start ev_TEXT (Or.inr ⟨(hw _ (List.mem_of_getElem? (i := 3) rfl)), (hw _ (List.mem_of_getElem? (i := 11) rfl))⟩)
  have E_TEXT := Exa.start ev_TEXT g11
  have F_INT_ordinal := own_fld ev_INT g13
  have F_BIGINT_ordinal := own_fld ev_BIGINT g15
  have F_BOOLEAN_ordinal := own_fld ev_BOOLEAN g17
  have F_TEXT_ordinal := own_fld ev_TEXT g18
  obtain ⟨n, o, h1, h2, h3, _, L, rfl, ⟨rfl, N⟩, hq⟩ := rm0 l s _ hw tables_1 i0 i1 w_INT w_BIGINT w_BOOLEAN w_TEXT s.heap s.heap.size (Nat.le_refl _) S_INT E_INT S_BIGINT E_BIGINT S_BOOLEAN E_BOOLEAN S_TEXT E_TEXT F_INT_ordinal F_BIGINT_ordinal F_BOOLEAN_ordinal F_TEXT_ordinal p e ha hc hk s m _ below hf ((Spec.applies_iff_loose hf).mp happ).1 ⟨rfl, State.Warmed39.refl s, rfl⟩ trivial
  refine ⟨n, _, h1, h2, h3, hpost _ _ _ _ _ _ ⟨Cond.after_iff.mpr rfl, Cond.after_iff.mpr (eq_i res_at (Term.int_eval (1)) rfl), trivial⟩ ⟨hq.1, hq.2.1, (hq.2.2.sift fun y hy => Or.inr (N y hy)).mono (by decide) (by decide)⟩⟩
theorem main_1_1 : Claimed_1_1 := comes_1 fun _ _ _ _ _ _ h hF => ⟨h.1, hF⟩
theorem main_1_2 : Claimed_1_2 := comes_1 fun _ _ _ _ _ _ h hF => ⟨h.2.1, hF⟩
end Jvm.Pilot.@@N@@
namespace Jvm.Pilot.@@N@@
open Jvm Jvm.ClassFile Sem Op Lib Jvm.Free Jvm.Stand Jvm.Pilot.@@N@@.Jvm.D
/-! MADE BY PROGRAM (witnessworld.py) out of the Statement's table words and the real class files: 13 classes; the members and pool entries that the words name. The judged class is class 1, her method 2. -/
namespace start1
open Jvm.ClassFile
def u (s : String) : CpInfo := .utf8 (stringToUtf16 s)
/-- a pool by its gaps: so many unusable entries, then the entry; so many at the end -/
def gap : Nat → List CpInfo → List CpInfo
  | 0, r => r
  | n + 1, r => .unusable :: gap n r
def poolList (es : List (Nat × CpInfo)) (last : Nat) : List CpInfo := es.foldr (fun e r => gap e.1 (e.2 :: r)) (gap last [])
def pool (es : List (Nat × CpInfo)) (last : Nat) : Array CpInfo := ⟨poolList es last⟩
def fileOf (pool : Array CpInfo) (this : Nat) (attrs : Array Attribute := #[]) (ms : Array MethodInfo := #[]) (fl : Nat := 33) (sup : Nat := 0) (ifs : Array Nat := #[]) (fds : Array FieldInfo := #[]) : ClassFile where
  minorVersion := 0
  majorVersion := 65
  constantPool := pool
  accessFlags := fl
  thisClass := this
  superClass := sup
  interfaces := ifs
  fields := fds
  methods := ms
  attributes := attrs
def plain (name : String) (sup : Option ClassId) : Class where
  name := name
  kind := .ordinary
  loader := none
  accessFlags := 33
  super := sup
  interfaces := #[]
  cf := none
  fields := #[]
  methods := #[]
  instanceTypes := #[]
  staticTypes := #[]
  resolved := #[]
  callSites := []
  init := .initialized
  statics := none
  mirror := none

def pool0 : Array CpInfo := pool [(5, u "<init>"), (0, u "()V"), (1, .class_ 10), (1, u "java/lang/Object")] 113

def k0m0 : Method := { name := "<init>", desc := "()V", sig := { parameters := [], returnType := none }, accessFlags := 1, code := none }
/-- java/lang/Object -/
def k0 : Class := { plain "java/lang/Object" none with
  accessFlags := 33
  interfaces := #[]
  cf := some (fileOf pool0 8 #[] #[{ accessFlags := 1, nameIndex := 5, descriptorIndex := 6, attributes := #[] }] 33 0 #[] #[])
  fields := #[]
  methods := #[k0m0]
  instanceTypes := #[]
  staticTypes := #[]
  resolved := Array.replicate 124 none
  statics := none }

def pool1 : Array CpInfo := pool [(2, .class_ 4), (1, u "java/lang/Object"), (0, u "<init>"), (0, u "()V"), (0, .class_ 8), (0, u "com/example/truerow/truerow/postgres/Type"), (0, .fieldref 7 10), (0, .nameAndType 11 12), (0, u "INT"), (0, u "Lcom/example/truerow/truerow/postgres/Type;"), (0, .fieldref 7 14), (0, .nameAndType 15 12), (0, u "BIGINT"), (0, .fieldref 7 17), (0, .nameAndType 18 12), (0, u "BOOLEAN"), (0, .fieldref 7 20), (0, .nameAndType 21 12), (0, u "TEXT"), (0, .methodref 7 23), (0, .nameAndType 24 25), (0, u "castsTo"), (0, u "(Lcom/example/truerow/truerow/postgres/Type;)Z"), (0, .methodref 27 28), (0, .class_ 29), (0, .nameAndType 30 31), (0, u "com/example/truerow/truerow/postgres/TypeCastsToPinLaw"), (0, u "expected"), (0, u "(II)Z"), (3, u "law")] 4

def k1m0 : Method := { name := "<init>", desc := "()V", sig := { parameters := [], returnType := none }, accessFlags := 1, code := none }
def k1c1 : Code := { maxStack := 2, maxLocals := 6, code := method_2_code, exceptionTable := #[], attributes := #[] }
def k1m1 : Method := { name := "expected", desc := "(II)Z", sig := { parameters := [.int, .int], returnType := some .boolean }, accessFlags := 10, code := some k1c1 }
def k1c2 : Code := { maxStack := 4, maxLocals := 5, code := code, exceptionTable := #[], attributes := #[] }
def k1m2 : Method := { name := "law", desc := "(II)Z", sig := { parameters := [.int, .int], returnType := some .boolean }, accessFlags := 9, code := some k1c2 }
/-- com/example/truerow/truerow/postgres/TypeCastsToPinLaw -/
def k1 : Class := { plain "com/example/truerow/truerow/postgres/TypeCastsToPinLaw" (some 0) with
  accessFlags := 49
  interfaces := #[]
  cf := some (fileOf pool1 27 #[] #[{ accessFlags := 1, nameIndex := 5, descriptorIndex := 6, attributes := #[] }, { accessFlags := 10, nameIndex := 30, descriptorIndex := 31, attributes := #[] }, { accessFlags := 9, nameIndex := 35, descriptorIndex := 31, attributes := #[] }] 49 2 #[] #[])
  fields := #[]
  methods := #[k1m0, k1m1, k1m2]
  instanceTypes := #[]
  staticTypes := #[]
  resolved := Array.replicate 40 none
  statics := none }

def pool2 : Array CpInfo := pool [(1, .class_ 2), (0, u "java/lang/constant/Constable"), (0, .class_ 4), (0, u "java/lang/Object")] 6

/-- java/lang/constant/Constable -/
def k2 : Class := { plain "java/lang/constant/Constable" (some 0) with
  accessFlags := 1537
  interfaces := #[]
  cf := some (fileOf pool2 1 #[] #[] 1537 3 #[] #[])
  fields := #[]
  methods := #[]
  instanceTypes := #[]
  staticTypes := #[]
  resolved := Array.replicate 11 none
  statics := none }

def pool3 : Array CpInfo := pool [(1, .class_ 2), (0, u "java/lang/Comparable"), (0, .class_ 4), (0, u "java/lang/Object")] 7

/-- java/lang/Comparable -/
def k3 : Class := { plain "java/lang/Comparable" (some 0) with
  accessFlags := 1537
  interfaces := #[]
  cf := some (fileOf pool3 1 #[] #[] 1537 3 #[] #[])
  fields := #[]
  methods := #[]
  instanceTypes := #[]
  staticTypes := #[]
  resolved := Array.replicate 12 none
  statics := none }

def pool4 : Array CpInfo := pool [(1, .class_ 2), (0, u "java/io/Serializable"), (0, .class_ 4), (0, u "java/lang/Object")] 2

/-- java/io/Serializable -/
def k4 : Class := { plain "java/io/Serializable" (some 0) with
  accessFlags := 1537
  interfaces := #[]
  cf := some (fileOf pool4 1 #[] #[] 1537 3 #[] #[])
  fields := #[]
  methods := #[]
  instanceTypes := #[]
  staticTypes := #[]
  resolved := Array.replicate 7 none
  statics := none }

def pool5 : Array CpInfo := pool [(2, .class_ 4), (1, u "java/lang/Enum"), (0, u "name"), (0, u "Ljava/lang/String;"), (2, u "ordinal"), (0, u "I"), (1, .class_ 14), (1, u "java/lang/Object"), (4, u "hash"), (86, .class_ 108), (1, u "java/lang/Enum$EnumDesc"), (2, .class_ 112), (0, u "java/lang/constant/Constable"), (0, .class_ 114), (0, u "java/lang/Comparable"), (0, .class_ 116), (0, u "java/io/Serializable")] 87

/-- java/lang/Enum -/
def k5 : Class := { plain "java/lang/Enum" (some 0) with
  accessFlags := 1057
  interfaces := #[2, 3, 4]
  cf := some (fileOf pool5 2 #[.nestMembers #[106]] #[] 1057 12 #[111, 113, 115] #[{ accessFlags := 18, nameIndex := 5, descriptorIndex := 6, attributes := #[] }, { accessFlags := 18, nameIndex := 9, descriptorIndex := 10, attributes := #[] }, { accessFlags := 2, nameIndex := 19, descriptorIndex := 10, attributes := #[] }])
  fields := #[{ name := "name", type := (.object "java/lang/String"), accessFlags := 18, slot := 0, constantValue := 0 }, { name := "ordinal", type := .int, accessFlags := 18, slot := 1, constantValue := 0 }, { name := "hash", type := .int, accessFlags := 2, slot := 2, constantValue := 0 }]
  methods := #[]
  instanceTypes := #[(.object "java/lang/String"), .int, .int]
  staticTypes := #[]
  resolved := Array.replicate 204 none
  statics := none }

def pool6 : Array CpInfo := pool [(1, .class_ 2), (0, u "com/example/truerow/truerow/postgres/Type"), (2, u "INT"), (0, u "Lcom/example/truerow/truerow/postgres/Type;"), (0, .fieldref 1 8), (0, .nameAndType 9 6), (0, u "BIGINT"), (0, .fieldref 1 11), (0, .nameAndType 12 6), (0, u "BOOLEAN"), (2, u "TEXT"), (2, u "$VALUES"), (0, u "[Lcom/example/truerow/truerow/postgres/Type;"), (6, .class_ 28), (1, u "java/lang/Enum"), (8, u "sql"), (0, u "Ljava/lang/String;"), (2, u "catalogName"), (6, u "castsTo"), (0, u "(Lcom/example/truerow/truerow/postgres/Type;)Z")] 37

def k6c0 : Code := { maxStack := 2, maxLocals := 3, code := prog_39_method_9_code, exceptionTable := #[], attributes := #[] }
def k6m0 : Method := { name := "castsTo", desc := "(Lcom/example/truerow/truerow/postgres/Type;)Z", sig := { parameters := [(.object "com/example/truerow/truerow/postgres/Type")], returnType := some .boolean }, accessFlags := 0, code := some k6c0 }
/-- com/example/truerow/truerow/postgres/Type -/
def k6 : Class := { plain "com/example/truerow/truerow/postgres/Type" (some 5) with
  accessFlags := 16432
  interfaces := #[]
  cf := some (fileOf pool6 1 #[] #[{ accessFlags := 0, nameIndex := 48, descriptorIndex := 49, attributes := #[] }] 16432 26 #[] #[{ accessFlags := 16409, nameIndex := 5, descriptorIndex := 6, attributes := #[] }, { accessFlags := 16409, nameIndex := 9, descriptorIndex := 6, attributes := #[] }, { accessFlags := 16409, nameIndex := 12, descriptorIndex := 6, attributes := #[] }, { accessFlags := 16409, nameIndex := 15, descriptorIndex := 6, attributes := #[] }, { accessFlags := 18, nameIndex := 37, descriptorIndex := 38, attributes := #[] }, { accessFlags := 18, nameIndex := 41, descriptorIndex := 38, attributes := #[] }, { accessFlags := 4122, nameIndex := 18, descriptorIndex := 19, attributes := #[] }])
  fields := #[{ name := "INT", type := (.object "com/example/truerow/truerow/postgres/Type"), accessFlags := 16409, slot := 0, constantValue := 0 }, { name := "BIGINT", type := (.object "com/example/truerow/truerow/postgres/Type"), accessFlags := 16409, slot := 1, constantValue := 0 }, { name := "BOOLEAN", type := (.object "com/example/truerow/truerow/postgres/Type"), accessFlags := 16409, slot := 2, constantValue := 0 }, { name := "TEXT", type := (.object "com/example/truerow/truerow/postgres/Type"), accessFlags := 16409, slot := 3, constantValue := 0 }, { name := "sql", type := (.object "java/lang/String"), accessFlags := 18, slot := 3, constantValue := 0 }, { name := "catalogName", type := (.object "java/lang/String"), accessFlags := 18, slot := 4, constantValue := 0 }, { name := "$VALUES", type := (.array (.object "com/example/truerow/truerow/postgres/Type")), accessFlags := 4122, slot := 4, constantValue := 0 }]
  methods := #[k6m0]
  instanceTypes := #[(.object "java/lang/String"), .int, .int, (.object "java/lang/String"), (.object "java/lang/String")]
  staticTypes := #[(.object "com/example/truerow/truerow/postgres/Type"), (.object "com/example/truerow/truerow/postgres/Type"), (.object "com/example/truerow/truerow/postgres/Type"), (.object "com/example/truerow/truerow/postgres/Type"), (.array (.object "com/example/truerow/truerow/postgres/Type"))]
  resolved := Array.replicate 87 none
  statics := some 0 }

def pool7 : Array CpInfo := pool [(1, u "java/lang/Cloneable"), (0, .class_ 1), (0, u "java/lang/Object"), (0, .class_ 3)] 3

/-- java/lang/Cloneable -/
def k7 : Class := { plain "java/lang/Cloneable" (some 0) with
  accessFlags := 1537
  interfaces := #[]
  cf := some (fileOf pool7 2 #[] #[] 1537 4 #[] #[])
  fields := #[]
  methods := #[]
  instanceTypes := #[]
  staticTypes := #[]
  resolved := Array.replicate 8 none
  statics := none }

/-- the primitive byte -/
def k8 : Class := { plain "byte" none with kind := .primitive 'B', accessFlags := 0x411 }
/-- [B -/
def k9 : Class := { plain "[B" (some 0) with kind := .array 8 .byte, interfaces := #[7, 4], accessFlags := 1041 }

/-- the primitive int -/
def k10 : Class := { plain "int" none with kind := .primitive 'I', accessFlags := 0x411 }
/-- [I -/
def k11 : Class := { plain "[I" (some 0) with kind := .array 10 .int, interfaces := #[7, 4], accessFlags := 1041 }

/-- [Lcom/example/truerow/truerow/postgres/Type; -/
def k12 : Class := { plain "[Lcom/example/truerow/truerow/postgres/Type;" (some 0) with kind := .array 6 (.object "com/example/truerow/truerow/postgres/Type"), interfaces := #[7, 4], accessFlags := 1041 }

def heap : Heap := #[{ cls := 6, slots := #[.ref 1, .ref 2, .ref 3, .ref 4, .null], vm := .statics 6 },
  { cls := 6, slots := #[.null, .int 0, .int 0, .null, .null], vm := .none },
  { cls := 6, slots := #[.null, .int 1, .int 0, .null, .null], vm := .none },
  { cls := 6, slots := #[.null, .int 2, .int 0, .null, .null], vm := .none },
  { cls := 6, slots := #[.null, .int 3, .int 0, .null, .null], vm := .none }]
def classes : Array Class := #[k0, k1, k2, k3, k4, k5, k6, k7, k8, k9, k10, k11, k12]
def interned : List (Array UInt16 × Addr) := []
def slotsUsed : Nat := 25
def theMethod : MethodId := ⟨1, 2⟩
def args0 : Array Value := #[.int 5, .int 3]
def aboutOver (below : List Frame) : State where
  vm := { classes := classes, interned := interned.toArray }
  heap := heap
  slotsUsed := slotsUsed
  threads := #[{ frames := .invoking theMethod args0 :: below }]
def below0 : List Frame := [.native { method := ⟨0, 0⟩, args := #[] }]
def about1 : State := aboutOver below0
def p0 : Program := .bare "" "" ""
def e0 : Env := launch0.env 0 0 0
theorem w_frames : about1.frames = Frame.invoking theMethod args0 :: below0 := rfl
set_option maxRecDepth 65536 in
theorem w_args : argsFit about1.vm theMethod args0 = true := by decide +kernel
set_option maxRecDepth 65536 in
theorem w_heap : heapFits about1 = true := by decide +kernel
set_option maxRecDepth 65536 in
theorem w_runnable : about1.curStatus? = some .runnable := by decide +kernel
set_option maxRecDepth 65536 in
theorem w_alone : about1.alone = true := by decide +kernel
set_option maxRecDepth 65536 in
theorem w_named : about1.methodNamed? x = some theMethod := by decide +kernel
set_option maxRecDepth 65536 in
theorem w_hears : about1.hears theMethod below0 = true := by decide +kernel
set_option maxRecDepth 65536 in
theorem w_ripe : about1.ripe theMethod args0 below0 = true := by decide +kernel
theorem w_running : about1.status = .running := rfl
set_option maxRecDepth 65536 in
theorem w_room : about1.hasRoom e0.platform room_1 = true :=
  launch0.hasRoom_least _ room_1 (by decide +kernel) (by decide +kernel) (by decide +kernel) (by decide +kernel) (by decide +kernel) (by decide +kernel)
theorem allAtoms_all (ts : List Jvm.Cond) (a : Array Jvm.Value) (st : Jvm.State) : (allAtoms ts).before a st = ts.all (fun c => c.before a st) := by
  induction ts with
  | nil => rfl
  | cons c t ih =>
    show (Jvm.Cond.and c (allAtoms t)).before a st = _
    rw [Jvm.Cond.before_and, ih, List.all_cons]
def words1 : List Jvm.Cond := Jvm.Cond.code x code maxLocals ret :: tables_1
/-- a 'code' word, met by the world's own term for the bytes: nothing is compared byte by byte -/
theorem code_word {y : MethodName} {bytes : ByteArray} {mx : Nat} {rt : Option FieldType} {a : Array Value} {s : State} {m : MethodId} {meth : Method} {c : Code} (h1 : s.methodNamed? y = some m) (h2 : s.vm.method? m = some meth) (h3 : meth.code = some c) (h4 : c.code = bytes)
    (h5 : (c.maxLocals == mx && c.exceptionTable.isEmpty && decide (c.maxStack ≤ mostOperands) && decide (meth.sig.returnType = rt) && !meth.locks && decide (parseMethodDescriptor y.desc = some meth.sig)) = true) : (Jvm.Cond.code y bytes mx rt).before a s = true := by
  simp only [Bool.and_eq_true, beq_iff_eq, Bool.not_eq_true', decide_eq_true_eq] at h5
  obtain ⟨⟨⟨⟨⟨g1, g2⟩, g3⟩, g4⟩, g5⟩, g6⟩ := h5
  simp [Cond.before, Cond.holds, Cond.value, h1, h2, h3, h4, g1, g2, g3, g4, g5, g6]
def isCode : Jvm.Cond → Bool
  | .code _ _ _ _ => true
  | _ => false
theorem all_split {L : List Jvm.Cond} {P : Jvm.Cond → Bool} (h1 : L.all (fun c => isCode c || P c) = true) (h2 : ∀ c ∈ L.filter isCode, P c = true) : L.all P = true := by
  refine List.all_eq_true.mpr fun c hc => ?_
  have h := List.all_eq_true.mp h1 c hc
  rcases Bool.eq_false_or_eq_true (isCode c) with hi | hi
  · exact h2 c (List.mem_filter.mpr ⟨hc, hi⟩)
  · simpa [hi] using h
set_option maxRecDepth 65536 in
theorem w_c0 : (Jvm.Cond.code x code maxLocals ret).before args0 about1 = true := code_word (m := ⟨1, 2⟩) (meth := k1m2) (c := k1c2) (by decide +kernel) rfl rfl rfl (by decide +kernel)
set_option maxRecDepth 65536 in
theorem w_c1 : (Jvm.Cond.code ({ cls := "com/example/truerow/truerow/postgres/Type", name := "castsTo", desc := "(Lcom/example/truerow/truerow/postgres/Type;)Z" } : Jvm.MethodName) prog_39_method_9_code (3 : Nat) (Option.some Jvm.ClassFile.FieldType.boolean)).before args0 about1 = true := code_word (m := ⟨6, 0⟩) (meth := k6m0) (c := k6c0) (by decide +kernel) rfl rfl rfl (by decide +kernel)
set_option maxRecDepth 65536 in
theorem w_c2 : (Jvm.Cond.code ({ cls := "com/example/truerow/truerow/postgres/TypeCastsToPinLaw", name := "expected", desc := "(II)Z" } : Jvm.MethodName) method_2_code (6 : Nat) (Option.some Jvm.ClassFile.FieldType.boolean)).before args0 about1 = true := code_word (m := ⟨1, 1⟩) (meth := k1m1) (c := k1c1) (by decide +kernel) rfl rfl rfl (by decide +kernel)
def codes1 : List Jvm.Cond := [Jvm.Cond.code x code maxLocals ret, Jvm.Cond.code ({ cls := "com/example/truerow/truerow/postgres/Type", name := "castsTo", desc := "(Lcom/example/truerow/truerow/postgres/Type;)Z" } : Jvm.MethodName) prog_39_method_9_code (3 : Nat) (Option.some Jvm.ClassFile.FieldType.boolean), Jvm.Cond.code ({ cls := "com/example/truerow/truerow/postgres/TypeCastsToPinLaw", name := "expected", desc := "(II)Z" } : Jvm.MethodName) method_2_code (6 : Nat) (Option.some Jvm.ClassFile.FieldType.boolean)]
set_option maxRecDepth 65536 in
theorem codes_eq : words1.filter isCode = codes1 := rfl
theorem w_codes : ∀ c ∈ words1.filter isCode, c.before args0 about1 = true := by
  rw [codes_eq]
  intro c hc
  simp only [codes1, List.mem_cons, List.not_mem_nil, or_false] at hc
  rcases hc with rfl | rfl | rfl
  · exact w_c0
  · exact w_c1
  · exact w_c2
set_option maxRecDepth 65536 in
theorem w_t1 : words1.all (fun c => isCode c || c.before args0 about1) = true := by decide +kernel
theorem w_tables : (allAtoms (Jvm.Cond.code x code maxLocals ret :: tables_1)).before args0 about1 = true := by
  rw [allAtoms_all]
  show words1.all (fun c => c.before args0 about1) = true
  refine all_split ?_ w_codes
  rw [w_t1]
set_option maxRecDepth 65536 in
theorem w_case : (Jvm.Cond.and given_1 narrow_1).before args0 about1 = true := by decide +kernel
theorem w_applies : (headSpec (Jvm.Cond.code x code maxLocals ret :: tables_1) room_1).applies x e0.platform about1 = true :=
  (Spec.applies_iff w_frames).mpr ⟨w_running, w_runnable, w_alone, w_named, w_hears, w_ripe, w_room, w_tables⟩
theorem atStart : AtStart classFile x code maxLocals ret World_1 tables_1 room_1 Calls_1 rest_1 Pre_1 launch0 p0 e0 about1 theMethod args0 below0 :=
  ⟨lists_1, trivial, launch0.admits_env _ _ _, launch0.least_env, fairChoices_fair.cas, fairChoices_fair.clock, w_frames, w_args, w_heap, w_applies, trivial, trivial, w_case⟩
end start1
theorem witness_1 : WitnessClaimed_1 := ⟨start1.p0, start1.e0, start1.about1, start1.theMethod, start1.args0, start1.below0, start1.atStart⟩
end Jvm.Pilot.@@N@@
