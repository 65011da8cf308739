import JvmDerived
import JvmDerived.Pilot.@@N@@Statement
import JvmDerived.Pilot.@@N@@Code
set_option linter.unusedVariables false
set_option linter.unusedSimpArgs false
namespace Jvm.Pilot.@@N@@
open Jvm Jvm.ClassFile Sem Op Lib Jvm.Free Jvm.Stand Jvm.LawKit Jvm.RoadKit Bundle Jvm.Pilot.@@N@@.Jvm.D
section Own
variable {p : Program} {l : Launch} {e : Env} {R : Room} {s : State} {m : MethodId} {args : Array Value} {below : List Frame} {meth : Method} {c : Code} {T T' : State} {locs : List Loc} {cells slots : Nat}
/-- from the frame f on the run returns, and what it leaves is said by Q -/
def Go (p : Program) (e : Env) (below : List Frame) (s : State) (Q : Option Value → Heap → List Loc → Prop) (cs ss : Nat) (T : State) (f : JFrame) : Prop :=
  ∃ s₂ o, Steps p.tables e below (T.setTop f) s₂ ∧ s₂.status = .running ∧ Ended s₂ below o ∧ ∃ v L, o = .returned v ∧ Q v s₂.heap L ∧ FrameEnd s o s₂ L cs ss
theorem Go.st {Q : Option Value → Heap → List Loc → Prop} {cs ss : Nat} {f f' : JFrame} (k : ∀ t, Steps p.tables e below (T'.setTop f') t → Steps p.tables e below (T.setTop f) t) (h : Go p e below s Q cs ss T' f') : Go p e below s Q cs ss T f := by
  obtain ⟨s₂, o, h1, h2⟩ := h
  exact ⟨s₂, o, k _ h1, h2⟩
theorem Go.start {Q : Option Value → Heap → List Loc → Prop} {cs ss ml : Nat} {f : JFrame} (hf : entryFrame m args ml = f) (h : Go p e below s Q cs ss T f) :
    ∃ s₂ o, Steps p.tables e below (T.setTop (entryFrame m args ml)) s₂ ∧ s₂.status = .running ∧ Ended s₂ below o ∧ ∃ v L, o = .returned v ∧ Q v s₂.heap L ∧ FrameEnd s o s₂ L cs ss := by
  subst hf; exact h
theorem Go.fr {Q : Option Value → Heap → List Loc → Prop} {cs ss : Nat} {f f' : JFrame} (q : f = f') (h : Go p e below s Q cs ss T f') : Go p e below s Q cs ss T f := by
  subst q; exact h
theorem Go.ret {Q : Option Value → Heap → List Loc → Prop} {cs ss : Nat} {f : JFrame} (X : Stand p l e R s m args below meth c T locs cells slots) (hlk : meth.locks = false) {v : Option Value} (hv : meth.sig.returnType = none → v = none)
    (k : ∀ fs, (∀ (f : JFrame) (acts : List Action), f.method = m → f.locked = none → f.entered = [] → (doReturn e (T.setTop f) acts v).1 = T.setFrames fs) → Steps p.tables e below (T.setTop f) (T.setFrames fs))
    (hQ : Q v T.heap locs) (hc : cells ≤ cs) (hs : slots ≤ ss) : Go p e below s Q cs ss T f := by
  obtain ⟨fs, hr, hrun, hended, hW, hsame⟩ := X.leave (v := v) hv hlk
  exact ⟨_, _, k fs hr, hrun, hended, _, _, rfl, hQ, ⟨_, rfl⟩, hW, hsame.mono hc hs⟩
theorem own_fld {t : Term} {a : Addr} {C n d : String} {k : Int32} (ev : t.eval args s none [] s = some (.ref a)) (h : (Jvm.Cond.eq (.field t C n d) (.int k)).value args s none s [] = some true) : Fld s s.heap a C n d (.int k) := by
  have q : (Term.field t C n d).eval args s none [] s = s.fieldOf? a C n d := fld_at ev
  have q2 : (Term.field t C n d).eval args s none [] s = some (.int k) := Cond.eq_int (Cond.before_iff.mpr h) rfl
  exact Fld.start (q.symm.trans q2)
theorem own_sta {Z : State} {h h' : Heap} {C n d : String} {v : Value} {ws : List Addr} (F : Sta Z h C n d v) (K : Keep h h' ws) (q : ∀ x ∈ ws, ∃ c : Cell, h[x]? = some c ∧ ∀ q, c.vm ≠ .statics q) : Sta Z h' C n d v := by
  obtain ⟨cf, i, k, f, st, cell, h1, h2, h3, h4, h5, h6, h7⟩ := F
  refine ⟨cf, i, k, f, st, cell, h1, h2, h3, h4, K.2.1 st cell h5 fun hm => ?_, h6, h7⟩
  obtain ⟨c, hc, hn⟩ := q st hm
  cases hc.symm.trans h5
  cases hv : cell.vm <;> simp [hv, VmData.isStatics] at h6 hn
theorem own_bb (x : Int32) : x.toInt8.toInt32.toInt8.toInt32 = x.toInt8.toInt32 := by simp
theorem own_arvcell {Z : State} {h : Heap} {a : Addr} {k : ClassId} {ty : FieldType} {z : Int32} {vs : List Value} {dv : Value} (F : Arv Z h a k ty z vs dv) : ∃ c : Cell, h[a]? = some c ∧ ∀ q, c.vm ≠ .statics q := by
  obtain ⟨c, A, -⟩ := F
  exact ⟨c, A.1, fun q hq => by have := A.plain; simp [hq, VmData.isStatics] at this⟩
/-- a static that holds a reference or null -/
def StaR (Z : State) (h : Heap) (C n d : String) : Prop := Sta Z h C n d .null ∨ ∃ a, Sta Z h C n d (.ref a)
theorem StaR.ext {Z : State} {h h' : Heap} {C n d : String} (F : StaR Z h C n d) (E : Ext h h') : StaR Z h' C n d := F.imp (fun q => q.ext E) fun ⟨a, q⟩ => ⟨a, q.ext E⟩
theorem StaR.wr {Z : State} {h h' : Heap} {C n d : String} {a : Addr} {sl : Nat} {v : Value} (F : StaR Z h C n d) (W : Wr h h' a sl v) : StaR Z h' C n d := F.imp (fun q => q.wr W) fun ⟨a, q⟩ => ⟨a, q.wr W⟩
theorem own_staR {Z : State} {h h' : Heap} {C n d : String} {ws : List Addr} (F : StaR Z h C n d) (K : Keep h h' ws) (q : ∀ x ∈ ws, ∃ c : Cell, h[x]? = some c ∧ ∀ q, c.vm ≠ .statics q) : StaR Z h' C n d := F.imp (fun r => own_sta r K q) fun ⟨a, r⟩ => ⟨a, own_sta r K q⟩
end Own
theorem pn_com_example_gatefold_gatefold_Scope : plainName "com/example/gatefold/gatefold/Scope" = true := by first | (simp [plainName, overriddenIn]; done) | decide +kernel
theorem pd_0 : parseMethodDescriptor "(Z)Z" = some ⟨[.boolean], some .boolean⟩ := by decide +kernel
theorem pn_com_example_gatefold_gatefold_ScopeReachesPinLaw : plainName "com/example/gatefold/gatefold/ScopeReachesPinLaw" = true := by first | (simp [plainName, overriddenIn]; done) | decide +kernel
theorem own_rem (x k : Int32) (hk : 0 < k.toInt) : 0 ≤ ((x &&& 2147483647) % k).toInt ∧ ((x &&& 2147483647) % k).toInt < k.toInt := by
  have h := c_mask x 2147483647 31 (by decide) (by decide)
  have h0 : 0 ≤ (x &&& 2147483647).toInt := by rw [h]; omega
  have h2 := (c_iremV (x &&& 2147483647) k).1 h0 hk
  exact ⟨h2.1, h2.2.1⟩
theorem own_i32 {x : Int32} {k : Int} (h : x.toInt = k) (y : Int32) (hy : y.toInt = k) : x = y := Int32.toInt_inj.mp (h.trans hy.symm)
theorem own_mod3 (x : Int32) : (x &&& 2147483647) % 3 = 0 ∨ (x &&& 2147483647) % 3 = 1 ∨ (x &&& 2147483647) % 3 = 2 := by
  have h := own_rem x 3 (by decide)
  have h3 : (3 : Int32).toInt = 3 := by decide
  rw [h3] at h
  generalize (x &&& 2147483647) % 3 = y at h ⊢
  have : y.toInt = 0 ∨ y.toInt = 1 ∨ y.toInt = 2 := by omega
  rcases this with h | h | h
  · exact Or.inl (own_i32 h 0 (by decide))
  · exact Or.inr (Or.inl (own_i32 h 1 (by decide)))
  · exact Or.inr (Or.inr ((own_i32 h 2 (by decide))))
theorem d1_0 : decode prog_21_method_6_code 0 = .ok (.iload_n 1, 1) := by decide +kernel
theorem d1_1 : decode prog_21_method_6_code 1 = .ok (.ifCond .eq 18, 3) := by decide +kernel
theorem d1_4 : decode prog_21_method_6_code 4 = .ok (.aload_n 0, 1) := by decide +kernel
theorem d1_5 : decode prog_21_method_6_code 5 = .ok (.getstatic 10, 3) := by decide +kernel
theorem d1_8 : decode prog_21_method_6_code 8 = .ok (.if_acmp .eq 7, 3) := by decide +kernel
theorem d1_11 : decode prog_21_method_6_code 11 = .ok (.iconst 1, 1) := by decide +kernel
theorem d1_12 : decode prog_21_method_6_code 12 = .ok (.goto 19, 3) := by decide +kernel
theorem d1_15 : decode prog_21_method_6_code 15 = .ok (.iconst 0, 1) := by decide +kernel
theorem d1_16 : decode prog_21_method_6_code 16 = .ok (.goto 15, 3) := by decide +kernel
theorem d1_19 : decode prog_21_method_6_code 19 = .ok (.aload_n 0, 1) := by decide +kernel
theorem d1_20 : decode prog_21_method_6_code 20 = .ok (.getstatic 7, 3) := by decide +kernel
theorem d1_23 : decode prog_21_method_6_code 23 = .ok (.if_acmp .eq 7, 3) := by decide +kernel
theorem d1_26 : decode prog_21_method_6_code 26 = .ok (.iconst 1, 1) := by decide +kernel
theorem d1_27 : decode prog_21_method_6_code 27 = .ok (.goto 4, 3) := by decide +kernel
theorem d1_30 : decode prog_21_method_6_code 30 = .ok (.iconst 0, 1) := by decide +kernel
theorem d1_31 : decode prog_21_method_6_code 31 = .ok (.ireturn, 1) := by decide +kernel
def val_1 (o0 : Addr) (p1 : Int32) (w_BELOW : Addr) (w_HERE : Addr) : Int32 := (if p1 = (0 : Int32) then (if o0 = w_HERE then (0 : Int32) else (1 : Int32)) else (if o0 = w_BELOW then (0 : Int32) else (1 : Int32)))
theorem ef_1 (m : MethodId) (o0 : Addr) (p1 : Int32) : entryFrame m #[(.ref o0), (.int p1)] 2 = mkF m 0 #[.val (.ref o0), .val (.int p1)] [] := by first | (simp [entryFrame, mkF, argsToLocals, Value.category]; done) | rfl
def Q1 (Z : State) (o0 : Addr) (p1 : Int32) (w_BELOW : Addr) (w_HERE : Addr) (h0 : Heap) (n0 : Nat) (v : Option Value) (h : Heap) (L : List Loc) : Prop := v = some (.int (val_1 o0 p1 w_BELOW w_HERE)) ∧ Fr n0 L ∧ h = h0
set_option maxRecDepth 65536 in
set_option maxHeartbeats 40000000 in
theorem rm1 (l : Launch) (Z : State) (a0 : Array Value) (hw : ∀ d ∈ tables_1, d.before a0 Z = true) (ws : List Jvm.Cond) (o0 : Addr) (p1 : Int32) (w_BELOW : Addr) (w_HERE : Addr) (h0 : Heap) (n0 : Nat) (Z0 : n0 ≤ h0.size) (S_BELOW : Sta Z h0 "com/example/gatefold/gatefold/Scope" "BELOW" "Lcom/example/gatefold/gatefold/Scope;" (.ref w_BELOW)) (S_HERE : Sta Z h0 "com/example/gatefold/gatefold/Scope" "HERE" "Lcom/example/gatefold/gatefold/Scope;" (.ref w_HERE)) :
    MetFree l (⟨"com/example/gatefold/gatefold/Scope", "reaches", "(Z)Z"⟩ : MethodName) (head1 (Jvm.Cond.code (⟨"com/example/gatefold/gatefold/Scope", "reaches", "(Z)Z"⟩ : MethodName) prog_21_method_6_code 2 (some .boolean) :: ws) ({ frames := 0, cells := 0, slots := 0, locals := 0 } : Room)) (fun a U => a = #[(.ref o0), (.int p1)] ∧ Z.Warmed39 U.vm ∧ U.heap = h0) (fun _ _ _ _ _ => True) (fun _ U o U' => ∃ v L, o = .returned v ∧ Q1 Z o0 p1 w_BELOW w_HERE h0 n0 v U'.heap L ∧ FrameEnd U o U' L ({ frames := 0, cells := 0, slots := 0, locals := 0 } : Room).cells ({ frames := 0, cells := 0, slots := 0, locals := 0 } : Room).slots) := by
  refine MetFree.of_bodySF (plainFor_of_name pn_com_example_gatefold_gatefold_Scope) hisR ?_
  intro p e s m args below meth c s₁ Bd hml0 hP hK
  obtain ⟨rfl, hZ, hh⟩ := hP
  have hx := Bd.exec
  have hby := Bd.bytes
  have hlk : meth.locks = false := BodyLoose.notSynchronized Bd
  have hret := Bd.returns
  have hml : c.maxLocals = 2 := hml0
  have hown : s.vm.findClass "com/example/gatefold/gatefold/Scope" = some m.cls := findClass_of_methodNamed Bd.named
  have hnm := (name_of_methodNamed Bd.named Bd.method).1
  have X0 : Stand p l e ({ frames := 0, cells := 0, slots := 0, locals := 0 } : Room) s m #[(.ref o0), (.int p1)] below meth c s₁ [] 0 0 := Stand.of_body Bd
  have e0 : s₁.heap = h0 := by rw [← hh, Bd.state]; rfl
  have N0 := Fr.nil n0
  refine Go.start (Q := Q1 Z o0 p1 w_BELOW w_HERE h0 n0) (ef_1 m o0 p1) ?_
  show Go _ _ _ _ _ _ _ s₁ (mkF m 0 #[.val (.ref o0), .val (.int p1)] [])
  refine Go.st (fun _ k => XS.iloadN X0.here hx rfl (hb hby d1_0) rfl k) ?_
  show Go _ _ _ _ _ _ _ s₁ (mkF m 1 #[.val (.ref o0), .val (.int p1)] [(.int p1)])
  by_cases hc1 : p1 = (0 : Int32)
  · refine Go.st (fun _ k => XS.ifYes X0.here hx rfl (pc0 := 1) (pc' := 19) rfl (hb hby d1_1) rfl ((if0 _ _).trans (teq hc1).1) (by decide) (by decide) k) ?_
    show Go _ _ _ _ _ _ _ s₁ (mkF m 19 #[.val (.ref o0), .val (.int p1)] [])
    refine Go.st (fun _ k => XS.aloadN X0.here hx rfl (hb hby d1_19) rfl rfl k) ?_
    show Go _ _ _ _ _ _ _ s₁ (mkF m 20 #[.val (.ref o0), .val (.int p1)] [(.ref o0)])
    obtain ⟨T2, X2, e2, st2⟩ := getS2 X0 hx hZ hown (host := "") (Or.inl (hw _ (List.mem_of_getElem? (i := 12) rfl))) Via.refl e0 S_HERE (g := (mkF m 20 #[.val (.ref o0), .val (.int p1)] [(.ref o0)])) rfl (hb hby d1_20)
    refine Go.st st2 ?_
    show Go _ _ _ _ _ _ _ T2 (mkF m 23 #[.val (.ref o0), .val (.int p1)] [(.ref w_HERE), (.ref o0)])
    by_cases ha3 : o0 = w_HERE
    · refine Go.st (fun _ k => Jvm.RoadKit.acmp (g := (mkF m 23 #[.val (.ref o0), .val (.int p1)] [(.ref w_HERE), (.ref o0)])) X2 hx rfl rfl rfl (pc0 := 23) (pc' := 30) (same := true) rfl (hb hby d1_23) rfl (decide_eq_true (congrArg Value.ref ha3)) (by decide) (by decide) k) ?_
      show Go _ _ _ _ _ _ _ T2 (mkF m 30 #[.val (.ref o0), .val (.int p1)] [])
      refine Go.st (fun _ k => XS.iconst X2.here hx rfl (hb hby d1_30) k) ?_
      show Go _ _ _ _ _ _ _ T2 (mkF m 31 #[.val (.ref o0), .val (.int p1)] [(.int (0 : Int32))])
      refine Go.ret X2 hlk (v := some (.int (0 : Int32))) (fun h => by rw [hret] at h; cases h) (fun fs hr => retN X2 hx (t := .boolean) hret (by simp) (hb hby d1_31) hr) ?_ (by decide) (by decide)
      show Q1 Z o0 p1 w_BELOW w_HERE h0 n0 (some (.int (0 : Int32))) T2.heap _
      rw [e2]
      refine ⟨?_, N0, rfl⟩
      unfold val_1
      first | rfl | rw [if_pos hc1, if_pos ha3]
    · refine Go.st (fun _ k => Jvm.RoadKit.acmp (g := (mkF m 23 #[.val (.ref o0), .val (.int p1)] [(.ref w_HERE), (.ref o0)])) X2 hx rfl rfl rfl (pc0 := 23) (pc' := 26) (same := false) rfl (hb hby d1_23) rfl (decide_eq_false fun q => ha3 (Value.ref.inj q)) (by decide) (by decide) k) ?_
      show Go _ _ _ _ _ _ _ T2 (mkF m 26 #[.val (.ref o0), .val (.int p1)] [])
      refine Go.st (fun _ k => XS.iconst X2.here hx rfl (hb hby d1_26) k) ?_
      show Go _ _ _ _ _ _ _ T2 (mkF m 27 #[.val (.ref o0), .val (.int p1)] [(.int (1 : Int32))])
      refine Go.st (fun _ k => XS.goto X2.here hx rfl (pc0 := 27) (pc' := 31) rfl (hb hby d1_27) (by decide) (by decide) k) ?_
      show Go _ _ _ _ _ _ _ T2 (mkF m 31 #[.val (.ref o0), .val (.int p1)] [(.int (1 : Int32))])
      refine Go.ret X2 hlk (v := some (.int (1 : Int32))) (fun h => by rw [hret] at h; cases h) (fun fs hr => retN X2 hx (t := .boolean) hret (by simp) (hb hby d1_31) hr) ?_ (by decide) (by decide)
      show Q1 Z o0 p1 w_BELOW w_HERE h0 n0 (some (.int (1 : Int32))) T2.heap _
      rw [e2]
      refine ⟨?_, N0, rfl⟩
      unfold val_1
      first | rfl | rw [if_pos hc1, if_neg ha3]
  · refine Go.st (fun _ k => XS.ifNo X0.here hx rfl (hb hby d1_1) rfl ((if0 _ _).trans (feq hc1).1) k) ?_
    show Go _ _ _ _ _ _ _ s₁ (mkF m 4 #[.val (.ref o0), .val (.int p1)] [])
    refine Go.st (fun _ k => XS.aloadN X0.here hx rfl (hb hby d1_4) rfl rfl k) ?_
    show Go _ _ _ _ _ _ _ s₁ (mkF m 5 #[.val (.ref o0), .val (.int p1)] [(.ref o0)])
    obtain ⟨T4, X4, e4, st4⟩ := getS2 X0 hx hZ hown (host := "") (Or.inl (hw _ (List.mem_of_getElem? (i := 9) rfl))) Via.refl e0 S_BELOW (g := (mkF m 5 #[.val (.ref o0), .val (.int p1)] [(.ref o0)])) rfl (hb hby d1_5)
    refine Go.st st4 ?_
    show Go _ _ _ _ _ _ _ T4 (mkF m 8 #[.val (.ref o0), .val (.int p1)] [(.ref w_BELOW), (.ref o0)])
    by_cases ha5 : o0 = w_BELOW
    · refine Go.st (fun _ k => Jvm.RoadKit.acmp (g := (mkF m 8 #[.val (.ref o0), .val (.int p1)] [(.ref w_BELOW), (.ref o0)])) X4 hx rfl rfl rfl (pc0 := 8) (pc' := 15) (same := true) rfl (hb hby d1_8) rfl (decide_eq_true (congrArg Value.ref ha5)) (by decide) (by decide) k) ?_
      show Go _ _ _ _ _ _ _ T4 (mkF m 15 #[.val (.ref o0), .val (.int p1)] [])
      refine Go.st (fun _ k => XS.iconst X4.here hx rfl (hb hby d1_15) k) ?_
      show Go _ _ _ _ _ _ _ T4 (mkF m 16 #[.val (.ref o0), .val (.int p1)] [(.int (0 : Int32))])
      refine Go.st (fun _ k => XS.goto X4.here hx rfl (pc0 := 16) (pc' := 31) rfl (hb hby d1_16) (by decide) (by decide) k) ?_
      show Go _ _ _ _ _ _ _ T4 (mkF m 31 #[.val (.ref o0), .val (.int p1)] [(.int (0 : Int32))])
      refine Go.ret X4 hlk (v := some (.int (0 : Int32))) (fun h => by rw [hret] at h; cases h) (fun fs hr => retN X4 hx (t := .boolean) hret (by simp) (hb hby d1_31) hr) ?_ (by decide) (by decide)
      show Q1 Z o0 p1 w_BELOW w_HERE h0 n0 (some (.int (0 : Int32))) T4.heap _
      rw [e4]
      refine ⟨?_, N0, rfl⟩
      unfold val_1
      first | rfl | rw [if_neg hc1, if_pos ha5]
    · refine Go.st (fun _ k => Jvm.RoadKit.acmp (g := (mkF m 8 #[.val (.ref o0), .val (.int p1)] [(.ref w_BELOW), (.ref o0)])) X4 hx rfl rfl rfl (pc0 := 8) (pc' := 11) (same := false) rfl (hb hby d1_8) rfl (decide_eq_false fun q => ha5 (Value.ref.inj q)) (by decide) (by decide) k) ?_
      show Go _ _ _ _ _ _ _ T4 (mkF m 11 #[.val (.ref o0), .val (.int p1)] [])
      refine Go.st (fun _ k => XS.iconst X4.here hx rfl (hb hby d1_11) k) ?_
      show Go _ _ _ _ _ _ _ T4 (mkF m 12 #[.val (.ref o0), .val (.int p1)] [(.int (1 : Int32))])
      refine Go.st (fun _ k => XS.goto X4.here hx rfl (pc0 := 12) (pc' := 31) rfl (hb hby d1_12) (by decide) (by decide) k) ?_
      show Go _ _ _ _ _ _ _ T4 (mkF m 31 #[.val (.ref o0), .val (.int p1)] [(.int (1 : Int32))])
      refine Go.ret X4 hlk (v := some (.int (1 : Int32))) (fun h => by rw [hret] at h; cases h) (fun fs hr => retN X4 hx (t := .boolean) hret (by simp) (hb hby d1_31) hr) ?_ (by decide) (by decide)
      show Q1 Z o0 p1 w_BELOW w_HERE h0 n0 (some (.int (1 : Int32))) T4.heap _
      rw [e4]
      refine ⟨?_, N0, rfl⟩
      unfold val_1
      first | rfl | rw [if_neg hc1, if_neg ha5]
theorem ef_0 (m : MethodId) (p0 : Int32) (p1 : Int32) : entryFrame m #[(.int p0), (.int p1)] maxLocals = mkF m 0 #[.val (.int p0), .val (.int p1), .unset, .unset, .unset, .unset] [] := by first | (simp [entryFrame, mkF, argsToLocals, Value.category, maxLocals]; done) | rfl
def Q0 (Z : State) (p0 : Int32) (p1 : Int32) (w_TREE : Addr) (w_BELOW : Addr) (w_HERE : Addr) (h0 : Heap) (n0 : Nat) (v : Option Value) (h : Heap) (L : List Loc) : Prop := v = some (.int 1) ∧ Fr n0 L
set_option maxRecDepth 65536 in
set_option maxHeartbeats 40000000 in
theorem rm0 (l : Launch) (Z : State) (a0 : Array Value) (hw : ∀ d ∈ tables_1, d.before a0 Z = true) (ws : List Jvm.Cond) (p0 : Int32) (p1 : Int32) (w_TREE : Addr) (w_BELOW : Addr) (w_HERE : Addr) (h0 : Heap) (n0 : Nat) (Z0 : n0 ≤ h0.size) (S_TREE : Sta Z h0 "com/example/gatefold/gatefold/Scope" "TREE" "Lcom/example/gatefold/gatefold/Scope;" (.ref w_TREE)) (E_TREE : Exa Z h0 w_TREE "com/example/gatefold/gatefold/Scope") (S_BELOW : Sta Z h0 "com/example/gatefold/gatefold/Scope" "BELOW" "Lcom/example/gatefold/gatefold/Scope;" (.ref w_BELOW)) (E_BELOW : Exa Z h0 w_BELOW "com/example/gatefold/gatefold/Scope") (F_TREE_ordinal : Fld Z h0 w_TREE "java/lang/Enum" "ordinal" "I" (.int (0 : Int32))) (F_BELOW_ordinal : Fld Z h0 w_BELOW "java/lang/Enum" "ordinal" "I" (.int (2 : Int32))) (S_HERE : Sta Z h0 "com/example/gatefold/gatefold/Scope" "HERE" "Lcom/example/gatefold/gatefold/Scope;" (.ref w_HERE)) (E_HERE : Exa Z h0 w_HERE "com/example/gatefold/gatefold/Scope") (F_HERE_ordinal : Fld Z h0 w_HERE "java/lang/Enum" "ordinal" "I" (.int (1 : Int32))) :
    MetFree l x (head1 (Jvm.Cond.code x code maxLocals ret :: ws) room_1) (fun a U => a = #[(.int p0), (.int p1)] ∧ Z.Warmed39 U.vm ∧ U.heap = h0) (fun _ _ _ _ _ => True) (fun _ U o U' => ∃ v L, o = .returned v ∧ Q0 Z p0 p1 w_TREE w_BELOW w_HERE h0 n0 v U'.heap L ∧ FrameEnd U o U' L room_1.cells room_1.slots) := by
  refine MetFree.of_bodySF (plainFor_of_name pn_com_example_gatefold_gatefold_ScopeReachesPinLaw) hisR ?_
  intro p e s m args below meth c s₁ Bd hml0 hP hK
  obtain ⟨rfl, hZ, hh⟩ := hP
  have hx := Bd.exec
  have hby := Bd.bytes
  have hlk : meth.locks = false := BodyLoose.notSynchronized Bd
  have hret := Bd.returns
  have hml : c.maxLocals = 6 := hml0
  have hown : s.vm.findClass "com/example/gatefold/gatefold/ScopeReachesPinLaw" = some m.cls := findClass_of_methodNamed Bd.named
  have hnm := (name_of_methodNamed Bd.named Bd.method).1
  have X0 : Stand p l e room_1 s m #[(.int p0), (.int p1)] below meth c s₁ [] 0 0 := Stand.of_body Bd
  have e0 : s₁.heap = h0 := by rw [← hh, Bd.state]; rfl
  have N0 := Fr.nil n0
  refine Go.start (Q := Q0 Z p0 p1 w_TREE w_BELOW w_HERE h0 n0) (ef_0 m p0 p1) ?_
  have ne_w_TREE_w_BELOW : w_TREE ≠ w_BELOW := Fld.ne F_TREE_ordinal F_BELOW_ordinal (by simp)
  have ne_w_TREE_w_HERE : w_TREE ≠ w_HERE := Fld.ne F_TREE_ordinal F_HERE_ordinal (by simp)
  have ne_w_BELOW_w_HERE : w_BELOW ≠ w_HERE := Fld.ne F_BELOW_ordinal F_HERE_ordinal (by simp)
  show Go _ _ _ _ _ _ _ s₁ (mkF m 0 #[.val (.int p0), .val (.int p1), .unset, .unset, .unset, .unset] [])
  refine Go.st (fun _ k => XS.iloadN X0.here hx rfl (hb hby at_0) rfl k) ?_
  show Go _ _ _ _ _ _ _ s₁ (mkF m 1 #[.val (.int p0), .val (.int p1), .unset, .unset, .unset, .unset] [(.int p0)])
  refine Go.st (fun _ k => Jvm.Stand.ldcI X0 hx hown (mvT hZ (hw _ (List.mem_of_getElem? (i := 0) rfl))) rfl (hb hby at_1) k) ?_
  show Go _ _ _ _ _ _ _ s₁ (mkF m 3 #[.val (.int p0), .val (.int p1), .unset, .unset, .unset, .unset] [(.int (2147483647 : Int32)), (.int p0)])
  refine Go.st (fun _ k => XS.iand X0.here hx rfl (hb hby at_3) rfl k) ?_
  show Go _ _ _ _ _ _ _ s₁ (mkF m 4 #[.val (.int p0), .val (.int p1), .unset, .unset, .unset, .unset] [(.int (p0 &&& (2147483647 : Int32)))])
  refine Go.st (fun _ k => XS.iconst X0.here hx rfl (hb hby at_4) k) ?_
  show Go _ _ _ _ _ _ _ s₁ (mkF m 5 #[.val (.int p0), .val (.int p1), .unset, .unset, .unset, .unset] [(.int (3 : Int32)), (.int (p0 &&& (2147483647 : Int32)))])
  refine Go.st (fun _ k => iremM (g := (mkF m 5 #[.val (.int p0), .val (.int p1), .unset, .unset, .unset, .unset] [(.int (3 : Int32)), (.int (p0 &&& (2147483647 : Int32)))])) X0 hx rfl (hb hby at_5) rfl (by decide) k) ?_
  show Go _ _ _ _ _ _ _ s₁ (mkF m 6 #[.val (.int p0), .val (.int p1), .unset, .unset, .unset, .unset] [(.int ((p0 &&& (2147483647 : Int32)) % (3 : Int32)))])
  rcases own_mod3 p0 with hk1 | hk1 | hk1
  · rw [hk1]
    show Go _ _ _ _ _ _ _ s₁ (mkF m 6 #[.val (.int p0), .val (.int p1), .unset, .unset, .unset, .unset] [(.int (0 : Int32))])
    refine Go.st (fun _ k => XS.istoreN X0.here hx rfl (hb hby at_6) rfl (l' := #[.val (.int p0), .val (.int p1), .val (.int (0 : Int32)), .unset, .unset, .unset]) rfl k) ?_
    show Go _ _ _ _ _ _ _ s₁ (mkF m 7 #[.val (.int p0), .val (.int p1), .val (.int (0 : Int32)), .unset, .unset, .unset] [])
    refine Go.st (fun _ k => XS.iloadN X0.here hx rfl (hb hby at_7) rfl k) ?_
    show Go _ _ _ _ _ _ _ s₁ (mkF m 8 #[.val (.int p0), .val (.int p1), .val (.int (0 : Int32)), .unset, .unset, .unset] [(.int p1)])
    refine Go.st (fun _ k => XS.iconst X0.here hx rfl (hb hby at_8) k) ?_
    show Go _ _ _ _ _ _ _ s₁ (mkF m 9 #[.val (.int p0), .val (.int p1), .val (.int (0 : Int32)), .unset, .unset, .unset] [(.int (1 : Int32)), (.int p1)])
    refine Go.st (fun _ k => XS.iand X0.here hx rfl (hb hby at_9) rfl k) ?_
    show Go _ _ _ _ _ _ _ s₁ (mkF m 10 #[.val (.int p0), .val (.int p1), .val (.int (0 : Int32)), .unset, .unset, .unset] [(.int (p1 &&& (1 : Int32)))])
    rcases and_one p1 with hk2 | hk2
    · rw [hk2]
      show Go _ _ _ _ _ _ _ s₁ (mkF m 10 #[.val (.int p0), .val (.int p1), .val (.int (0 : Int32)), .unset, .unset, .unset] [(.int (0 : Int32))])
      refine Go.st (fun _ k => XS.ifYes X0.here hx rfl (pc0 := 10) (pc' := 17) rfl (hb hby at_10) rfl ((if0 _ _).trans (teq (by decide : (0 : Int32) = (0 : Int32))).1) (by decide) (by decide) k) ?_
      show Go _ _ _ _ _ _ _ s₁ (mkF m 17 #[.val (.int p0), .val (.int p1), .val (.int (0 : Int32)), .unset, .unset, .unset] [])
      refine Go.st (fun _ k => XS.iconst X0.here hx rfl (hb hby at_17) k) ?_
      show Go _ _ _ _ _ _ _ s₁ (mkF m 18 #[.val (.int p0), .val (.int p1), .val (.int (0 : Int32)), .unset, .unset, .unset] [(.int (0 : Int32))])
      refine Go.st (fun _ k => XS.istoreN X0.here hx rfl (hb hby at_18) rfl (l' := #[.val (.int p0), .val (.int p1), .val (.int (0 : Int32)), .val (.int (0 : Int32)), .unset, .unset]) rfl k) ?_
      show Go _ _ _ _ _ _ _ s₁ (mkF m 19 #[.val (.int p0), .val (.int p1), .val (.int (0 : Int32)), .val (.int (0 : Int32)), .unset, .unset] [])
      refine Go.st (fun _ k => XS.iloadN X0.here hx rfl (hb hby at_19) rfl k) ?_
      show Go _ _ _ _ _ _ _ s₁ (mkF m 20 #[.val (.int p0), .val (.int p1), .val (.int (0 : Int32)), .val (.int (0 : Int32)), .unset, .unset] [(.int (0 : Int32))])
      refine Go.st (fun _ k => XS.ifNo X0.here hx rfl (hb hby at_20) rfl ((if0 _ _).trans (teq (by decide : (0 : Int32) = (0 : Int32))).2) k) ?_
      show Go _ _ _ _ _ _ _ s₁ (mkF m 23 #[.val (.int p0), .val (.int p1), .val (.int (0 : Int32)), .val (.int (0 : Int32)), .unset, .unset] [])
      obtain ⟨T3, X3, e3, st3⟩ := getS2 X0 hx hZ hown (host := "") (Or.inl (hw _ (List.mem_of_getElem? (i := 1) rfl))) Via.refl e0 S_TREE (g := (mkF m 23 #[.val (.int p0), .val (.int p1), .val (.int (0 : Int32)), .val (.int (0 : Int32)), .unset, .unset] [])) rfl (hb hby at_23)
      refine Go.st st3 ?_
      show Go _ _ _ _ _ _ _ T3 (mkF m 26 #[.val (.int p0), .val (.int p1), .val (.int (0 : Int32)), .val (.int (0 : Int32)), .unset, .unset] [(.ref w_TREE)])
      refine Go.st (fun _ k => XS.astore X3.here hx rfl (hb hby at_26) rfl rfl (l' := #[.val (.int p0), .val (.int p1), .val (.int (0 : Int32)), .val (.int (0 : Int32)), .val (.ref w_TREE), .unset]) rfl k) ?_
      show Go _ _ _ _ _ _ _ T3 (mkF m 28 #[.val (.int p0), .val (.int p1), .val (.int (0 : Int32)), .val (.int (0 : Int32)), .val (.ref w_TREE), .unset] [])
      refine Go.st (fun _ k => XS.goto X3.here hx rfl (pc0 := 28) (pc' := 49) rfl (hb hby at_28) (by decide) (by decide) k) ?_
      show Go _ _ _ _ _ _ _ T3 (mkF m 49 #[.val (.int p0), .val (.int p1), .val (.int (0 : Int32)), .val (.int (0 : Int32)), .val (.ref w_TREE), .unset] [])
      refine Go.st (fun _ k => XS.iloadN X3.here hx rfl (hb hby at_49) rfl k) ?_
      show Go _ _ _ _ _ _ _ T3 (mkF m 50 #[.val (.int p0), .val (.int p1), .val (.int (0 : Int32)), .val (.int (0 : Int32)), .val (.ref w_TREE), .unset] [(.int (0 : Int32))])
      refine Go.st (fun _ k => XS.ifNo X3.here hx rfl (hb hby at_50) rfl ((if0 _ _).trans (teq (by decide : (0 : Int32) = (0 : Int32))).2) k) ?_
      show Go _ _ _ _ _ _ _ T3 (mkF m 53 #[.val (.int p0), .val (.int p1), .val (.int (0 : Int32)), .val (.int (0 : Int32)), .val (.ref w_TREE), .unset] [])
      refine Go.st (fun _ k => XS.iconst X3.here hx rfl (hb hby at_53) k) ?_
      show Go _ _ _ _ _ _ _ T3 (mkF m 54 #[.val (.int p0), .val (.int p1), .val (.int (0 : Int32)), .val (.int (0 : Int32)), .val (.ref w_TREE), .unset] [(.int (1 : Int32))])
      refine Go.st (fun _ k => XS.istore X3.here hx rfl (hb hby at_54) rfl (l' := #[.val (.int p0), .val (.int p1), .val (.int (0 : Int32)), .val (.int (0 : Int32)), .val (.ref w_TREE), .val (.int (1 : Int32))]) rfl k) ?_
      show Go _ _ _ _ _ _ _ T3 (mkF m 56 #[.val (.int p0), .val (.int p1), .val (.int (0 : Int32)), .val (.int (0 : Int32)), .val (.ref w_TREE), .val (.int (1 : Int32))] [])
      refine Go.st (fun _ k => XS.goto X3.here hx rfl (pc0 := 56) (pc' := 81) rfl (hb hby at_56) (by decide) (by decide) k) ?_
      show Go _ _ _ _ _ _ _ T3 (mkF m 81 #[.val (.int p0), .val (.int p1), .val (.int (0 : Int32)), .val (.int (0 : Int32)), .val (.ref w_TREE), .val (.int (1 : Int32))] [])
      refine Go.st (fun _ k => XS.aload X3.here hx rfl (hb hby at_81) rfl rfl k) ?_
      show Go _ _ _ _ _ _ _ T3 (mkF m 83 #[.val (.int p0), .val (.int p1), .val (.int (0 : Int32)), .val (.int (0 : Int32)), .val (.ref w_TREE), .val (.int (1 : Int32))] [(.ref w_TREE)])
      refine Go.st (fun _ k => XS.iloadN X3.here hx rfl (hb hby at_83) rfl k) ?_
      show Go _ _ _ _ _ _ _ T3 (mkF m 84 #[.val (.int p0), .val (.int p1), .val (.int (0 : Int32)), .val (.int (0 : Int32)), .val (.ref w_TREE), .val (.int (1 : Int32))] [(.int (0 : Int32)), (.ref w_TREE)])
      obtain ⟨cq4, kq4, q4a, q4b, q4c⟩ := isOf hZ e3 E_TREE
      obtain ⟨_, _, ⟨T4, L4, k4, n4⟩, -, X4, ⟨Lc4, hQ4, l4, y4, z4⟩, st4⟩ := X3.virtualBack hx (y := (⟨"com/example/gatefold/gatefold/Scope", "reaches", "(Z)Z"⟩ : MethodName)) (z := (⟨"com/example/gatefold/gatefold/Scope", "reaches", "(Z)Z"⟩ : MethodName)) hown (mvT hZ (hw _ (List.mem_of_getElem? (i := 4) rfl))) (mvT hZ (hw _ (List.mem_of_getElem? (i := 5) rfl))) (notFace_of_selects (args := #[]) (mvT hZ (hw _ (List.mem_of_getElem? (i := 7) rfl)))) (mvT hZ (hw _ (List.mem_of_getElem? (i := 7) rfl))) (mvT hZ (hw _ (List.mem_of_getElem? (i := 6) rfl))) (by decide) (backOf (W := 0) (rm1 l Z a0 hw [] w_TREE (0 : Int32) w_BELOW w_HERE h0 n0 Z0 S_BELOW S_HERE) hZ (hw _ (List.mem_of_getElem? (i := 8) rfl)) (hw _ (List.mem_of_getElem? (i := 2) rfl)) (by decide) (by decide)) q4a q4c (g := (mkF m 84 #[.val (.int p0), .val (.int p1), .val (.int (0 : Int32)), .val (.int (0 : Int32)), .val (.ref w_TREE), .val (.int (1 : Int32))] [(.int (0 : Int32)), (.ref w_TREE)])) rfl (by rw [hml]; rfl) (Steps.refl _) (argsL := [(.int (0 : Int32))]) (rest := []) (lenOf pd_0 rfl) rfl (by show 2 * 0 + _ ≤ _; exact Nat.le_of_eq rfl) (hb hby at_84) (fun _ _ => ⟨rfl, e3, (by decide : 0 + 0 ≤ _), (by decide : 0 + 0 ≤ _)⟩)
      dsimp only [Pt.U, Pt.locs, Pt.cells, Pt.slots] at X4 l4 y4 z4 st4 hQ4
      subst l4 y4 z4
      obtain ⟨rfl, N4q, e4⟩ := hQ4
      have N4 := Fr.app N0 N4q
      refine Go.st (fun _ k => st4.trans k) ?_
      show Go _ _ _ _ _ _ _ T4 (mkF m 87 #[.val (.int p0), .val (.int p1), .val (.int (0 : Int32)), .val (.int (0 : Int32)), .val (.ref w_TREE), .val (.int (1 : Int32))] [(.int (val_1 w_TREE (0 : Int32) w_BELOW w_HERE))])
      rw [show (val_1 w_TREE (0 : Int32) w_BELOW w_HERE) = (1 : Int32) from by unfold val_1; rw [if_pos (by decide +kernel : (0 : Int32) = (0 : Int32)), if_neg ne_w_TREE_w_HERE]]
      show Go _ _ _ _ _ _ _ T4 (mkF m 87 #[.val (.int p0), .val (.int p1), .val (.int (0 : Int32)), .val (.int (0 : Int32)), .val (.ref w_TREE), .val (.int (1 : Int32))] [(.int (1 : Int32))])
      refine Go.st (fun _ k => XS.iload X4.here hx rfl (hb hby at_87) rfl k) ?_
      show Go _ _ _ _ _ _ _ T4 (mkF m 89 #[.val (.int p0), .val (.int p1), .val (.int (0 : Int32)), .val (.int (0 : Int32)), .val (.ref w_TREE), .val (.int (1 : Int32))] [(.int (1 : Int32)), (.int (1 : Int32))])
      refine Go.st (fun _ k => XS.icmpNo X4.here hx rfl (hb hby at_89) rfl (teq (by decide : (1 : Int32) = (1 : Int32))).2 k) ?_
      show Go _ _ _ _ _ _ _ T4 (mkF m 92 #[.val (.int p0), .val (.int p1), .val (.int (0 : Int32)), .val (.int (0 : Int32)), .val (.ref w_TREE), .val (.int (1 : Int32))] [])
      refine Go.st (fun _ k => XS.iconst X4.here hx rfl (hb hby at_92) k) ?_
      show Go _ _ _ _ _ _ _ T4 (mkF m 93 #[.val (.int p0), .val (.int p1), .val (.int (0 : Int32)), .val (.int (0 : Int32)), .val (.ref w_TREE), .val (.int (1 : Int32))] [(.int (1 : Int32))])
      refine Go.st (fun _ k => XS.goto X4.here hx rfl (pc0 := 93) (pc' := 97) rfl (hb hby at_93) (by decide) (by decide) k) ?_
      show Go _ _ _ _ _ _ _ T4 (mkF m 97 #[.val (.int p0), .val (.int p1), .val (.int (0 : Int32)), .val (.int (0 : Int32)), .val (.ref w_TREE), .val (.int (1 : Int32))] [(.int (1 : Int32))])
      refine Go.ret X4 hlk (v := some (.int (1 : Int32))) (fun h => by rw [hret] at h; cases h) (fun fs hr => retN X4 hx (t := .boolean) hret (by simp) (hb hby at_97) hr) ?_ (by decide) (by decide)
      show Q0 Z p0 p1 w_TREE w_BELOW w_HERE h0 n0 (some (.int (1 : Int32))) T4.heap _
      rw [e4]
      exact ⟨rfl, N4⟩
    · rw [hk2]
      show Go _ _ _ _ _ _ _ s₁ (mkF m 10 #[.val (.int p0), .val (.int p1), .val (.int (0 : Int32)), .unset, .unset, .unset] [(.int (1 : Int32))])
      refine Go.st (fun _ k => XS.ifNo X0.here hx rfl (hb hby at_10) rfl ((if0 _ _).trans (feq (by decide : ¬ ((1 : Int32) = (0 : Int32)))).1) k) ?_
      show Go _ _ _ _ _ _ _ s₁ (mkF m 13 #[.val (.int p0), .val (.int p1), .val (.int (0 : Int32)), .unset, .unset, .unset] [])
      refine Go.st (fun _ k => XS.iconst X0.here hx rfl (hb hby at_13) k) ?_
      show Go _ _ _ _ _ _ _ s₁ (mkF m 14 #[.val (.int p0), .val (.int p1), .val (.int (0 : Int32)), .unset, .unset, .unset] [(.int (1 : Int32))])
      refine Go.st (fun _ k => XS.goto X0.here hx rfl (pc0 := 14) (pc' := 18) rfl (hb hby at_14) (by decide) (by decide) k) ?_
      show Go _ _ _ _ _ _ _ s₁ (mkF m 18 #[.val (.int p0), .val (.int p1), .val (.int (0 : Int32)), .unset, .unset, .unset] [(.int (1 : Int32))])
      refine Go.st (fun _ k => XS.istoreN X0.here hx rfl (hb hby at_18) rfl (l' := #[.val (.int p0), .val (.int p1), .val (.int (0 : Int32)), .val (.int (1 : Int32)), .unset, .unset]) rfl k) ?_
      show Go _ _ _ _ _ _ _ s₁ (mkF m 19 #[.val (.int p0), .val (.int p1), .val (.int (0 : Int32)), .val (.int (1 : Int32)), .unset, .unset] [])
      refine Go.st (fun _ k => XS.iloadN X0.here hx rfl (hb hby at_19) rfl k) ?_
      show Go _ _ _ _ _ _ _ s₁ (mkF m 20 #[.val (.int p0), .val (.int p1), .val (.int (0 : Int32)), .val (.int (1 : Int32)), .unset, .unset] [(.int (0 : Int32))])
      refine Go.st (fun _ k => XS.ifNo X0.here hx rfl (hb hby at_20) rfl ((if0 _ _).trans (teq (by decide : (0 : Int32) = (0 : Int32))).2) k) ?_
      show Go _ _ _ _ _ _ _ s₁ (mkF m 23 #[.val (.int p0), .val (.int p1), .val (.int (0 : Int32)), .val (.int (1 : Int32)), .unset, .unset] [])
      obtain ⟨T5, X5, e5, st5⟩ := getS2 X0 hx hZ hown (host := "") (Or.inl (hw _ (List.mem_of_getElem? (i := 1) rfl))) Via.refl e0 S_TREE (g := (mkF m 23 #[.val (.int p0), .val (.int p1), .val (.int (0 : Int32)), .val (.int (1 : Int32)), .unset, .unset] [])) rfl (hb hby at_23)
      refine Go.st st5 ?_
      show Go _ _ _ _ _ _ _ T5 (mkF m 26 #[.val (.int p0), .val (.int p1), .val (.int (0 : Int32)), .val (.int (1 : Int32)), .unset, .unset] [(.ref w_TREE)])
      refine Go.st (fun _ k => XS.astore X5.here hx rfl (hb hby at_26) rfl rfl (l' := #[.val (.int p0), .val (.int p1), .val (.int (0 : Int32)), .val (.int (1 : Int32)), .val (.ref w_TREE), .unset]) rfl k) ?_
      show Go _ _ _ _ _ _ _ T5 (mkF m 28 #[.val (.int p0), .val (.int p1), .val (.int (0 : Int32)), .val (.int (1 : Int32)), .val (.ref w_TREE), .unset] [])
      refine Go.st (fun _ k => XS.goto X5.here hx rfl (pc0 := 28) (pc' := 49) rfl (hb hby at_28) (by decide) (by decide) k) ?_
      show Go _ _ _ _ _ _ _ T5 (mkF m 49 #[.val (.int p0), .val (.int p1), .val (.int (0 : Int32)), .val (.int (1 : Int32)), .val (.ref w_TREE), .unset] [])
      refine Go.st (fun _ k => XS.iloadN X5.here hx rfl (hb hby at_49) rfl k) ?_
      show Go _ _ _ _ _ _ _ T5 (mkF m 50 #[.val (.int p0), .val (.int p1), .val (.int (0 : Int32)), .val (.int (1 : Int32)), .val (.ref w_TREE), .unset] [(.int (0 : Int32))])
      refine Go.st (fun _ k => XS.ifNo X5.here hx rfl (hb hby at_50) rfl ((if0 _ _).trans (teq (by decide : (0 : Int32) = (0 : Int32))).2) k) ?_
      show Go _ _ _ _ _ _ _ T5 (mkF m 53 #[.val (.int p0), .val (.int p1), .val (.int (0 : Int32)), .val (.int (1 : Int32)), .val (.ref w_TREE), .unset] [])
      refine Go.st (fun _ k => XS.iconst X5.here hx rfl (hb hby at_53) k) ?_
      show Go _ _ _ _ _ _ _ T5 (mkF m 54 #[.val (.int p0), .val (.int p1), .val (.int (0 : Int32)), .val (.int (1 : Int32)), .val (.ref w_TREE), .unset] [(.int (1 : Int32))])
      refine Go.st (fun _ k => XS.istore X5.here hx rfl (hb hby at_54) rfl (l' := #[.val (.int p0), .val (.int p1), .val (.int (0 : Int32)), .val (.int (1 : Int32)), .val (.ref w_TREE), .val (.int (1 : Int32))]) rfl k) ?_
      show Go _ _ _ _ _ _ _ T5 (mkF m 56 #[.val (.int p0), .val (.int p1), .val (.int (0 : Int32)), .val (.int (1 : Int32)), .val (.ref w_TREE), .val (.int (1 : Int32))] [])
      refine Go.st (fun _ k => XS.goto X5.here hx rfl (pc0 := 56) (pc' := 81) rfl (hb hby at_56) (by decide) (by decide) k) ?_
      show Go _ _ _ _ _ _ _ T5 (mkF m 81 #[.val (.int p0), .val (.int p1), .val (.int (0 : Int32)), .val (.int (1 : Int32)), .val (.ref w_TREE), .val (.int (1 : Int32))] [])
      refine Go.st (fun _ k => XS.aload X5.here hx rfl (hb hby at_81) rfl rfl k) ?_
      show Go _ _ _ _ _ _ _ T5 (mkF m 83 #[.val (.int p0), .val (.int p1), .val (.int (0 : Int32)), .val (.int (1 : Int32)), .val (.ref w_TREE), .val (.int (1 : Int32))] [(.ref w_TREE)])
      refine Go.st (fun _ k => XS.iloadN X5.here hx rfl (hb hby at_83) rfl k) ?_
      show Go _ _ _ _ _ _ _ T5 (mkF m 84 #[.val (.int p0), .val (.int p1), .val (.int (0 : Int32)), .val (.int (1 : Int32)), .val (.ref w_TREE), .val (.int (1 : Int32))] [(.int (1 : Int32)), (.ref w_TREE)])
      obtain ⟨cq6, kq6, q6a, q6b, q6c⟩ := isOf hZ e5 E_TREE
      obtain ⟨_, _, ⟨T6, L6, k6, n6⟩, -, X6, ⟨Lc6, hQ6, l6, y6, z6⟩, st6⟩ := X5.virtualBack hx (y := (⟨"com/example/gatefold/gatefold/Scope", "reaches", "(Z)Z"⟩ : MethodName)) (z := (⟨"com/example/gatefold/gatefold/Scope", "reaches", "(Z)Z"⟩ : MethodName)) hown (mvT hZ (hw _ (List.mem_of_getElem? (i := 4) rfl))) (mvT hZ (hw _ (List.mem_of_getElem? (i := 5) rfl))) (notFace_of_selects (args := #[]) (mvT hZ (hw _ (List.mem_of_getElem? (i := 7) rfl)))) (mvT hZ (hw _ (List.mem_of_getElem? (i := 7) rfl))) (mvT hZ (hw _ (List.mem_of_getElem? (i := 6) rfl))) (by decide) (backOf (W := 0) (rm1 l Z a0 hw [] w_TREE (1 : Int32) w_BELOW w_HERE h0 n0 Z0 S_BELOW S_HERE) hZ (hw _ (List.mem_of_getElem? (i := 8) rfl)) (hw _ (List.mem_of_getElem? (i := 2) rfl)) (by decide) (by decide)) q6a q6c (g := (mkF m 84 #[.val (.int p0), .val (.int p1), .val (.int (0 : Int32)), .val (.int (1 : Int32)), .val (.ref w_TREE), .val (.int (1 : Int32))] [(.int (1 : Int32)), (.ref w_TREE)])) rfl (by rw [hml]; rfl) (Steps.refl _) (argsL := [(.int (1 : Int32))]) (rest := []) (lenOf pd_0 rfl) rfl (by show 2 * 0 + _ ≤ _; exact Nat.le_of_eq rfl) (hb hby at_84) (fun _ _ => ⟨rfl, e5, (by decide : 0 + 0 ≤ _), (by decide : 0 + 0 ≤ _)⟩)
      dsimp only [Pt.U, Pt.locs, Pt.cells, Pt.slots] at X6 l6 y6 z6 st6 hQ6
      subst l6 y6 z6
      obtain ⟨rfl, N6q, e6⟩ := hQ6
      have N6 := Fr.app N0 N6q
      refine Go.st (fun _ k => st6.trans k) ?_
      show Go _ _ _ _ _ _ _ T6 (mkF m 87 #[.val (.int p0), .val (.int p1), .val (.int (0 : Int32)), .val (.int (1 : Int32)), .val (.ref w_TREE), .val (.int (1 : Int32))] [(.int (val_1 w_TREE (1 : Int32) w_BELOW w_HERE))])
      rw [show (val_1 w_TREE (1 : Int32) w_BELOW w_HERE) = (1 : Int32) from by unfold val_1; rw [if_neg (by decide +kernel : ¬ ((1 : Int32) = (0 : Int32))), if_neg ne_w_TREE_w_BELOW]]
      show Go _ _ _ _ _ _ _ T6 (mkF m 87 #[.val (.int p0), .val (.int p1), .val (.int (0 : Int32)), .val (.int (1 : Int32)), .val (.ref w_TREE), .val (.int (1 : Int32))] [(.int (1 : Int32))])
      refine Go.st (fun _ k => XS.iload X6.here hx rfl (hb hby at_87) rfl k) ?_
      show Go _ _ _ _ _ _ _ T6 (mkF m 89 #[.val (.int p0), .val (.int p1), .val (.int (0 : Int32)), .val (.int (1 : Int32)), .val (.ref w_TREE), .val (.int (1 : Int32))] [(.int (1 : Int32)), (.int (1 : Int32))])
      refine Go.st (fun _ k => XS.icmpNo X6.here hx rfl (hb hby at_89) rfl (teq (by decide : (1 : Int32) = (1 : Int32))).2 k) ?_
      show Go _ _ _ _ _ _ _ T6 (mkF m 92 #[.val (.int p0), .val (.int p1), .val (.int (0 : Int32)), .val (.int (1 : Int32)), .val (.ref w_TREE), .val (.int (1 : Int32))] [])
      refine Go.st (fun _ k => XS.iconst X6.here hx rfl (hb hby at_92) k) ?_
      show Go _ _ _ _ _ _ _ T6 (mkF m 93 #[.val (.int p0), .val (.int p1), .val (.int (0 : Int32)), .val (.int (1 : Int32)), .val (.ref w_TREE), .val (.int (1 : Int32))] [(.int (1 : Int32))])
      refine Go.st (fun _ k => XS.goto X6.here hx rfl (pc0 := 93) (pc' := 97) rfl (hb hby at_93) (by decide) (by decide) k) ?_
      show Go _ _ _ _ _ _ _ T6 (mkF m 97 #[.val (.int p0), .val (.int p1), .val (.int (0 : Int32)), .val (.int (1 : Int32)), .val (.ref w_TREE), .val (.int (1 : Int32))] [(.int (1 : Int32))])
      refine Go.ret X6 hlk (v := some (.int (1 : Int32))) (fun h => by rw [hret] at h; cases h) (fun fs hr => retN X6 hx (t := .boolean) hret (by simp) (hb hby at_97) hr) ?_ (by decide) (by decide)
      show Q0 Z p0 p1 w_TREE w_BELOW w_HERE h0 n0 (some (.int (1 : Int32))) T6.heap _
      rw [e6]
      exact ⟨rfl, N6⟩
  · rw [hk1]
    show Go _ _ _ _ _ _ _ s₁ (mkF m 6 #[.val (.int p0), .val (.int p1), .unset, .unset, .unset, .unset] [(.int (1 : Int32))])
    refine Go.st (fun _ k => XS.istoreN X0.here hx rfl (hb hby at_6) rfl (l' := #[.val (.int p0), .val (.int p1), .val (.int (1 : Int32)), .unset, .unset, .unset]) rfl k) ?_
    show Go _ _ _ _ _ _ _ s₁ (mkF m 7 #[.val (.int p0), .val (.int p1), .val (.int (1 : Int32)), .unset, .unset, .unset] [])
    refine Go.st (fun _ k => XS.iloadN X0.here hx rfl (hb hby at_7) rfl k) ?_
    show Go _ _ _ _ _ _ _ s₁ (mkF m 8 #[.val (.int p0), .val (.int p1), .val (.int (1 : Int32)), .unset, .unset, .unset] [(.int p1)])
    refine Go.st (fun _ k => XS.iconst X0.here hx rfl (hb hby at_8) k) ?_
    show Go _ _ _ _ _ _ _ s₁ (mkF m 9 #[.val (.int p0), .val (.int p1), .val (.int (1 : Int32)), .unset, .unset, .unset] [(.int (1 : Int32)), (.int p1)])
    refine Go.st (fun _ k => XS.iand X0.here hx rfl (hb hby at_9) rfl k) ?_
    show Go _ _ _ _ _ _ _ s₁ (mkF m 10 #[.val (.int p0), .val (.int p1), .val (.int (1 : Int32)), .unset, .unset, .unset] [(.int (p1 &&& (1 : Int32)))])
    rcases and_one p1 with hk7 | hk7
    · rw [hk7]
      show Go _ _ _ _ _ _ _ s₁ (mkF m 10 #[.val (.int p0), .val (.int p1), .val (.int (1 : Int32)), .unset, .unset, .unset] [(.int (0 : Int32))])
      refine Go.st (fun _ k => XS.ifYes X0.here hx rfl (pc0 := 10) (pc' := 17) rfl (hb hby at_10) rfl ((if0 _ _).trans (teq (by decide : (0 : Int32) = (0 : Int32))).1) (by decide) (by decide) k) ?_
      show Go _ _ _ _ _ _ _ s₁ (mkF m 17 #[.val (.int p0), .val (.int p1), .val (.int (1 : Int32)), .unset, .unset, .unset] [])
      refine Go.st (fun _ k => XS.iconst X0.here hx rfl (hb hby at_17) k) ?_
      show Go _ _ _ _ _ _ _ s₁ (mkF m 18 #[.val (.int p0), .val (.int p1), .val (.int (1 : Int32)), .unset, .unset, .unset] [(.int (0 : Int32))])
      refine Go.st (fun _ k => XS.istoreN X0.here hx rfl (hb hby at_18) rfl (l' := #[.val (.int p0), .val (.int p1), .val (.int (1 : Int32)), .val (.int (0 : Int32)), .unset, .unset]) rfl k) ?_
      show Go _ _ _ _ _ _ _ s₁ (mkF m 19 #[.val (.int p0), .val (.int p1), .val (.int (1 : Int32)), .val (.int (0 : Int32)), .unset, .unset] [])
      refine Go.st (fun _ k => XS.iloadN X0.here hx rfl (hb hby at_19) rfl k) ?_
      show Go _ _ _ _ _ _ _ s₁ (mkF m 20 #[.val (.int p0), .val (.int p1), .val (.int (1 : Int32)), .val (.int (0 : Int32)), .unset, .unset] [(.int (1 : Int32))])
      refine Go.st (fun _ k => XS.ifYes X0.here hx rfl (pc0 := 20) (pc' := 31) rfl (hb hby at_20) rfl ((if0 _ _).trans (feq (by decide : ¬ ((1 : Int32) = (0 : Int32)))).2) (by decide) (by decide) k) ?_
      show Go _ _ _ _ _ _ _ s₁ (mkF m 31 #[.val (.int p0), .val (.int p1), .val (.int (1 : Int32)), .val (.int (0 : Int32)), .unset, .unset] [])
      refine Go.st (fun _ k => XS.iloadN X0.here hx rfl (hb hby at_31) rfl k) ?_
      show Go _ _ _ _ _ _ _ s₁ (mkF m 32 #[.val (.int p0), .val (.int p1), .val (.int (1 : Int32)), .val (.int (0 : Int32)), .unset, .unset] [(.int (1 : Int32))])
      refine Go.st (fun _ k => XS.iconst X0.here hx rfl (hb hby at_32) k) ?_
      show Go _ _ _ _ _ _ _ s₁ (mkF m 33 #[.val (.int p0), .val (.int p1), .val (.int (1 : Int32)), .val (.int (0 : Int32)), .unset, .unset] [(.int (1 : Int32)), (.int (1 : Int32))])
      refine Go.st (fun _ k => XS.icmpNo X0.here hx rfl (hb hby at_33) rfl (teq (by decide : (1 : Int32) = (1 : Int32))).2 k) ?_
      show Go _ _ _ _ _ _ _ s₁ (mkF m 36 #[.val (.int p0), .val (.int p1), .val (.int (1 : Int32)), .val (.int (0 : Int32)), .unset, .unset] [])
      obtain ⟨T8, X8, e8, st8⟩ := getS2 X0 hx hZ hown (host := "") (Or.inl (hw _ (List.mem_of_getElem? (i := 14) rfl))) Via.refl e0 S_HERE (g := (mkF m 36 #[.val (.int p0), .val (.int p1), .val (.int (1 : Int32)), .val (.int (0 : Int32)), .unset, .unset] [])) rfl (hb hby at_36)
      refine Go.st st8 ?_
      show Go _ _ _ _ _ _ _ T8 (mkF m 39 #[.val (.int p0), .val (.int p1), .val (.int (1 : Int32)), .val (.int (0 : Int32)), .unset, .unset] [(.ref w_HERE)])
      refine Go.st (fun _ k => XS.astore X8.here hx rfl (hb hby at_39) rfl rfl (l' := #[.val (.int p0), .val (.int p1), .val (.int (1 : Int32)), .val (.int (0 : Int32)), .val (.ref w_HERE), .unset]) rfl k) ?_
      show Go _ _ _ _ _ _ _ T8 (mkF m 41 #[.val (.int p0), .val (.int p1), .val (.int (1 : Int32)), .val (.int (0 : Int32)), .val (.ref w_HERE), .unset] [])
      refine Go.st (fun _ k => XS.goto X8.here hx rfl (pc0 := 41) (pc' := 49) rfl (hb hby at_41) (by decide) (by decide) k) ?_
      show Go _ _ _ _ _ _ _ T8 (mkF m 49 #[.val (.int p0), .val (.int p1), .val (.int (1 : Int32)), .val (.int (0 : Int32)), .val (.ref w_HERE), .unset] [])
      refine Go.st (fun _ k => XS.iloadN X8.here hx rfl (hb hby at_49) rfl k) ?_
      show Go _ _ _ _ _ _ _ T8 (mkF m 50 #[.val (.int p0), .val (.int p1), .val (.int (1 : Int32)), .val (.int (0 : Int32)), .val (.ref w_HERE), .unset] [(.int (1 : Int32))])
      refine Go.st (fun _ k => XS.ifYes X8.here hx rfl (pc0 := 50) (pc' := 59) rfl (hb hby at_50) rfl ((if0 _ _).trans (feq (by decide : ¬ ((1 : Int32) = (0 : Int32)))).2) (by decide) (by decide) k) ?_
      show Go _ _ _ _ _ _ _ T8 (mkF m 59 #[.val (.int p0), .val (.int p1), .val (.int (1 : Int32)), .val (.int (0 : Int32)), .val (.ref w_HERE), .unset] [])
      refine Go.st (fun _ k => XS.iloadN X8.here hx rfl (hb hby at_59) rfl k) ?_
      show Go _ _ _ _ _ _ _ T8 (mkF m 60 #[.val (.int p0), .val (.int p1), .val (.int (1 : Int32)), .val (.int (0 : Int32)), .val (.ref w_HERE), .unset] [(.int (1 : Int32))])
      refine Go.st (fun _ k => XS.iconst X8.here hx rfl (hb hby at_60) k) ?_
      show Go _ _ _ _ _ _ _ T8 (mkF m 61 #[.val (.int p0), .val (.int p1), .val (.int (1 : Int32)), .val (.int (0 : Int32)), .val (.ref w_HERE), .unset] [(.int (1 : Int32)), (.int (1 : Int32))])
      refine Go.st (fun _ k => XS.icmpNo X8.here hx rfl (hb hby at_61) rfl (teq (by decide : (1 : Int32) = (1 : Int32))).2 k) ?_
      show Go _ _ _ _ _ _ _ T8 (mkF m 64 #[.val (.int p0), .val (.int p1), .val (.int (1 : Int32)), .val (.int (0 : Int32)), .val (.ref w_HERE), .unset] [])
      refine Go.st (fun _ k => XS.iloadN X8.here hx rfl (hb hby at_64) rfl k) ?_
      show Go _ _ _ _ _ _ _ T8 (mkF m 65 #[.val (.int p0), .val (.int p1), .val (.int (1 : Int32)), .val (.int (0 : Int32)), .val (.ref w_HERE), .unset] [(.int (0 : Int32))])
      refine Go.st (fun _ k => XS.istore X8.here hx rfl (hb hby at_65) rfl (l' := #[.val (.int p0), .val (.int p1), .val (.int (1 : Int32)), .val (.int (0 : Int32)), .val (.ref w_HERE), .val (.int (0 : Int32))]) rfl k) ?_
      show Go _ _ _ _ _ _ _ T8 (mkF m 67 #[.val (.int p0), .val (.int p1), .val (.int (1 : Int32)), .val (.int (0 : Int32)), .val (.ref w_HERE), .val (.int (0 : Int32))] [])
      refine Go.st (fun _ k => XS.goto X8.here hx rfl (pc0 := 67) (pc' := 81) rfl (hb hby at_67) (by decide) (by decide) k) ?_
      show Go _ _ _ _ _ _ _ T8 (mkF m 81 #[.val (.int p0), .val (.int p1), .val (.int (1 : Int32)), .val (.int (0 : Int32)), .val (.ref w_HERE), .val (.int (0 : Int32))] [])
      refine Go.st (fun _ k => XS.aload X8.here hx rfl (hb hby at_81) rfl rfl k) ?_
      show Go _ _ _ _ _ _ _ T8 (mkF m 83 #[.val (.int p0), .val (.int p1), .val (.int (1 : Int32)), .val (.int (0 : Int32)), .val (.ref w_HERE), .val (.int (0 : Int32))] [(.ref w_HERE)])
      refine Go.st (fun _ k => XS.iloadN X8.here hx rfl (hb hby at_83) rfl k) ?_
      show Go _ _ _ _ _ _ _ T8 (mkF m 84 #[.val (.int p0), .val (.int p1), .val (.int (1 : Int32)), .val (.int (0 : Int32)), .val (.ref w_HERE), .val (.int (0 : Int32))] [(.int (0 : Int32)), (.ref w_HERE)])
      obtain ⟨cq9, kq9, q9a, q9b, q9c⟩ := isOf hZ e8 E_HERE
      obtain ⟨_, _, ⟨T9, L9, k9, n9⟩, -, X9, ⟨Lc9, hQ9, l9, y9, z9⟩, st9⟩ := X8.virtualBack hx (y := (⟨"com/example/gatefold/gatefold/Scope", "reaches", "(Z)Z"⟩ : MethodName)) (z := (⟨"com/example/gatefold/gatefold/Scope", "reaches", "(Z)Z"⟩ : MethodName)) hown (mvT hZ (hw _ (List.mem_of_getElem? (i := 4) rfl))) (mvT hZ (hw _ (List.mem_of_getElem? (i := 5) rfl))) (notFace_of_selects (args := #[]) (mvT hZ (hw _ (List.mem_of_getElem? (i := 7) rfl)))) (mvT hZ (hw _ (List.mem_of_getElem? (i := 7) rfl))) (mvT hZ (hw _ (List.mem_of_getElem? (i := 6) rfl))) (by decide) (backOf (W := 0) (rm1 l Z a0 hw [] w_HERE (0 : Int32) w_BELOW w_HERE h0 n0 Z0 S_BELOW S_HERE) hZ (hw _ (List.mem_of_getElem? (i := 8) rfl)) (hw _ (List.mem_of_getElem? (i := 2) rfl)) (by decide) (by decide)) q9a q9c (g := (mkF m 84 #[.val (.int p0), .val (.int p1), .val (.int (1 : Int32)), .val (.int (0 : Int32)), .val (.ref w_HERE), .val (.int (0 : Int32))] [(.int (0 : Int32)), (.ref w_HERE)])) rfl (by rw [hml]; rfl) (Steps.refl _) (argsL := [(.int (0 : Int32))]) (rest := []) (lenOf pd_0 rfl) rfl (by show 2 * 0 + _ ≤ _; exact Nat.le_of_eq rfl) (hb hby at_84) (fun _ _ => ⟨rfl, e8, (by decide : 0 + 0 ≤ _), (by decide : 0 + 0 ≤ _)⟩)
      dsimp only [Pt.U, Pt.locs, Pt.cells, Pt.slots] at X9 l9 y9 z9 st9 hQ9
      subst l9 y9 z9
      obtain ⟨rfl, N9q, e9⟩ := hQ9
      have N9 := Fr.app N0 N9q
      refine Go.st (fun _ k => st9.trans k) ?_
      show Go _ _ _ _ _ _ _ T9 (mkF m 87 #[.val (.int p0), .val (.int p1), .val (.int (1 : Int32)), .val (.int (0 : Int32)), .val (.ref w_HERE), .val (.int (0 : Int32))] [(.int (val_1 w_HERE (0 : Int32) w_BELOW w_HERE))])
      rw [show (val_1 w_HERE (0 : Int32) w_BELOW w_HERE) = (0 : Int32) from by unfold val_1; rw [if_pos (by decide +kernel : (0 : Int32) = (0 : Int32)), if_pos rfl]]
      show Go _ _ _ _ _ _ _ T9 (mkF m 87 #[.val (.int p0), .val (.int p1), .val (.int (1 : Int32)), .val (.int (0 : Int32)), .val (.ref w_HERE), .val (.int (0 : Int32))] [(.int (0 : Int32))])
      refine Go.st (fun _ k => XS.iload X9.here hx rfl (hb hby at_87) rfl k) ?_
      show Go _ _ _ _ _ _ _ T9 (mkF m 89 #[.val (.int p0), .val (.int p1), .val (.int (1 : Int32)), .val (.int (0 : Int32)), .val (.ref w_HERE), .val (.int (0 : Int32))] [(.int (0 : Int32)), (.int (0 : Int32))])
      refine Go.st (fun _ k => XS.icmpNo X9.here hx rfl (hb hby at_89) rfl (teq (by decide : (0 : Int32) = (0 : Int32))).2 k) ?_
      show Go _ _ _ _ _ _ _ T9 (mkF m 92 #[.val (.int p0), .val (.int p1), .val (.int (1 : Int32)), .val (.int (0 : Int32)), .val (.ref w_HERE), .val (.int (0 : Int32))] [])
      refine Go.st (fun _ k => XS.iconst X9.here hx rfl (hb hby at_92) k) ?_
      show Go _ _ _ _ _ _ _ T9 (mkF m 93 #[.val (.int p0), .val (.int p1), .val (.int (1 : Int32)), .val (.int (0 : Int32)), .val (.ref w_HERE), .val (.int (0 : Int32))] [(.int (1 : Int32))])
      refine Go.st (fun _ k => XS.goto X9.here hx rfl (pc0 := 93) (pc' := 97) rfl (hb hby at_93) (by decide) (by decide) k) ?_
      show Go _ _ _ _ _ _ _ T9 (mkF m 97 #[.val (.int p0), .val (.int p1), .val (.int (1 : Int32)), .val (.int (0 : Int32)), .val (.ref w_HERE), .val (.int (0 : Int32))] [(.int (1 : Int32))])
      refine Go.ret X9 hlk (v := some (.int (1 : Int32))) (fun h => by rw [hret] at h; cases h) (fun fs hr => retN X9 hx (t := .boolean) hret (by simp) (hb hby at_97) hr) ?_ (by decide) (by decide)
      show Q0 Z p0 p1 w_TREE w_BELOW w_HERE h0 n0 (some (.int (1 : Int32))) T9.heap _
      rw [e9]
      exact ⟨rfl, N9⟩
    · rw [hk7]
      show Go _ _ _ _ _ _ _ s₁ (mkF m 10 #[.val (.int p0), .val (.int p1), .val (.int (1 : Int32)), .unset, .unset, .unset] [(.int (1 : Int32))])
      refine Go.st (fun _ k => XS.ifNo X0.here hx rfl (hb hby at_10) rfl ((if0 _ _).trans (feq (by decide : ¬ ((1 : Int32) = (0 : Int32)))).1) k) ?_
      show Go _ _ _ _ _ _ _ s₁ (mkF m 13 #[.val (.int p0), .val (.int p1), .val (.int (1 : Int32)), .unset, .unset, .unset] [])
      refine Go.st (fun _ k => XS.iconst X0.here hx rfl (hb hby at_13) k) ?_
      show Go _ _ _ _ _ _ _ s₁ (mkF m 14 #[.val (.int p0), .val (.int p1), .val (.int (1 : Int32)), .unset, .unset, .unset] [(.int (1 : Int32))])
      refine Go.st (fun _ k => XS.goto X0.here hx rfl (pc0 := 14) (pc' := 18) rfl (hb hby at_14) (by decide) (by decide) k) ?_
      show Go _ _ _ _ _ _ _ s₁ (mkF m 18 #[.val (.int p0), .val (.int p1), .val (.int (1 : Int32)), .unset, .unset, .unset] [(.int (1 : Int32))])
      refine Go.st (fun _ k => XS.istoreN X0.here hx rfl (hb hby at_18) rfl (l' := #[.val (.int p0), .val (.int p1), .val (.int (1 : Int32)), .val (.int (1 : Int32)), .unset, .unset]) rfl k) ?_
      show Go _ _ _ _ _ _ _ s₁ (mkF m 19 #[.val (.int p0), .val (.int p1), .val (.int (1 : Int32)), .val (.int (1 : Int32)), .unset, .unset] [])
      refine Go.st (fun _ k => XS.iloadN X0.here hx rfl (hb hby at_19) rfl k) ?_
      show Go _ _ _ _ _ _ _ s₁ (mkF m 20 #[.val (.int p0), .val (.int p1), .val (.int (1 : Int32)), .val (.int (1 : Int32)), .unset, .unset] [(.int (1 : Int32))])
      refine Go.st (fun _ k => XS.ifYes X0.here hx rfl (pc0 := 20) (pc' := 31) rfl (hb hby at_20) rfl ((if0 _ _).trans (feq (by decide : ¬ ((1 : Int32) = (0 : Int32)))).2) (by decide) (by decide) k) ?_
      show Go _ _ _ _ _ _ _ s₁ (mkF m 31 #[.val (.int p0), .val (.int p1), .val (.int (1 : Int32)), .val (.int (1 : Int32)), .unset, .unset] [])
      refine Go.st (fun _ k => XS.iloadN X0.here hx rfl (hb hby at_31) rfl k) ?_
      show Go _ _ _ _ _ _ _ s₁ (mkF m 32 #[.val (.int p0), .val (.int p1), .val (.int (1 : Int32)), .val (.int (1 : Int32)), .unset, .unset] [(.int (1 : Int32))])
      refine Go.st (fun _ k => XS.iconst X0.here hx rfl (hb hby at_32) k) ?_
      show Go _ _ _ _ _ _ _ s₁ (mkF m 33 #[.val (.int p0), .val (.int p1), .val (.int (1 : Int32)), .val (.int (1 : Int32)), .unset, .unset] [(.int (1 : Int32)), (.int (1 : Int32))])
      refine Go.st (fun _ k => XS.icmpNo X0.here hx rfl (hb hby at_33) rfl (teq (by decide : (1 : Int32) = (1 : Int32))).2 k) ?_
      show Go _ _ _ _ _ _ _ s₁ (mkF m 36 #[.val (.int p0), .val (.int p1), .val (.int (1 : Int32)), .val (.int (1 : Int32)), .unset, .unset] [])
      obtain ⟨T10, X10, e10, st10⟩ := getS2 X0 hx hZ hown (host := "") (Or.inl (hw _ (List.mem_of_getElem? (i := 14) rfl))) Via.refl e0 S_HERE (g := (mkF m 36 #[.val (.int p0), .val (.int p1), .val (.int (1 : Int32)), .val (.int (1 : Int32)), .unset, .unset] [])) rfl (hb hby at_36)
      refine Go.st st10 ?_
      show Go _ _ _ _ _ _ _ T10 (mkF m 39 #[.val (.int p0), .val (.int p1), .val (.int (1 : Int32)), .val (.int (1 : Int32)), .unset, .unset] [(.ref w_HERE)])
      refine Go.st (fun _ k => XS.astore X10.here hx rfl (hb hby at_39) rfl rfl (l' := #[.val (.int p0), .val (.int p1), .val (.int (1 : Int32)), .val (.int (1 : Int32)), .val (.ref w_HERE), .unset]) rfl k) ?_
      show Go _ _ _ _ _ _ _ T10 (mkF m 41 #[.val (.int p0), .val (.int p1), .val (.int (1 : Int32)), .val (.int (1 : Int32)), .val (.ref w_HERE), .unset] [])
      refine Go.st (fun _ k => XS.goto X10.here hx rfl (pc0 := 41) (pc' := 49) rfl (hb hby at_41) (by decide) (by decide) k) ?_
      show Go _ _ _ _ _ _ _ T10 (mkF m 49 #[.val (.int p0), .val (.int p1), .val (.int (1 : Int32)), .val (.int (1 : Int32)), .val (.ref w_HERE), .unset] [])
      refine Go.st (fun _ k => XS.iloadN X10.here hx rfl (hb hby at_49) rfl k) ?_
      show Go _ _ _ _ _ _ _ T10 (mkF m 50 #[.val (.int p0), .val (.int p1), .val (.int (1 : Int32)), .val (.int (1 : Int32)), .val (.ref w_HERE), .unset] [(.int (1 : Int32))])
      refine Go.st (fun _ k => XS.ifYes X10.here hx rfl (pc0 := 50) (pc' := 59) rfl (hb hby at_50) rfl ((if0 _ _).trans (feq (by decide : ¬ ((1 : Int32) = (0 : Int32)))).2) (by decide) (by decide) k) ?_
      show Go _ _ _ _ _ _ _ T10 (mkF m 59 #[.val (.int p0), .val (.int p1), .val (.int (1 : Int32)), .val (.int (1 : Int32)), .val (.ref w_HERE), .unset] [])
      refine Go.st (fun _ k => XS.iloadN X10.here hx rfl (hb hby at_59) rfl k) ?_
      show Go _ _ _ _ _ _ _ T10 (mkF m 60 #[.val (.int p0), .val (.int p1), .val (.int (1 : Int32)), .val (.int (1 : Int32)), .val (.ref w_HERE), .unset] [(.int (1 : Int32))])
      refine Go.st (fun _ k => XS.iconst X10.here hx rfl (hb hby at_60) k) ?_
      show Go _ _ _ _ _ _ _ T10 (mkF m 61 #[.val (.int p0), .val (.int p1), .val (.int (1 : Int32)), .val (.int (1 : Int32)), .val (.ref w_HERE), .unset] [(.int (1 : Int32)), (.int (1 : Int32))])
      refine Go.st (fun _ k => XS.icmpNo X10.here hx rfl (hb hby at_61) rfl (teq (by decide : (1 : Int32) = (1 : Int32))).2 k) ?_
      show Go _ _ _ _ _ _ _ T10 (mkF m 64 #[.val (.int p0), .val (.int p1), .val (.int (1 : Int32)), .val (.int (1 : Int32)), .val (.ref w_HERE), .unset] [])
      refine Go.st (fun _ k => XS.iloadN X10.here hx rfl (hb hby at_64) rfl k) ?_
      show Go _ _ _ _ _ _ _ T10 (mkF m 65 #[.val (.int p0), .val (.int p1), .val (.int (1 : Int32)), .val (.int (1 : Int32)), .val (.ref w_HERE), .unset] [(.int (1 : Int32))])
      refine Go.st (fun _ k => XS.istore X10.here hx rfl (hb hby at_65) rfl (l' := #[.val (.int p0), .val (.int p1), .val (.int (1 : Int32)), .val (.int (1 : Int32)), .val (.ref w_HERE), .val (.int (1 : Int32))]) rfl k) ?_
      show Go _ _ _ _ _ _ _ T10 (mkF m 67 #[.val (.int p0), .val (.int p1), .val (.int (1 : Int32)), .val (.int (1 : Int32)), .val (.ref w_HERE), .val (.int (1 : Int32))] [])
      refine Go.st (fun _ k => XS.goto X10.here hx rfl (pc0 := 67) (pc' := 81) rfl (hb hby at_67) (by decide) (by decide) k) ?_
      show Go _ _ _ _ _ _ _ T10 (mkF m 81 #[.val (.int p0), .val (.int p1), .val (.int (1 : Int32)), .val (.int (1 : Int32)), .val (.ref w_HERE), .val (.int (1 : Int32))] [])
      refine Go.st (fun _ k => XS.aload X10.here hx rfl (hb hby at_81) rfl rfl k) ?_
      show Go _ _ _ _ _ _ _ T10 (mkF m 83 #[.val (.int p0), .val (.int p1), .val (.int (1 : Int32)), .val (.int (1 : Int32)), .val (.ref w_HERE), .val (.int (1 : Int32))] [(.ref w_HERE)])
      refine Go.st (fun _ k => XS.iloadN X10.here hx rfl (hb hby at_83) rfl k) ?_
      show Go _ _ _ _ _ _ _ T10 (mkF m 84 #[.val (.int p0), .val (.int p1), .val (.int (1 : Int32)), .val (.int (1 : Int32)), .val (.ref w_HERE), .val (.int (1 : Int32))] [(.int (1 : Int32)), (.ref w_HERE)])
      obtain ⟨cq11, kq11, q11a, q11b, q11c⟩ := isOf hZ e10 E_HERE
      obtain ⟨_, _, ⟨T11, L11, k11, n11⟩, -, X11, ⟨Lc11, hQ11, l11, y11, z11⟩, st11⟩ := X10.virtualBack hx (y := (⟨"com/example/gatefold/gatefold/Scope", "reaches", "(Z)Z"⟩ : MethodName)) (z := (⟨"com/example/gatefold/gatefold/Scope", "reaches", "(Z)Z"⟩ : MethodName)) hown (mvT hZ (hw _ (List.mem_of_getElem? (i := 4) rfl))) (mvT hZ (hw _ (List.mem_of_getElem? (i := 5) rfl))) (notFace_of_selects (args := #[]) (mvT hZ (hw _ (List.mem_of_getElem? (i := 7) rfl)))) (mvT hZ (hw _ (List.mem_of_getElem? (i := 7) rfl))) (mvT hZ (hw _ (List.mem_of_getElem? (i := 6) rfl))) (by decide) (backOf (W := 0) (rm1 l Z a0 hw [] w_HERE (1 : Int32) w_BELOW w_HERE h0 n0 Z0 S_BELOW S_HERE) hZ (hw _ (List.mem_of_getElem? (i := 8) rfl)) (hw _ (List.mem_of_getElem? (i := 2) rfl)) (by decide) (by decide)) q11a q11c (g := (mkF m 84 #[.val (.int p0), .val (.int p1), .val (.int (1 : Int32)), .val (.int (1 : Int32)), .val (.ref w_HERE), .val (.int (1 : Int32))] [(.int (1 : Int32)), (.ref w_HERE)])) rfl (by rw [hml]; rfl) (Steps.refl _) (argsL := [(.int (1 : Int32))]) (rest := []) (lenOf pd_0 rfl) rfl (by show 2 * 0 + _ ≤ _; exact Nat.le_of_eq rfl) (hb hby at_84) (fun _ _ => ⟨rfl, e10, (by decide : 0 + 0 ≤ _), (by decide : 0 + 0 ≤ _)⟩)
      dsimp only [Pt.U, Pt.locs, Pt.cells, Pt.slots] at X11 l11 y11 z11 st11 hQ11
      subst l11 y11 z11
      obtain ⟨rfl, N11q, e11⟩ := hQ11
      have N11 := Fr.app N0 N11q
      refine Go.st (fun _ k => st11.trans k) ?_
      show Go _ _ _ _ _ _ _ T11 (mkF m 87 #[.val (.int p0), .val (.int p1), .val (.int (1 : Int32)), .val (.int (1 : Int32)), .val (.ref w_HERE), .val (.int (1 : Int32))] [(.int (val_1 w_HERE (1 : Int32) w_BELOW w_HERE))])
      rw [show (val_1 w_HERE (1 : Int32) w_BELOW w_HERE) = (1 : Int32) from by unfold val_1; rw [if_neg (by decide +kernel : ¬ ((1 : Int32) = (0 : Int32))), if_neg (Ne.symm ne_w_BELOW_w_HERE)]]
      show Go _ _ _ _ _ _ _ T11 (mkF m 87 #[.val (.int p0), .val (.int p1), .val (.int (1 : Int32)), .val (.int (1 : Int32)), .val (.ref w_HERE), .val (.int (1 : Int32))] [(.int (1 : Int32))])
      refine Go.st (fun _ k => XS.iload X11.here hx rfl (hb hby at_87) rfl k) ?_
      show Go _ _ _ _ _ _ _ T11 (mkF m 89 #[.val (.int p0), .val (.int p1), .val (.int (1 : Int32)), .val (.int (1 : Int32)), .val (.ref w_HERE), .val (.int (1 : Int32))] [(.int (1 : Int32)), (.int (1 : Int32))])
      refine Go.st (fun _ k => XS.icmpNo X11.here hx rfl (hb hby at_89) rfl (teq (by decide : (1 : Int32) = (1 : Int32))).2 k) ?_
      show Go _ _ _ _ _ _ _ T11 (mkF m 92 #[.val (.int p0), .val (.int p1), .val (.int (1 : Int32)), .val (.int (1 : Int32)), .val (.ref w_HERE), .val (.int (1 : Int32))] [])
      refine Go.st (fun _ k => XS.iconst X11.here hx rfl (hb hby at_92) k) ?_
      show Go _ _ _ _ _ _ _ T11 (mkF m 93 #[.val (.int p0), .val (.int p1), .val (.int (1 : Int32)), .val (.int (1 : Int32)), .val (.ref w_HERE), .val (.int (1 : Int32))] [(.int (1 : Int32))])
      refine Go.st (fun _ k => XS.goto X11.here hx rfl (pc0 := 93) (pc' := 97) rfl (hb hby at_93) (by decide) (by decide) k) ?_
      show Go _ _ _ _ _ _ _ T11 (mkF m 97 #[.val (.int p0), .val (.int p1), .val (.int (1 : Int32)), .val (.int (1 : Int32)), .val (.ref w_HERE), .val (.int (1 : Int32))] [(.int (1 : Int32))])
      refine Go.ret X11 hlk (v := some (.int (1 : Int32))) (fun h => by rw [hret] at h; cases h) (fun fs hr => retN X11 hx (t := .boolean) hret (by simp) (hb hby at_97) hr) ?_ (by decide) (by decide)
      show Q0 Z p0 p1 w_TREE w_BELOW w_HERE h0 n0 (some (.int (1 : Int32))) T11.heap _
      rw [e11]
      exact ⟨rfl, N11⟩
  · rw [hk1]
    show Go _ _ _ _ _ _ _ s₁ (mkF m 6 #[.val (.int p0), .val (.int p1), .unset, .unset, .unset, .unset] [(.int (2 : Int32))])
    refine Go.st (fun _ k => XS.istoreN X0.here hx rfl (hb hby at_6) rfl (l' := #[.val (.int p0), .val (.int p1), .val (.int (2 : Int32)), .unset, .unset, .unset]) rfl k) ?_
    show Go _ _ _ _ _ _ _ s₁ (mkF m 7 #[.val (.int p0), .val (.int p1), .val (.int (2 : Int32)), .unset, .unset, .unset] [])
    refine Go.st (fun _ k => XS.iloadN X0.here hx rfl (hb hby at_7) rfl k) ?_
    show Go _ _ _ _ _ _ _ s₁ (mkF m 8 #[.val (.int p0), .val (.int p1), .val (.int (2 : Int32)), .unset, .unset, .unset] [(.int p1)])
    refine Go.st (fun _ k => XS.iconst X0.here hx rfl (hb hby at_8) k) ?_
    show Go _ _ _ _ _ _ _ s₁ (mkF m 9 #[.val (.int p0), .val (.int p1), .val (.int (2 : Int32)), .unset, .unset, .unset] [(.int (1 : Int32)), (.int p1)])
    refine Go.st (fun _ k => XS.iand X0.here hx rfl (hb hby at_9) rfl k) ?_
    show Go _ _ _ _ _ _ _ s₁ (mkF m 10 #[.val (.int p0), .val (.int p1), .val (.int (2 : Int32)), .unset, .unset, .unset] [(.int (p1 &&& (1 : Int32)))])
    rcases and_one p1 with hk12 | hk12
    · rw [hk12]
      show Go _ _ _ _ _ _ _ s₁ (mkF m 10 #[.val (.int p0), .val (.int p1), .val (.int (2 : Int32)), .unset, .unset, .unset] [(.int (0 : Int32))])
      refine Go.st (fun _ k => XS.ifYes X0.here hx rfl (pc0 := 10) (pc' := 17) rfl (hb hby at_10) rfl ((if0 _ _).trans (teq (by decide : (0 : Int32) = (0 : Int32))).1) (by decide) (by decide) k) ?_
      show Go _ _ _ _ _ _ _ s₁ (mkF m 17 #[.val (.int p0), .val (.int p1), .val (.int (2 : Int32)), .unset, .unset, .unset] [])
      refine Go.st (fun _ k => XS.iconst X0.here hx rfl (hb hby at_17) k) ?_
      show Go _ _ _ _ _ _ _ s₁ (mkF m 18 #[.val (.int p0), .val (.int p1), .val (.int (2 : Int32)), .unset, .unset, .unset] [(.int (0 : Int32))])
      refine Go.st (fun _ k => XS.istoreN X0.here hx rfl (hb hby at_18) rfl (l' := #[.val (.int p0), .val (.int p1), .val (.int (2 : Int32)), .val (.int (0 : Int32)), .unset, .unset]) rfl k) ?_
      show Go _ _ _ _ _ _ _ s₁ (mkF m 19 #[.val (.int p0), .val (.int p1), .val (.int (2 : Int32)), .val (.int (0 : Int32)), .unset, .unset] [])
      refine Go.st (fun _ k => XS.iloadN X0.here hx rfl (hb hby at_19) rfl k) ?_
      show Go _ _ _ _ _ _ _ s₁ (mkF m 20 #[.val (.int p0), .val (.int p1), .val (.int (2 : Int32)), .val (.int (0 : Int32)), .unset, .unset] [(.int (2 : Int32))])
      refine Go.st (fun _ k => XS.ifYes X0.here hx rfl (pc0 := 20) (pc' := 31) rfl (hb hby at_20) rfl ((if0 _ _).trans (feq (by decide : ¬ ((2 : Int32) = (0 : Int32)))).2) (by decide) (by decide) k) ?_
      show Go _ _ _ _ _ _ _ s₁ (mkF m 31 #[.val (.int p0), .val (.int p1), .val (.int (2 : Int32)), .val (.int (0 : Int32)), .unset, .unset] [])
      refine Go.st (fun _ k => XS.iloadN X0.here hx rfl (hb hby at_31) rfl k) ?_
      show Go _ _ _ _ _ _ _ s₁ (mkF m 32 #[.val (.int p0), .val (.int p1), .val (.int (2 : Int32)), .val (.int (0 : Int32)), .unset, .unset] [(.int (2 : Int32))])
      refine Go.st (fun _ k => XS.iconst X0.here hx rfl (hb hby at_32) k) ?_
      show Go _ _ _ _ _ _ _ s₁ (mkF m 33 #[.val (.int p0), .val (.int p1), .val (.int (2 : Int32)), .val (.int (0 : Int32)), .unset, .unset] [(.int (1 : Int32)), (.int (2 : Int32))])
      refine Go.st (fun _ k => XS.icmpYes X0.here hx rfl (pc0 := 33) (pc' := 44) rfl (hb hby at_33) rfl (feq (by decide : ¬ ((2 : Int32) = (1 : Int32)))).2 (by decide) (by decide) k) ?_
      show Go _ _ _ _ _ _ _ s₁ (mkF m 44 #[.val (.int p0), .val (.int p1), .val (.int (2 : Int32)), .val (.int (0 : Int32)), .unset, .unset] [])
      obtain ⟨T13, X13, e13, st13⟩ := getS2 X0 hx hZ hown (host := "") (Or.inl (hw _ (List.mem_of_getElem? (i := 11) rfl))) Via.refl e0 S_BELOW (g := (mkF m 44 #[.val (.int p0), .val (.int p1), .val (.int (2 : Int32)), .val (.int (0 : Int32)), .unset, .unset] [])) rfl (hb hby at_44)
      refine Go.st st13 ?_
      show Go _ _ _ _ _ _ _ T13 (mkF m 47 #[.val (.int p0), .val (.int p1), .val (.int (2 : Int32)), .val (.int (0 : Int32)), .unset, .unset] [(.ref w_BELOW)])
      refine Go.st (fun _ k => XS.astore X13.here hx rfl (hb hby at_47) rfl rfl (l' := #[.val (.int p0), .val (.int p1), .val (.int (2 : Int32)), .val (.int (0 : Int32)), .val (.ref w_BELOW), .unset]) rfl k) ?_
      show Go _ _ _ _ _ _ _ T13 (mkF m 49 #[.val (.int p0), .val (.int p1), .val (.int (2 : Int32)), .val (.int (0 : Int32)), .val (.ref w_BELOW), .unset] [])
      refine Go.st (fun _ k => XS.iloadN X13.here hx rfl (hb hby at_49) rfl k) ?_
      show Go _ _ _ _ _ _ _ T13 (mkF m 50 #[.val (.int p0), .val (.int p1), .val (.int (2 : Int32)), .val (.int (0 : Int32)), .val (.ref w_BELOW), .unset] [(.int (2 : Int32))])
      refine Go.st (fun _ k => XS.ifYes X13.here hx rfl (pc0 := 50) (pc' := 59) rfl (hb hby at_50) rfl ((if0 _ _).trans (feq (by decide : ¬ ((2 : Int32) = (0 : Int32)))).2) (by decide) (by decide) k) ?_
      show Go _ _ _ _ _ _ _ T13 (mkF m 59 #[.val (.int p0), .val (.int p1), .val (.int (2 : Int32)), .val (.int (0 : Int32)), .val (.ref w_BELOW), .unset] [])
      refine Go.st (fun _ k => XS.iloadN X13.here hx rfl (hb hby at_59) rfl k) ?_
      show Go _ _ _ _ _ _ _ T13 (mkF m 60 #[.val (.int p0), .val (.int p1), .val (.int (2 : Int32)), .val (.int (0 : Int32)), .val (.ref w_BELOW), .unset] [(.int (2 : Int32))])
      refine Go.st (fun _ k => XS.iconst X13.here hx rfl (hb hby at_60) k) ?_
      show Go _ _ _ _ _ _ _ T13 (mkF m 61 #[.val (.int p0), .val (.int p1), .val (.int (2 : Int32)), .val (.int (0 : Int32)), .val (.ref w_BELOW), .unset] [(.int (1 : Int32)), (.int (2 : Int32))])
      refine Go.st (fun _ k => XS.icmpYes X13.here hx rfl (pc0 := 61) (pc' := 70) rfl (hb hby at_61) rfl (feq (by decide : ¬ ((2 : Int32) = (1 : Int32)))).2 (by decide) (by decide) k) ?_
      show Go _ _ _ _ _ _ _ T13 (mkF m 70 #[.val (.int p0), .val (.int p1), .val (.int (2 : Int32)), .val (.int (0 : Int32)), .val (.ref w_BELOW), .unset] [])
      refine Go.st (fun _ k => XS.iloadN X13.here hx rfl (hb hby at_70) rfl k) ?_
      show Go _ _ _ _ _ _ _ T13 (mkF m 71 #[.val (.int p0), .val (.int p1), .val (.int (2 : Int32)), .val (.int (0 : Int32)), .val (.ref w_BELOW), .unset] [(.int (0 : Int32))])
      refine Go.st (fun _ k => XS.ifNo X13.here hx rfl (hb hby at_71) rfl ((if0 _ _).trans (teq (by decide : (0 : Int32) = (0 : Int32))).2) k) ?_
      show Go _ _ _ _ _ _ _ T13 (mkF m 74 #[.val (.int p0), .val (.int p1), .val (.int (2 : Int32)), .val (.int (0 : Int32)), .val (.ref w_BELOW), .unset] [])
      refine Go.st (fun _ k => XS.iconst X13.here hx rfl (hb hby at_74) k) ?_
      show Go _ _ _ _ _ _ _ T13 (mkF m 75 #[.val (.int p0), .val (.int p1), .val (.int (2 : Int32)), .val (.int (0 : Int32)), .val (.ref w_BELOW), .unset] [(.int (1 : Int32))])
      refine Go.st (fun _ k => XS.goto X13.here hx rfl (pc0 := 75) (pc' := 79) rfl (hb hby at_75) (by decide) (by decide) k) ?_
      show Go _ _ _ _ _ _ _ T13 (mkF m 79 #[.val (.int p0), .val (.int p1), .val (.int (2 : Int32)), .val (.int (0 : Int32)), .val (.ref w_BELOW), .unset] [(.int (1 : Int32))])
      refine Go.st (fun _ k => XS.istore X13.here hx rfl (hb hby at_79) rfl (l' := #[.val (.int p0), .val (.int p1), .val (.int (2 : Int32)), .val (.int (0 : Int32)), .val (.ref w_BELOW), .val (.int (1 : Int32))]) rfl k) ?_
      show Go _ _ _ _ _ _ _ T13 (mkF m 81 #[.val (.int p0), .val (.int p1), .val (.int (2 : Int32)), .val (.int (0 : Int32)), .val (.ref w_BELOW), .val (.int (1 : Int32))] [])
      refine Go.st (fun _ k => XS.aload X13.here hx rfl (hb hby at_81) rfl rfl k) ?_
      show Go _ _ _ _ _ _ _ T13 (mkF m 83 #[.val (.int p0), .val (.int p1), .val (.int (2 : Int32)), .val (.int (0 : Int32)), .val (.ref w_BELOW), .val (.int (1 : Int32))] [(.ref w_BELOW)])
      refine Go.st (fun _ k => XS.iloadN X13.here hx rfl (hb hby at_83) rfl k) ?_
      show Go _ _ _ _ _ _ _ T13 (mkF m 84 #[.val (.int p0), .val (.int p1), .val (.int (2 : Int32)), .val (.int (0 : Int32)), .val (.ref w_BELOW), .val (.int (1 : Int32))] [(.int (0 : Int32)), (.ref w_BELOW)])
      obtain ⟨cq14, kq14, q14a, q14b, q14c⟩ := isOf hZ e13 E_BELOW
      obtain ⟨_, _, ⟨T14, L14, k14, n14⟩, -, X14, ⟨Lc14, hQ14, l14, y14, z14⟩, st14⟩ := X13.virtualBack hx (y := (⟨"com/example/gatefold/gatefold/Scope", "reaches", "(Z)Z"⟩ : MethodName)) (z := (⟨"com/example/gatefold/gatefold/Scope", "reaches", "(Z)Z"⟩ : MethodName)) hown (mvT hZ (hw _ (List.mem_of_getElem? (i := 4) rfl))) (mvT hZ (hw _ (List.mem_of_getElem? (i := 5) rfl))) (notFace_of_selects (args := #[]) (mvT hZ (hw _ (List.mem_of_getElem? (i := 7) rfl)))) (mvT hZ (hw _ (List.mem_of_getElem? (i := 7) rfl))) (mvT hZ (hw _ (List.mem_of_getElem? (i := 6) rfl))) (by decide) (backOf (W := 0) (rm1 l Z a0 hw [] w_BELOW (0 : Int32) w_BELOW w_HERE h0 n0 Z0 S_BELOW S_HERE) hZ (hw _ (List.mem_of_getElem? (i := 8) rfl)) (hw _ (List.mem_of_getElem? (i := 2) rfl)) (by decide) (by decide)) q14a q14c (g := (mkF m 84 #[.val (.int p0), .val (.int p1), .val (.int (2 : Int32)), .val (.int (0 : Int32)), .val (.ref w_BELOW), .val (.int (1 : Int32))] [(.int (0 : Int32)), (.ref w_BELOW)])) rfl (by rw [hml]; rfl) (Steps.refl _) (argsL := [(.int (0 : Int32))]) (rest := []) (lenOf pd_0 rfl) rfl (by show 2 * 0 + _ ≤ _; exact Nat.le_of_eq rfl) (hb hby at_84) (fun _ _ => ⟨rfl, e13, (by decide : 0 + 0 ≤ _), (by decide : 0 + 0 ≤ _)⟩)
      dsimp only [Pt.U, Pt.locs, Pt.cells, Pt.slots] at X14 l14 y14 z14 st14 hQ14
      subst l14 y14 z14
      obtain ⟨rfl, N14q, e14⟩ := hQ14
      have N14 := Fr.app N0 N14q
      refine Go.st (fun _ k => st14.trans k) ?_
      show Go _ _ _ _ _ _ _ T14 (mkF m 87 #[.val (.int p0), .val (.int p1), .val (.int (2 : Int32)), .val (.int (0 : Int32)), .val (.ref w_BELOW), .val (.int (1 : Int32))] [(.int (val_1 w_BELOW (0 : Int32) w_BELOW w_HERE))])
      rw [show (val_1 w_BELOW (0 : Int32) w_BELOW w_HERE) = (1 : Int32) from by unfold val_1; rw [if_pos (by decide +kernel : (0 : Int32) = (0 : Int32)), if_neg ne_w_BELOW_w_HERE]]
      show Go _ _ _ _ _ _ _ T14 (mkF m 87 #[.val (.int p0), .val (.int p1), .val (.int (2 : Int32)), .val (.int (0 : Int32)), .val (.ref w_BELOW), .val (.int (1 : Int32))] [(.int (1 : Int32))])
      refine Go.st (fun _ k => XS.iload X14.here hx rfl (hb hby at_87) rfl k) ?_
      show Go _ _ _ _ _ _ _ T14 (mkF m 89 #[.val (.int p0), .val (.int p1), .val (.int (2 : Int32)), .val (.int (0 : Int32)), .val (.ref w_BELOW), .val (.int (1 : Int32))] [(.int (1 : Int32)), (.int (1 : Int32))])
      refine Go.st (fun _ k => XS.icmpNo X14.here hx rfl (hb hby at_89) rfl (teq (by decide : (1 : Int32) = (1 : Int32))).2 k) ?_
      show Go _ _ _ _ _ _ _ T14 (mkF m 92 #[.val (.int p0), .val (.int p1), .val (.int (2 : Int32)), .val (.int (0 : Int32)), .val (.ref w_BELOW), .val (.int (1 : Int32))] [])
      refine Go.st (fun _ k => XS.iconst X14.here hx rfl (hb hby at_92) k) ?_
      show Go _ _ _ _ _ _ _ T14 (mkF m 93 #[.val (.int p0), .val (.int p1), .val (.int (2 : Int32)), .val (.int (0 : Int32)), .val (.ref w_BELOW), .val (.int (1 : Int32))] [(.int (1 : Int32))])
      refine Go.st (fun _ k => XS.goto X14.here hx rfl (pc0 := 93) (pc' := 97) rfl (hb hby at_93) (by decide) (by decide) k) ?_
      show Go _ _ _ _ _ _ _ T14 (mkF m 97 #[.val (.int p0), .val (.int p1), .val (.int (2 : Int32)), .val (.int (0 : Int32)), .val (.ref w_BELOW), .val (.int (1 : Int32))] [(.int (1 : Int32))])
      refine Go.ret X14 hlk (v := some (.int (1 : Int32))) (fun h => by rw [hret] at h; cases h) (fun fs hr => retN X14 hx (t := .boolean) hret (by simp) (hb hby at_97) hr) ?_ (by decide) (by decide)
      show Q0 Z p0 p1 w_TREE w_BELOW w_HERE h0 n0 (some (.int (1 : Int32))) T14.heap _
      rw [e14]
      exact ⟨rfl, N14⟩
    · rw [hk12]
      show Go _ _ _ _ _ _ _ s₁ (mkF m 10 #[.val (.int p0), .val (.int p1), .val (.int (2 : Int32)), .unset, .unset, .unset] [(.int (1 : Int32))])
      refine Go.st (fun _ k => XS.ifNo X0.here hx rfl (hb hby at_10) rfl ((if0 _ _).trans (feq (by decide : ¬ ((1 : Int32) = (0 : Int32)))).1) k) ?_
      show Go _ _ _ _ _ _ _ s₁ (mkF m 13 #[.val (.int p0), .val (.int p1), .val (.int (2 : Int32)), .unset, .unset, .unset] [])
      refine Go.st (fun _ k => XS.iconst X0.here hx rfl (hb hby at_13) k) ?_
      show Go _ _ _ _ _ _ _ s₁ (mkF m 14 #[.val (.int p0), .val (.int p1), .val (.int (2 : Int32)), .unset, .unset, .unset] [(.int (1 : Int32))])
      refine Go.st (fun _ k => XS.goto X0.here hx rfl (pc0 := 14) (pc' := 18) rfl (hb hby at_14) (by decide) (by decide) k) ?_
      show Go _ _ _ _ _ _ _ s₁ (mkF m 18 #[.val (.int p0), .val (.int p1), .val (.int (2 : Int32)), .unset, .unset, .unset] [(.int (1 : Int32))])
      refine Go.st (fun _ k => XS.istoreN X0.here hx rfl (hb hby at_18) rfl (l' := #[.val (.int p0), .val (.int p1), .val (.int (2 : Int32)), .val (.int (1 : Int32)), .unset, .unset]) rfl k) ?_
      show Go _ _ _ _ _ _ _ s₁ (mkF m 19 #[.val (.int p0), .val (.int p1), .val (.int (2 : Int32)), .val (.int (1 : Int32)), .unset, .unset] [])
      refine Go.st (fun _ k => XS.iloadN X0.here hx rfl (hb hby at_19) rfl k) ?_
      show Go _ _ _ _ _ _ _ s₁ (mkF m 20 #[.val (.int p0), .val (.int p1), .val (.int (2 : Int32)), .val (.int (1 : Int32)), .unset, .unset] [(.int (2 : Int32))])
      refine Go.st (fun _ k => XS.ifYes X0.here hx rfl (pc0 := 20) (pc' := 31) rfl (hb hby at_20) rfl ((if0 _ _).trans (feq (by decide : ¬ ((2 : Int32) = (0 : Int32)))).2) (by decide) (by decide) k) ?_
      show Go _ _ _ _ _ _ _ s₁ (mkF m 31 #[.val (.int p0), .val (.int p1), .val (.int (2 : Int32)), .val (.int (1 : Int32)), .unset, .unset] [])
      refine Go.st (fun _ k => XS.iloadN X0.here hx rfl (hb hby at_31) rfl k) ?_
      show Go _ _ _ _ _ _ _ s₁ (mkF m 32 #[.val (.int p0), .val (.int p1), .val (.int (2 : Int32)), .val (.int (1 : Int32)), .unset, .unset] [(.int (2 : Int32))])
      refine Go.st (fun _ k => XS.iconst X0.here hx rfl (hb hby at_32) k) ?_
      show Go _ _ _ _ _ _ _ s₁ (mkF m 33 #[.val (.int p0), .val (.int p1), .val (.int (2 : Int32)), .val (.int (1 : Int32)), .unset, .unset] [(.int (1 : Int32)), (.int (2 : Int32))])
      refine Go.st (fun _ k => XS.icmpYes X0.here hx rfl (pc0 := 33) (pc' := 44) rfl (hb hby at_33) rfl (feq (by decide : ¬ ((2 : Int32) = (1 : Int32)))).2 (by decide) (by decide) k) ?_
      show Go _ _ _ _ _ _ _ s₁ (mkF m 44 #[.val (.int p0), .val (.int p1), .val (.int (2 : Int32)), .val (.int (1 : Int32)), .unset, .unset] [])
      obtain ⟨T15, X15, e15, st15⟩ := getS2 X0 hx hZ hown (host := "") (Or.inl (hw _ (List.mem_of_getElem? (i := 11) rfl))) Via.refl e0 S_BELOW (g := (mkF m 44 #[.val (.int p0), .val (.int p1), .val (.int (2 : Int32)), .val (.int (1 : Int32)), .unset, .unset] [])) rfl (hb hby at_44)
      refine Go.st st15 ?_
      show Go _ _ _ _ _ _ _ T15 (mkF m 47 #[.val (.int p0), .val (.int p1), .val (.int (2 : Int32)), .val (.int (1 : Int32)), .unset, .unset] [(.ref w_BELOW)])
      refine Go.st (fun _ k => XS.astore X15.here hx rfl (hb hby at_47) rfl rfl (l' := #[.val (.int p0), .val (.int p1), .val (.int (2 : Int32)), .val (.int (1 : Int32)), .val (.ref w_BELOW), .unset]) rfl k) ?_
      show Go _ _ _ _ _ _ _ T15 (mkF m 49 #[.val (.int p0), .val (.int p1), .val (.int (2 : Int32)), .val (.int (1 : Int32)), .val (.ref w_BELOW), .unset] [])
      refine Go.st (fun _ k => XS.iloadN X15.here hx rfl (hb hby at_49) rfl k) ?_
      show Go _ _ _ _ _ _ _ T15 (mkF m 50 #[.val (.int p0), .val (.int p1), .val (.int (2 : Int32)), .val (.int (1 : Int32)), .val (.ref w_BELOW), .unset] [(.int (2 : Int32))])
      refine Go.st (fun _ k => XS.ifYes X15.here hx rfl (pc0 := 50) (pc' := 59) rfl (hb hby at_50) rfl ((if0 _ _).trans (feq (by decide : ¬ ((2 : Int32) = (0 : Int32)))).2) (by decide) (by decide) k) ?_
      show Go _ _ _ _ _ _ _ T15 (mkF m 59 #[.val (.int p0), .val (.int p1), .val (.int (2 : Int32)), .val (.int (1 : Int32)), .val (.ref w_BELOW), .unset] [])
      refine Go.st (fun _ k => XS.iloadN X15.here hx rfl (hb hby at_59) rfl k) ?_
      show Go _ _ _ _ _ _ _ T15 (mkF m 60 #[.val (.int p0), .val (.int p1), .val (.int (2 : Int32)), .val (.int (1 : Int32)), .val (.ref w_BELOW), .unset] [(.int (2 : Int32))])
      refine Go.st (fun _ k => XS.iconst X15.here hx rfl (hb hby at_60) k) ?_
      show Go _ _ _ _ _ _ _ T15 (mkF m 61 #[.val (.int p0), .val (.int p1), .val (.int (2 : Int32)), .val (.int (1 : Int32)), .val (.ref w_BELOW), .unset] [(.int (1 : Int32)), (.int (2 : Int32))])
      refine Go.st (fun _ k => XS.icmpYes X15.here hx rfl (pc0 := 61) (pc' := 70) rfl (hb hby at_61) rfl (feq (by decide : ¬ ((2 : Int32) = (1 : Int32)))).2 (by decide) (by decide) k) ?_
      show Go _ _ _ _ _ _ _ T15 (mkF m 70 #[.val (.int p0), .val (.int p1), .val (.int (2 : Int32)), .val (.int (1 : Int32)), .val (.ref w_BELOW), .unset] [])
      refine Go.st (fun _ k => XS.iloadN X15.here hx rfl (hb hby at_70) rfl k) ?_
      show Go _ _ _ _ _ _ _ T15 (mkF m 71 #[.val (.int p0), .val (.int p1), .val (.int (2 : Int32)), .val (.int (1 : Int32)), .val (.ref w_BELOW), .unset] [(.int (1 : Int32))])
      refine Go.st (fun _ k => XS.ifYes X15.here hx rfl (pc0 := 71) (pc' := 78) rfl (hb hby at_71) rfl ((if0 _ _).trans (feq (by decide : ¬ ((1 : Int32) = (0 : Int32)))).2) (by decide) (by decide) k) ?_
      show Go _ _ _ _ _ _ _ T15 (mkF m 78 #[.val (.int p0), .val (.int p1), .val (.int (2 : Int32)), .val (.int (1 : Int32)), .val (.ref w_BELOW), .unset] [])
      refine Go.st (fun _ k => XS.iconst X15.here hx rfl (hb hby at_78) k) ?_
      show Go _ _ _ _ _ _ _ T15 (mkF m 79 #[.val (.int p0), .val (.int p1), .val (.int (2 : Int32)), .val (.int (1 : Int32)), .val (.ref w_BELOW), .unset] [(.int (0 : Int32))])
      refine Go.st (fun _ k => XS.istore X15.here hx rfl (hb hby at_79) rfl (l' := #[.val (.int p0), .val (.int p1), .val (.int (2 : Int32)), .val (.int (1 : Int32)), .val (.ref w_BELOW), .val (.int (0 : Int32))]) rfl k) ?_
      show Go _ _ _ _ _ _ _ T15 (mkF m 81 #[.val (.int p0), .val (.int p1), .val (.int (2 : Int32)), .val (.int (1 : Int32)), .val (.ref w_BELOW), .val (.int (0 : Int32))] [])
      refine Go.st (fun _ k => XS.aload X15.here hx rfl (hb hby at_81) rfl rfl k) ?_
      show Go _ _ _ _ _ _ _ T15 (mkF m 83 #[.val (.int p0), .val (.int p1), .val (.int (2 : Int32)), .val (.int (1 : Int32)), .val (.ref w_BELOW), .val (.int (0 : Int32))] [(.ref w_BELOW)])
      refine Go.st (fun _ k => XS.iloadN X15.here hx rfl (hb hby at_83) rfl k) ?_
      show Go _ _ _ _ _ _ _ T15 (mkF m 84 #[.val (.int p0), .val (.int p1), .val (.int (2 : Int32)), .val (.int (1 : Int32)), .val (.ref w_BELOW), .val (.int (0 : Int32))] [(.int (1 : Int32)), (.ref w_BELOW)])
      obtain ⟨cq16, kq16, q16a, q16b, q16c⟩ := isOf hZ e15 E_BELOW
      obtain ⟨_, _, ⟨T16, L16, k16, n16⟩, -, X16, ⟨Lc16, hQ16, l16, y16, z16⟩, st16⟩ := X15.virtualBack hx (y := (⟨"com/example/gatefold/gatefold/Scope", "reaches", "(Z)Z"⟩ : MethodName)) (z := (⟨"com/example/gatefold/gatefold/Scope", "reaches", "(Z)Z"⟩ : MethodName)) hown (mvT hZ (hw _ (List.mem_of_getElem? (i := 4) rfl))) (mvT hZ (hw _ (List.mem_of_getElem? (i := 5) rfl))) (notFace_of_selects (args := #[]) (mvT hZ (hw _ (List.mem_of_getElem? (i := 7) rfl)))) (mvT hZ (hw _ (List.mem_of_getElem? (i := 7) rfl))) (mvT hZ (hw _ (List.mem_of_getElem? (i := 6) rfl))) (by decide) (backOf (W := 0) (rm1 l Z a0 hw [] w_BELOW (1 : Int32) w_BELOW w_HERE h0 n0 Z0 S_BELOW S_HERE) hZ (hw _ (List.mem_of_getElem? (i := 8) rfl)) (hw _ (List.mem_of_getElem? (i := 2) rfl)) (by decide) (by decide)) q16a q16c (g := (mkF m 84 #[.val (.int p0), .val (.int p1), .val (.int (2 : Int32)), .val (.int (1 : Int32)), .val (.ref w_BELOW), .val (.int (0 : Int32))] [(.int (1 : Int32)), (.ref w_BELOW)])) rfl (by rw [hml]; rfl) (Steps.refl _) (argsL := [(.int (1 : Int32))]) (rest := []) (lenOf pd_0 rfl) rfl (by show 2 * 0 + _ ≤ _; exact Nat.le_of_eq rfl) (hb hby at_84) (fun _ _ => ⟨rfl, e15, (by decide : 0 + 0 ≤ _), (by decide : 0 + 0 ≤ _)⟩)
      dsimp only [Pt.U, Pt.locs, Pt.cells, Pt.slots] at X16 l16 y16 z16 st16 hQ16
      subst l16 y16 z16
      obtain ⟨rfl, N16q, e16⟩ := hQ16
      have N16 := Fr.app N0 N16q
      refine Go.st (fun _ k => st16.trans k) ?_
      show Go _ _ _ _ _ _ _ T16 (mkF m 87 #[.val (.int p0), .val (.int p1), .val (.int (2 : Int32)), .val (.int (1 : Int32)), .val (.ref w_BELOW), .val (.int (0 : Int32))] [(.int (val_1 w_BELOW (1 : Int32) w_BELOW w_HERE))])
      rw [show (val_1 w_BELOW (1 : Int32) w_BELOW w_HERE) = (0 : Int32) from by unfold val_1; rw [if_neg (by decide +kernel : ¬ ((1 : Int32) = (0 : Int32))), if_pos rfl]]
      show Go _ _ _ _ _ _ _ T16 (mkF m 87 #[.val (.int p0), .val (.int p1), .val (.int (2 : Int32)), .val (.int (1 : Int32)), .val (.ref w_BELOW), .val (.int (0 : Int32))] [(.int (0 : Int32))])
      refine Go.st (fun _ k => XS.iload X16.here hx rfl (hb hby at_87) rfl k) ?_
      show Go _ _ _ _ _ _ _ T16 (mkF m 89 #[.val (.int p0), .val (.int p1), .val (.int (2 : Int32)), .val (.int (1 : Int32)), .val (.ref w_BELOW), .val (.int (0 : Int32))] [(.int (0 : Int32)), (.int (0 : Int32))])
      refine Go.st (fun _ k => XS.icmpNo X16.here hx rfl (hb hby at_89) rfl (teq (by decide : (0 : Int32) = (0 : Int32))).2 k) ?_
      show Go _ _ _ _ _ _ _ T16 (mkF m 92 #[.val (.int p0), .val (.int p1), .val (.int (2 : Int32)), .val (.int (1 : Int32)), .val (.ref w_BELOW), .val (.int (0 : Int32))] [])
      refine Go.st (fun _ k => XS.iconst X16.here hx rfl (hb hby at_92) k) ?_
      show Go _ _ _ _ _ _ _ T16 (mkF m 93 #[.val (.int p0), .val (.int p1), .val (.int (2 : Int32)), .val (.int (1 : Int32)), .val (.ref w_BELOW), .val (.int (0 : Int32))] [(.int (1 : Int32))])
      refine Go.st (fun _ k => XS.goto X16.here hx rfl (pc0 := 93) (pc' := 97) rfl (hb hby at_93) (by decide) (by decide) k) ?_
      show Go _ _ _ _ _ _ _ T16 (mkF m 97 #[.val (.int p0), .val (.int p1), .val (.int (2 : Int32)), .val (.int (1 : Int32)), .val (.ref w_BELOW), .val (.int (0 : Int32))] [(.int (1 : Int32))])
      refine Go.ret X16 hlk (v := some (.int (1 : Int32))) (fun h => by rw [hret] at h; cases h) (fun fs hr => retN X16 hx (t := .boolean) hret (by simp) (hb hby at_97) hr) ?_ (by decide) (by decide)
      show Q0 Z p0 p1 w_TREE w_BELOW w_HERE h0 n0 (some (.int (1 : Int32))) T16.heap _
      rw [e16]
      exact ⟨rfl, N16⟩
set_option maxRecDepth 65536 in
set_option maxHeartbeats 40000000 in
theorem comes_1 {Post : Tables → Env → Array Value → State → Outcome → State → Prop} (hpost : ∀ tb e args s v u, (limb_1_1.after args s (.returned v) u = true ∧ limb_1_2.after args s (.returned v) u = true ∧ True) → FrameEnd s (.returned v) u (Jvm.fieldLocs frame_1_writes args s ++ Jvm.arrayLocs frame_1_arrays args s ++ Jvm.staticLocs frame_1_statics s) 0 0 → Post tb e args s (.returned v) u) :
    ArmFor flags0 classFile x code maxLocals ret World_1 tables_1 room_1 Calls_1 rest_1 Pre_1 Post := by
  intro l hfl _ _ p e ha hc hk s m args below hf hA hF happ hP
  obtain ⟨hcalls, hrest, hpre⟩ := hP
  obtain ⟨-, -, -, hnamed, -, -, -, hat⟩ := (Spec.applies_iff hf).mp happ
  obtain ⟨hg, hn⟩ := and_e (Cond.before_iff.mp (show (Jvm.Cond.and given_1 narrow_1).before args s = true from hpre))
  obtain ⟨g1, g2⟩ := and_e hg
  obtain ⟨g3, g4⟩ := and_e g2
  obtain ⟨w0, w1, rfl⟩ : ∃ w0 w1 : Value, args = #[w0, w1] := by
    have hs : args.size = 2 := by simpa [Cond.value, given_1] using g1
    obtain ⟨L⟩ := args
    match L, hs with
    | [w0, w1], _ => exact ⟨w0, w1, rfl⟩
  have hw := fun d (hd : d ∈ tables_1) => atoms_spec (ws := Jvm.Cond.code x code maxLocals ret :: tables_1) hat d (List.mem_cons_of_mem _ hd)
  have hfit : Fit s := fun {y c} hc i hi => by
    obtain ⟨ha, rfl⟩ := Array.getElem?_eq_some_iff.mp hc
    have q := List.all_eq_true.mp ((Array.all_eq_true_iff_forall_mem.mp hF) _ (Array.getElem_mem ha)) i (List.mem_range.mpr hi)
    simpa [Array.getElem?_eq_getElem hi] using q
  obtain ⟨i0, ei0⟩ := is_v g3
  obtain rfl : w0 = (.int i0) := Option.some.inj ei0
  obtain ⟨i1, ei1⟩ := is_v g4
  obtain rfl : w1 = (.int i1) := Option.some.inj ei1
  obtain ⟨g5, g6⟩ := and_e hn
  obtain ⟨g7, g8⟩ := and_e g6
  obtain ⟨g9, g10⟩ := and_e g8
  obtain ⟨g11, g12⟩ := and_e g10
  obtain ⟨g13, g14⟩ := and_e g12
  obtain ⟨w_TREE, ev_TREE⟩ := exa_v g5
  have S_TREE := Sta.start ev_TREE (Or.inr ⟨(hw _ (List.mem_of_getElem? (i := 2) rfl)), (hw _ (List.mem_of_getElem? (i := 3) rfl))⟩)
  have E_TREE := Exa.start ev_TREE g5
  obtain ⟨w_BELOW, ev_BELOW⟩ := exa_v g7
  have S_BELOW := Sta.start ev_BELOW (Or.inr ⟨(hw _ (List.mem_of_getElem? (i := 2) rfl)), (hw _ (List.mem_of_getElem? (i := 10) rfl))⟩)
  have E_BELOW := Exa.start ev_BELOW g7
  have F_TREE_ordinal := own_fld ev_TREE g9
  have F_BELOW_ordinal := own_fld ev_BELOW g11
  obtain ⟨w_HERE, ev_HERE⟩ := exa_v g13
  have S_HERE := Sta.start ev_HERE (Or.inr ⟨(hw _ (List.mem_of_getElem? (i := 2) rfl)), (hw _ (List.mem_of_getElem? (i := 13) rfl))⟩)
  have E_HERE := Exa.start ev_HERE g13
  have F_HERE_ordinal := own_fld ev_HERE g14
  obtain ⟨n, o, h1, h2, h3, _, L, rfl, ⟨rfl, N⟩, hq⟩ := rm0 l s _ hw tables_1 i0 i1 w_TREE w_BELOW w_HERE s.heap s.heap.size (Nat.le_refl _) S_TREE E_TREE S_BELOW E_BELOW F_TREE_ordinal F_BELOW_ordinal S_HERE E_HERE F_HERE_ordinal p e ha hc hk s m _ below hf ((Spec.applies_iff_loose hf).mp happ).1 ⟨rfl, State.Warmed39.refl s, rfl⟩ trivial
  refine ⟨n, _, h1, h2, h3, hpost _ _ _ _ _ _ ⟨Cond.after_iff.mpr rfl, Cond.after_iff.mpr (eq_i res_at (Term.int_eval (1)) rfl), trivial⟩ ⟨hq.1, hq.2.1, (hq.2.2.sift fun y hy => Or.inr (N y hy)).mono (by decide) (by decide)⟩⟩
theorem main_1_1 : Claimed_1_1 := comes_1 fun _ _ _ _ _ _ h hF => ⟨h.1, hF⟩
theorem main_1_2 : Claimed_1_2 := comes_1 fun _ _ _ _ _ _ h hF => ⟨h.2.1, hF⟩
end Jvm.Pilot.@@N@@
namespace Jvm.Pilot.@@N@@
open Jvm Jvm.ClassFile Sem Op Lib Jvm.Free Jvm.Stand Jvm.Pilot.@@N@@.Jvm.D
/-! MADE BY PROGRAM (witnessworld.py) out of the Statement's table words and the real class files: 13 classes; the members and pool entries that the words name. The judged class is class 1, her method 1. -/
namespace start1
open Jvm.ClassFile
def u (s : String) : CpInfo := .utf8 (stringToUtf16 s)
/-- a pool by its gaps: so many unusable entries, then the entry; so many at the end -/
def gap : Nat → List CpInfo → List CpInfo
  | 0, r => r
  | n + 1, r => .unusable :: gap n r
def poolList (es : List (Nat × CpInfo)) (last : Nat) : List CpInfo := es.foldr (fun e r => gap e.1 (e.2 :: r)) (gap last [])
def pool (es : List (Nat × CpInfo)) (last : Nat) : Array CpInfo := ⟨poolList es last⟩
def fileOf (pool : Array CpInfo) (this : Nat) (attrs : Array Attribute := #[]) (ms : Array MethodInfo := #[]) (fl : Nat := 33) (sup : Nat := 0) (ifs : Array Nat := #[]) (fds : Array FieldInfo := #[]) : ClassFile where
  minorVersion := 0
  majorVersion := 65
  constantPool := pool
  accessFlags := fl
  thisClass := this
  superClass := sup
  interfaces := ifs
  fields := fds
  methods := ms
  attributes := attrs
def plain (name : String) (sup : Option ClassId) : Class where
  name := name
  kind := .ordinary
  loader := none
  accessFlags := 33
  super := sup
  interfaces := #[]
  cf := none
  fields := #[]
  methods := #[]
  instanceTypes := #[]
  staticTypes := #[]
  resolved := #[]
  callSites := []
  init := .initialized
  statics := none
  mirror := none

def pool0 : Array CpInfo := pool [(5, u "<init>"), (0, u "()V"), (1, .class_ 10), (1, u "java/lang/Object")] 113

def k0m0 : Method := { name := "<init>", desc := "()V", sig := { parameters := [], returnType := none }, accessFlags := 1, code := none }
/-- java/lang/Object -/
def k0 : Class := { plain "java/lang/Object" none with
  accessFlags := 33
  interfaces := #[]
  cf := some (fileOf pool0 8 #[] #[{ accessFlags := 1, nameIndex := 5, descriptorIndex := 6, attributes := #[] }] 33 0 #[] #[])
  fields := #[]
  methods := #[k0m0]
  instanceTypes := #[]
  staticTypes := #[]
  resolved := Array.replicate 124 none
  statics := none }

def pool1 : Array CpInfo := pool [(2, .class_ 4), (1, u "java/lang/Object"), (0, u "<init>"), (0, u "()V"), (0, .integer 2147483647), (0, .fieldref 9 10), (0, .class_ 11), (0, .nameAndType 12 13), (0, u "com/example/gatefold/gatefold/Scope"), (0, u "TREE"), (0, u "Lcom/example/gatefold/gatefold/Scope;"), (0, .fieldref 9 15), (0, .nameAndType 16 13), (0, u "HERE"), (0, .fieldref 9 18), (0, .nameAndType 19 13), (0, u "BELOW"), (0, .methodref 9 21), (0, .nameAndType 22 23), (0, u "reaches"), (0, u "(Z)Z"), (0, .class_ 25), (0, u "com/example/gatefold/gatefold/ScopeReachesPinLaw"), (2, u "law"), (0, u "(II)Z")] 3

def k1m0 : Method := { name := "<init>", desc := "()V", sig := { parameters := [], returnType := none }, accessFlags := 1, code := none }
def k1c1 : Code := { maxStack := 2, maxLocals := 6, code := code, exceptionTable := #[], attributes := #[] }
def k1m1 : Method := { name := "law", desc := "(II)Z", sig := { parameters := [.int, .int], returnType := some .boolean }, accessFlags := 9, code := some k1c1 }
/-- com/example/gatefold/gatefold/ScopeReachesPinLaw -/
def k1 : Class := { plain "com/example/gatefold/gatefold/ScopeReachesPinLaw" (some 0) with
  accessFlags := 49
  interfaces := #[]
  cf := some (fileOf pool1 24 #[] #[{ accessFlags := 1, nameIndex := 5, descriptorIndex := 6, attributes := #[] }, { accessFlags := 9, nameIndex := 28, descriptorIndex := 29, attributes := #[] }] 49 2 #[] #[])
  fields := #[]
  methods := #[k1m0, k1m1]
  instanceTypes := #[]
  staticTypes := #[]
  resolved := Array.replicate 33 none
  statics := none }

def pool2 : Array CpInfo := pool [(1, .class_ 2), (0, u "java/lang/constant/Constable"), (0, .class_ 4), (0, u "java/lang/Object")] 6

/-- java/lang/constant/Constable -/
def k2 : Class := { plain "java/lang/constant/Constable" (some 0) with
  accessFlags := 1537
  interfaces := #[]
  cf := some (fileOf pool2 1 #[] #[] 1537 3 #[] #[])
  fields := #[]
  methods := #[]
  instanceTypes := #[]
  staticTypes := #[]
  resolved := Array.replicate 11 none
  statics := none }

def pool3 : Array CpInfo := pool [(1, .class_ 2), (0, u "java/lang/Comparable"), (0, .class_ 4), (0, u "java/lang/Object")] 7

/-- java/lang/Comparable -/
def k3 : Class := { plain "java/lang/Comparable" (some 0) with
  accessFlags := 1537
  interfaces := #[]
  cf := some (fileOf pool3 1 #[] #[] 1537 3 #[] #[])
  fields := #[]
  methods := #[]
  instanceTypes := #[]
  staticTypes := #[]
  resolved := Array.replicate 12 none
  statics := none }

def pool4 : Array CpInfo := pool [(1, .class_ 2), (0, u "java/io/Serializable"), (0, .class_ 4), (0, u "java/lang/Object")] 2

/-- java/io/Serializable -/
def k4 : Class := { plain "java/io/Serializable" (some 0) with
  accessFlags := 1537
  interfaces := #[]
  cf := some (fileOf pool4 1 #[] #[] 1537 3 #[] #[])
  fields := #[]
  methods := #[]
  instanceTypes := #[]
  staticTypes := #[]
  resolved := Array.replicate 7 none
  statics := none }

def pool5 : Array CpInfo := pool [(2, .class_ 4), (1, u "java/lang/Enum"), (0, u "name"), (0, u "Ljava/lang/String;"), (2, u "ordinal"), (0, u "I"), (1, .class_ 14), (1, u "java/lang/Object"), (4, u "hash"), (86, .class_ 108), (1, u "java/lang/Enum$EnumDesc"), (2, .class_ 112), (0, u "java/lang/constant/Constable"), (0, .class_ 114), (0, u "java/lang/Comparable"), (0, .class_ 116), (0, u "java/io/Serializable")] 87

/-- java/lang/Enum -/
def k5 : Class := { plain "java/lang/Enum" (some 0) with
  accessFlags := 1057
  interfaces := #[2, 3, 4]
  cf := some (fileOf pool5 2 #[.nestMembers #[106]] #[] 1057 12 #[111, 113, 115] #[{ accessFlags := 18, nameIndex := 5, descriptorIndex := 6, attributes := #[] }, { accessFlags := 18, nameIndex := 9, descriptorIndex := 10, attributes := #[] }, { accessFlags := 2, nameIndex := 19, descriptorIndex := 10, attributes := #[] }])
  fields := #[{ name := "name", type := (.object "java/lang/String"), accessFlags := 18, slot := 0, constantValue := 0 }, { name := "ordinal", type := .int, accessFlags := 18, slot := 1, constantValue := 0 }, { name := "hash", type := .int, accessFlags := 2, slot := 2, constantValue := 0 }]
  methods := #[]
  instanceTypes := #[(.object "java/lang/String"), .int, .int]
  staticTypes := #[]
  resolved := Array.replicate 204 none
  statics := none }

def pool6 : Array CpInfo := pool [(2, .class_ 4), (1, u "com/example/gatefold/gatefold/Worded"), (8, .class_ 14), (0, u "java/lang/Object")] 11

/-- com/example/gatefold/gatefold/Worded -/
def k6 : Class := { plain "com/example/gatefold/gatefold/Worded" (some 0) with
  accessFlags := 1536
  interfaces := #[]
  cf := some (fileOf pool6 2 #[] #[] 1536 13 #[] #[])
  fields := #[]
  methods := #[]
  instanceTypes := #[]
  staticTypes := #[]
  resolved := Array.replicate 26 none
  statics := none }

def pool7 : Array CpInfo := pool [(1, .class_ 2), (0, u "com/example/gatefold/gatefold/Scope"), (2, u "TREE"), (0, u "Lcom/example/gatefold/gatefold/Scope;"), (0, .fieldref 1 8), (0, .nameAndType 9 6), (0, u "HERE"), (0, .fieldref 1 11), (0, .nameAndType 12 6), (0, u "BELOW"), (2, u "$VALUES"), (0, u "[Lcom/example/gatefold/gatefold/Scope;"), (6, .class_ 25), (1, u "java/lang/Enum"), (8, u "word"), (0, u "Ljava/lang/String;"), (5, .class_ 43), (1, u "com/example/gatefold/gatefold/Worded"), (24, u "reaches"), (0, u "(Z)Z")] 7

def k7c0 : Code := { maxStack := 2, maxLocals := 2, code := prog_21_method_6_code, exceptionTable := #[], attributes := #[] }
def k7m0 : Method := { name := "reaches", desc := "(Z)Z", sig := { parameters := [.boolean], returnType := some .boolean }, accessFlags := 0, code := some k7c0 }
/-- com/example/gatefold/gatefold/Scope -/
def k7 : Class := { plain "com/example/gatefold/gatefold/Scope" (some 5) with
  accessFlags := 16433
  interfaces := #[6]
  cf := some (fileOf pool7 1 #[] #[{ accessFlags := 0, nameIndex := 68, descriptorIndex := 69, attributes := #[] }] 16433 23 #[41] #[{ accessFlags := 16409, nameIndex := 5, descriptorIndex := 6, attributes := #[] }, { accessFlags := 16409, nameIndex := 9, descriptorIndex := 6, attributes := #[] }, { accessFlags := 16409, nameIndex := 12, descriptorIndex := 6, attributes := #[] }, { accessFlags := 18, nameIndex := 34, descriptorIndex := 35, attributes := #[] }, { accessFlags := 4122, nameIndex := 15, descriptorIndex := 16, attributes := #[] }])
  fields := #[{ name := "TREE", type := (.object "com/example/gatefold/gatefold/Scope"), accessFlags := 16409, slot := 0, constantValue := 0 }, { name := "HERE", type := (.object "com/example/gatefold/gatefold/Scope"), accessFlags := 16409, slot := 1, constantValue := 0 }, { name := "BELOW", type := (.object "com/example/gatefold/gatefold/Scope"), accessFlags := 16409, slot := 2, constantValue := 0 }, { name := "word", type := (.object "java/lang/String"), accessFlags := 18, slot := 3, constantValue := 0 }, { name := "$VALUES", type := (.array (.object "com/example/gatefold/gatefold/Scope")), accessFlags := 4122, slot := 3, constantValue := 0 }]
  methods := #[k7m0]
  instanceTypes := #[(.object "java/lang/String"), .int, .int, (.object "java/lang/String")]
  staticTypes := #[(.object "com/example/gatefold/gatefold/Scope"), (.object "com/example/gatefold/gatefold/Scope"), (.object "com/example/gatefold/gatefold/Scope"), (.array (.object "com/example/gatefold/gatefold/Scope"))]
  resolved := Array.replicate 77 none
  statics := some 0 }

def pool8 : Array CpInfo := pool [(1, u "java/lang/Cloneable"), (0, .class_ 1), (0, u "java/lang/Object"), (0, .class_ 3)] 3

/-- java/lang/Cloneable -/
def k8 : Class := { plain "java/lang/Cloneable" (some 0) with
  accessFlags := 1537
  interfaces := #[]
  cf := some (fileOf pool8 2 #[] #[] 1537 4 #[] #[])
  fields := #[]
  methods := #[]
  instanceTypes := #[]
  staticTypes := #[]
  resolved := Array.replicate 8 none
  statics := none }

/-- the primitive byte -/
def k9 : Class := { plain "byte" none with kind := .primitive 'B', accessFlags := 0x411 }
/-- [B -/
def k10 : Class := { plain "[B" (some 0) with kind := .array 9 .byte, interfaces := #[8, 4], accessFlags := 1041 }

/-- the primitive int -/
def k11 : Class := { plain "int" none with kind := .primitive 'I', accessFlags := 0x411 }
/-- [I -/
def k12 : Class := { plain "[I" (some 0) with kind := .array 11 .int, interfaces := #[8, 4], accessFlags := 1041 }

def heap : Heap := #[{ cls := 7, slots := #[.ref 1, .ref 3, .ref 2, .null], vm := .statics 7 },
  { cls := 7, slots := #[.null, .int 0, .int 0, .null], vm := .none },
  { cls := 7, slots := #[.null, .int 2, .int 0, .null], vm := .none },
  { cls := 7, slots := #[.null, .int 1, .int 0, .null], vm := .none }]
def classes : Array Class := #[k0, k1, k2, k3, k4, k5, k6, k7, k8, k9, k10, k11, k12]
def interned : List (Array UInt16 × Addr) := []
def slotsUsed : Nat := 16
def theMethod : MethodId := ⟨1, 1⟩
def args0 : Array Value := #[.int 5, .int 3]
def aboutOver (below : List Frame) : State where
  vm := { classes := classes, interned := interned.toArray }
  heap := heap
  slotsUsed := slotsUsed
  threads := #[{ frames := .invoking theMethod args0 :: below }]
def below0 : List Frame := [.native { method := ⟨0, 0⟩, args := #[] }]
def about1 : State := aboutOver below0
def p0 : Program := .bare "" "" ""
def e0 : Env := launch0.env 0 0 0
theorem w_frames : about1.frames = Frame.invoking theMethod args0 :: below0 := rfl
set_option maxRecDepth 65536 in
theorem w_args : argsFit about1.vm theMethod args0 = true := by decide +kernel
set_option maxRecDepth 65536 in
theorem w_heap : heapFits about1 = true := by decide +kernel
set_option maxRecDepth 65536 in
theorem w_runnable : about1.curStatus? = some .runnable := by decide +kernel
set_option maxRecDepth 65536 in
theorem w_alone : about1.alone = true := by decide +kernel
set_option maxRecDepth 65536 in
theorem w_named : about1.methodNamed? x = some theMethod := by decide +kernel
set_option maxRecDepth 65536 in
theorem w_hears : about1.hears theMethod below0 = true := by decide +kernel
set_option maxRecDepth 65536 in
theorem w_ripe : about1.ripe theMethod args0 below0 = true := by decide +kernel
theorem w_running : about1.status = .running := rfl
set_option maxRecDepth 65536 in
theorem w_room : about1.hasRoom e0.platform room_1 = true :=
  launch0.hasRoom_least _ room_1 (by decide +kernel) (by decide +kernel) (by decide +kernel) (by decide +kernel) (by decide +kernel) (by decide +kernel)
theorem allAtoms_all (ts : List Jvm.Cond) (a : Array Jvm.Value) (st : Jvm.State) : (allAtoms ts).before a st = ts.all (fun c => c.before a st) := by
  induction ts with
  | nil => rfl
  | cons c t ih =>
    show (Jvm.Cond.and c (allAtoms t)).before a st = _
    rw [Jvm.Cond.before_and, ih, List.all_cons]
def words1 : List Jvm.Cond := Jvm.Cond.code x code maxLocals ret :: tables_1
/-- a 'code' word, met by the world's own term for the bytes: nothing is compared byte by byte -/
theorem code_word {y : MethodName} {bytes : ByteArray} {mx : Nat} {rt : Option FieldType} {a : Array Value} {s : State} {m : MethodId} {meth : Method} {c : Code} (h1 : s.methodNamed? y = some m) (h2 : s.vm.method? m = some meth) (h3 : meth.code = some c) (h4 : c.code = bytes)
    (h5 : (c.maxLocals == mx && c.exceptionTable.isEmpty && decide (c.maxStack ≤ mostOperands) && decide (meth.sig.returnType = rt) && !meth.locks && decide (parseMethodDescriptor y.desc = some meth.sig)) = true) : (Jvm.Cond.code y bytes mx rt).before a s = true := by
  simp only [Bool.and_eq_true, beq_iff_eq, Bool.not_eq_true', decide_eq_true_eq] at h5
  obtain ⟨⟨⟨⟨⟨g1, g2⟩, g3⟩, g4⟩, g5⟩, g6⟩ := h5
  simp [Cond.before, Cond.holds, Cond.value, h1, h2, h3, h4, g1, g2, g3, g4, g5, g6]
def isCode : Jvm.Cond → Bool
  | .code _ _ _ _ => true
  | _ => false
theorem all_split {L : List Jvm.Cond} {P : Jvm.Cond → Bool} (h1 : L.all (fun c => isCode c || P c) = true) (h2 : ∀ c ∈ L.filter isCode, P c = true) : L.all P = true := by
  refine List.all_eq_true.mpr fun c hc => ?_
  have h := List.all_eq_true.mp h1 c hc
  rcases Bool.eq_false_or_eq_true (isCode c) with hi | hi
  · exact h2 c (List.mem_filter.mpr ⟨hc, hi⟩)
  · simpa [hi] using h
set_option maxRecDepth 65536 in
theorem w_c0 : (Jvm.Cond.code x code maxLocals ret).before args0 about1 = true := code_word (m := ⟨1, 1⟩) (meth := k1m1) (c := k1c1) (by decide +kernel) rfl rfl rfl (by decide +kernel)
set_option maxRecDepth 65536 in
theorem w_c1 : (Jvm.Cond.code ({ cls := "com/example/gatefold/gatefold/Scope", name := "reaches", desc := "(Z)Z" } : Jvm.MethodName) prog_21_method_6_code (2 : Nat) (Option.some Jvm.ClassFile.FieldType.boolean)).before args0 about1 = true := code_word (m := ⟨7, 0⟩) (meth := k7m0) (c := k7c0) (by decide +kernel) rfl rfl rfl (by decide +kernel)
def codes1 : List Jvm.Cond := [Jvm.Cond.code x code maxLocals ret, Jvm.Cond.code ({ cls := "com/example/gatefold/gatefold/Scope", name := "reaches", desc := "(Z)Z" } : Jvm.MethodName) prog_21_method_6_code (2 : Nat) (Option.some Jvm.ClassFile.FieldType.boolean)]
set_option maxRecDepth 65536 in
theorem codes_eq : words1.filter isCode = codes1 := rfl
theorem w_codes : ∀ c ∈ words1.filter isCode, c.before args0 about1 = true := by
  rw [codes_eq]
  intro c hc
  simp only [codes1, List.mem_cons, List.not_mem_nil, or_false] at hc
  rcases hc with rfl | rfl
  · exact w_c0
  · exact w_c1
set_option maxRecDepth 65536 in
theorem w_t1 : words1.all (fun c => isCode c || c.before args0 about1) = true := by decide +kernel
theorem w_tables : (allAtoms (Jvm.Cond.code x code maxLocals ret :: tables_1)).before args0 about1 = true := by
  rw [allAtoms_all]
  show words1.all (fun c => c.before args0 about1) = true
  refine all_split ?_ w_codes
  rw [w_t1]
set_option maxRecDepth 65536 in
theorem w_case : (Jvm.Cond.and given_1 narrow_1).before args0 about1 = true := by decide +kernel
theorem w_applies : (headSpec (Jvm.Cond.code x code maxLocals ret :: tables_1) room_1).applies x e0.platform about1 = true :=
  (Spec.applies_iff w_frames).mpr ⟨w_running, w_runnable, w_alone, w_named, w_hears, w_ripe, w_room, w_tables⟩
theorem atStart : AtStart classFile x code maxLocals ret World_1 tables_1 room_1 Calls_1 rest_1 Pre_1 launch0 p0 e0 about1 theMethod args0 below0 :=
  ⟨lists_1, trivial, launch0.admits_env _ _ _, launch0.least_env, fairChoices_fair.cas, fairChoices_fair.clock, w_frames, w_args, w_heap, w_applies, trivial, trivial, w_case⟩
end start1
theorem witness_1 : WitnessClaimed_1 := ⟨start1.p0, start1.e0, start1.about1, start1.theMethod, start1.args0, start1.below0, start1.atStart⟩
end Jvm.Pilot.@@N@@
