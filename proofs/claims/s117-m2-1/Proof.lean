import JvmDerived
import JvmDerived.Pilot.@@N@@Statement
import JvmDerived.Pilot.@@N@@Code
set_option linter.unusedVariables false
set_option linter.unusedSimpArgs false
namespace Jvm.Pilot.@@N@@
open Jvm Jvm.ClassFile Sem Op Lib Jvm.Free Jvm.Stand Jvm.LawKit Jvm.RoadKit Bundle Jvm.Pilot.@@N@@.Jvm.D
section Own
variable {p : Program} {l : Launch} {e : Env} {R : Room} {s : State} {m : MethodId} {args : Array Value} {below : List Frame} {meth : Method} {c : Code} {T T' : State} {locs : List Loc} {cells slots : Nat}
/-- from the frame f on the run returns, and what it leaves is said by Q -/
def Go (p : Program) (e : Env) (below : List Frame) (s : State) (Q : Option Value → Heap → List Loc → Prop) (cs ss : Nat) (T : State) (f : JFrame) : Prop :=
  ∃ s₂ o, Steps p.tables e below (T.setTop f) s₂ ∧ s₂.status = .running ∧ Ended s₂ below o ∧ ∃ v L, o = .returned v ∧ Q v s₂.heap L ∧ FrameEnd s o s₂ L cs ss
theorem Go.st {Q : Option Value → Heap → List Loc → Prop} {cs ss : Nat} {f f' : JFrame} (k : ∀ t, Steps p.tables e below (T'.setTop f') t → Steps p.tables e below (T.setTop f) t) (h : Go p e below s Q cs ss T' f') : Go p e below s Q cs ss T f := by
  obtain ⟨s₂, o, h1, h2⟩ := h
  exact ⟨s₂, o, k _ h1, h2⟩
theorem Go.start {Q : Option Value → Heap → List Loc → Prop} {cs ss ml : Nat} {f : JFrame} (hf : entryFrame m args ml = f) (h : Go p e below s Q cs ss T f) :
    ∃ s₂ o, Steps p.tables e below (T.setTop (entryFrame m args ml)) s₂ ∧ s₂.status = .running ∧ Ended s₂ below o ∧ ∃ v L, o = .returned v ∧ Q v s₂.heap L ∧ FrameEnd s o s₂ L cs ss := by
  subst hf; exact h
theorem Go.fr {Q : Option Value → Heap → List Loc → Prop} {cs ss : Nat} {f f' : JFrame} (q : f = f') (h : Go p e below s Q cs ss T f') : Go p e below s Q cs ss T f := by
  subst q; exact h
theorem Go.ret {Q : Option Value → Heap → List Loc → Prop} {cs ss : Nat} {f : JFrame} (X : Stand p l e R s m args below meth c T locs cells slots) (hlk : meth.locks = false) {v : Option Value} (hv : meth.sig.returnType = none → v = none)
    (k : ∀ fs, (∀ (f : JFrame) (acts : List Action), f.method = m → f.locked = none → f.entered = [] → (doReturn e (T.setTop f) acts v).1 = T.setFrames fs) → Steps p.tables e below (T.setTop f) (T.setFrames fs))
    (hQ : Q v T.heap locs) (hc : cells ≤ cs) (hs : slots ≤ ss) : Go p e below s Q cs ss T f := by
  obtain ⟨fs, hr, hrun, hended, hW, hsame⟩ := X.leave (v := v) hv hlk
  exact ⟨_, _, k fs hr, hrun, hended, _, _, rfl, hQ, ⟨_, rfl⟩, hW, hsame.mono hc hs⟩
theorem own_fld {t : Term} {a : Addr} {C n d : String} {k : Int32} (ev : t.eval args s none [] s = some (.ref a)) (h : (Jvm.Cond.eq (.field t C n d) (.int k)).value args s none s [] = some true) : Fld s s.heap a C n d (.int k) := by
  have q : (Term.field t C n d).eval args s none [] s = s.fieldOf? a C n d := fld_at ev
  have q2 : (Term.field t C n d).eval args s none [] s = some (.int k) := Cond.eq_int (Cond.before_iff.mpr h) rfl
  exact Fld.start (q.symm.trans q2)
theorem own_sta {Z : State} {h h' : Heap} {C n d : String} {v : Value} {ws : List Addr} (F : Sta Z h C n d v) (K : Keep h h' ws) (q : ∀ x ∈ ws, ∃ c : Cell, h[x]? = some c ∧ ∀ q, c.vm ≠ .statics q) : Sta Z h' C n d v := by
  obtain ⟨cf, i, k, f, st, cell, h1, h2, h3, h4, h5, h6, h7⟩ := F
  refine ⟨cf, i, k, f, st, cell, h1, h2, h3, h4, K.2.1 st cell h5 fun hm => ?_, h6, h7⟩
  obtain ⟨c, hc, hn⟩ := q st hm
  cases hc.symm.trans h5
  cases hv : cell.vm <;> simp [hv, VmData.isStatics] at h6 hn
theorem own_bb (x : Int32) : x.toInt8.toInt32.toInt8.toInt32 = x.toInt8.toInt32 := by simp
theorem own_arvcell {Z : State} {h : Heap} {a : Addr} {k : ClassId} {ty : FieldType} {z : Int32} {vs : List Value} {dv : Value} (F : Arv Z h a k ty z vs dv) : ∃ c : Cell, h[a]? = some c ∧ ∀ q, c.vm ≠ .statics q := by
  obtain ⟨c, A, -⟩ := F
  exact ⟨c, A.1, fun q hq => by have := A.plain; simp [hq, VmData.isStatics] at this⟩
/-- a static that holds a reference or null -/
def StaR (Z : State) (h : Heap) (C n d : String) : Prop := Sta Z h C n d .null ∨ ∃ a, Sta Z h C n d (.ref a)
theorem StaR.ext {Z : State} {h h' : Heap} {C n d : String} (F : StaR Z h C n d) (E : Ext h h') : StaR Z h' C n d := F.imp (fun q => q.ext E) fun ⟨a, q⟩ => ⟨a, q.ext E⟩
theorem StaR.wr {Z : State} {h h' : Heap} {C n d : String} {a : Addr} {sl : Nat} {v : Value} (F : StaR Z h C n d) (W : Wr h h' a sl v) : StaR Z h' C n d := F.imp (fun q => q.wr W) fun ⟨a, q⟩ => ⟨a, q.wr W⟩
theorem own_staR {Z : State} {h h' : Heap} {C n d : String} {ws : List Addr} (F : StaR Z h C n d) (K : Keep h h' ws) (q : ∀ x ∈ ws, ∃ c : Cell, h[x]? = some c ∧ ∀ q, c.vm ≠ .statics q) : StaR Z h' C n d := F.imp (fun r => own_sta r K q) fun ⟨a, r⟩ => ⟨a, own_sta r K q⟩
end Own
theorem pn_com_example_grantd_grantd_policy_TruthNegatedPinLaw : plainName "com/example/grantd/grantd/policy/TruthNegatedPinLaw" = true := by first | (simp [plainName, overriddenIn]; done) | decide +kernel
theorem pn_com_example_grantd_grantd_policy_Condition_Truth : plainName "com/example/grantd/grantd/policy/Condition$Truth" = true := by first | (simp [plainName, overriddenIn]; done) | decide +kernel
theorem pn_java_lang_Enum : plainName "java/lang/Enum" = true := by first | (simp [plainName, overriddenIn]; done) | decide +kernel
theorem pd_0 : parseMethodDescriptor "()I" = some ⟨[], some .int⟩ := by decide +kernel
theorem pd_1 : parseMethodDescriptor "(I)Lcom/example/grantd/grantd/policy/Condition$Truth;" = some ⟨[.int], some (.object "com/example/grantd/grantd/policy/Condition$Truth")⟩ := by decide +kernel
theorem pd_2 : parseMethodDescriptor "()Lcom/example/grantd/grantd/policy/Condition$Truth;" = some ⟨[], some (.object "com/example/grantd/grantd/policy/Condition$Truth")⟩ := by decide +kernel
theorem pd_3 : parseMethodDescriptor "(Z)Lcom/example/grantd/grantd/policy/Condition$Truth;" = some ⟨[.boolean], some (.object "com/example/grantd/grantd/policy/Condition$Truth")⟩ := by decide +kernel
theorem own_rem (x k : Int32) (hk : 0 < k.toInt) : 0 ≤ ((x &&& 2147483647) % k).toInt ∧ ((x &&& 2147483647) % k).toInt < k.toInt := by
  have h := c_mask x 2147483647 31 (by decide) (by decide)
  have h0 : 0 ≤ (x &&& 2147483647).toInt := by rw [h]; omega
  have h2 := (c_iremV (x &&& 2147483647) k).1 h0 hk
  exact ⟨h2.1, h2.2.1⟩
theorem own_i32 {x : Int32} {k : Int} (h : x.toInt = k) (y : Int32) (hy : y.toInt = k) : x = y := Int32.toInt_inj.mp (h.trans hy.symm)
theorem own_mod3 (x : Int32) : (x &&& 2147483647) % 3 = 0 ∨ (x &&& 2147483647) % 3 = 1 ∨ (x &&& 2147483647) % 3 = 2 := by
  have h := own_rem x 3 (by decide)
  have h3 : (3 : Int32).toInt = 3 := by decide
  rw [h3] at h
  generalize (x &&& 2147483647) % 3 = y at h ⊢
  have : y.toInt = 0 ∨ y.toInt = 1 ∨ y.toInt = 2 := by omega
  rcases this with h | h | h
  · exact Or.inl (own_i32 h 0 (by decide))
  · exact Or.inr (Or.inl (own_i32 h 1 (by decide)))
  · exact Or.inr (Or.inr ((own_i32 h 2 (by decide))))
theorem d1_0 : decode method_2_code 0 = .ok (.iload_n 0, 1) := by decide +kernel
theorem d1_1 : decode method_2_code 1 = .ok (.ifCond .ne 7, 3) := by decide +kernel
theorem d1_4 : decode method_2_code 4 = .ok (.getstatic 7, 3) := by decide +kernel
theorem d1_7 : decode method_2_code 7 = .ok (.areturn, 1) := by decide +kernel
theorem d1_8 : decode method_2_code 8 = .ok (.iload_n 0, 1) := by decide +kernel
theorem d1_9 : decode method_2_code 9 = .ok (.iconst 1, 1) := by decide +kernel
theorem d1_10 : decode method_2_code 10 = .ok (.if_icmp .ne 7, 3) := by decide +kernel
theorem d1_13 : decode method_2_code 13 = .ok (.getstatic 13, 3) := by decide +kernel
theorem d1_16 : decode method_2_code 16 = .ok (.areturn, 1) := by decide +kernel
theorem d1_17 : decode method_2_code 17 = .ok (.getstatic 16, 3) := by decide +kernel
theorem d1_20 : decode method_2_code 20 = .ok (.areturn, 1) := by decide +kernel
def val_1 (p0 : Int32) (w_HOLDS : Addr) (w_FAILS : Addr) (w_EITHER : Addr) : Addr := (if p0 = (0 : Int32) then w_HOLDS else (if p0 = (1 : Int32) then w_FAILS else w_EITHER))
theorem ef_1 (m : MethodId) (p0 : Int32) : entryFrame m #[(.int p0)] 1 = mkF m 0 #[.val (.int p0)] [] := by first | (simp [entryFrame, mkF, argsToLocals, Value.category]; done) | rfl
def Q1 (Z : State) (p0 : Int32) (w_HOLDS : Addr) (w_FAILS : Addr) (w_EITHER : Addr) (h0 : Heap) (n0 : Nat) (v : Option Value) (h : Heap) (L : List Loc) : Prop := v = some (.ref (val_1 p0 w_HOLDS w_FAILS w_EITHER)) ∧ Fr n0 L ∧ h = h0
set_option maxRecDepth 65536 in
set_option maxHeartbeats 40000000 in
theorem rm1 (l : Launch) (Z : State) (a0 : Array Value) (hw : ∀ d ∈ tables_1, d.before a0 Z = true) (ws : List Jvm.Cond) (p0 : Int32) (w_HOLDS : Addr) (w_FAILS : Addr) (w_EITHER : Addr) (h0 : Heap) (n0 : Nat) (Z0 : n0 ≤ h0.size) (S_HOLDS : Sta Z h0 "com/example/grantd/grantd/policy/Condition$Truth" "HOLDS" "Lcom/example/grantd/grantd/policy/Condition$Truth;" (.ref w_HOLDS)) (S_FAILS : Sta Z h0 "com/example/grantd/grantd/policy/Condition$Truth" "FAILS" "Lcom/example/grantd/grantd/policy/Condition$Truth;" (.ref w_FAILS)) (S_EITHER : Sta Z h0 "com/example/grantd/grantd/policy/Condition$Truth" "EITHER" "Lcom/example/grantd/grantd/policy/Condition$Truth;" (.ref w_EITHER)) :
    MetFree l (⟨"com/example/grantd/grantd/policy/TruthNegatedPinLaw", "pick", "(I)Lcom/example/grantd/grantd/policy/Condition$Truth;"⟩ : MethodName) (head1 (Jvm.Cond.code (⟨"com/example/grantd/grantd/policy/TruthNegatedPinLaw", "pick", "(I)Lcom/example/grantd/grantd/policy/Condition$Truth;"⟩ : MethodName) method_2_code 1 (some (.object "com/example/grantd/grantd/policy/Condition$Truth")) :: ws) ({ frames := 0, cells := 0, slots := 0, locals := 0 } : Room)) (fun a U => a = #[(.int p0)] ∧ Z.Warmed39 U.vm ∧ U.heap = h0) (fun _ _ _ _ _ => True) (fun _ U o U' => ∃ v L, o = .returned v ∧ Q1 Z p0 w_HOLDS w_FAILS w_EITHER h0 n0 v U'.heap L ∧ FrameEnd U o U' L ({ frames := 0, cells := 0, slots := 0, locals := 0 } : Room).cells ({ frames := 0, cells := 0, slots := 0, locals := 0 } : Room).slots) := by
  refine MetFree.of_bodySF (plainFor_of_name pn_com_example_grantd_grantd_policy_TruthNegatedPinLaw) hisR ?_
  intro p e s m args below meth c s₁ Bd hml0 hP hK
  obtain ⟨rfl, hZ, hh⟩ := hP
  have hx := Bd.exec
  have hby := Bd.bytes
  have hlk : meth.locks = false := BodyLoose.notSynchronized Bd
  have hret := Bd.returns
  have hml : c.maxLocals = 1 := hml0
  have hown : s.vm.findClass "com/example/grantd/grantd/policy/TruthNegatedPinLaw" = some m.cls := findClass_of_methodNamed Bd.named
  have hnm := (name_of_methodNamed Bd.named Bd.method).1
  have X0 : Stand p l e ({ frames := 0, cells := 0, slots := 0, locals := 0 } : Room) s m #[(.int p0)] below meth c s₁ [] 0 0 := Stand.of_body Bd
  have e0 : s₁.heap = h0 := by rw [← hh, Bd.state]; rfl
  have N0 := Fr.nil n0
  refine Go.start (Q := Q1 Z p0 w_HOLDS w_FAILS w_EITHER h0 n0) (ef_1 m p0) ?_
  show Go _ _ _ _ _ _ _ s₁ (mkF m 0 #[.val (.int p0)] [])
  refine Go.st (fun _ k => XS.iloadN X0.here hx rfl (hb hby d1_0) rfl k) ?_
  show Go _ _ _ _ _ _ _ s₁ (mkF m 1 #[.val (.int p0)] [(.int p0)])
  by_cases hc1 : p0 = (0 : Int32)
  · refine Go.st (fun _ k => XS.ifNo X0.here hx rfl (hb hby d1_1) rfl ((if0 _ _).trans (teq hc1).2) k) ?_
    show Go _ _ _ _ _ _ _ s₁ (mkF m 4 #[.val (.int p0)] [])
    obtain ⟨T2, X2, e2, st2⟩ := getS2 X0 hx hZ hown (host := "") (Or.inl (hw _ (List.mem_of_getElem? (i := 5) rfl))) Via.refl e0 S_HOLDS (g := (mkF m 4 #[.val (.int p0)] [])) rfl (hb hby d1_4)
    refine Go.st st2 ?_
    show Go _ _ _ _ _ _ _ T2 (mkF m 7 #[.val (.int p0)] [(.ref w_HOLDS)])
    refine Go.ret X2 hlk (v := some (.ref w_HOLDS)) (fun h => by rw [hret] at h; cases h) (fun fs hr => retOut X2 hx (i := .areturn) hret rfl (Or.inr (Or.inr (Or.inr (Or.inr ⟨rfl, rfl, rfl⟩)))) (hb hby d1_7) hr) ?_ (by decide) (by decide)
    show Q1 Z p0 w_HOLDS w_FAILS w_EITHER h0 n0 (some (.ref w_HOLDS)) T2.heap _
    rw [e2]
    refine ⟨?_, N0, rfl⟩
    unfold val_1
    first | rfl | rw [if_pos hc1]
  · refine Go.st (fun _ k => XS.ifYes X0.here hx rfl (pc0 := 1) (pc' := 8) rfl (hb hby d1_1) rfl ((if0 _ _).trans (feq hc1).2) (by decide) (by decide) k) ?_
    show Go _ _ _ _ _ _ _ s₁ (mkF m 8 #[.val (.int p0)] [])
    refine Go.st (fun _ k => XS.iloadN X0.here hx rfl (hb hby d1_8) rfl k) ?_
    show Go _ _ _ _ _ _ _ s₁ (mkF m 9 #[.val (.int p0)] [(.int p0)])
    refine Go.st (fun _ k => XS.iconst X0.here hx rfl (hb hby d1_9) k) ?_
    show Go _ _ _ _ _ _ _ s₁ (mkF m 10 #[.val (.int p0)] [(.int (1 : Int32)), (.int p0)])
    by_cases hc3 : p0 = (1 : Int32)
    · refine Go.st (fun _ k => XS.icmpNo X0.here hx rfl (hb hby d1_10) rfl (teq hc3).2 k) ?_
      show Go _ _ _ _ _ _ _ s₁ (mkF m 13 #[.val (.int p0)] [])
      obtain ⟨T4, X4, e4, st4⟩ := getS2 X0 hx hZ hown (host := "") (Or.inl (hw _ (List.mem_of_getElem? (i := 8) rfl))) Via.refl e0 S_FAILS (g := (mkF m 13 #[.val (.int p0)] [])) rfl (hb hby d1_13)
      refine Go.st st4 ?_
      show Go _ _ _ _ _ _ _ T4 (mkF m 16 #[.val (.int p0)] [(.ref w_FAILS)])
      refine Go.ret X4 hlk (v := some (.ref w_FAILS)) (fun h => by rw [hret] at h; cases h) (fun fs hr => retOut X4 hx (i := .areturn) hret rfl (Or.inr (Or.inr (Or.inr (Or.inr ⟨rfl, rfl, rfl⟩)))) (hb hby d1_16) hr) ?_ (by decide) (by decide)
      show Q1 Z p0 w_HOLDS w_FAILS w_EITHER h0 n0 (some (.ref w_FAILS)) T4.heap _
      rw [e4]
      refine ⟨?_, N0, rfl⟩
      unfold val_1
      first | rfl | rw [if_neg hc1, if_pos hc3]
    · refine Go.st (fun _ k => XS.icmpYes X0.here hx rfl (pc0 := 10) (pc' := 17) rfl (hb hby d1_10) rfl (feq hc3).2 (by decide) (by decide) k) ?_
      show Go _ _ _ _ _ _ _ s₁ (mkF m 17 #[.val (.int p0)] [])
      obtain ⟨T5, X5, e5, st5⟩ := getS2 X0 hx hZ hown (host := "") (Or.inl (hw _ (List.mem_of_getElem? (i := 29) rfl))) Via.refl e0 S_EITHER (g := (mkF m 17 #[.val (.int p0)] [])) rfl (hb hby d1_17)
      refine Go.st st5 ?_
      show Go _ _ _ _ _ _ _ T5 (mkF m 20 #[.val (.int p0)] [(.ref w_EITHER)])
      refine Go.ret X5 hlk (v := some (.ref w_EITHER)) (fun h => by rw [hret] at h; cases h) (fun fs hr => retOut X5 hx (i := .areturn) hret rfl (Or.inr (Or.inr (Or.inr (Or.inr ⟨rfl, rfl, rfl⟩)))) (hb hby d1_20) hr) ?_ (by decide) (by decide)
      show Q1 Z p0 w_HOLDS w_FAILS w_EITHER h0 n0 (some (.ref w_EITHER)) T5.heap _
      rw [e5]
      refine ⟨?_, N0, rfl⟩
      unfold val_1
      first | rfl | rw [if_neg hc1, if_neg hc3]
theorem d4_0 : decode prog_39_method_4_code 0 = .ok (.iload_n 0, 1) := by decide +kernel
theorem d4_1 : decode prog_39_method_4_code 1 = .ok (.ifCond .eq 9, 3) := by decide +kernel
theorem d4_4 : decode prog_39_method_4_code 4 = .ok (.getstatic 3, 3) := by decide +kernel
theorem d4_7 : decode prog_39_method_4_code 7 = .ok (.goto 6, 3) := by decide +kernel
theorem d4_10 : decode prog_39_method_4_code 10 = .ok (.getstatic 7, 3) := by decide +kernel
theorem d4_13 : decode prog_39_method_4_code 13 = .ok (.areturn, 1) := by decide +kernel
def val_4 (p0 : Int32) (w_HOLDS : Addr) (w_FAILS : Addr) : Addr := (if p0 = (0 : Int32) then w_FAILS else w_HOLDS)
theorem ef_4 (m : MethodId) (p0 : Int32) : entryFrame m #[(.int p0)] 1 = mkF m 0 #[.val (.int p0)] [] := by first | (simp [entryFrame, mkF, argsToLocals, Value.category]; done) | rfl
def Q4 (Z : State) (p0 : Int32) (w_HOLDS : Addr) (w_FAILS : Addr) (h0 : Heap) (n0 : Nat) (v : Option Value) (h : Heap) (L : List Loc) : Prop := v = some (.ref (val_4 p0 w_HOLDS w_FAILS)) ∧ Fr n0 L ∧ h = h0
set_option maxRecDepth 65536 in
set_option maxHeartbeats 40000000 in
theorem rm4 (l : Launch) (Z : State) (a0 : Array Value) (hw : ∀ d ∈ tables_1, d.before a0 Z = true) (ws : List Jvm.Cond) (p0 : Int32) (w_HOLDS : Addr) (w_FAILS : Addr) (h0 : Heap) (n0 : Nat) (Z0 : n0 ≤ h0.size) (S_HOLDS : Sta Z h0 "com/example/grantd/grantd/policy/Condition$Truth" "HOLDS" "Lcom/example/grantd/grantd/policy/Condition$Truth;" (.ref w_HOLDS)) (S_FAILS : Sta Z h0 "com/example/grantd/grantd/policy/Condition$Truth" "FAILS" "Lcom/example/grantd/grantd/policy/Condition$Truth;" (.ref w_FAILS)) :
    MetFree l (⟨"com/example/grantd/grantd/policy/Condition$Truth", "of", "(Z)Lcom/example/grantd/grantd/policy/Condition$Truth;"⟩ : MethodName) (head1 (Jvm.Cond.code (⟨"com/example/grantd/grantd/policy/Condition$Truth", "of", "(Z)Lcom/example/grantd/grantd/policy/Condition$Truth;"⟩ : MethodName) prog_39_method_4_code 1 (some (.object "com/example/grantd/grantd/policy/Condition$Truth")) :: ws) ({ frames := 0, cells := 0, slots := 0, locals := 0 } : Room)) (fun a U => a = #[(.int p0)] ∧ Z.Warmed39 U.vm ∧ U.heap = h0) (fun _ _ _ _ _ => True) (fun _ U o U' => ∃ v L, o = .returned v ∧ Q4 Z p0 w_HOLDS w_FAILS h0 n0 v U'.heap L ∧ FrameEnd U o U' L ({ frames := 0, cells := 0, slots := 0, locals := 0 } : Room).cells ({ frames := 0, cells := 0, slots := 0, locals := 0 } : Room).slots) := by
  refine MetFree.of_bodySF (plainFor_of_name pn_com_example_grantd_grantd_policy_Condition_Truth) hisR ?_
  intro p e s m args below meth c s₁ Bd hml0 hP hK
  obtain ⟨rfl, hZ, hh⟩ := hP
  have hx := Bd.exec
  have hby := Bd.bytes
  have hlk : meth.locks = false := BodyLoose.notSynchronized Bd
  have hret := Bd.returns
  have hml : c.maxLocals = 1 := hml0
  have hown : s.vm.findClass "com/example/grantd/grantd/policy/Condition$Truth" = some m.cls := findClass_of_methodNamed Bd.named
  have hnm := (name_of_methodNamed Bd.named Bd.method).1
  have X0 : Stand p l e ({ frames := 0, cells := 0, slots := 0, locals := 0 } : Room) s m #[(.int p0)] below meth c s₁ [] 0 0 := Stand.of_body Bd
  have e0 : s₁.heap = h0 := by rw [← hh, Bd.state]; rfl
  have N0 := Fr.nil n0
  refine Go.start (Q := Q4 Z p0 w_HOLDS w_FAILS h0 n0) (ef_4 m p0) ?_
  show Go _ _ _ _ _ _ _ s₁ (mkF m 0 #[.val (.int p0)] [])
  refine Go.st (fun _ k => XS.iloadN X0.here hx rfl (hb hby d4_0) rfl k) ?_
  show Go _ _ _ _ _ _ _ s₁ (mkF m 1 #[.val (.int p0)] [(.int p0)])
  by_cases hc1 : p0 = (0 : Int32)
  · refine Go.st (fun _ k => XS.ifYes X0.here hx rfl (pc0 := 1) (pc' := 10) rfl (hb hby d4_1) rfl ((if0 _ _).trans (teq hc1).1) (by decide) (by decide) k) ?_
    show Go _ _ _ _ _ _ _ s₁ (mkF m 10 #[.val (.int p0)] [])
    obtain ⟨T2, X2, e2, st2⟩ := getS2 X0 hx hZ hown (host := "") (Or.inl (hw _ (List.mem_of_getElem? (i := 24) rfl))) Via.refl e0 S_FAILS (g := (mkF m 10 #[.val (.int p0)] [])) rfl (hb hby d4_10)
    refine Go.st st2 ?_
    show Go _ _ _ _ _ _ _ T2 (mkF m 13 #[.val (.int p0)] [(.ref w_FAILS)])
    refine Go.ret X2 hlk (v := some (.ref w_FAILS)) (fun h => by rw [hret] at h; cases h) (fun fs hr => retOut X2 hx (i := .areturn) hret rfl (Or.inr (Or.inr (Or.inr (Or.inr ⟨rfl, rfl, rfl⟩)))) (hb hby d4_13) hr) ?_ (by decide) (by decide)
    show Q4 Z p0 w_HOLDS w_FAILS h0 n0 (some (.ref w_FAILS)) T2.heap _
    rw [e2]
    refine ⟨?_, N0, rfl⟩
    unfold val_4
    first | rfl | rw [if_pos hc1]
  · refine Go.st (fun _ k => XS.ifNo X0.here hx rfl (hb hby d4_1) rfl ((if0 _ _).trans (feq hc1).1) k) ?_
    show Go _ _ _ _ _ _ _ s₁ (mkF m 4 #[.val (.int p0)] [])
    obtain ⟨T3, X3, e3, st3⟩ := getS2 X0 hx hZ hown (host := "") (Or.inl (hw _ (List.mem_of_getElem? (i := 28) rfl))) Via.refl e0 S_HOLDS (g := (mkF m 4 #[.val (.int p0)] [])) rfl (hb hby d4_4)
    refine Go.st st3 ?_
    show Go _ _ _ _ _ _ _ T3 (mkF m 7 #[.val (.int p0)] [(.ref w_HOLDS)])
    refine Go.st (fun _ k => XS.goto X3.here hx rfl (pc0 := 7) (pc' := 13) rfl (hb hby d4_7) (by decide) (by decide) k) ?_
    show Go _ _ _ _ _ _ _ T3 (mkF m 13 #[.val (.int p0)] [(.ref w_HOLDS)])
    refine Go.ret X3 hlk (v := some (.ref w_HOLDS)) (fun h => by rw [hret] at h; cases h) (fun fs hr => retOut X3 hx (i := .areturn) hret rfl (Or.inr (Or.inr (Or.inr (Or.inr ⟨rfl, rfl, rfl⟩)))) (hb hby d4_13) hr) ?_ (by decide) (by decide)
    show Q4 Z p0 w_HOLDS w_FAILS h0 n0 (some (.ref w_HOLDS)) T3.heap _
    rw [e3]
    refine ⟨?_, N0, rfl⟩
    unfold val_4
    first | rfl | rw [if_neg hc1]
theorem d3_0 : decode jdk_37_method_2_code 0 = .ok (.aload_n 0, 1) := by decide +kernel
theorem d3_1 : decode jdk_37_method_2_code 1 = .ok (.getfield 7, 3) := by decide +kernel
theorem d3_4 : decode jdk_37_method_2_code 4 = .ok (.ireturn, 1) := by decide +kernel
def val_3 (o0 : Addr) (od : Int32) : Int32 := od
theorem ef_3 (m : MethodId) (o0 : Addr) : entryFrame m #[(.ref o0)] 1 = mkF m 0 #[.val (.ref o0)] [] := by first | (simp [entryFrame, mkF, argsToLocals, Value.category]; done) | rfl
def Q3 (Z : State) (o0 : Addr) (od : Int32) (h0 : Heap) (n0 : Nat) (v : Option Value) (h : Heap) (L : List Loc) : Prop := v = some (.int (val_3 o0 od)) ∧ Fr n0 L ∧ h = h0
set_option maxRecDepth 65536 in
set_option maxHeartbeats 40000000 in
theorem rm3 (l : Launch) (Z : State) (a0 : Array Value) (hw : ∀ d ∈ tables_1, d.before a0 Z = true) (ws : List Jvm.Cond) (o0 : Addr) (od : Int32) (h0 : Heap) (n0 : Nat) (Z0 : n0 ≤ h0.size) (F_ordinal_o0 : Fld Z h0 o0 "java/lang/Enum" "ordinal" "I" (.int od)) :
    MetFree l (⟨"java/lang/Enum", "ordinal", "()I"⟩ : MethodName) (head1 (Jvm.Cond.code (⟨"java/lang/Enum", "ordinal", "()I"⟩ : MethodName) jdk_37_method_2_code 1 (some .int) :: ws) ({ frames := 0, cells := 0, slots := 0, locals := 0 } : Room)) (fun a U => a = #[(.ref o0)] ∧ Z.Warmed39 U.vm ∧ U.heap = h0) (fun _ _ _ _ _ => True) (fun _ U o U' => ∃ v L, o = .returned v ∧ Q3 Z o0 od h0 n0 v U'.heap L ∧ FrameEnd U o U' L ({ frames := 0, cells := 0, slots := 0, locals := 0 } : Room).cells ({ frames := 0, cells := 0, slots := 0, locals := 0 } : Room).slots) := by
  refine MetFree.of_bodySF (plainFor_of_name pn_java_lang_Enum) hisR ?_
  intro p e s m args below meth c s₁ Bd hml0 hP hK
  obtain ⟨rfl, hZ, hh⟩ := hP
  have hx := Bd.exec
  have hby := Bd.bytes
  have hlk : meth.locks = false := BodyLoose.notSynchronized Bd
  have hret := Bd.returns
  have hml : c.maxLocals = 1 := hml0
  have hown : s.vm.findClass "java/lang/Enum" = some m.cls := findClass_of_methodNamed Bd.named
  have hnm := (name_of_methodNamed Bd.named Bd.method).1
  have X0 : Stand p l e ({ frames := 0, cells := 0, slots := 0, locals := 0 } : Room) s m #[(.ref o0)] below meth c s₁ [] 0 0 := Stand.of_body Bd
  have e0 : s₁.heap = h0 := by rw [← hh, Bd.state]; rfl
  have N0 := Fr.nil n0
  refine Go.start (Q := Q3 Z o0 od h0 n0) (ef_3 m o0) ?_
  show Go _ _ _ _ _ _ _ s₁ (mkF m 0 #[.val (.ref o0)] [])
  refine Go.st (fun _ k => XS.aloadN X0.here hx rfl (hb hby d3_0) rfl rfl k) ?_
  show Go _ _ _ _ _ _ _ s₁ (mkF m 1 #[.val (.ref o0)] [(.ref o0)])
  obtain ⟨T1, X1, e1, st1⟩ := getF X0 hx hZ hown (host := "") (Or.inl (hw _ (List.mem_of_getElem? (i := 22) rfl))) Via.refl e0 F_ordinal_o0 (g := (mkF m 1 #[.val (.ref o0)] [(.ref o0)])) rfl rfl (hb hby d3_1)
  refine Go.st st1 ?_
  show Go _ _ _ _ _ _ _ T1 (mkF m 4 #[.val (.ref o0)] [(.int od)])
  refine Go.ret X1 hlk (v := some (.int od)) (fun h => by rw [hret] at h; cases h) (fun fs hr => retOut X1 hx (t := .int) (i := .ireturn) hret rfl (Or.inl ⟨rfl, Or.inl rfl, _, rfl⟩) (hb hby d3_4) hr) ?_ (by decide) (by decide)
  show Q3 Z o0 od h0 n0 (some (.int od)) T1.heap _
  rw [e1]
  refine ⟨?_, N0, rfl⟩
  unfold val_3
  rfl
theorem d2_0 : decode prog_39_method_5_code 0 = .ok (.aload_n 0, 1) := by decide +kernel
theorem d2_1 : decode prog_39_method_5_code 1 = .ok (.invokevirtual 32, 3) := by decide +kernel
theorem d2_4 : decode prog_39_method_5_code 4 = .ok (.tableswitch 28 0 2 #[38, 44, 50], 28) := by decide +kernel
theorem d2_42 : decode prog_39_method_5_code 42 = .ok (.getstatic 7, 3) := by decide +kernel
theorem d2_45 : decode prog_39_method_5_code 45 = .ok (.goto 12, 3) := by decide +kernel
theorem d2_48 : decode prog_39_method_5_code 48 = .ok (.getstatic 3, 3) := by decide +kernel
theorem d2_51 : decode prog_39_method_5_code 51 = .ok (.goto 6, 3) := by decide +kernel
theorem d2_54 : decode prog_39_method_5_code 54 = .ok (.getstatic 10, 3) := by decide +kernel
theorem d2_57 : decode prog_39_method_5_code 57 = .ok (.areturn, 1) := by decide +kernel
def val_2 (o0 : Addr) (w_HOLDS : Addr) (w_FAILS : Addr) (w_EITHER : Addr) (od : Int32) : Addr := (if od = (0 : Int32) then w_FAILS else (if od = (1 : Int32) then w_HOLDS else w_EITHER))
theorem ef_2 (m : MethodId) (o0 : Addr) : entryFrame m #[(.ref o0)] 1 = mkF m 0 #[.val (.ref o0)] [] := by first | (simp [entryFrame, mkF, argsToLocals, Value.category]; done) | rfl
def Q2 (Z : State) (o0 : Addr) (w_HOLDS : Addr) (w_FAILS : Addr) (w_EITHER : Addr) (od : Int32) (h0 : Heap) (n0 : Nat) (v : Option Value) (h : Heap) (L : List Loc) : Prop := v = some (.ref (val_2 o0 w_HOLDS w_FAILS w_EITHER od)) ∧ Fr n0 L ∧ h = h0
set_option maxRecDepth 65536 in
set_option maxHeartbeats 40000000 in
theorem rm2 (l : Launch) (Z : State) (a0 : Array Value) (hw : ∀ d ∈ tables_1, d.before a0 Z = true) (ws : List Jvm.Cond) (o0 : Addr) (w_HOLDS : Addr) (w_FAILS : Addr) (w_EITHER : Addr) (od : Int32) (h0 : Heap) (n0 : Nat) (Z0 : n0 ≤ h0.size) (S_HOLDS : Sta Z h0 "com/example/grantd/grantd/policy/Condition$Truth" "HOLDS" "Lcom/example/grantd/grantd/policy/Condition$Truth;" (.ref w_HOLDS)) (S_FAILS : Sta Z h0 "com/example/grantd/grantd/policy/Condition$Truth" "FAILS" "Lcom/example/grantd/grantd/policy/Condition$Truth;" (.ref w_FAILS)) (S_EITHER : Sta Z h0 "com/example/grantd/grantd/policy/Condition$Truth" "EITHER" "Lcom/example/grantd/grantd/policy/Condition$Truth;" (.ref w_EITHER)) (E_o0 : Exa Z h0 o0 "com/example/grantd/grantd/policy/Condition$Truth") (F_ordinal_o0 : Fld Z h0 o0 "java/lang/Enum" "ordinal" "I" (.int od)) (V_od : od = 0 ∨ od = 1 ∨ od = 2) :
    MetFree l (⟨"com/example/grantd/grantd/policy/Condition$Truth", "negated", "()Lcom/example/grantd/grantd/policy/Condition$Truth;"⟩ : MethodName) (head1 (Jvm.Cond.code (⟨"com/example/grantd/grantd/policy/Condition$Truth", "negated", "()Lcom/example/grantd/grantd/policy/Condition$Truth;"⟩ : MethodName) prog_39_method_5_code 1 (some (.object "com/example/grantd/grantd/policy/Condition$Truth")) :: ws) ({ frames := 1, cells := 0, slots := 0, locals := 12 } : Room)) (fun a U => a = #[(.ref o0)] ∧ Z.Warmed39 U.vm ∧ U.heap = h0) (fun _ _ _ _ _ => True) (fun _ U o U' => ∃ v L, o = .returned v ∧ Q2 Z o0 w_HOLDS w_FAILS w_EITHER od h0 n0 v U'.heap L ∧ FrameEnd U o U' L ({ frames := 1, cells := 0, slots := 0, locals := 12 } : Room).cells ({ frames := 1, cells := 0, slots := 0, locals := 12 } : Room).slots) := by
  refine MetFree.of_bodySF (plainFor_of_name pn_com_example_grantd_grantd_policy_Condition_Truth) hisR ?_
  intro p e s m args below meth c s₁ Bd hml0 hP hK
  obtain ⟨rfl, hZ, hh⟩ := hP
  have hx := Bd.exec
  have hby := Bd.bytes
  have hlk : meth.locks = false := BodyLoose.notSynchronized Bd
  have hret := Bd.returns
  have hml : c.maxLocals = 1 := hml0
  have hown : s.vm.findClass "com/example/grantd/grantd/policy/Condition$Truth" = some m.cls := findClass_of_methodNamed Bd.named
  have hnm := (name_of_methodNamed Bd.named Bd.method).1
  have X0 : Stand p l e ({ frames := 1, cells := 0, slots := 0, locals := 12 } : Room) s m #[(.ref o0)] below meth c s₁ [] 0 0 := Stand.of_body Bd
  have e0 : s₁.heap = h0 := by rw [← hh, Bd.state]; rfl
  have N0 := Fr.nil n0
  refine Go.start (Q := Q2 Z o0 w_HOLDS w_FAILS w_EITHER od h0 n0) (ef_2 m o0) ?_
  show Go _ _ _ _ _ _ _ s₁ (mkF m 0 #[.val (.ref o0)] [])
  refine Go.st (fun _ k => XS.aloadN X0.here hx rfl (hb hby d2_0) rfl rfl k) ?_
  show Go _ _ _ _ _ _ _ s₁ (mkF m 1 #[.val (.ref o0)] [(.ref o0)])
  obtain ⟨cq1, kq1, q1a, q1b, q1c⟩ := isOf hZ e0 E_o0
  obtain ⟨_, _, ⟨T1, L1, k1, n1⟩, -, X1, ⟨Lc1, hQ1, l1, y1, z1⟩, st1⟩ := X0.virtualBackUp hx (owner := "java/lang/Enum") (x := (⟨"com/example/grantd/grantd/policy/Condition$Truth", "ordinal", "()I"⟩ : MethodName)) (y := (⟨"java/lang/Enum", "ordinal", "()I"⟩ : MethodName)) hown (mvT hZ (hw _ (List.mem_of_getElem? (i := 15) rfl))) (mvT hZ (hw _ (List.mem_of_getElem? (i := 16) rfl))) (mvT hZ (hw _ (List.mem_of_getElem? (i := 17) rfl))) (by decide) (mvT hZ (hw _ (List.mem_of_getElem? (i := 19) rfl))) (mvT hZ (hw _ (List.mem_of_getElem? (i := 18) rfl))) (backOf (W := 0) (rm3 l Z a0 hw [] o0 od h0 n0 Z0 F_ordinal_o0) hZ (hw _ (List.mem_of_getElem? (i := 21) rfl)) (hw _ (List.mem_of_getElem? (i := 20) rfl)) (by decide) (by decide)) q1a q1c (g := (mkF m 1 #[.val (.ref o0)] [(.ref o0)])) rfl (by rw [hml]; rfl) (Steps.refl _) (argsL := []) (rest := []) (lenOf pd_0 rfl) rfl (by show 2 * 0 + _ ≤ _; exact Nat.le_of_eq rfl) (hb hby d2_1) (fun _ _ => ⟨rfl, e0, (by decide : 0 + 0 ≤ _), (by decide : 0 + 0 ≤ _)⟩)
  dsimp only [Pt.U, Pt.locs, Pt.cells, Pt.slots] at X1 l1 y1 z1 st1 hQ1
  subst l1 y1 z1
  obtain ⟨rfl, N1q, e1⟩ := hQ1
  have N1 := Fr.app N0 N1q
  refine Go.st (fun _ k => st1.trans k) ?_
  show Go _ _ _ _ _ _ _ T1 (mkF m 4 #[.val (.ref o0)] [(.int (val_3 o0 od))])
  rw [show (val_3 o0 od) = od from by unfold val_3; rfl]
  show Go _ _ _ _ _ _ _ T1 (mkF m 4 #[.val (.ref o0)] [(.int od)])
  rcases V_od with hv | hv | hv
  · have hv2 := hv
    refine Go.st (fun _ k => XS.tswIn X1.here hx rfl (pc0 := 4) (pc' := 42) (o := 38) rfl (hb hby d2_4) rfl (by rw [hv2]; decide) (by rw [hv2]; decide) (by decide) (by decide) k) ?_
    show Go _ _ _ _ _ _ _ T1 (mkF m 42 #[.val (.ref o0)] [])
    obtain ⟨T3, X3, e3, st3⟩ := getS2 X1 hx hZ hown (host := "") (Or.inl (hw _ (List.mem_of_getElem? (i := 24) rfl))) Via.refl e1 S_FAILS (g := (mkF m 42 #[.val (.ref o0)] [])) rfl (hb hby d2_42)
    refine Go.st st3 ?_
    show Go _ _ _ _ _ _ _ T3 (mkF m 45 #[.val (.ref o0)] [(.ref w_FAILS)])
    refine Go.st (fun _ k => XS.goto X3.here hx rfl (pc0 := 45) (pc' := 57) rfl (hb hby d2_45) (by decide) (by decide) k) ?_
    show Go _ _ _ _ _ _ _ T3 (mkF m 57 #[.val (.ref o0)] [(.ref w_FAILS)])
    refine Go.ret X3 hlk (v := some (.ref w_FAILS)) (fun h => by rw [hret] at h; cases h) (fun fs hr => retOut X3 hx (i := .areturn) hret rfl (Or.inr (Or.inr (Or.inr (Or.inr ⟨rfl, rfl, rfl⟩)))) (hb hby d2_57) hr) ?_ (by decide) (by decide)
    show Q2 Z o0 w_HOLDS w_FAILS w_EITHER od h0 n0 (some (.ref w_FAILS)) T3.heap _
    rw [e3]
    refine ⟨?_, N1, rfl⟩
    unfold val_2
    first | rfl | rw [if_pos hv2]
  · have hv4 := hv
    refine Go.st (fun _ k => XS.tswIn X1.here hx rfl (pc0 := 4) (pc' := 48) (o := 44) rfl (hb hby d2_4) rfl (by rw [hv4]; decide) (by rw [hv4]; decide) (by decide) (by decide) k) ?_
    show Go _ _ _ _ _ _ _ T1 (mkF m 48 #[.val (.ref o0)] [])
    obtain ⟨T5, X5, e5, st5⟩ := getS2 X1 hx hZ hown (host := "") (Or.inl (hw _ (List.mem_of_getElem? (i := 28) rfl))) Via.refl e1 S_HOLDS (g := (mkF m 48 #[.val (.ref o0)] [])) rfl (hb hby d2_48)
    refine Go.st st5 ?_
    show Go _ _ _ _ _ _ _ T5 (mkF m 51 #[.val (.ref o0)] [(.ref w_HOLDS)])
    refine Go.st (fun _ k => XS.goto X5.here hx rfl (pc0 := 51) (pc' := 57) rfl (hb hby d2_51) (by decide) (by decide) k) ?_
    show Go _ _ _ _ _ _ _ T5 (mkF m 57 #[.val (.ref o0)] [(.ref w_HOLDS)])
    refine Go.ret X5 hlk (v := some (.ref w_HOLDS)) (fun h => by rw [hret] at h; cases h) (fun fs hr => retOut X5 hx (i := .areturn) hret rfl (Or.inr (Or.inr (Or.inr (Or.inr ⟨rfl, rfl, rfl⟩)))) (hb hby d2_57) hr) ?_ (by decide) (by decide)
    show Q2 Z o0 w_HOLDS w_FAILS w_EITHER od h0 n0 (some (.ref w_HOLDS)) T5.heap _
    rw [e5]
    refine ⟨?_, N1, rfl⟩
    unfold val_2
    first | rfl | rw [if_neg (by rw [hv4]; decide : ¬ (od = (0 : Int32))), if_pos hv4]
  · have hv6 := hv
    refine Go.st (fun _ k => XS.tswIn X1.here hx rfl (pc0 := 4) (pc' := 54) (o := 50) rfl (hb hby d2_4) rfl (by rw [hv6]; decide) (by rw [hv6]; decide) (by decide) (by decide) k) ?_
    show Go _ _ _ _ _ _ _ T1 (mkF m 54 #[.val (.ref o0)] [])
    obtain ⟨T7, X7, e7, st7⟩ := getS2 X1 hx hZ hown (host := "") (Or.inl (hw _ (List.mem_of_getElem? (i := 31) rfl))) Via.refl e1 S_EITHER (g := (mkF m 54 #[.val (.ref o0)] [])) rfl (hb hby d2_54)
    refine Go.st st7 ?_
    show Go _ _ _ _ _ _ _ T7 (mkF m 57 #[.val (.ref o0)] [(.ref w_EITHER)])
    refine Go.ret X7 hlk (v := some (.ref w_EITHER)) (fun h => by rw [hret] at h; cases h) (fun fs hr => retOut X7 hx (i := .areturn) hret rfl (Or.inr (Or.inr (Or.inr (Or.inr ⟨rfl, rfl, rfl⟩)))) (hb hby d2_57) hr) ?_ (by decide) (by decide)
    show Q2 Z o0 w_HOLDS w_FAILS w_EITHER od h0 n0 (some (.ref w_EITHER)) T7.heap _
    rw [e7]
    refine ⟨?_, N1, rfl⟩
    unfold val_2
    first | rfl | rw [if_neg (by rw [hv6]; decide : ¬ (od = (0 : Int32))), if_neg (by rw [hv6]; decide : ¬ (od = (1 : Int32)))]
theorem ef_0 (m : MethodId) (p0 : Int32) (p1 : Int32) : entryFrame m #[(.int p0), (.int p1)] maxLocals = mkF m 0 #[.val (.int p0), .val (.int p1), .unset, .unset, .unset, .unset, .unset, .unset] [] := by first | (simp [entryFrame, mkF, argsToLocals, Value.category, maxLocals]; done) | rfl
def Q0 (Z : State) (p0 : Int32) (p1 : Int32) (w_HOLDS : Addr) (w_FAILS : Addr) (w_EITHER : Addr) (h0 : Heap) (n0 : Nat) (v : Option Value) (h : Heap) (L : List Loc) : Prop := v = some (.int 1) ∧ Fr n0 L
set_option maxRecDepth 65536 in
set_option maxHeartbeats 40000000 in
theorem rm0 (l : Launch) (Z : State) (a0 : Array Value) (hw : ∀ d ∈ tables_1, d.before a0 Z = true) (ws : List Jvm.Cond) (p0 : Int32) (p1 : Int32) (w_HOLDS : Addr) (w_FAILS : Addr) (w_EITHER : Addr) (h0 : Heap) (n0 : Nat) (Z0 : n0 ≤ h0.size) (S_HOLDS : Sta Z h0 "com/example/grantd/grantd/policy/Condition$Truth" "HOLDS" "Lcom/example/grantd/grantd/policy/Condition$Truth;" (.ref w_HOLDS)) (E_HOLDS : Exa Z h0 w_HOLDS "com/example/grantd/grantd/policy/Condition$Truth") (S_FAILS : Sta Z h0 "com/example/grantd/grantd/policy/Condition$Truth" "FAILS" "Lcom/example/grantd/grantd/policy/Condition$Truth;" (.ref w_FAILS)) (E_FAILS : Exa Z h0 w_FAILS "com/example/grantd/grantd/policy/Condition$Truth") (F_HOLDS_ordinal : Fld Z h0 w_HOLDS "java/lang/Enum" "ordinal" "I" (.int (0 : Int32))) (F_FAILS_ordinal : Fld Z h0 w_FAILS "java/lang/Enum" "ordinal" "I" (.int (1 : Int32))) (S_EITHER : Sta Z h0 "com/example/grantd/grantd/policy/Condition$Truth" "EITHER" "Lcom/example/grantd/grantd/policy/Condition$Truth;" (.ref w_EITHER)) (E_EITHER : Exa Z h0 w_EITHER "com/example/grantd/grantd/policy/Condition$Truth") (F_EITHER_ordinal : Fld Z h0 w_EITHER "java/lang/Enum" "ordinal" "I" (.int (2 : Int32))) :
    MetFree l x (head1 (Jvm.Cond.code x code maxLocals ret :: ws) room_1) (fun a U => a = #[(.int p0), (.int p1)] ∧ Z.Warmed39 U.vm ∧ U.heap = h0) (fun _ _ _ _ _ => True) (fun _ U o U' => ∃ v L, o = .returned v ∧ Q0 Z p0 p1 w_HOLDS w_FAILS w_EITHER h0 n0 v U'.heap L ∧ FrameEnd U o U' L room_1.cells room_1.slots) := by
  refine MetFree.of_bodySF (plainFor_of_name pn_com_example_grantd_grantd_policy_TruthNegatedPinLaw) hisR ?_
  intro p e s m args below meth c s₁ Bd hml0 hP hK
  obtain ⟨rfl, hZ, hh⟩ := hP
  have hx := Bd.exec
  have hby := Bd.bytes
  have hlk : meth.locks = false := BodyLoose.notSynchronized Bd
  have hret := Bd.returns
  have hml : c.maxLocals = 8 := hml0
  have hown : s.vm.findClass "com/example/grantd/grantd/policy/TruthNegatedPinLaw" = some m.cls := findClass_of_methodNamed Bd.named
  have hnm := (name_of_methodNamed Bd.named Bd.method).1
  have X0 : Stand p l e room_1 s m #[(.int p0), (.int p1)] below meth c s₁ [] 0 0 := Stand.of_body Bd
  have e0 : s₁.heap = h0 := by rw [← hh, Bd.state]; rfl
  have N0 := Fr.nil n0
  refine Go.start (Q := Q0 Z p0 p1 w_HOLDS w_FAILS w_EITHER h0 n0) (ef_0 m p0 p1) ?_
  have ne_w_HOLDS_w_FAILS : w_HOLDS ≠ w_FAILS := Fld.ne F_HOLDS_ordinal F_FAILS_ordinal (by simp)
  have ne_w_HOLDS_w_EITHER : w_HOLDS ≠ w_EITHER := Fld.ne F_HOLDS_ordinal F_EITHER_ordinal (by simp)
  have ne_w_FAILS_w_EITHER : w_FAILS ≠ w_EITHER := Fld.ne F_FAILS_ordinal F_EITHER_ordinal (by simp)
  show Go _ _ _ _ _ _ _ s₁ (mkF m 0 #[.val (.int p0), .val (.int p1), .unset, .unset, .unset, .unset, .unset, .unset] [])
  refine Go.st (fun _ k => XS.iloadN X0.here hx rfl (hb hby at_0) rfl k) ?_
  show Go _ _ _ _ _ _ _ s₁ (mkF m 1 #[.val (.int p0), .val (.int p1), .unset, .unset, .unset, .unset, .unset, .unset] [(.int p0)])
  refine Go.st (fun _ k => Jvm.Stand.ldcI X0 hx hown (mvT hZ (hw _ (List.mem_of_getElem? (i := 0) rfl))) rfl (hb hby at_1) k) ?_
  show Go _ _ _ _ _ _ _ s₁ (mkF m 3 #[.val (.int p0), .val (.int p1), .unset, .unset, .unset, .unset, .unset, .unset] [(.int (2147483647 : Int32)), (.int p0)])
  refine Go.st (fun _ k => XS.iand X0.here hx rfl (hb hby at_3) rfl k) ?_
  show Go _ _ _ _ _ _ _ s₁ (mkF m 4 #[.val (.int p0), .val (.int p1), .unset, .unset, .unset, .unset, .unset, .unset] [(.int (p0 &&& (2147483647 : Int32)))])
  refine Go.st (fun _ k => XS.iconst X0.here hx rfl (hb hby at_4) k) ?_
  show Go _ _ _ _ _ _ _ s₁ (mkF m 5 #[.val (.int p0), .val (.int p1), .unset, .unset, .unset, .unset, .unset, .unset] [(.int (3 : Int32)), (.int (p0 &&& (2147483647 : Int32)))])
  refine Go.st (fun _ k => iremM (g := (mkF m 5 #[.val (.int p0), .val (.int p1), .unset, .unset, .unset, .unset, .unset, .unset] [(.int (3 : Int32)), (.int (p0 &&& (2147483647 : Int32)))])) X0 hx rfl (hb hby at_5) rfl (by decide) k) ?_
  show Go _ _ _ _ _ _ _ s₁ (mkF m 6 #[.val (.int p0), .val (.int p1), .unset, .unset, .unset, .unset, .unset, .unset] [(.int ((p0 &&& (2147483647 : Int32)) % (3 : Int32)))])
  rcases own_mod3 p0 with hk1 | hk1 | hk1
  · rw [hk1]
    show Go _ _ _ _ _ _ _ s₁ (mkF m 6 #[.val (.int p0), .val (.int p1), .unset, .unset, .unset, .unset, .unset, .unset] [(.int (0 : Int32))])
    refine Go.st (fun _ k => XS.istoreN X0.here hx rfl (hb hby at_6) rfl (l' := #[.val (.int p0), .val (.int p1), .val (.int (0 : Int32)), .unset, .unset, .unset, .unset, .unset]) rfl k) ?_
    show Go _ _ _ _ _ _ _ s₁ (mkF m 7 #[.val (.int p0), .val (.int p1), .val (.int (0 : Int32)), .unset, .unset, .unset, .unset, .unset] [])
    refine Go.st (fun _ k => XS.iloadN X0.here hx rfl (hb hby at_7) rfl k) ?_
    show Go _ _ _ _ _ _ _ s₁ (mkF m 8 #[.val (.int p0), .val (.int p1), .val (.int (0 : Int32)), .unset, .unset, .unset, .unset, .unset] [(.int (0 : Int32))])
    obtain ⟨_, _, ⟨T2, L2, k2, n2⟩, -, X2, ⟨Lc2, hQ2, l2, y2, z2⟩, st2⟩ := Jvm.LawKit.callS X0 hx (y := (⟨"com/example/grantd/grantd/policy/TruthNegatedPinLaw", "pick", "(I)Lcom/example/grantd/grantd/policy/Condition$Truth;"⟩ : MethodName)) hown (mvT hZ (hw _ (List.mem_of_getElem? (i := 1) rfl))) (mvT hZ (hw _ (List.mem_of_getElem? (i := 2) rfl))) (mvT hZ (hw _ (List.mem_of_getElem? (i := 3) rfl))) (mvT hZ (hw _ (List.mem_of_getElem? (i := 4) rfl))) (by decide) (backOf (W := 0) (rm1 l Z a0 hw [] (0 : Int32) w_HOLDS w_FAILS w_EITHER h0 n0 Z0 S_HOLDS S_FAILS S_EITHER) hZ (hw _ (List.mem_of_getElem? (i := 4) rfl)) (hw _ (List.mem_of_getElem? (i := 3) rfl)) (by decide) (by decide)) (g := (mkF m 8 #[.val (.int p0), .val (.int p1), .val (.int (0 : Int32)), .unset, .unset, .unset, .unset, .unset] [(.int (0 : Int32))])) rfl (by rw [hml]; rfl) (argsL := [(.int (0 : Int32))]) (rest := []) (lenOf pd_1 rfl) rfl (by show 2 * 0 + _ ≤ _; exact Nat.le_of_eq rfl) (hb hby at_8) (fun _ _ => ⟨rfl, e0, (by decide : 0 + 0 ≤ _), (by decide : 0 + 0 ≤ _)⟩)
    dsimp only [Pt.U, Pt.locs, Pt.cells, Pt.slots] at X2 l2 y2 z2 st2 hQ2
    subst l2 y2 z2
    obtain ⟨rfl, N2q, e2⟩ := hQ2
    have N2 := Fr.app N0 N2q
    refine Go.st st2 ?_
    show Go _ _ _ _ _ _ _ T2 (mkF m 11 #[.val (.int p0), .val (.int p1), .val (.int (0 : Int32)), .unset, .unset, .unset, .unset, .unset] [(.ref (val_1 (0 : Int32) w_HOLDS w_FAILS w_EITHER))])
    rw [show (val_1 (0 : Int32) w_HOLDS w_FAILS w_EITHER) = w_HOLDS from by unfold val_1; rw [if_pos (by decide +kernel : (0 : Int32) = (0 : Int32))]]
    show Go _ _ _ _ _ _ _ T2 (mkF m 11 #[.val (.int p0), .val (.int p1), .val (.int (0 : Int32)), .unset, .unset, .unset, .unset, .unset] [(.ref w_HOLDS)])
    refine Go.st (fun _ k => XS.astoreN X2.here hx rfl (hb hby at_11) rfl rfl (l' := #[.val (.int p0), .val (.int p1), .val (.int (0 : Int32)), .val (.ref w_HOLDS), .unset, .unset, .unset, .unset]) rfl k) ?_
    show Go _ _ _ _ _ _ _ T2 (mkF m 12 #[.val (.int p0), .val (.int p1), .val (.int (0 : Int32)), .val (.ref w_HOLDS), .unset, .unset, .unset, .unset] [])
    refine Go.st (fun _ k => XS.iloadN X2.here hx rfl (hb hby at_12) rfl k) ?_
    show Go _ _ _ _ _ _ _ T2 (mkF m 13 #[.val (.int p0), .val (.int p1), .val (.int (0 : Int32)), .val (.ref w_HOLDS), .unset, .unset, .unset, .unset] [(.int (0 : Int32))])
    refine Go.st (fun _ k => XS.ifNo X2.here hx rfl (hb hby at_13) rfl ((if0 _ _).trans (teq (by decide : (0 : Int32) = (0 : Int32))).2) k) ?_
    show Go _ _ _ _ _ _ _ T2 (mkF m 16 #[.val (.int p0), .val (.int p1), .val (.int (0 : Int32)), .val (.ref w_HOLDS), .unset, .unset, .unset, .unset] [])
    obtain ⟨T3, X3, e3, st3⟩ := getS2 X2 hx hZ hown (host := "") (Or.inl (hw _ (List.mem_of_getElem? (i := 8) rfl))) Via.refl e2 S_FAILS (g := (mkF m 16 #[.val (.int p0), .val (.int p1), .val (.int (0 : Int32)), .val (.ref w_HOLDS), .unset, .unset, .unset, .unset] [])) rfl (hb hby at_16)
    refine Go.st st3 ?_
    show Go _ _ _ _ _ _ _ T3 (mkF m 19 #[.val (.int p0), .val (.int p1), .val (.int (0 : Int32)), .val (.ref w_HOLDS), .unset, .unset, .unset, .unset] [(.ref w_FAILS)])
    refine Go.st (fun _ k => XS.astore X3.here hx rfl (hb hby at_19) rfl rfl (l' := #[.val (.int p0), .val (.int p1), .val (.int (0 : Int32)), .val (.ref w_HOLDS), .val (.ref w_FAILS), .unset, .unset, .unset]) rfl k) ?_
    show Go _ _ _ _ _ _ _ T3 (mkF m 21 #[.val (.int p0), .val (.int p1), .val (.int (0 : Int32)), .val (.ref w_HOLDS), .val (.ref w_FAILS), .unset, .unset, .unset] [])
    refine Go.st (fun _ k => XS.goto X3.here hx rfl (pc0 := 21) (pc' := 42) rfl (hb hby at_21) (by decide) (by decide) k) ?_
    show Go _ _ _ _ _ _ _ T3 (mkF m 42 #[.val (.int p0), .val (.int p1), .val (.int (0 : Int32)), .val (.ref w_HOLDS), .val (.ref w_FAILS), .unset, .unset, .unset] [])
    refine Go.st (fun _ k => XS.aloadN X3.here hx rfl (hb hby at_42) rfl rfl k) ?_
    show Go _ _ _ _ _ _ _ T3 (mkF m 43 #[.val (.int p0), .val (.int p1), .val (.int (0 : Int32)), .val (.ref w_HOLDS), .val (.ref w_FAILS), .unset, .unset, .unset] [(.ref w_HOLDS)])
    obtain ⟨cq4, kq4, q4a, q4b, q4c⟩ := isOf hZ e3 E_HOLDS
    obtain ⟨_, _, ⟨T4, L4, k4, n4⟩, -, X4, ⟨Lc4, hQ4, l4, y4, z4⟩, st4⟩ := X3.virtualBack hx (y := (⟨"com/example/grantd/grantd/policy/Condition$Truth", "negated", "()Lcom/example/grantd/grantd/policy/Condition$Truth;"⟩ : MethodName)) (z := (⟨"com/example/grantd/grantd/policy/Condition$Truth", "negated", "()Lcom/example/grantd/grantd/policy/Condition$Truth;"⟩ : MethodName)) hown (mvT hZ (hw _ (List.mem_of_getElem? (i := 10) rfl))) (mvT hZ (hw _ (List.mem_of_getElem? (i := 11) rfl))) (notFace_of_selects (args := #[]) (mvT hZ (hw _ (List.mem_of_getElem? (i := 13) rfl)))) (mvT hZ (hw _ (List.mem_of_getElem? (i := 13) rfl))) (mvT hZ (hw _ (List.mem_of_getElem? (i := 12) rfl))) (by decide) (backOf (W := 0) (rm2 l Z a0 hw [] w_HOLDS w_HOLDS w_FAILS w_EITHER (0 : Int32) h0 n0 Z0 S_HOLDS S_FAILS S_EITHER E_HOLDS F_HOLDS_ordinal (Or.inl rfl)) hZ (hw _ (List.mem_of_getElem? (i := 14) rfl)) (hw _ (List.mem_of_getElem? (i := 6) rfl)) (by decide) (by decide)) q4a q4c (g := (mkF m 43 #[.val (.int p0), .val (.int p1), .val (.int (0 : Int32)), .val (.ref w_HOLDS), .val (.ref w_FAILS), .unset, .unset, .unset] [(.ref w_HOLDS)])) rfl (by rw [hml]; rfl) (Steps.refl _) (argsL := []) (rest := []) (lenOf pd_2 rfl) rfl (by show 2 * 0 + _ ≤ _; exact Nat.le_of_eq rfl) (hb hby at_43) (fun _ _ => ⟨rfl, e3, (by decide : 0 + 0 ≤ _), (by decide : 0 + 0 ≤ _)⟩)
    dsimp only [Pt.U, Pt.locs, Pt.cells, Pt.slots] at X4 l4 y4 z4 st4 hQ4
    subst l4 y4 z4
    obtain ⟨rfl, N4q, e4⟩ := hQ4
    have N4 := Fr.app N2 N4q
    refine Go.st (fun _ k => st4.trans k) ?_
    show Go _ _ _ _ _ _ _ T4 (mkF m 46 #[.val (.int p0), .val (.int p1), .val (.int (0 : Int32)), .val (.ref w_HOLDS), .val (.ref w_FAILS), .unset, .unset, .unset] [(.ref (val_2 w_HOLDS w_HOLDS w_FAILS w_EITHER (0 : Int32)))])
    rw [show (val_2 w_HOLDS w_HOLDS w_FAILS w_EITHER (0 : Int32)) = w_FAILS from by unfold val_2; rw [if_pos (by decide +kernel : (0 : Int32) = (0 : Int32))]]
    show Go _ _ _ _ _ _ _ T4 (mkF m 46 #[.val (.int p0), .val (.int p1), .val (.int (0 : Int32)), .val (.ref w_HOLDS), .val (.ref w_FAILS), .unset, .unset, .unset] [(.ref w_FAILS)])
    refine Go.st (fun _ k => XS.astore X4.here hx rfl (hb hby at_46) rfl rfl (l' := #[.val (.int p0), .val (.int p1), .val (.int (0 : Int32)), .val (.ref w_HOLDS), .val (.ref w_FAILS), .val (.ref w_FAILS), .unset, .unset]) rfl k) ?_
    show Go _ _ _ _ _ _ _ T4 (mkF m 48 #[.val (.int p0), .val (.int p1), .val (.int (0 : Int32)), .val (.ref w_HOLDS), .val (.ref w_FAILS), .val (.ref w_FAILS), .unset, .unset] [])
    refine Go.st (fun _ k => XS.iloadN X4.here hx rfl (hb hby at_48) rfl k) ?_
    show Go _ _ _ _ _ _ _ T4 (mkF m 49 #[.val (.int p0), .val (.int p1), .val (.int (0 : Int32)), .val (.ref w_HOLDS), .val (.ref w_FAILS), .val (.ref w_FAILS), .unset, .unset] [(.int p1)])
    refine Go.st (fun _ k => XS.iconst X4.here hx rfl (hb hby at_49) k) ?_
    show Go _ _ _ _ _ _ _ T4 (mkF m 50 #[.val (.int p0), .val (.int p1), .val (.int (0 : Int32)), .val (.ref w_HOLDS), .val (.ref w_FAILS), .val (.ref w_FAILS), .unset, .unset] [(.int (1 : Int32)), (.int p1)])
    refine Go.st (fun _ k => XS.iand X4.here hx rfl (hb hby at_50) rfl k) ?_
    show Go _ _ _ _ _ _ _ T4 (mkF m 51 #[.val (.int p0), .val (.int p1), .val (.int (0 : Int32)), .val (.ref w_HOLDS), .val (.ref w_FAILS), .val (.ref w_FAILS), .unset, .unset] [(.int (p1 &&& (1 : Int32)))])
    rcases and_one p1 with hk5 | hk5
    · rw [hk5]
      show Go _ _ _ _ _ _ _ T4 (mkF m 51 #[.val (.int p0), .val (.int p1), .val (.int (0 : Int32)), .val (.ref w_HOLDS), .val (.ref w_FAILS), .val (.ref w_FAILS), .unset, .unset] [(.int (0 : Int32))])
      refine Go.st (fun _ k => XS.ifYes X4.here hx rfl (pc0 := 51) (pc' := 58) rfl (hb hby at_51) rfl ((if0 _ _).trans (teq (by decide : (0 : Int32) = (0 : Int32))).1) (by decide) (by decide) k) ?_
      show Go _ _ _ _ _ _ _ T4 (mkF m 58 #[.val (.int p0), .val (.int p1), .val (.int (0 : Int32)), .val (.ref w_HOLDS), .val (.ref w_FAILS), .val (.ref w_FAILS), .unset, .unset] [])
      refine Go.st (fun _ k => XS.iconst X4.here hx rfl (hb hby at_58) k) ?_
      show Go _ _ _ _ _ _ _ T4 (mkF m 59 #[.val (.int p0), .val (.int p1), .val (.int (0 : Int32)), .val (.ref w_HOLDS), .val (.ref w_FAILS), .val (.ref w_FAILS), .unset, .unset] [(.int (0 : Int32))])
      refine Go.st (fun _ k => XS.istore X4.here hx rfl (hb hby at_59) rfl (l' := #[.val (.int p0), .val (.int p1), .val (.int (0 : Int32)), .val (.ref w_HOLDS), .val (.ref w_FAILS), .val (.ref w_FAILS), .val (.int (0 : Int32)), .unset]) rfl k) ?_
      show Go _ _ _ _ _ _ _ T4 (mkF m 61 #[.val (.int p0), .val (.int p1), .val (.int (0 : Int32)), .val (.ref w_HOLDS), .val (.ref w_FAILS), .val (.ref w_FAILS), .val (.int (0 : Int32)), .unset] [])
      refine Go.st (fun _ k => XS.iload X4.here hx rfl (hb hby at_61) rfl k) ?_
      show Go _ _ _ _ _ _ _ T4 (mkF m 63 #[.val (.int p0), .val (.int p1), .val (.int (0 : Int32)), .val (.ref w_HOLDS), .val (.ref w_FAILS), .val (.ref w_FAILS), .val (.int (0 : Int32)), .unset] [(.int (0 : Int32))])
      obtain ⟨_, _, ⟨T6, L6, k6, n6⟩, -, X6, ⟨Lc6, hQ6, l6, y6, z6⟩, st6⟩ := Jvm.LawKit.callS X4 hx (y := (⟨"com/example/grantd/grantd/policy/Condition$Truth", "of", "(Z)Lcom/example/grantd/grantd/policy/Condition$Truth;"⟩ : MethodName)) hown (mvT hZ (hw _ (List.mem_of_getElem? (i := 25) rfl))) (mvT hZ (hw _ (List.mem_of_getElem? (i := 26) rfl))) (mvT hZ (hw _ (List.mem_of_getElem? (i := 6) rfl))) (mvT hZ (hw _ (List.mem_of_getElem? (i := 27) rfl))) (by decide) (backOf (W := 0) (rm4 l Z a0 hw [] (0 : Int32) w_HOLDS w_FAILS h0 n0 Z0 S_HOLDS S_FAILS) hZ (hw _ (List.mem_of_getElem? (i := 27) rfl)) (hw _ (List.mem_of_getElem? (i := 6) rfl)) (by decide) (by decide)) (g := (mkF m 63 #[.val (.int p0), .val (.int p1), .val (.int (0 : Int32)), .val (.ref w_HOLDS), .val (.ref w_FAILS), .val (.ref w_FAILS), .val (.int (0 : Int32)), .unset] [(.int (0 : Int32))])) rfl (by rw [hml]; rfl) (argsL := [(.int (0 : Int32))]) (rest := []) (lenOf pd_3 rfl) rfl (by show 2 * 0 + _ ≤ _; exact Nat.le_of_eq rfl) (hb hby at_63) (fun _ _ => ⟨rfl, e4, (by decide : 0 + 0 ≤ _), (by decide : 0 + 0 ≤ _)⟩)
      dsimp only [Pt.U, Pt.locs, Pt.cells, Pt.slots] at X6 l6 y6 z6 st6 hQ6
      subst l6 y6 z6
      obtain ⟨rfl, N6q, e6⟩ := hQ6
      have N6 := Fr.app N4 N6q
      refine Go.st st6 ?_
      show Go _ _ _ _ _ _ _ T6 (mkF m 66 #[.val (.int p0), .val (.int p1), .val (.int (0 : Int32)), .val (.ref w_HOLDS), .val (.ref w_FAILS), .val (.ref w_FAILS), .val (.int (0 : Int32)), .unset] [(.ref (val_4 (0 : Int32) w_HOLDS w_FAILS))])
      rw [show (val_4 (0 : Int32) w_HOLDS w_FAILS) = w_FAILS from by unfold val_4; rw [if_pos (by decide +kernel : (0 : Int32) = (0 : Int32))]]
      show Go _ _ _ _ _ _ _ T6 (mkF m 66 #[.val (.int p0), .val (.int p1), .val (.int (0 : Int32)), .val (.ref w_HOLDS), .val (.ref w_FAILS), .val (.ref w_FAILS), .val (.int (0 : Int32)), .unset] [(.ref w_FAILS)])
      obtain ⟨cq7, kq7, q7a, q7b, q7c⟩ := isOf hZ e6 E_FAILS
      obtain ⟨_, _, ⟨T7, L7, k7, n7⟩, -, X7, ⟨Lc7, hQ7, l7, y7, z7⟩, st7⟩ := X6.virtualBack hx (y := (⟨"com/example/grantd/grantd/policy/Condition$Truth", "negated", "()Lcom/example/grantd/grantd/policy/Condition$Truth;"⟩ : MethodName)) (z := (⟨"com/example/grantd/grantd/policy/Condition$Truth", "negated", "()Lcom/example/grantd/grantd/policy/Condition$Truth;"⟩ : MethodName)) hown (mvT hZ (hw _ (List.mem_of_getElem? (i := 10) rfl))) (mvT hZ (hw _ (List.mem_of_getElem? (i := 11) rfl))) (notFace_of_selects (args := #[]) (mvT hZ (hw _ (List.mem_of_getElem? (i := 13) rfl)))) (mvT hZ (hw _ (List.mem_of_getElem? (i := 13) rfl))) (mvT hZ (hw _ (List.mem_of_getElem? (i := 12) rfl))) (by decide) (backOf (W := 0) (rm2 l Z a0 hw [] w_FAILS w_HOLDS w_FAILS w_EITHER (1 : Int32) h0 n0 Z0 S_HOLDS S_FAILS S_EITHER E_FAILS F_FAILS_ordinal (Or.inr (Or.inl rfl))) hZ (hw _ (List.mem_of_getElem? (i := 14) rfl)) (hw _ (List.mem_of_getElem? (i := 6) rfl)) (by decide) (by decide)) q7a q7c (g := (mkF m 66 #[.val (.int p0), .val (.int p1), .val (.int (0 : Int32)), .val (.ref w_HOLDS), .val (.ref w_FAILS), .val (.ref w_FAILS), .val (.int (0 : Int32)), .unset] [(.ref w_FAILS)])) rfl (by rw [hml]; rfl) (Steps.refl _) (argsL := []) (rest := []) (lenOf pd_2 rfl) rfl (by show 2 * 0 + _ ≤ _; exact Nat.le_of_eq rfl) (hb hby at_66) (fun _ _ => ⟨rfl, e6, (by decide : 0 + 0 ≤ _), (by decide : 0 + 0 ≤ _)⟩)
      dsimp only [Pt.U, Pt.locs, Pt.cells, Pt.slots] at X7 l7 y7 z7 st7 hQ7
      subst l7 y7 z7
      obtain ⟨rfl, N7q, e7⟩ := hQ7
      have N7 := Fr.app N6 N7q
      refine Go.st (fun _ k => st7.trans k) ?_
      show Go _ _ _ _ _ _ _ T7 (mkF m 69 #[.val (.int p0), .val (.int p1), .val (.int (0 : Int32)), .val (.ref w_HOLDS), .val (.ref w_FAILS), .val (.ref w_FAILS), .val (.int (0 : Int32)), .unset] [(.ref (val_2 w_FAILS w_HOLDS w_FAILS w_EITHER (1 : Int32)))])
      rw [show (val_2 w_FAILS w_HOLDS w_FAILS w_EITHER (1 : Int32)) = w_HOLDS from by unfold val_2; rw [if_neg (by decide +kernel : ¬ ((1 : Int32) = (0 : Int32))), if_pos (by decide +kernel : (1 : Int32) = (1 : Int32))]]
      show Go _ _ _ _ _ _ _ T7 (mkF m 69 #[.val (.int p0), .val (.int p1), .val (.int (0 : Int32)), .val (.ref w_HOLDS), .val (.ref w_FAILS), .val (.ref w_FAILS), .val (.int (0 : Int32)), .unset] [(.ref w_HOLDS)])
      refine Go.st (fun _ k => XS.iload X7.here hx rfl (hb hby at_69) rfl k) ?_
      show Go _ _ _ _ _ _ _ T7 (mkF m 71 #[.val (.int p0), .val (.int p1), .val (.int (0 : Int32)), .val (.ref w_HOLDS), .val (.ref w_FAILS), .val (.ref w_FAILS), .val (.int (0 : Int32)), .unset] [(.int (0 : Int32)), (.ref w_HOLDS)])
      refine Go.st (fun _ k => XS.ifNo X7.here hx rfl (hb hby at_71) rfl ((if0 _ _).trans (teq (by decide : (0 : Int32) = (0 : Int32))).2) k) ?_
      show Go _ _ _ _ _ _ _ T7 (mkF m 74 #[.val (.int p0), .val (.int p1), .val (.int (0 : Int32)), .val (.ref w_HOLDS), .val (.ref w_FAILS), .val (.ref w_FAILS), .val (.int (0 : Int32)), .unset] [(.ref w_HOLDS)])
      refine Go.st (fun _ k => XS.iconst X7.here hx rfl (hb hby at_74) k) ?_
      show Go _ _ _ _ _ _ _ T7 (mkF m 75 #[.val (.int p0), .val (.int p1), .val (.int (0 : Int32)), .val (.ref w_HOLDS), .val (.ref w_FAILS), .val (.ref w_FAILS), .val (.int (0 : Int32)), .unset] [(.int (1 : Int32)), (.ref w_HOLDS)])
      refine Go.st (fun _ k => XS.goto X7.here hx rfl (pc0 := 75) (pc' := 79) rfl (hb hby at_75) (by decide) (by decide) k) ?_
      show Go _ _ _ _ _ _ _ T7 (mkF m 79 #[.val (.int p0), .val (.int p1), .val (.int (0 : Int32)), .val (.ref w_HOLDS), .val (.ref w_FAILS), .val (.ref w_FAILS), .val (.int (0 : Int32)), .unset] [(.int (1 : Int32)), (.ref w_HOLDS)])
      obtain ⟨_, _, ⟨T8, L8, k8, n8⟩, -, X8, ⟨Lc8, hQ8, l8, y8, z8⟩, st8⟩ := Jvm.LawKit.callS X7 hx (y := (⟨"com/example/grantd/grantd/policy/Condition$Truth", "of", "(Z)Lcom/example/grantd/grantd/policy/Condition$Truth;"⟩ : MethodName)) hown (mvT hZ (hw _ (List.mem_of_getElem? (i := 25) rfl))) (mvT hZ (hw _ (List.mem_of_getElem? (i := 26) rfl))) (mvT hZ (hw _ (List.mem_of_getElem? (i := 6) rfl))) (mvT hZ (hw _ (List.mem_of_getElem? (i := 27) rfl))) (by decide) (backOf (W := 1) (rm4 l Z a0 hw [] (1 : Int32) w_HOLDS w_FAILS h0 n0 Z0 S_HOLDS S_FAILS) hZ (hw _ (List.mem_of_getElem? (i := 27) rfl)) (hw _ (List.mem_of_getElem? (i := 6) rfl)) (by decide) (by decide)) (g := (mkF m 79 #[.val (.int p0), .val (.int p1), .val (.int (0 : Int32)), .val (.ref w_HOLDS), .val (.ref w_FAILS), .val (.ref w_FAILS), .val (.int (0 : Int32)), .unset] [(.int (1 : Int32)), (.ref w_HOLDS)])) rfl (by rw [hml]; rfl) (argsL := [(.int (1 : Int32))]) (rest := [(.ref w_HOLDS)]) (lenOf pd_3 rfl) rfl (by show 2 * 0 + _ ≤ _; exact Nat.le_of_eq rfl) (hb hby at_79) (fun _ _ => ⟨rfl, e7, (by decide : 0 + 0 ≤ _), (by decide : 0 + 0 ≤ _)⟩)
      dsimp only [Pt.U, Pt.locs, Pt.cells, Pt.slots] at X8 l8 y8 z8 st8 hQ8
      subst l8 y8 z8
      obtain ⟨rfl, N8q, e8⟩ := hQ8
      have N8 := Fr.app N7 N8q
      refine Go.st st8 ?_
      show Go _ _ _ _ _ _ _ T8 (mkF m 82 #[.val (.int p0), .val (.int p1), .val (.int (0 : Int32)), .val (.ref w_HOLDS), .val (.ref w_FAILS), .val (.ref w_FAILS), .val (.int (0 : Int32)), .unset] [(.ref (val_4 (1 : Int32) w_HOLDS w_FAILS)), (.ref w_HOLDS)])
      rw [show (val_4 (1 : Int32) w_HOLDS w_FAILS) = w_HOLDS from by unfold val_4; rw [if_neg (by decide +kernel : ¬ ((1 : Int32) = (0 : Int32)))]]
      show Go _ _ _ _ _ _ _ T8 (mkF m 82 #[.val (.int p0), .val (.int p1), .val (.int (0 : Int32)), .val (.ref w_HOLDS), .val (.ref w_FAILS), .val (.ref w_FAILS), .val (.int (0 : Int32)), .unset] [(.ref w_HOLDS), (.ref w_HOLDS)])
      refine Go.st (fun _ k => Jvm.RoadKit.acmp (g := (mkF m 82 #[.val (.int p0), .val (.int p1), .val (.int (0 : Int32)), .val (.ref w_HOLDS), .val (.ref w_FAILS), .val (.ref w_FAILS), .val (.int (0 : Int32)), .unset] [(.ref w_HOLDS), (.ref w_HOLDS)])) X8 hx rfl rfl rfl (pc0 := 82) (pc' := 85) (same := true) rfl (hb hby at_82) rfl (decide_eq_true rfl) (by decide) (by decide) k) ?_
      show Go _ _ _ _ _ _ _ T8 (mkF m 85 #[.val (.int p0), .val (.int p1), .val (.int (0 : Int32)), .val (.ref w_HOLDS), .val (.ref w_FAILS), .val (.ref w_FAILS), .val (.int (0 : Int32)), .unset] [])
      refine Go.st (fun _ k => XS.iconst X8.here hx rfl (hb hby at_85) k) ?_
      show Go _ _ _ _ _ _ _ T8 (mkF m 86 #[.val (.int p0), .val (.int p1), .val (.int (0 : Int32)), .val (.ref w_HOLDS), .val (.ref w_FAILS), .val (.ref w_FAILS), .val (.int (0 : Int32)), .unset] [(.int (1 : Int32))])
      refine Go.st (fun _ k => XS.goto X8.here hx rfl (pc0 := 86) (pc' := 90) rfl (hb hby at_86) (by decide) (by decide) k) ?_
      show Go _ _ _ _ _ _ _ T8 (mkF m 90 #[.val (.int p0), .val (.int p1), .val (.int (0 : Int32)), .val (.ref w_HOLDS), .val (.ref w_FAILS), .val (.ref w_FAILS), .val (.int (0 : Int32)), .unset] [(.int (1 : Int32))])
      refine Go.st (fun _ k => XS.istore X8.here hx rfl (hb hby at_90) rfl (l' := #[.val (.int p0), .val (.int p1), .val (.int (0 : Int32)), .val (.ref w_HOLDS), .val (.ref w_FAILS), .val (.ref w_FAILS), .val (.int (0 : Int32)), .val (.int (1 : Int32))]) rfl k) ?_
      show Go _ _ _ _ _ _ _ T8 (mkF m 92 #[.val (.int p0), .val (.int p1), .val (.int (0 : Int32)), .val (.ref w_HOLDS), .val (.ref w_FAILS), .val (.ref w_FAILS), .val (.int (0 : Int32)), .val (.int (1 : Int32))] [])
      refine Go.st (fun _ k => XS.aload X8.here hx rfl (hb hby at_92) rfl rfl k) ?_
      show Go _ _ _ _ _ _ _ T8 (mkF m 94 #[.val (.int p0), .val (.int p1), .val (.int (0 : Int32)), .val (.ref w_HOLDS), .val (.ref w_FAILS), .val (.ref w_FAILS), .val (.int (0 : Int32)), .val (.int (1 : Int32))] [(.ref w_FAILS)])
      refine Go.st (fun _ k => XS.aload X8.here hx rfl (hb hby at_94) rfl rfl k) ?_
      show Go _ _ _ _ _ _ _ T8 (mkF m 96 #[.val (.int p0), .val (.int p1), .val (.int (0 : Int32)), .val (.ref w_HOLDS), .val (.ref w_FAILS), .val (.ref w_FAILS), .val (.int (0 : Int32)), .val (.int (1 : Int32))] [(.ref w_FAILS), (.ref w_FAILS)])
      refine Go.st (fun _ k => Jvm.RoadKit.acmp (g := (mkF m 96 #[.val (.int p0), .val (.int p1), .val (.int (0 : Int32)), .val (.ref w_HOLDS), .val (.ref w_FAILS), .val (.ref w_FAILS), .val (.int (0 : Int32)), .val (.int (1 : Int32))] [(.ref w_FAILS), (.ref w_FAILS)])) X8 hx rfl rfl rfl (pc0 := 96) (pc' := 99) (same := true) rfl (hb hby at_96) rfl (decide_eq_true rfl) (by decide) (by decide) k) ?_
      show Go _ _ _ _ _ _ _ T8 (mkF m 99 #[.val (.int p0), .val (.int p1), .val (.int (0 : Int32)), .val (.ref w_HOLDS), .val (.ref w_FAILS), .val (.ref w_FAILS), .val (.int (0 : Int32)), .val (.int (1 : Int32))] [])
      refine Go.st (fun _ k => XS.aload X8.here hx rfl (hb hby at_99) rfl rfl k) ?_
      show Go _ _ _ _ _ _ _ T8 (mkF m 101 #[.val (.int p0), .val (.int p1), .val (.int (0 : Int32)), .val (.ref w_HOLDS), .val (.ref w_FAILS), .val (.ref w_FAILS), .val (.int (0 : Int32)), .val (.int (1 : Int32))] [(.ref w_FAILS)])
      obtain ⟨cq9, kq9, q9a, q9b, q9c⟩ := isOf hZ e8 E_FAILS
      obtain ⟨_, _, ⟨T9, L9, k9, n9⟩, -, X9, ⟨Lc9, hQ9, l9, y9, z9⟩, st9⟩ := X8.virtualBack hx (y := (⟨"com/example/grantd/grantd/policy/Condition$Truth", "negated", "()Lcom/example/grantd/grantd/policy/Condition$Truth;"⟩ : MethodName)) (z := (⟨"com/example/grantd/grantd/policy/Condition$Truth", "negated", "()Lcom/example/grantd/grantd/policy/Condition$Truth;"⟩ : MethodName)) hown (mvT hZ (hw _ (List.mem_of_getElem? (i := 10) rfl))) (mvT hZ (hw _ (List.mem_of_getElem? (i := 11) rfl))) (notFace_of_selects (args := #[]) (mvT hZ (hw _ (List.mem_of_getElem? (i := 13) rfl)))) (mvT hZ (hw _ (List.mem_of_getElem? (i := 13) rfl))) (mvT hZ (hw _ (List.mem_of_getElem? (i := 12) rfl))) (by decide) (backOf (W := 0) (rm2 l Z a0 hw [] w_FAILS w_HOLDS w_FAILS w_EITHER (1 : Int32) h0 n0 Z0 S_HOLDS S_FAILS S_EITHER E_FAILS F_FAILS_ordinal (Or.inr (Or.inl rfl))) hZ (hw _ (List.mem_of_getElem? (i := 14) rfl)) (hw _ (List.mem_of_getElem? (i := 6) rfl)) (by decide) (by decide)) q9a q9c (g := (mkF m 101 #[.val (.int p0), .val (.int p1), .val (.int (0 : Int32)), .val (.ref w_HOLDS), .val (.ref w_FAILS), .val (.ref w_FAILS), .val (.int (0 : Int32)), .val (.int (1 : Int32))] [(.ref w_FAILS)])) rfl (by rw [hml]; rfl) (Steps.refl _) (argsL := []) (rest := []) (lenOf pd_2 rfl) rfl (by show 2 * 0 + _ ≤ _; exact Nat.le_of_eq rfl) (hb hby at_101) (fun _ _ => ⟨rfl, e8, (by decide : 0 + 0 ≤ _), (by decide : 0 + 0 ≤ _)⟩)
      dsimp only [Pt.U, Pt.locs, Pt.cells, Pt.slots] at X9 l9 y9 z9 st9 hQ9
      subst l9 y9 z9
      obtain ⟨rfl, N9q, e9⟩ := hQ9
      have N9 := Fr.app N8 N9q
      refine Go.st (fun _ k => st9.trans k) ?_
      show Go _ _ _ _ _ _ _ T9 (mkF m 104 #[.val (.int p0), .val (.int p1), .val (.int (0 : Int32)), .val (.ref w_HOLDS), .val (.ref w_FAILS), .val (.ref w_FAILS), .val (.int (0 : Int32)), .val (.int (1 : Int32))] [(.ref (val_2 w_FAILS w_HOLDS w_FAILS w_EITHER (1 : Int32)))])
      rw [show (val_2 w_FAILS w_HOLDS w_FAILS w_EITHER (1 : Int32)) = w_HOLDS from by unfold val_2; rw [if_neg (by decide +kernel : ¬ ((1 : Int32) = (0 : Int32))), if_pos (by decide +kernel : (1 : Int32) = (1 : Int32))]]
      show Go _ _ _ _ _ _ _ T9 (mkF m 104 #[.val (.int p0), .val (.int p1), .val (.int (0 : Int32)), .val (.ref w_HOLDS), .val (.ref w_FAILS), .val (.ref w_FAILS), .val (.int (0 : Int32)), .val (.int (1 : Int32))] [(.ref w_HOLDS)])
      refine Go.st (fun _ k => XS.aloadN X9.here hx rfl (hb hby at_104) rfl rfl k) ?_
      show Go _ _ _ _ _ _ _ T9 (mkF m 105 #[.val (.int p0), .val (.int p1), .val (.int (0 : Int32)), .val (.ref w_HOLDS), .val (.ref w_FAILS), .val (.ref w_FAILS), .val (.int (0 : Int32)), .val (.int (1 : Int32))] [(.ref w_HOLDS), (.ref w_HOLDS)])
      refine Go.st (fun _ k => Jvm.RoadKit.acmp (g := (mkF m 105 #[.val (.int p0), .val (.int p1), .val (.int (0 : Int32)), .val (.ref w_HOLDS), .val (.ref w_FAILS), .val (.ref w_FAILS), .val (.int (0 : Int32)), .val (.int (1 : Int32))] [(.ref w_HOLDS), (.ref w_HOLDS)])) X9 hx rfl rfl rfl (pc0 := 105) (pc' := 108) (same := true) rfl (hb hby at_105) rfl (decide_eq_true rfl) (by decide) (by decide) k) ?_
      show Go _ _ _ _ _ _ _ T9 (mkF m 108 #[.val (.int p0), .val (.int p1), .val (.int (0 : Int32)), .val (.ref w_HOLDS), .val (.ref w_FAILS), .val (.ref w_FAILS), .val (.int (0 : Int32)), .val (.int (1 : Int32))] [])
      refine Go.st (fun _ k => XS.iload X9.here hx rfl (hb hby at_108) rfl k) ?_
      show Go _ _ _ _ _ _ _ T9 (mkF m 110 #[.val (.int p0), .val (.int p1), .val (.int (0 : Int32)), .val (.ref w_HOLDS), .val (.ref w_FAILS), .val (.ref w_FAILS), .val (.int (0 : Int32)), .val (.int (1 : Int32))] [(.int (1 : Int32))])
      refine Go.st (fun _ k => XS.ifNo X9.here hx rfl (hb hby at_110) rfl ((if0 _ _).trans (feq (by decide : ¬ ((1 : Int32) = (0 : Int32)))).1) k) ?_
      show Go _ _ _ _ _ _ _ T9 (mkF m 113 #[.val (.int p0), .val (.int p1), .val (.int (0 : Int32)), .val (.ref w_HOLDS), .val (.ref w_FAILS), .val (.ref w_FAILS), .val (.int (0 : Int32)), .val (.int (1 : Int32))] [])
      refine Go.st (fun _ k => XS.iconst X9.here hx rfl (hb hby at_113) k) ?_
      show Go _ _ _ _ _ _ _ T9 (mkF m 114 #[.val (.int p0), .val (.int p1), .val (.int (0 : Int32)), .val (.ref w_HOLDS), .val (.ref w_FAILS), .val (.ref w_FAILS), .val (.int (0 : Int32)), .val (.int (1 : Int32))] [(.int (1 : Int32))])
      refine Go.st (fun _ k => XS.goto X9.here hx rfl (pc0 := 114) (pc' := 118) rfl (hb hby at_114) (by decide) (by decide) k) ?_
      show Go _ _ _ _ _ _ _ T9 (mkF m 118 #[.val (.int p0), .val (.int p1), .val (.int (0 : Int32)), .val (.ref w_HOLDS), .val (.ref w_FAILS), .val (.ref w_FAILS), .val (.int (0 : Int32)), .val (.int (1 : Int32))] [(.int (1 : Int32))])
      refine Go.ret X9 hlk (v := some (.int (1 : Int32))) (fun h => by rw [hret] at h; cases h) (fun fs hr => retN X9 hx (t := .boolean) hret (by simp) (hb hby at_118) hr) ?_ (by decide) (by decide)
      show Q0 Z p0 p1 w_HOLDS w_FAILS w_EITHER h0 n0 (some (.int (1 : Int32))) T9.heap _
      rw [e9]
      exact ⟨rfl, N9⟩
    · rw [hk5]
      show Go _ _ _ _ _ _ _ T4 (mkF m 51 #[.val (.int p0), .val (.int p1), .val (.int (0 : Int32)), .val (.ref w_HOLDS), .val (.ref w_FAILS), .val (.ref w_FAILS), .unset, .unset] [(.int (1 : Int32))])
      refine Go.st (fun _ k => XS.ifNo X4.here hx rfl (hb hby at_51) rfl ((if0 _ _).trans (feq (by decide : ¬ ((1 : Int32) = (0 : Int32)))).1) k) ?_
      show Go _ _ _ _ _ _ _ T4 (mkF m 54 #[.val (.int p0), .val (.int p1), .val (.int (0 : Int32)), .val (.ref w_HOLDS), .val (.ref w_FAILS), .val (.ref w_FAILS), .unset, .unset] [])
      refine Go.st (fun _ k => XS.iconst X4.here hx rfl (hb hby at_54) k) ?_
      show Go _ _ _ _ _ _ _ T4 (mkF m 55 #[.val (.int p0), .val (.int p1), .val (.int (0 : Int32)), .val (.ref w_HOLDS), .val (.ref w_FAILS), .val (.ref w_FAILS), .unset, .unset] [(.int (1 : Int32))])
      refine Go.st (fun _ k => XS.goto X4.here hx rfl (pc0 := 55) (pc' := 59) rfl (hb hby at_55) (by decide) (by decide) k) ?_
      show Go _ _ _ _ _ _ _ T4 (mkF m 59 #[.val (.int p0), .val (.int p1), .val (.int (0 : Int32)), .val (.ref w_HOLDS), .val (.ref w_FAILS), .val (.ref w_FAILS), .unset, .unset] [(.int (1 : Int32))])
      refine Go.st (fun _ k => XS.istore X4.here hx rfl (hb hby at_59) rfl (l' := #[.val (.int p0), .val (.int p1), .val (.int (0 : Int32)), .val (.ref w_HOLDS), .val (.ref w_FAILS), .val (.ref w_FAILS), .val (.int (1 : Int32)), .unset]) rfl k) ?_
      show Go _ _ _ _ _ _ _ T4 (mkF m 61 #[.val (.int p0), .val (.int p1), .val (.int (0 : Int32)), .val (.ref w_HOLDS), .val (.ref w_FAILS), .val (.ref w_FAILS), .val (.int (1 : Int32)), .unset] [])
      refine Go.st (fun _ k => XS.iload X4.here hx rfl (hb hby at_61) rfl k) ?_
      show Go _ _ _ _ _ _ _ T4 (mkF m 63 #[.val (.int p0), .val (.int p1), .val (.int (0 : Int32)), .val (.ref w_HOLDS), .val (.ref w_FAILS), .val (.ref w_FAILS), .val (.int (1 : Int32)), .unset] [(.int (1 : Int32))])
      obtain ⟨_, _, ⟨T10, L10, k10, n10⟩, -, X10, ⟨Lc10, hQ10, l10, y10, z10⟩, st10⟩ := Jvm.LawKit.callS X4 hx (y := (⟨"com/example/grantd/grantd/policy/Condition$Truth", "of", "(Z)Lcom/example/grantd/grantd/policy/Condition$Truth;"⟩ : MethodName)) hown (mvT hZ (hw _ (List.mem_of_getElem? (i := 25) rfl))) (mvT hZ (hw _ (List.mem_of_getElem? (i := 26) rfl))) (mvT hZ (hw _ (List.mem_of_getElem? (i := 6) rfl))) (mvT hZ (hw _ (List.mem_of_getElem? (i := 27) rfl))) (by decide) (backOf (W := 0) (rm4 l Z a0 hw [] (1 : Int32) w_HOLDS w_FAILS h0 n0 Z0 S_HOLDS S_FAILS) hZ (hw _ (List.mem_of_getElem? (i := 27) rfl)) (hw _ (List.mem_of_getElem? (i := 6) rfl)) (by decide) (by decide)) (g := (mkF m 63 #[.val (.int p0), .val (.int p1), .val (.int (0 : Int32)), .val (.ref w_HOLDS), .val (.ref w_FAILS), .val (.ref w_FAILS), .val (.int (1 : Int32)), .unset] [(.int (1 : Int32))])) rfl (by rw [hml]; rfl) (argsL := [(.int (1 : Int32))]) (rest := []) (lenOf pd_3 rfl) rfl (by show 2 * 0 + _ ≤ _; exact Nat.le_of_eq rfl) (hb hby at_63) (fun _ _ => ⟨rfl, e4, (by decide : 0 + 0 ≤ _), (by decide : 0 + 0 ≤ _)⟩)
      dsimp only [Pt.U, Pt.locs, Pt.cells, Pt.slots] at X10 l10 y10 z10 st10 hQ10
      subst l10 y10 z10
      obtain ⟨rfl, N10q, e10⟩ := hQ10
      have N10 := Fr.app N4 N10q
      refine Go.st st10 ?_
      show Go _ _ _ _ _ _ _ T10 (mkF m 66 #[.val (.int p0), .val (.int p1), .val (.int (0 : Int32)), .val (.ref w_HOLDS), .val (.ref w_FAILS), .val (.ref w_FAILS), .val (.int (1 : Int32)), .unset] [(.ref (val_4 (1 : Int32) w_HOLDS w_FAILS))])
      rw [show (val_4 (1 : Int32) w_HOLDS w_FAILS) = w_HOLDS from by unfold val_4; rw [if_neg (by decide +kernel : ¬ ((1 : Int32) = (0 : Int32)))]]
      show Go _ _ _ _ _ _ _ T10 (mkF m 66 #[.val (.int p0), .val (.int p1), .val (.int (0 : Int32)), .val (.ref w_HOLDS), .val (.ref w_FAILS), .val (.ref w_FAILS), .val (.int (1 : Int32)), .unset] [(.ref w_HOLDS)])
      obtain ⟨cq11, kq11, q11a, q11b, q11c⟩ := isOf hZ e10 E_HOLDS
      obtain ⟨_, _, ⟨T11, L11, k11, n11⟩, -, X11, ⟨Lc11, hQ11, l11, y11, z11⟩, st11⟩ := X10.virtualBack hx (y := (⟨"com/example/grantd/grantd/policy/Condition$Truth", "negated", "()Lcom/example/grantd/grantd/policy/Condition$Truth;"⟩ : MethodName)) (z := (⟨"com/example/grantd/grantd/policy/Condition$Truth", "negated", "()Lcom/example/grantd/grantd/policy/Condition$Truth;"⟩ : MethodName)) hown (mvT hZ (hw _ (List.mem_of_getElem? (i := 10) rfl))) (mvT hZ (hw _ (List.mem_of_getElem? (i := 11) rfl))) (notFace_of_selects (args := #[]) (mvT hZ (hw _ (List.mem_of_getElem? (i := 13) rfl)))) (mvT hZ (hw _ (List.mem_of_getElem? (i := 13) rfl))) (mvT hZ (hw _ (List.mem_of_getElem? (i := 12) rfl))) (by decide) (backOf (W := 0) (rm2 l Z a0 hw [] w_HOLDS w_HOLDS w_FAILS w_EITHER (0 : Int32) h0 n0 Z0 S_HOLDS S_FAILS S_EITHER E_HOLDS F_HOLDS_ordinal (Or.inl rfl)) hZ (hw _ (List.mem_of_getElem? (i := 14) rfl)) (hw _ (List.mem_of_getElem? (i := 6) rfl)) (by decide) (by decide)) q11a q11c (g := (mkF m 66 #[.val (.int p0), .val (.int p1), .val (.int (0 : Int32)), .val (.ref w_HOLDS), .val (.ref w_FAILS), .val (.ref w_FAILS), .val (.int (1 : Int32)), .unset] [(.ref w_HOLDS)])) rfl (by rw [hml]; rfl) (Steps.refl _) (argsL := []) (rest := []) (lenOf pd_2 rfl) rfl (by show 2 * 0 + _ ≤ _; exact Nat.le_of_eq rfl) (hb hby at_66) (fun _ _ => ⟨rfl, e10, (by decide : 0 + 0 ≤ _), (by decide : 0 + 0 ≤ _)⟩)
      dsimp only [Pt.U, Pt.locs, Pt.cells, Pt.slots] at X11 l11 y11 z11 st11 hQ11
      subst l11 y11 z11
      obtain ⟨rfl, N11q, e11⟩ := hQ11
      have N11 := Fr.app N10 N11q
      refine Go.st (fun _ k => st11.trans k) ?_
      show Go _ _ _ _ _ _ _ T11 (mkF m 69 #[.val (.int p0), .val (.int p1), .val (.int (0 : Int32)), .val (.ref w_HOLDS), .val (.ref w_FAILS), .val (.ref w_FAILS), .val (.int (1 : Int32)), .unset] [(.ref (val_2 w_HOLDS w_HOLDS w_FAILS w_EITHER (0 : Int32)))])
      rw [show (val_2 w_HOLDS w_HOLDS w_FAILS w_EITHER (0 : Int32)) = w_FAILS from by unfold val_2; rw [if_pos (by decide +kernel : (0 : Int32) = (0 : Int32))]]
      show Go _ _ _ _ _ _ _ T11 (mkF m 69 #[.val (.int p0), .val (.int p1), .val (.int (0 : Int32)), .val (.ref w_HOLDS), .val (.ref w_FAILS), .val (.ref w_FAILS), .val (.int (1 : Int32)), .unset] [(.ref w_FAILS)])
      refine Go.st (fun _ k => XS.iload X11.here hx rfl (hb hby at_69) rfl k) ?_
      show Go _ _ _ _ _ _ _ T11 (mkF m 71 #[.val (.int p0), .val (.int p1), .val (.int (0 : Int32)), .val (.ref w_HOLDS), .val (.ref w_FAILS), .val (.ref w_FAILS), .val (.int (1 : Int32)), .unset] [(.int (1 : Int32)), (.ref w_FAILS)])
      refine Go.st (fun _ k => XS.ifYes X11.here hx rfl (pc0 := 71) (pc' := 78) rfl (hb hby at_71) rfl ((if0 _ _).trans (feq (by decide : ¬ ((1 : Int32) = (0 : Int32)))).2) (by decide) (by decide) k) ?_
      show Go _ _ _ _ _ _ _ T11 (mkF m 78 #[.val (.int p0), .val (.int p1), .val (.int (0 : Int32)), .val (.ref w_HOLDS), .val (.ref w_FAILS), .val (.ref w_FAILS), .val (.int (1 : Int32)), .unset] [(.ref w_FAILS)])
      refine Go.st (fun _ k => XS.iconst X11.here hx rfl (hb hby at_78) k) ?_
      show Go _ _ _ _ _ _ _ T11 (mkF m 79 #[.val (.int p0), .val (.int p1), .val (.int (0 : Int32)), .val (.ref w_HOLDS), .val (.ref w_FAILS), .val (.ref w_FAILS), .val (.int (1 : Int32)), .unset] [(.int (0 : Int32)), (.ref w_FAILS)])
      obtain ⟨_, _, ⟨T12, L12, k12, n12⟩, -, X12, ⟨Lc12, hQ12, l12, y12, z12⟩, st12⟩ := Jvm.LawKit.callS X11 hx (y := (⟨"com/example/grantd/grantd/policy/Condition$Truth", "of", "(Z)Lcom/example/grantd/grantd/policy/Condition$Truth;"⟩ : MethodName)) hown (mvT hZ (hw _ (List.mem_of_getElem? (i := 25) rfl))) (mvT hZ (hw _ (List.mem_of_getElem? (i := 26) rfl))) (mvT hZ (hw _ (List.mem_of_getElem? (i := 6) rfl))) (mvT hZ (hw _ (List.mem_of_getElem? (i := 27) rfl))) (by decide) (backOf (W := 1) (rm4 l Z a0 hw [] (0 : Int32) w_HOLDS w_FAILS h0 n0 Z0 S_HOLDS S_FAILS) hZ (hw _ (List.mem_of_getElem? (i := 27) rfl)) (hw _ (List.mem_of_getElem? (i := 6) rfl)) (by decide) (by decide)) (g := (mkF m 79 #[.val (.int p0), .val (.int p1), .val (.int (0 : Int32)), .val (.ref w_HOLDS), .val (.ref w_FAILS), .val (.ref w_FAILS), .val (.int (1 : Int32)), .unset] [(.int (0 : Int32)), (.ref w_FAILS)])) rfl (by rw [hml]; rfl) (argsL := [(.int (0 : Int32))]) (rest := [(.ref w_FAILS)]) (lenOf pd_3 rfl) rfl (by show 2 * 0 + _ ≤ _; exact Nat.le_of_eq rfl) (hb hby at_79) (fun _ _ => ⟨rfl, e11, (by decide : 0 + 0 ≤ _), (by decide : 0 + 0 ≤ _)⟩)
      dsimp only [Pt.U, Pt.locs, Pt.cells, Pt.slots] at X12 l12 y12 z12 st12 hQ12
      subst l12 y12 z12
      obtain ⟨rfl, N12q, e12⟩ := hQ12
      have N12 := Fr.app N11 N12q
      refine Go.st st12 ?_
      show Go _ _ _ _ _ _ _ T12 (mkF m 82 #[.val (.int p0), .val (.int p1), .val (.int (0 : Int32)), .val (.ref w_HOLDS), .val (.ref w_FAILS), .val (.ref w_FAILS), .val (.int (1 : Int32)), .unset] [(.ref (val_4 (0 : Int32) w_HOLDS w_FAILS)), (.ref w_FAILS)])
      rw [show (val_4 (0 : Int32) w_HOLDS w_FAILS) = w_FAILS from by unfold val_4; rw [if_pos (by decide +kernel : (0 : Int32) = (0 : Int32))]]
      show Go _ _ _ _ _ _ _ T12 (mkF m 82 #[.val (.int p0), .val (.int p1), .val (.int (0 : Int32)), .val (.ref w_HOLDS), .val (.ref w_FAILS), .val (.ref w_FAILS), .val (.int (1 : Int32)), .unset] [(.ref w_FAILS), (.ref w_FAILS)])
      refine Go.st (fun _ k => Jvm.RoadKit.acmp (g := (mkF m 82 #[.val (.int p0), .val (.int p1), .val (.int (0 : Int32)), .val (.ref w_HOLDS), .val (.ref w_FAILS), .val (.ref w_FAILS), .val (.int (1 : Int32)), .unset] [(.ref w_FAILS), (.ref w_FAILS)])) X12 hx rfl rfl rfl (pc0 := 82) (pc' := 85) (same := true) rfl (hb hby at_82) rfl (decide_eq_true rfl) (by decide) (by decide) k) ?_
      show Go _ _ _ _ _ _ _ T12 (mkF m 85 #[.val (.int p0), .val (.int p1), .val (.int (0 : Int32)), .val (.ref w_HOLDS), .val (.ref w_FAILS), .val (.ref w_FAILS), .val (.int (1 : Int32)), .unset] [])
      refine Go.st (fun _ k => XS.iconst X12.here hx rfl (hb hby at_85) k) ?_
      show Go _ _ _ _ _ _ _ T12 (mkF m 86 #[.val (.int p0), .val (.int p1), .val (.int (0 : Int32)), .val (.ref w_HOLDS), .val (.ref w_FAILS), .val (.ref w_FAILS), .val (.int (1 : Int32)), .unset] [(.int (1 : Int32))])
      refine Go.st (fun _ k => XS.goto X12.here hx rfl (pc0 := 86) (pc' := 90) rfl (hb hby at_86) (by decide) (by decide) k) ?_
      show Go _ _ _ _ _ _ _ T12 (mkF m 90 #[.val (.int p0), .val (.int p1), .val (.int (0 : Int32)), .val (.ref w_HOLDS), .val (.ref w_FAILS), .val (.ref w_FAILS), .val (.int (1 : Int32)), .unset] [(.int (1 : Int32))])
      refine Go.st (fun _ k => XS.istore X12.here hx rfl (hb hby at_90) rfl (l' := #[.val (.int p0), .val (.int p1), .val (.int (0 : Int32)), .val (.ref w_HOLDS), .val (.ref w_FAILS), .val (.ref w_FAILS), .val (.int (1 : Int32)), .val (.int (1 : Int32))]) rfl k) ?_
      show Go _ _ _ _ _ _ _ T12 (mkF m 92 #[.val (.int p0), .val (.int p1), .val (.int (0 : Int32)), .val (.ref w_HOLDS), .val (.ref w_FAILS), .val (.ref w_FAILS), .val (.int (1 : Int32)), .val (.int (1 : Int32))] [])
      refine Go.st (fun _ k => XS.aload X12.here hx rfl (hb hby at_92) rfl rfl k) ?_
      show Go _ _ _ _ _ _ _ T12 (mkF m 94 #[.val (.int p0), .val (.int p1), .val (.int (0 : Int32)), .val (.ref w_HOLDS), .val (.ref w_FAILS), .val (.ref w_FAILS), .val (.int (1 : Int32)), .val (.int (1 : Int32))] [(.ref w_FAILS)])
      refine Go.st (fun _ k => XS.aload X12.here hx rfl (hb hby at_94) rfl rfl k) ?_
      show Go _ _ _ _ _ _ _ T12 (mkF m 96 #[.val (.int p0), .val (.int p1), .val (.int (0 : Int32)), .val (.ref w_HOLDS), .val (.ref w_FAILS), .val (.ref w_FAILS), .val (.int (1 : Int32)), .val (.int (1 : Int32))] [(.ref w_FAILS), (.ref w_FAILS)])
      refine Go.st (fun _ k => Jvm.RoadKit.acmp (g := (mkF m 96 #[.val (.int p0), .val (.int p1), .val (.int (0 : Int32)), .val (.ref w_HOLDS), .val (.ref w_FAILS), .val (.ref w_FAILS), .val (.int (1 : Int32)), .val (.int (1 : Int32))] [(.ref w_FAILS), (.ref w_FAILS)])) X12 hx rfl rfl rfl (pc0 := 96) (pc' := 99) (same := true) rfl (hb hby at_96) rfl (decide_eq_true rfl) (by decide) (by decide) k) ?_
      show Go _ _ _ _ _ _ _ T12 (mkF m 99 #[.val (.int p0), .val (.int p1), .val (.int (0 : Int32)), .val (.ref w_HOLDS), .val (.ref w_FAILS), .val (.ref w_FAILS), .val (.int (1 : Int32)), .val (.int (1 : Int32))] [])
      refine Go.st (fun _ k => XS.aload X12.here hx rfl (hb hby at_99) rfl rfl k) ?_
      show Go _ _ _ _ _ _ _ T12 (mkF m 101 #[.val (.int p0), .val (.int p1), .val (.int (0 : Int32)), .val (.ref w_HOLDS), .val (.ref w_FAILS), .val (.ref w_FAILS), .val (.int (1 : Int32)), .val (.int (1 : Int32))] [(.ref w_FAILS)])
      obtain ⟨cq13, kq13, q13a, q13b, q13c⟩ := isOf hZ e12 E_FAILS
      obtain ⟨_, _, ⟨T13, L13, k13, n13⟩, -, X13, ⟨Lc13, hQ13, l13, y13, z13⟩, st13⟩ := X12.virtualBack hx (y := (⟨"com/example/grantd/grantd/policy/Condition$Truth", "negated", "()Lcom/example/grantd/grantd/policy/Condition$Truth;"⟩ : MethodName)) (z := (⟨"com/example/grantd/grantd/policy/Condition$Truth", "negated", "()Lcom/example/grantd/grantd/policy/Condition$Truth;"⟩ : MethodName)) hown (mvT hZ (hw _ (List.mem_of_getElem? (i := 10) rfl))) (mvT hZ (hw _ (List.mem_of_getElem? (i := 11) rfl))) (notFace_of_selects (args := #[]) (mvT hZ (hw _ (List.mem_of_getElem? (i := 13) rfl)))) (mvT hZ (hw _ (List.mem_of_getElem? (i := 13) rfl))) (mvT hZ (hw _ (List.mem_of_getElem? (i := 12) rfl))) (by decide) (backOf (W := 0) (rm2 l Z a0 hw [] w_FAILS w_HOLDS w_FAILS w_EITHER (1 : Int32) h0 n0 Z0 S_HOLDS S_FAILS S_EITHER E_FAILS F_FAILS_ordinal (Or.inr (Or.inl rfl))) hZ (hw _ (List.mem_of_getElem? (i := 14) rfl)) (hw _ (List.mem_of_getElem? (i := 6) rfl)) (by decide) (by decide)) q13a q13c (g := (mkF m 101 #[.val (.int p0), .val (.int p1), .val (.int (0 : Int32)), .val (.ref w_HOLDS), .val (.ref w_FAILS), .val (.ref w_FAILS), .val (.int (1 : Int32)), .val (.int (1 : Int32))] [(.ref w_FAILS)])) rfl (by rw [hml]; rfl) (Steps.refl _) (argsL := []) (rest := []) (lenOf pd_2 rfl) rfl (by show 2 * 0 + _ ≤ _; exact Nat.le_of_eq rfl) (hb hby at_101) (fun _ _ => ⟨rfl, e12, (by decide : 0 + 0 ≤ _), (by decide : 0 + 0 ≤ _)⟩)
      dsimp only [Pt.U, Pt.locs, Pt.cells, Pt.slots] at X13 l13 y13 z13 st13 hQ13
      subst l13 y13 z13
      obtain ⟨rfl, N13q, e13⟩ := hQ13
      have N13 := Fr.app N12 N13q
      refine Go.st (fun _ k => st13.trans k) ?_
      show Go _ _ _ _ _ _ _ T13 (mkF m 104 #[.val (.int p0), .val (.int p1), .val (.int (0 : Int32)), .val (.ref w_HOLDS), .val (.ref w_FAILS), .val (.ref w_FAILS), .val (.int (1 : Int32)), .val (.int (1 : Int32))] [(.ref (val_2 w_FAILS w_HOLDS w_FAILS w_EITHER (1 : Int32)))])
      rw [show (val_2 w_FAILS w_HOLDS w_FAILS w_EITHER (1 : Int32)) = w_HOLDS from by unfold val_2; rw [if_neg (by decide +kernel : ¬ ((1 : Int32) = (0 : Int32))), if_pos (by decide +kernel : (1 : Int32) = (1 : Int32))]]
      show Go _ _ _ _ _ _ _ T13 (mkF m 104 #[.val (.int p0), .val (.int p1), .val (.int (0 : Int32)), .val (.ref w_HOLDS), .val (.ref w_FAILS), .val (.ref w_FAILS), .val (.int (1 : Int32)), .val (.int (1 : Int32))] [(.ref w_HOLDS)])
      refine Go.st (fun _ k => XS.aloadN X13.here hx rfl (hb hby at_104) rfl rfl k) ?_
      show Go _ _ _ _ _ _ _ T13 (mkF m 105 #[.val (.int p0), .val (.int p1), .val (.int (0 : Int32)), .val (.ref w_HOLDS), .val (.ref w_FAILS), .val (.ref w_FAILS), .val (.int (1 : Int32)), .val (.int (1 : Int32))] [(.ref w_HOLDS), (.ref w_HOLDS)])
      refine Go.st (fun _ k => Jvm.RoadKit.acmp (g := (mkF m 105 #[.val (.int p0), .val (.int p1), .val (.int (0 : Int32)), .val (.ref w_HOLDS), .val (.ref w_FAILS), .val (.ref w_FAILS), .val (.int (1 : Int32)), .val (.int (1 : Int32))] [(.ref w_HOLDS), (.ref w_HOLDS)])) X13 hx rfl rfl rfl (pc0 := 105) (pc' := 108) (same := true) rfl (hb hby at_105) rfl (decide_eq_true rfl) (by decide) (by decide) k) ?_
      show Go _ _ _ _ _ _ _ T13 (mkF m 108 #[.val (.int p0), .val (.int p1), .val (.int (0 : Int32)), .val (.ref w_HOLDS), .val (.ref w_FAILS), .val (.ref w_FAILS), .val (.int (1 : Int32)), .val (.int (1 : Int32))] [])
      refine Go.st (fun _ k => XS.iload X13.here hx rfl (hb hby at_108) rfl k) ?_
      show Go _ _ _ _ _ _ _ T13 (mkF m 110 #[.val (.int p0), .val (.int p1), .val (.int (0 : Int32)), .val (.ref w_HOLDS), .val (.ref w_FAILS), .val (.ref w_FAILS), .val (.int (1 : Int32)), .val (.int (1 : Int32))] [(.int (1 : Int32))])
      refine Go.st (fun _ k => XS.ifNo X13.here hx rfl (hb hby at_110) rfl ((if0 _ _).trans (feq (by decide : ¬ ((1 : Int32) = (0 : Int32)))).1) k) ?_
      show Go _ _ _ _ _ _ _ T13 (mkF m 113 #[.val (.int p0), .val (.int p1), .val (.int (0 : Int32)), .val (.ref w_HOLDS), .val (.ref w_FAILS), .val (.ref w_FAILS), .val (.int (1 : Int32)), .val (.int (1 : Int32))] [])
      refine Go.st (fun _ k => XS.iconst X13.here hx rfl (hb hby at_113) k) ?_
      show Go _ _ _ _ _ _ _ T13 (mkF m 114 #[.val (.int p0), .val (.int p1), .val (.int (0 : Int32)), .val (.ref w_HOLDS), .val (.ref w_FAILS), .val (.ref w_FAILS), .val (.int (1 : Int32)), .val (.int (1 : Int32))] [(.int (1 : Int32))])
      refine Go.st (fun _ k => XS.goto X13.here hx rfl (pc0 := 114) (pc' := 118) rfl (hb hby at_114) (by decide) (by decide) k) ?_
      show Go _ _ _ _ _ _ _ T13 (mkF m 118 #[.val (.int p0), .val (.int p1), .val (.int (0 : Int32)), .val (.ref w_HOLDS), .val (.ref w_FAILS), .val (.ref w_FAILS), .val (.int (1 : Int32)), .val (.int (1 : Int32))] [(.int (1 : Int32))])
      refine Go.ret X13 hlk (v := some (.int (1 : Int32))) (fun h => by rw [hret] at h; cases h) (fun fs hr => retN X13 hx (t := .boolean) hret (by simp) (hb hby at_118) hr) ?_ (by decide) (by decide)
      show Q0 Z p0 p1 w_HOLDS w_FAILS w_EITHER h0 n0 (some (.int (1 : Int32))) T13.heap _
      rw [e13]
      exact ⟨rfl, N13⟩
  · rw [hk1]
    show Go _ _ _ _ _ _ _ s₁ (mkF m 6 #[.val (.int p0), .val (.int p1), .unset, .unset, .unset, .unset, .unset, .unset] [(.int (1 : Int32))])
    refine Go.st (fun _ k => XS.istoreN X0.here hx rfl (hb hby at_6) rfl (l' := #[.val (.int p0), .val (.int p1), .val (.int (1 : Int32)), .unset, .unset, .unset, .unset, .unset]) rfl k) ?_
    show Go _ _ _ _ _ _ _ s₁ (mkF m 7 #[.val (.int p0), .val (.int p1), .val (.int (1 : Int32)), .unset, .unset, .unset, .unset, .unset] [])
    refine Go.st (fun _ k => XS.iloadN X0.here hx rfl (hb hby at_7) rfl k) ?_
    show Go _ _ _ _ _ _ _ s₁ (mkF m 8 #[.val (.int p0), .val (.int p1), .val (.int (1 : Int32)), .unset, .unset, .unset, .unset, .unset] [(.int (1 : Int32))])
    obtain ⟨_, _, ⟨T14, L14, k14, n14⟩, -, X14, ⟨Lc14, hQ14, l14, y14, z14⟩, st14⟩ := Jvm.LawKit.callS X0 hx (y := (⟨"com/example/grantd/grantd/policy/TruthNegatedPinLaw", "pick", "(I)Lcom/example/grantd/grantd/policy/Condition$Truth;"⟩ : MethodName)) hown (mvT hZ (hw _ (List.mem_of_getElem? (i := 1) rfl))) (mvT hZ (hw _ (List.mem_of_getElem? (i := 2) rfl))) (mvT hZ (hw _ (List.mem_of_getElem? (i := 3) rfl))) (mvT hZ (hw _ (List.mem_of_getElem? (i := 4) rfl))) (by decide) (backOf (W := 0) (rm1 l Z a0 hw [] (1 : Int32) w_HOLDS w_FAILS w_EITHER h0 n0 Z0 S_HOLDS S_FAILS S_EITHER) hZ (hw _ (List.mem_of_getElem? (i := 4) rfl)) (hw _ (List.mem_of_getElem? (i := 3) rfl)) (by decide) (by decide)) (g := (mkF m 8 #[.val (.int p0), .val (.int p1), .val (.int (1 : Int32)), .unset, .unset, .unset, .unset, .unset] [(.int (1 : Int32))])) rfl (by rw [hml]; rfl) (argsL := [(.int (1 : Int32))]) (rest := []) (lenOf pd_1 rfl) rfl (by show 2 * 0 + _ ≤ _; exact Nat.le_of_eq rfl) (hb hby at_8) (fun _ _ => ⟨rfl, e0, (by decide : 0 + 0 ≤ _), (by decide : 0 + 0 ≤ _)⟩)
    dsimp only [Pt.U, Pt.locs, Pt.cells, Pt.slots] at X14 l14 y14 z14 st14 hQ14
    subst l14 y14 z14
    obtain ⟨rfl, N14q, e14⟩ := hQ14
    have N14 := Fr.app N0 N14q
    refine Go.st st14 ?_
    show Go _ _ _ _ _ _ _ T14 (mkF m 11 #[.val (.int p0), .val (.int p1), .val (.int (1 : Int32)), .unset, .unset, .unset, .unset, .unset] [(.ref (val_1 (1 : Int32) w_HOLDS w_FAILS w_EITHER))])
    rw [show (val_1 (1 : Int32) w_HOLDS w_FAILS w_EITHER) = w_FAILS from by unfold val_1; rw [if_neg (by decide +kernel : ¬ ((1 : Int32) = (0 : Int32))), if_pos (by decide +kernel : (1 : Int32) = (1 : Int32))]]
    show Go _ _ _ _ _ _ _ T14 (mkF m 11 #[.val (.int p0), .val (.int p1), .val (.int (1 : Int32)), .unset, .unset, .unset, .unset, .unset] [(.ref w_FAILS)])
    refine Go.st (fun _ k => XS.astoreN X14.here hx rfl (hb hby at_11) rfl rfl (l' := #[.val (.int p0), .val (.int p1), .val (.int (1 : Int32)), .val (.ref w_FAILS), .unset, .unset, .unset, .unset]) rfl k) ?_
    show Go _ _ _ _ _ _ _ T14 (mkF m 12 #[.val (.int p0), .val (.int p1), .val (.int (1 : Int32)), .val (.ref w_FAILS), .unset, .unset, .unset, .unset] [])
    refine Go.st (fun _ k => XS.iloadN X14.here hx rfl (hb hby at_12) rfl k) ?_
    show Go _ _ _ _ _ _ _ T14 (mkF m 13 #[.val (.int p0), .val (.int p1), .val (.int (1 : Int32)), .val (.ref w_FAILS), .unset, .unset, .unset, .unset] [(.int (1 : Int32))])
    refine Go.st (fun _ k => XS.ifYes X14.here hx rfl (pc0 := 13) (pc' := 24) rfl (hb hby at_13) rfl ((if0 _ _).trans (feq (by decide : ¬ ((1 : Int32) = (0 : Int32)))).2) (by decide) (by decide) k) ?_
    show Go _ _ _ _ _ _ _ T14 (mkF m 24 #[.val (.int p0), .val (.int p1), .val (.int (1 : Int32)), .val (.ref w_FAILS), .unset, .unset, .unset, .unset] [])
    refine Go.st (fun _ k => XS.iloadN X14.here hx rfl (hb hby at_24) rfl k) ?_
    show Go _ _ _ _ _ _ _ T14 (mkF m 25 #[.val (.int p0), .val (.int p1), .val (.int (1 : Int32)), .val (.ref w_FAILS), .unset, .unset, .unset, .unset] [(.int (1 : Int32))])
    refine Go.st (fun _ k => XS.iconst X14.here hx rfl (hb hby at_25) k) ?_
    show Go _ _ _ _ _ _ _ T14 (mkF m 26 #[.val (.int p0), .val (.int p1), .val (.int (1 : Int32)), .val (.ref w_FAILS), .unset, .unset, .unset, .unset] [(.int (1 : Int32)), (.int (1 : Int32))])
    refine Go.st (fun _ k => XS.icmpNo X14.here hx rfl (hb hby at_26) rfl (teq (by decide : (1 : Int32) = (1 : Int32))).2 k) ?_
    show Go _ _ _ _ _ _ _ T14 (mkF m 29 #[.val (.int p0), .val (.int p1), .val (.int (1 : Int32)), .val (.ref w_FAILS), .unset, .unset, .unset, .unset] [])
    obtain ⟨T15, X15, e15, st15⟩ := getS2 X14 hx hZ hown (host := "") (Or.inl (hw _ (List.mem_of_getElem? (i := 5) rfl))) Via.refl e14 S_HOLDS (g := (mkF m 29 #[.val (.int p0), .val (.int p1), .val (.int (1 : Int32)), .val (.ref w_FAILS), .unset, .unset, .unset, .unset] [])) rfl (hb hby at_29)
    refine Go.st st15 ?_
    show Go _ _ _ _ _ _ _ T15 (mkF m 32 #[.val (.int p0), .val (.int p1), .val (.int (1 : Int32)), .val (.ref w_FAILS), .unset, .unset, .unset, .unset] [(.ref w_HOLDS)])
    refine Go.st (fun _ k => XS.astore X15.here hx rfl (hb hby at_32) rfl rfl (l' := #[.val (.int p0), .val (.int p1), .val (.int (1 : Int32)), .val (.ref w_FAILS), .val (.ref w_HOLDS), .unset, .unset, .unset]) rfl k) ?_
    show Go _ _ _ _ _ _ _ T15 (mkF m 34 #[.val (.int p0), .val (.int p1), .val (.int (1 : Int32)), .val (.ref w_FAILS), .val (.ref w_HOLDS), .unset, .unset, .unset] [])
    refine Go.st (fun _ k => XS.goto X15.here hx rfl (pc0 := 34) (pc' := 42) rfl (hb hby at_34) (by decide) (by decide) k) ?_
    show Go _ _ _ _ _ _ _ T15 (mkF m 42 #[.val (.int p0), .val (.int p1), .val (.int (1 : Int32)), .val (.ref w_FAILS), .val (.ref w_HOLDS), .unset, .unset, .unset] [])
    refine Go.st (fun _ k => XS.aloadN X15.here hx rfl (hb hby at_42) rfl rfl k) ?_
    show Go _ _ _ _ _ _ _ T15 (mkF m 43 #[.val (.int p0), .val (.int p1), .val (.int (1 : Int32)), .val (.ref w_FAILS), .val (.ref w_HOLDS), .unset, .unset, .unset] [(.ref w_FAILS)])
    obtain ⟨cq16, kq16, q16a, q16b, q16c⟩ := isOf hZ e15 E_FAILS
    obtain ⟨_, _, ⟨T16, L16, k16, n16⟩, -, X16, ⟨Lc16, hQ16, l16, y16, z16⟩, st16⟩ := X15.virtualBack hx (y := (⟨"com/example/grantd/grantd/policy/Condition$Truth", "negated", "()Lcom/example/grantd/grantd/policy/Condition$Truth;"⟩ : MethodName)) (z := (⟨"com/example/grantd/grantd/policy/Condition$Truth", "negated", "()Lcom/example/grantd/grantd/policy/Condition$Truth;"⟩ : MethodName)) hown (mvT hZ (hw _ (List.mem_of_getElem? (i := 10) rfl))) (mvT hZ (hw _ (List.mem_of_getElem? (i := 11) rfl))) (notFace_of_selects (args := #[]) (mvT hZ (hw _ (List.mem_of_getElem? (i := 13) rfl)))) (mvT hZ (hw _ (List.mem_of_getElem? (i := 13) rfl))) (mvT hZ (hw _ (List.mem_of_getElem? (i := 12) rfl))) (by decide) (backOf (W := 0) (rm2 l Z a0 hw [] w_FAILS w_HOLDS w_FAILS w_EITHER (1 : Int32) h0 n0 Z0 S_HOLDS S_FAILS S_EITHER E_FAILS F_FAILS_ordinal (Or.inr (Or.inl rfl))) hZ (hw _ (List.mem_of_getElem? (i := 14) rfl)) (hw _ (List.mem_of_getElem? (i := 6) rfl)) (by decide) (by decide)) q16a q16c (g := (mkF m 43 #[.val (.int p0), .val (.int p1), .val (.int (1 : Int32)), .val (.ref w_FAILS), .val (.ref w_HOLDS), .unset, .unset, .unset] [(.ref w_FAILS)])) rfl (by rw [hml]; rfl) (Steps.refl _) (argsL := []) (rest := []) (lenOf pd_2 rfl) rfl (by show 2 * 0 + _ ≤ _; exact Nat.le_of_eq rfl) (hb hby at_43) (fun _ _ => ⟨rfl, e15, (by decide : 0 + 0 ≤ _), (by decide : 0 + 0 ≤ _)⟩)
    dsimp only [Pt.U, Pt.locs, Pt.cells, Pt.slots] at X16 l16 y16 z16 st16 hQ16
    subst l16 y16 z16
    obtain ⟨rfl, N16q, e16⟩ := hQ16
    have N16 := Fr.app N14 N16q
    refine Go.st (fun _ k => st16.trans k) ?_
    show Go _ _ _ _ _ _ _ T16 (mkF m 46 #[.val (.int p0), .val (.int p1), .val (.int (1 : Int32)), .val (.ref w_FAILS), .val (.ref w_HOLDS), .unset, .unset, .unset] [(.ref (val_2 w_FAILS w_HOLDS w_FAILS w_EITHER (1 : Int32)))])
    rw [show (val_2 w_FAILS w_HOLDS w_FAILS w_EITHER (1 : Int32)) = w_HOLDS from by unfold val_2; rw [if_neg (by decide +kernel : ¬ ((1 : Int32) = (0 : Int32))), if_pos (by decide +kernel : (1 : Int32) = (1 : Int32))]]
    show Go _ _ _ _ _ _ _ T16 (mkF m 46 #[.val (.int p0), .val (.int p1), .val (.int (1 : Int32)), .val (.ref w_FAILS), .val (.ref w_HOLDS), .unset, .unset, .unset] [(.ref w_HOLDS)])
    refine Go.st (fun _ k => XS.astore X16.here hx rfl (hb hby at_46) rfl rfl (l' := #[.val (.int p0), .val (.int p1), .val (.int (1 : Int32)), .val (.ref w_FAILS), .val (.ref w_HOLDS), .val (.ref w_HOLDS), .unset, .unset]) rfl k) ?_
    show Go _ _ _ _ _ _ _ T16 (mkF m 48 #[.val (.int p0), .val (.int p1), .val (.int (1 : Int32)), .val (.ref w_FAILS), .val (.ref w_HOLDS), .val (.ref w_HOLDS), .unset, .unset] [])
    refine Go.st (fun _ k => XS.iloadN X16.here hx rfl (hb hby at_48) rfl k) ?_
    show Go _ _ _ _ _ _ _ T16 (mkF m 49 #[.val (.int p0), .val (.int p1), .val (.int (1 : Int32)), .val (.ref w_FAILS), .val (.ref w_HOLDS), .val (.ref w_HOLDS), .unset, .unset] [(.int p1)])
    refine Go.st (fun _ k => XS.iconst X16.here hx rfl (hb hby at_49) k) ?_
    show Go _ _ _ _ _ _ _ T16 (mkF m 50 #[.val (.int p0), .val (.int p1), .val (.int (1 : Int32)), .val (.ref w_FAILS), .val (.ref w_HOLDS), .val (.ref w_HOLDS), .unset, .unset] [(.int (1 : Int32)), (.int p1)])
    refine Go.st (fun _ k => XS.iand X16.here hx rfl (hb hby at_50) rfl k) ?_
    show Go _ _ _ _ _ _ _ T16 (mkF m 51 #[.val (.int p0), .val (.int p1), .val (.int (1 : Int32)), .val (.ref w_FAILS), .val (.ref w_HOLDS), .val (.ref w_HOLDS), .unset, .unset] [(.int (p1 &&& (1 : Int32)))])
    rcases and_one p1 with hk17 | hk17
    · rw [hk17]
      show Go _ _ _ _ _ _ _ T16 (mkF m 51 #[.val (.int p0), .val (.int p1), .val (.int (1 : Int32)), .val (.ref w_FAILS), .val (.ref w_HOLDS), .val (.ref w_HOLDS), .unset, .unset] [(.int (0 : Int32))])
      refine Go.st (fun _ k => XS.ifYes X16.here hx rfl (pc0 := 51) (pc' := 58) rfl (hb hby at_51) rfl ((if0 _ _).trans (teq (by decide : (0 : Int32) = (0 : Int32))).1) (by decide) (by decide) k) ?_
      show Go _ _ _ _ _ _ _ T16 (mkF m 58 #[.val (.int p0), .val (.int p1), .val (.int (1 : Int32)), .val (.ref w_FAILS), .val (.ref w_HOLDS), .val (.ref w_HOLDS), .unset, .unset] [])
      refine Go.st (fun _ k => XS.iconst X16.here hx rfl (hb hby at_58) k) ?_
      show Go _ _ _ _ _ _ _ T16 (mkF m 59 #[.val (.int p0), .val (.int p1), .val (.int (1 : Int32)), .val (.ref w_FAILS), .val (.ref w_HOLDS), .val (.ref w_HOLDS), .unset, .unset] [(.int (0 : Int32))])
      refine Go.st (fun _ k => XS.istore X16.here hx rfl (hb hby at_59) rfl (l' := #[.val (.int p0), .val (.int p1), .val (.int (1 : Int32)), .val (.ref w_FAILS), .val (.ref w_HOLDS), .val (.ref w_HOLDS), .val (.int (0 : Int32)), .unset]) rfl k) ?_
      show Go _ _ _ _ _ _ _ T16 (mkF m 61 #[.val (.int p0), .val (.int p1), .val (.int (1 : Int32)), .val (.ref w_FAILS), .val (.ref w_HOLDS), .val (.ref w_HOLDS), .val (.int (0 : Int32)), .unset] [])
      refine Go.st (fun _ k => XS.iload X16.here hx rfl (hb hby at_61) rfl k) ?_
      show Go _ _ _ _ _ _ _ T16 (mkF m 63 #[.val (.int p0), .val (.int p1), .val (.int (1 : Int32)), .val (.ref w_FAILS), .val (.ref w_HOLDS), .val (.ref w_HOLDS), .val (.int (0 : Int32)), .unset] [(.int (0 : Int32))])
      obtain ⟨_, _, ⟨T18, L18, k18, n18⟩, -, X18, ⟨Lc18, hQ18, l18, y18, z18⟩, st18⟩ := Jvm.LawKit.callS X16 hx (y := (⟨"com/example/grantd/grantd/policy/Condition$Truth", "of", "(Z)Lcom/example/grantd/grantd/policy/Condition$Truth;"⟩ : MethodName)) hown (mvT hZ (hw _ (List.mem_of_getElem? (i := 25) rfl))) (mvT hZ (hw _ (List.mem_of_getElem? (i := 26) rfl))) (mvT hZ (hw _ (List.mem_of_getElem? (i := 6) rfl))) (mvT hZ (hw _ (List.mem_of_getElem? (i := 27) rfl))) (by decide) (backOf (W := 0) (rm4 l Z a0 hw [] (0 : Int32) w_HOLDS w_FAILS h0 n0 Z0 S_HOLDS S_FAILS) hZ (hw _ (List.mem_of_getElem? (i := 27) rfl)) (hw _ (List.mem_of_getElem? (i := 6) rfl)) (by decide) (by decide)) (g := (mkF m 63 #[.val (.int p0), .val (.int p1), .val (.int (1 : Int32)), .val (.ref w_FAILS), .val (.ref w_HOLDS), .val (.ref w_HOLDS), .val (.int (0 : Int32)), .unset] [(.int (0 : Int32))])) rfl (by rw [hml]; rfl) (argsL := [(.int (0 : Int32))]) (rest := []) (lenOf pd_3 rfl) rfl (by show 2 * 0 + _ ≤ _; exact Nat.le_of_eq rfl) (hb hby at_63) (fun _ _ => ⟨rfl, e16, (by decide : 0 + 0 ≤ _), (by decide : 0 + 0 ≤ _)⟩)
      dsimp only [Pt.U, Pt.locs, Pt.cells, Pt.slots] at X18 l18 y18 z18 st18 hQ18
      subst l18 y18 z18
      obtain ⟨rfl, N18q, e18⟩ := hQ18
      have N18 := Fr.app N16 N18q
      refine Go.st st18 ?_
      show Go _ _ _ _ _ _ _ T18 (mkF m 66 #[.val (.int p0), .val (.int p1), .val (.int (1 : Int32)), .val (.ref w_FAILS), .val (.ref w_HOLDS), .val (.ref w_HOLDS), .val (.int (0 : Int32)), .unset] [(.ref (val_4 (0 : Int32) w_HOLDS w_FAILS))])
      rw [show (val_4 (0 : Int32) w_HOLDS w_FAILS) = w_FAILS from by unfold val_4; rw [if_pos (by decide +kernel : (0 : Int32) = (0 : Int32))]]
      show Go _ _ _ _ _ _ _ T18 (mkF m 66 #[.val (.int p0), .val (.int p1), .val (.int (1 : Int32)), .val (.ref w_FAILS), .val (.ref w_HOLDS), .val (.ref w_HOLDS), .val (.int (0 : Int32)), .unset] [(.ref w_FAILS)])
      obtain ⟨cq19, kq19, q19a, q19b, q19c⟩ := isOf hZ e18 E_FAILS
      obtain ⟨_, _, ⟨T19, L19, k19, n19⟩, -, X19, ⟨Lc19, hQ19, l19, y19, z19⟩, st19⟩ := X18.virtualBack hx (y := (⟨"com/example/grantd/grantd/policy/Condition$Truth", "negated", "()Lcom/example/grantd/grantd/policy/Condition$Truth;"⟩ : MethodName)) (z := (⟨"com/example/grantd/grantd/policy/Condition$Truth", "negated", "()Lcom/example/grantd/grantd/policy/Condition$Truth;"⟩ : MethodName)) hown (mvT hZ (hw _ (List.mem_of_getElem? (i := 10) rfl))) (mvT hZ (hw _ (List.mem_of_getElem? (i := 11) rfl))) (notFace_of_selects (args := #[]) (mvT hZ (hw _ (List.mem_of_getElem? (i := 13) rfl)))) (mvT hZ (hw _ (List.mem_of_getElem? (i := 13) rfl))) (mvT hZ (hw _ (List.mem_of_getElem? (i := 12) rfl))) (by decide) (backOf (W := 0) (rm2 l Z a0 hw [] w_FAILS w_HOLDS w_FAILS w_EITHER (1 : Int32) h0 n0 Z0 S_HOLDS S_FAILS S_EITHER E_FAILS F_FAILS_ordinal (Or.inr (Or.inl rfl))) hZ (hw _ (List.mem_of_getElem? (i := 14) rfl)) (hw _ (List.mem_of_getElem? (i := 6) rfl)) (by decide) (by decide)) q19a q19c (g := (mkF m 66 #[.val (.int p0), .val (.int p1), .val (.int (1 : Int32)), .val (.ref w_FAILS), .val (.ref w_HOLDS), .val (.ref w_HOLDS), .val (.int (0 : Int32)), .unset] [(.ref w_FAILS)])) rfl (by rw [hml]; rfl) (Steps.refl _) (argsL := []) (rest := []) (lenOf pd_2 rfl) rfl (by show 2 * 0 + _ ≤ _; exact Nat.le_of_eq rfl) (hb hby at_66) (fun _ _ => ⟨rfl, e18, (by decide : 0 + 0 ≤ _), (by decide : 0 + 0 ≤ _)⟩)
      dsimp only [Pt.U, Pt.locs, Pt.cells, Pt.slots] at X19 l19 y19 z19 st19 hQ19
      subst l19 y19 z19
      obtain ⟨rfl, N19q, e19⟩ := hQ19
      have N19 := Fr.app N18 N19q
      refine Go.st (fun _ k => st19.trans k) ?_
      show Go _ _ _ _ _ _ _ T19 (mkF m 69 #[.val (.int p0), .val (.int p1), .val (.int (1 : Int32)), .val (.ref w_FAILS), .val (.ref w_HOLDS), .val (.ref w_HOLDS), .val (.int (0 : Int32)), .unset] [(.ref (val_2 w_FAILS w_HOLDS w_FAILS w_EITHER (1 : Int32)))])
      rw [show (val_2 w_FAILS w_HOLDS w_FAILS w_EITHER (1 : Int32)) = w_HOLDS from by unfold val_2; rw [if_neg (by decide +kernel : ¬ ((1 : Int32) = (0 : Int32))), if_pos (by decide +kernel : (1 : Int32) = (1 : Int32))]]
      show Go _ _ _ _ _ _ _ T19 (mkF m 69 #[.val (.int p0), .val (.int p1), .val (.int (1 : Int32)), .val (.ref w_FAILS), .val (.ref w_HOLDS), .val (.ref w_HOLDS), .val (.int (0 : Int32)), .unset] [(.ref w_HOLDS)])
      refine Go.st (fun _ k => XS.iload X19.here hx rfl (hb hby at_69) rfl k) ?_
      show Go _ _ _ _ _ _ _ T19 (mkF m 71 #[.val (.int p0), .val (.int p1), .val (.int (1 : Int32)), .val (.ref w_FAILS), .val (.ref w_HOLDS), .val (.ref w_HOLDS), .val (.int (0 : Int32)), .unset] [(.int (0 : Int32)), (.ref w_HOLDS)])
      refine Go.st (fun _ k => XS.ifNo X19.here hx rfl (hb hby at_71) rfl ((if0 _ _).trans (teq (by decide : (0 : Int32) = (0 : Int32))).2) k) ?_
      show Go _ _ _ _ _ _ _ T19 (mkF m 74 #[.val (.int p0), .val (.int p1), .val (.int (1 : Int32)), .val (.ref w_FAILS), .val (.ref w_HOLDS), .val (.ref w_HOLDS), .val (.int (0 : Int32)), .unset] [(.ref w_HOLDS)])
      refine Go.st (fun _ k => XS.iconst X19.here hx rfl (hb hby at_74) k) ?_
      show Go _ _ _ _ _ _ _ T19 (mkF m 75 #[.val (.int p0), .val (.int p1), .val (.int (1 : Int32)), .val (.ref w_FAILS), .val (.ref w_HOLDS), .val (.ref w_HOLDS), .val (.int (0 : Int32)), .unset] [(.int (1 : Int32)), (.ref w_HOLDS)])
      refine Go.st (fun _ k => XS.goto X19.here hx rfl (pc0 := 75) (pc' := 79) rfl (hb hby at_75) (by decide) (by decide) k) ?_
      show Go _ _ _ _ _ _ _ T19 (mkF m 79 #[.val (.int p0), .val (.int p1), .val (.int (1 : Int32)), .val (.ref w_FAILS), .val (.ref w_HOLDS), .val (.ref w_HOLDS), .val (.int (0 : Int32)), .unset] [(.int (1 : Int32)), (.ref w_HOLDS)])
      obtain ⟨_, _, ⟨T20, L20, k20, n20⟩, -, X20, ⟨Lc20, hQ20, l20, y20, z20⟩, st20⟩ := Jvm.LawKit.callS X19 hx (y := (⟨"com/example/grantd/grantd/policy/Condition$Truth", "of", "(Z)Lcom/example/grantd/grantd/policy/Condition$Truth;"⟩ : MethodName)) hown (mvT hZ (hw _ (List.mem_of_getElem? (i := 25) rfl))) (mvT hZ (hw _ (List.mem_of_getElem? (i := 26) rfl))) (mvT hZ (hw _ (List.mem_of_getElem? (i := 6) rfl))) (mvT hZ (hw _ (List.mem_of_getElem? (i := 27) rfl))) (by decide) (backOf (W := 1) (rm4 l Z a0 hw [] (1 : Int32) w_HOLDS w_FAILS h0 n0 Z0 S_HOLDS S_FAILS) hZ (hw _ (List.mem_of_getElem? (i := 27) rfl)) (hw _ (List.mem_of_getElem? (i := 6) rfl)) (by decide) (by decide)) (g := (mkF m 79 #[.val (.int p0), .val (.int p1), .val (.int (1 : Int32)), .val (.ref w_FAILS), .val (.ref w_HOLDS), .val (.ref w_HOLDS), .val (.int (0 : Int32)), .unset] [(.int (1 : Int32)), (.ref w_HOLDS)])) rfl (by rw [hml]; rfl) (argsL := [(.int (1 : Int32))]) (rest := [(.ref w_HOLDS)]) (lenOf pd_3 rfl) rfl (by show 2 * 0 + _ ≤ _; exact Nat.le_of_eq rfl) (hb hby at_79) (fun _ _ => ⟨rfl, e19, (by decide : 0 + 0 ≤ _), (by decide : 0 + 0 ≤ _)⟩)
      dsimp only [Pt.U, Pt.locs, Pt.cells, Pt.slots] at X20 l20 y20 z20 st20 hQ20
      subst l20 y20 z20
      obtain ⟨rfl, N20q, e20⟩ := hQ20
      have N20 := Fr.app N19 N20q
      refine Go.st st20 ?_
      show Go _ _ _ _ _ _ _ T20 (mkF m 82 #[.val (.int p0), .val (.int p1), .val (.int (1 : Int32)), .val (.ref w_FAILS), .val (.ref w_HOLDS), .val (.ref w_HOLDS), .val (.int (0 : Int32)), .unset] [(.ref (val_4 (1 : Int32) w_HOLDS w_FAILS)), (.ref w_HOLDS)])
      rw [show (val_4 (1 : Int32) w_HOLDS w_FAILS) = w_HOLDS from by unfold val_4; rw [if_neg (by decide +kernel : ¬ ((1 : Int32) = (0 : Int32)))]]
      show Go _ _ _ _ _ _ _ T20 (mkF m 82 #[.val (.int p0), .val (.int p1), .val (.int (1 : Int32)), .val (.ref w_FAILS), .val (.ref w_HOLDS), .val (.ref w_HOLDS), .val (.int (0 : Int32)), .unset] [(.ref w_HOLDS), (.ref w_HOLDS)])
      refine Go.st (fun _ k => Jvm.RoadKit.acmp (g := (mkF m 82 #[.val (.int p0), .val (.int p1), .val (.int (1 : Int32)), .val (.ref w_FAILS), .val (.ref w_HOLDS), .val (.ref w_HOLDS), .val (.int (0 : Int32)), .unset] [(.ref w_HOLDS), (.ref w_HOLDS)])) X20 hx rfl rfl rfl (pc0 := 82) (pc' := 85) (same := true) rfl (hb hby at_82) rfl (decide_eq_true rfl) (by decide) (by decide) k) ?_
      show Go _ _ _ _ _ _ _ T20 (mkF m 85 #[.val (.int p0), .val (.int p1), .val (.int (1 : Int32)), .val (.ref w_FAILS), .val (.ref w_HOLDS), .val (.ref w_HOLDS), .val (.int (0 : Int32)), .unset] [])
      refine Go.st (fun _ k => XS.iconst X20.here hx rfl (hb hby at_85) k) ?_
      show Go _ _ _ _ _ _ _ T20 (mkF m 86 #[.val (.int p0), .val (.int p1), .val (.int (1 : Int32)), .val (.ref w_FAILS), .val (.ref w_HOLDS), .val (.ref w_HOLDS), .val (.int (0 : Int32)), .unset] [(.int (1 : Int32))])
      refine Go.st (fun _ k => XS.goto X20.here hx rfl (pc0 := 86) (pc' := 90) rfl (hb hby at_86) (by decide) (by decide) k) ?_
      show Go _ _ _ _ _ _ _ T20 (mkF m 90 #[.val (.int p0), .val (.int p1), .val (.int (1 : Int32)), .val (.ref w_FAILS), .val (.ref w_HOLDS), .val (.ref w_HOLDS), .val (.int (0 : Int32)), .unset] [(.int (1 : Int32))])
      refine Go.st (fun _ k => XS.istore X20.here hx rfl (hb hby at_90) rfl (l' := #[.val (.int p0), .val (.int p1), .val (.int (1 : Int32)), .val (.ref w_FAILS), .val (.ref w_HOLDS), .val (.ref w_HOLDS), .val (.int (0 : Int32)), .val (.int (1 : Int32))]) rfl k) ?_
      show Go _ _ _ _ _ _ _ T20 (mkF m 92 #[.val (.int p0), .val (.int p1), .val (.int (1 : Int32)), .val (.ref w_FAILS), .val (.ref w_HOLDS), .val (.ref w_HOLDS), .val (.int (0 : Int32)), .val (.int (1 : Int32))] [])
      refine Go.st (fun _ k => XS.aload X20.here hx rfl (hb hby at_92) rfl rfl k) ?_
      show Go _ _ _ _ _ _ _ T20 (mkF m 94 #[.val (.int p0), .val (.int p1), .val (.int (1 : Int32)), .val (.ref w_FAILS), .val (.ref w_HOLDS), .val (.ref w_HOLDS), .val (.int (0 : Int32)), .val (.int (1 : Int32))] [(.ref w_HOLDS)])
      refine Go.st (fun _ k => XS.aload X20.here hx rfl (hb hby at_94) rfl rfl k) ?_
      show Go _ _ _ _ _ _ _ T20 (mkF m 96 #[.val (.int p0), .val (.int p1), .val (.int (1 : Int32)), .val (.ref w_FAILS), .val (.ref w_HOLDS), .val (.ref w_HOLDS), .val (.int (0 : Int32)), .val (.int (1 : Int32))] [(.ref w_HOLDS), (.ref w_HOLDS)])
      refine Go.st (fun _ k => Jvm.RoadKit.acmp (g := (mkF m 96 #[.val (.int p0), .val (.int p1), .val (.int (1 : Int32)), .val (.ref w_FAILS), .val (.ref w_HOLDS), .val (.ref w_HOLDS), .val (.int (0 : Int32)), .val (.int (1 : Int32))] [(.ref w_HOLDS), (.ref w_HOLDS)])) X20 hx rfl rfl rfl (pc0 := 96) (pc' := 99) (same := true) rfl (hb hby at_96) rfl (decide_eq_true rfl) (by decide) (by decide) k) ?_
      show Go _ _ _ _ _ _ _ T20 (mkF m 99 #[.val (.int p0), .val (.int p1), .val (.int (1 : Int32)), .val (.ref w_FAILS), .val (.ref w_HOLDS), .val (.ref w_HOLDS), .val (.int (0 : Int32)), .val (.int (1 : Int32))] [])
      refine Go.st (fun _ k => XS.aload X20.here hx rfl (hb hby at_99) rfl rfl k) ?_
      show Go _ _ _ _ _ _ _ T20 (mkF m 101 #[.val (.int p0), .val (.int p1), .val (.int (1 : Int32)), .val (.ref w_FAILS), .val (.ref w_HOLDS), .val (.ref w_HOLDS), .val (.int (0 : Int32)), .val (.int (1 : Int32))] [(.ref w_HOLDS)])
      obtain ⟨cq21, kq21, q21a, q21b, q21c⟩ := isOf hZ e20 E_HOLDS
      obtain ⟨_, _, ⟨T21, L21, k21, n21⟩, -, X21, ⟨Lc21, hQ21, l21, y21, z21⟩, st21⟩ := X20.virtualBack hx (y := (⟨"com/example/grantd/grantd/policy/Condition$Truth", "negated", "()Lcom/example/grantd/grantd/policy/Condition$Truth;"⟩ : MethodName)) (z := (⟨"com/example/grantd/grantd/policy/Condition$Truth", "negated", "()Lcom/example/grantd/grantd/policy/Condition$Truth;"⟩ : MethodName)) hown (mvT hZ (hw _ (List.mem_of_getElem? (i := 10) rfl))) (mvT hZ (hw _ (List.mem_of_getElem? (i := 11) rfl))) (notFace_of_selects (args := #[]) (mvT hZ (hw _ (List.mem_of_getElem? (i := 13) rfl)))) (mvT hZ (hw _ (List.mem_of_getElem? (i := 13) rfl))) (mvT hZ (hw _ (List.mem_of_getElem? (i := 12) rfl))) (by decide) (backOf (W := 0) (rm2 l Z a0 hw [] w_HOLDS w_HOLDS w_FAILS w_EITHER (0 : Int32) h0 n0 Z0 S_HOLDS S_FAILS S_EITHER E_HOLDS F_HOLDS_ordinal (Or.inl rfl)) hZ (hw _ (List.mem_of_getElem? (i := 14) rfl)) (hw _ (List.mem_of_getElem? (i := 6) rfl)) (by decide) (by decide)) q21a q21c (g := (mkF m 101 #[.val (.int p0), .val (.int p1), .val (.int (1 : Int32)), .val (.ref w_FAILS), .val (.ref w_HOLDS), .val (.ref w_HOLDS), .val (.int (0 : Int32)), .val (.int (1 : Int32))] [(.ref w_HOLDS)])) rfl (by rw [hml]; rfl) (Steps.refl _) (argsL := []) (rest := []) (lenOf pd_2 rfl) rfl (by show 2 * 0 + _ ≤ _; exact Nat.le_of_eq rfl) (hb hby at_101) (fun _ _ => ⟨rfl, e20, (by decide : 0 + 0 ≤ _), (by decide : 0 + 0 ≤ _)⟩)
      dsimp only [Pt.U, Pt.locs, Pt.cells, Pt.slots] at X21 l21 y21 z21 st21 hQ21
      subst l21 y21 z21
      obtain ⟨rfl, N21q, e21⟩ := hQ21
      have N21 := Fr.app N20 N21q
      refine Go.st (fun _ k => st21.trans k) ?_
      show Go _ _ _ _ _ _ _ T21 (mkF m 104 #[.val (.int p0), .val (.int p1), .val (.int (1 : Int32)), .val (.ref w_FAILS), .val (.ref w_HOLDS), .val (.ref w_HOLDS), .val (.int (0 : Int32)), .val (.int (1 : Int32))] [(.ref (val_2 w_HOLDS w_HOLDS w_FAILS w_EITHER (0 : Int32)))])
      rw [show (val_2 w_HOLDS w_HOLDS w_FAILS w_EITHER (0 : Int32)) = w_FAILS from by unfold val_2; rw [if_pos (by decide +kernel : (0 : Int32) = (0 : Int32))]]
      show Go _ _ _ _ _ _ _ T21 (mkF m 104 #[.val (.int p0), .val (.int p1), .val (.int (1 : Int32)), .val (.ref w_FAILS), .val (.ref w_HOLDS), .val (.ref w_HOLDS), .val (.int (0 : Int32)), .val (.int (1 : Int32))] [(.ref w_FAILS)])
      refine Go.st (fun _ k => XS.aloadN X21.here hx rfl (hb hby at_104) rfl rfl k) ?_
      show Go _ _ _ _ _ _ _ T21 (mkF m 105 #[.val (.int p0), .val (.int p1), .val (.int (1 : Int32)), .val (.ref w_FAILS), .val (.ref w_HOLDS), .val (.ref w_HOLDS), .val (.int (0 : Int32)), .val (.int (1 : Int32))] [(.ref w_FAILS), (.ref w_FAILS)])
      refine Go.st (fun _ k => Jvm.RoadKit.acmp (g := (mkF m 105 #[.val (.int p0), .val (.int p1), .val (.int (1 : Int32)), .val (.ref w_FAILS), .val (.ref w_HOLDS), .val (.ref w_HOLDS), .val (.int (0 : Int32)), .val (.int (1 : Int32))] [(.ref w_FAILS), (.ref w_FAILS)])) X21 hx rfl rfl rfl (pc0 := 105) (pc' := 108) (same := true) rfl (hb hby at_105) rfl (decide_eq_true rfl) (by decide) (by decide) k) ?_
      show Go _ _ _ _ _ _ _ T21 (mkF m 108 #[.val (.int p0), .val (.int p1), .val (.int (1 : Int32)), .val (.ref w_FAILS), .val (.ref w_HOLDS), .val (.ref w_HOLDS), .val (.int (0 : Int32)), .val (.int (1 : Int32))] [])
      refine Go.st (fun _ k => XS.iload X21.here hx rfl (hb hby at_108) rfl k) ?_
      show Go _ _ _ _ _ _ _ T21 (mkF m 110 #[.val (.int p0), .val (.int p1), .val (.int (1 : Int32)), .val (.ref w_FAILS), .val (.ref w_HOLDS), .val (.ref w_HOLDS), .val (.int (0 : Int32)), .val (.int (1 : Int32))] [(.int (1 : Int32))])
      refine Go.st (fun _ k => XS.ifNo X21.here hx rfl (hb hby at_110) rfl ((if0 _ _).trans (feq (by decide : ¬ ((1 : Int32) = (0 : Int32)))).1) k) ?_
      show Go _ _ _ _ _ _ _ T21 (mkF m 113 #[.val (.int p0), .val (.int p1), .val (.int (1 : Int32)), .val (.ref w_FAILS), .val (.ref w_HOLDS), .val (.ref w_HOLDS), .val (.int (0 : Int32)), .val (.int (1 : Int32))] [])
      refine Go.st (fun _ k => XS.iconst X21.here hx rfl (hb hby at_113) k) ?_
      show Go _ _ _ _ _ _ _ T21 (mkF m 114 #[.val (.int p0), .val (.int p1), .val (.int (1 : Int32)), .val (.ref w_FAILS), .val (.ref w_HOLDS), .val (.ref w_HOLDS), .val (.int (0 : Int32)), .val (.int (1 : Int32))] [(.int (1 : Int32))])
      refine Go.st (fun _ k => XS.goto X21.here hx rfl (pc0 := 114) (pc' := 118) rfl (hb hby at_114) (by decide) (by decide) k) ?_
      show Go _ _ _ _ _ _ _ T21 (mkF m 118 #[.val (.int p0), .val (.int p1), .val (.int (1 : Int32)), .val (.ref w_FAILS), .val (.ref w_HOLDS), .val (.ref w_HOLDS), .val (.int (0 : Int32)), .val (.int (1 : Int32))] [(.int (1 : Int32))])
      refine Go.ret X21 hlk (v := some (.int (1 : Int32))) (fun h => by rw [hret] at h; cases h) (fun fs hr => retN X21 hx (t := .boolean) hret (by simp) (hb hby at_118) hr) ?_ (by decide) (by decide)
      show Q0 Z p0 p1 w_HOLDS w_FAILS w_EITHER h0 n0 (some (.int (1 : Int32))) T21.heap _
      rw [e21]
      exact ⟨rfl, N21⟩
    · rw [hk17]
      show Go _ _ _ _ _ _ _ T16 (mkF m 51 #[.val (.int p0), .val (.int p1), .val (.int (1 : Int32)), .val (.ref w_FAILS), .val (.ref w_HOLDS), .val (.ref w_HOLDS), .unset, .unset] [(.int (1 : Int32))])
      refine Go.st (fun _ k => XS.ifNo X16.here hx rfl (hb hby at_51) rfl ((if0 _ _).trans (feq (by decide : ¬ ((1 : Int32) = (0 : Int32)))).1) k) ?_
      show Go _ _ _ _ _ _ _ T16 (mkF m 54 #[.val (.int p0), .val (.int p1), .val (.int (1 : Int32)), .val (.ref w_FAILS), .val (.ref w_HOLDS), .val (.ref w_HOLDS), .unset, .unset] [])
      refine Go.st (fun _ k => XS.iconst X16.here hx rfl (hb hby at_54) k) ?_
      show Go _ _ _ _ _ _ _ T16 (mkF m 55 #[.val (.int p0), .val (.int p1), .val (.int (1 : Int32)), .val (.ref w_FAILS), .val (.ref w_HOLDS), .val (.ref w_HOLDS), .unset, .unset] [(.int (1 : Int32))])
      refine Go.st (fun _ k => XS.goto X16.here hx rfl (pc0 := 55) (pc' := 59) rfl (hb hby at_55) (by decide) (by decide) k) ?_
      show Go _ _ _ _ _ _ _ T16 (mkF m 59 #[.val (.int p0), .val (.int p1), .val (.int (1 : Int32)), .val (.ref w_FAILS), .val (.ref w_HOLDS), .val (.ref w_HOLDS), .unset, .unset] [(.int (1 : Int32))])
      refine Go.st (fun _ k => XS.istore X16.here hx rfl (hb hby at_59) rfl (l' := #[.val (.int p0), .val (.int p1), .val (.int (1 : Int32)), .val (.ref w_FAILS), .val (.ref w_HOLDS), .val (.ref w_HOLDS), .val (.int (1 : Int32)), .unset]) rfl k) ?_
      show Go _ _ _ _ _ _ _ T16 (mkF m 61 #[.val (.int p0), .val (.int p1), .val (.int (1 : Int32)), .val (.ref w_FAILS), .val (.ref w_HOLDS), .val (.ref w_HOLDS), .val (.int (1 : Int32)), .unset] [])
      refine Go.st (fun _ k => XS.iload X16.here hx rfl (hb hby at_61) rfl k) ?_
      show Go _ _ _ _ _ _ _ T16 (mkF m 63 #[.val (.int p0), .val (.int p1), .val (.int (1 : Int32)), .val (.ref w_FAILS), .val (.ref w_HOLDS), .val (.ref w_HOLDS), .val (.int (1 : Int32)), .unset] [(.int (1 : Int32))])
      obtain ⟨_, _, ⟨T22, L22, k22, n22⟩, -, X22, ⟨Lc22, hQ22, l22, y22, z22⟩, st22⟩ := Jvm.LawKit.callS X16 hx (y := (⟨"com/example/grantd/grantd/policy/Condition$Truth", "of", "(Z)Lcom/example/grantd/grantd/policy/Condition$Truth;"⟩ : MethodName)) hown (mvT hZ (hw _ (List.mem_of_getElem? (i := 25) rfl))) (mvT hZ (hw _ (List.mem_of_getElem? (i := 26) rfl))) (mvT hZ (hw _ (List.mem_of_getElem? (i := 6) rfl))) (mvT hZ (hw _ (List.mem_of_getElem? (i := 27) rfl))) (by decide) (backOf (W := 0) (rm4 l Z a0 hw [] (1 : Int32) w_HOLDS w_FAILS h0 n0 Z0 S_HOLDS S_FAILS) hZ (hw _ (List.mem_of_getElem? (i := 27) rfl)) (hw _ (List.mem_of_getElem? (i := 6) rfl)) (by decide) (by decide)) (g := (mkF m 63 #[.val (.int p0), .val (.int p1), .val (.int (1 : Int32)), .val (.ref w_FAILS), .val (.ref w_HOLDS), .val (.ref w_HOLDS), .val (.int (1 : Int32)), .unset] [(.int (1 : Int32))])) rfl (by rw [hml]; rfl) (argsL := [(.int (1 : Int32))]) (rest := []) (lenOf pd_3 rfl) rfl (by show 2 * 0 + _ ≤ _; exact Nat.le_of_eq rfl) (hb hby at_63) (fun _ _ => ⟨rfl, e16, (by decide : 0 + 0 ≤ _), (by decide : 0 + 0 ≤ _)⟩)
      dsimp only [Pt.U, Pt.locs, Pt.cells, Pt.slots] at X22 l22 y22 z22 st22 hQ22
      subst l22 y22 z22
      obtain ⟨rfl, N22q, e22⟩ := hQ22
      have N22 := Fr.app N16 N22q
      refine Go.st st22 ?_
      show Go _ _ _ _ _ _ _ T22 (mkF m 66 #[.val (.int p0), .val (.int p1), .val (.int (1 : Int32)), .val (.ref w_FAILS), .val (.ref w_HOLDS), .val (.ref w_HOLDS), .val (.int (1 : Int32)), .unset] [(.ref (val_4 (1 : Int32) w_HOLDS w_FAILS))])
      rw [show (val_4 (1 : Int32) w_HOLDS w_FAILS) = w_HOLDS from by unfold val_4; rw [if_neg (by decide +kernel : ¬ ((1 : Int32) = (0 : Int32)))]]
      show Go _ _ _ _ _ _ _ T22 (mkF m 66 #[.val (.int p0), .val (.int p1), .val (.int (1 : Int32)), .val (.ref w_FAILS), .val (.ref w_HOLDS), .val (.ref w_HOLDS), .val (.int (1 : Int32)), .unset] [(.ref w_HOLDS)])
      obtain ⟨cq23, kq23, q23a, q23b, q23c⟩ := isOf hZ e22 E_HOLDS
      obtain ⟨_, _, ⟨T23, L23, k23, n23⟩, -, X23, ⟨Lc23, hQ23, l23, y23, z23⟩, st23⟩ := X22.virtualBack hx (y := (⟨"com/example/grantd/grantd/policy/Condition$Truth", "negated", "()Lcom/example/grantd/grantd/policy/Condition$Truth;"⟩ : MethodName)) (z := (⟨"com/example/grantd/grantd/policy/Condition$Truth", "negated", "()Lcom/example/grantd/grantd/policy/Condition$Truth;"⟩ : MethodName)) hown (mvT hZ (hw _ (List.mem_of_getElem? (i := 10) rfl))) (mvT hZ (hw _ (List.mem_of_getElem? (i := 11) rfl))) (notFace_of_selects (args := #[]) (mvT hZ (hw _ (List.mem_of_getElem? (i := 13) rfl)))) (mvT hZ (hw _ (List.mem_of_getElem? (i := 13) rfl))) (mvT hZ (hw _ (List.mem_of_getElem? (i := 12) rfl))) (by decide) (backOf (W := 0) (rm2 l Z a0 hw [] w_HOLDS w_HOLDS w_FAILS w_EITHER (0 : Int32) h0 n0 Z0 S_HOLDS S_FAILS S_EITHER E_HOLDS F_HOLDS_ordinal (Or.inl rfl)) hZ (hw _ (List.mem_of_getElem? (i := 14) rfl)) (hw _ (List.mem_of_getElem? (i := 6) rfl)) (by decide) (by decide)) q23a q23c (g := (mkF m 66 #[.val (.int p0), .val (.int p1), .val (.int (1 : Int32)), .val (.ref w_FAILS), .val (.ref w_HOLDS), .val (.ref w_HOLDS), .val (.int (1 : Int32)), .unset] [(.ref w_HOLDS)])) rfl (by rw [hml]; rfl) (Steps.refl _) (argsL := []) (rest := []) (lenOf pd_2 rfl) rfl (by show 2 * 0 + _ ≤ _; exact Nat.le_of_eq rfl) (hb hby at_66) (fun _ _ => ⟨rfl, e22, (by decide : 0 + 0 ≤ _), (by decide : 0 + 0 ≤ _)⟩)
      dsimp only [Pt.U, Pt.locs, Pt.cells, Pt.slots] at X23 l23 y23 z23 st23 hQ23
      subst l23 y23 z23
      obtain ⟨rfl, N23q, e23⟩ := hQ23
      have N23 := Fr.app N22 N23q
      refine Go.st (fun _ k => st23.trans k) ?_
      show Go _ _ _ _ _ _ _ T23 (mkF m 69 #[.val (.int p0), .val (.int p1), .val (.int (1 : Int32)), .val (.ref w_FAILS), .val (.ref w_HOLDS), .val (.ref w_HOLDS), .val (.int (1 : Int32)), .unset] [(.ref (val_2 w_HOLDS w_HOLDS w_FAILS w_EITHER (0 : Int32)))])
      rw [show (val_2 w_HOLDS w_HOLDS w_FAILS w_EITHER (0 : Int32)) = w_FAILS from by unfold val_2; rw [if_pos (by decide +kernel : (0 : Int32) = (0 : Int32))]]
      show Go _ _ _ _ _ _ _ T23 (mkF m 69 #[.val (.int p0), .val (.int p1), .val (.int (1 : Int32)), .val (.ref w_FAILS), .val (.ref w_HOLDS), .val (.ref w_HOLDS), .val (.int (1 : Int32)), .unset] [(.ref w_FAILS)])
      refine Go.st (fun _ k => XS.iload X23.here hx rfl (hb hby at_69) rfl k) ?_
      show Go _ _ _ _ _ _ _ T23 (mkF m 71 #[.val (.int p0), .val (.int p1), .val (.int (1 : Int32)), .val (.ref w_FAILS), .val (.ref w_HOLDS), .val (.ref w_HOLDS), .val (.int (1 : Int32)), .unset] [(.int (1 : Int32)), (.ref w_FAILS)])
      refine Go.st (fun _ k => XS.ifYes X23.here hx rfl (pc0 := 71) (pc' := 78) rfl (hb hby at_71) rfl ((if0 _ _).trans (feq (by decide : ¬ ((1 : Int32) = (0 : Int32)))).2) (by decide) (by decide) k) ?_
      show Go _ _ _ _ _ _ _ T23 (mkF m 78 #[.val (.int p0), .val (.int p1), .val (.int (1 : Int32)), .val (.ref w_FAILS), .val (.ref w_HOLDS), .val (.ref w_HOLDS), .val (.int (1 : Int32)), .unset] [(.ref w_FAILS)])
      refine Go.st (fun _ k => XS.iconst X23.here hx rfl (hb hby at_78) k) ?_
      show Go _ _ _ _ _ _ _ T23 (mkF m 79 #[.val (.int p0), .val (.int p1), .val (.int (1 : Int32)), .val (.ref w_FAILS), .val (.ref w_HOLDS), .val (.ref w_HOLDS), .val (.int (1 : Int32)), .unset] [(.int (0 : Int32)), (.ref w_FAILS)])
      obtain ⟨_, _, ⟨T24, L24, k24, n24⟩, -, X24, ⟨Lc24, hQ24, l24, y24, z24⟩, st24⟩ := Jvm.LawKit.callS X23 hx (y := (⟨"com/example/grantd/grantd/policy/Condition$Truth", "of", "(Z)Lcom/example/grantd/grantd/policy/Condition$Truth;"⟩ : MethodName)) hown (mvT hZ (hw _ (List.mem_of_getElem? (i := 25) rfl))) (mvT hZ (hw _ (List.mem_of_getElem? (i := 26) rfl))) (mvT hZ (hw _ (List.mem_of_getElem? (i := 6) rfl))) (mvT hZ (hw _ (List.mem_of_getElem? (i := 27) rfl))) (by decide) (backOf (W := 1) (rm4 l Z a0 hw [] (0 : Int32) w_HOLDS w_FAILS h0 n0 Z0 S_HOLDS S_FAILS) hZ (hw _ (List.mem_of_getElem? (i := 27) rfl)) (hw _ (List.mem_of_getElem? (i := 6) rfl)) (by decide) (by decide)) (g := (mkF m 79 #[.val (.int p0), .val (.int p1), .val (.int (1 : Int32)), .val (.ref w_FAILS), .val (.ref w_HOLDS), .val (.ref w_HOLDS), .val (.int (1 : Int32)), .unset] [(.int (0 : Int32)), (.ref w_FAILS)])) rfl (by rw [hml]; rfl) (argsL := [(.int (0 : Int32))]) (rest := [(.ref w_FAILS)]) (lenOf pd_3 rfl) rfl (by show 2 * 0 + _ ≤ _; exact Nat.le_of_eq rfl) (hb hby at_79) (fun _ _ => ⟨rfl, e23, (by decide : 0 + 0 ≤ _), (by decide : 0 + 0 ≤ _)⟩)
      dsimp only [Pt.U, Pt.locs, Pt.cells, Pt.slots] at X24 l24 y24 z24 st24 hQ24
      subst l24 y24 z24
      obtain ⟨rfl, N24q, e24⟩ := hQ24
      have N24 := Fr.app N23 N24q
      refine Go.st st24 ?_
      show Go _ _ _ _ _ _ _ T24 (mkF m 82 #[.val (.int p0), .val (.int p1), .val (.int (1 : Int32)), .val (.ref w_FAILS), .val (.ref w_HOLDS), .val (.ref w_HOLDS), .val (.int (1 : Int32)), .unset] [(.ref (val_4 (0 : Int32) w_HOLDS w_FAILS)), (.ref w_FAILS)])
      rw [show (val_4 (0 : Int32) w_HOLDS w_FAILS) = w_FAILS from by unfold val_4; rw [if_pos (by decide +kernel : (0 : Int32) = (0 : Int32))]]
      show Go _ _ _ _ _ _ _ T24 (mkF m 82 #[.val (.int p0), .val (.int p1), .val (.int (1 : Int32)), .val (.ref w_FAILS), .val (.ref w_HOLDS), .val (.ref w_HOLDS), .val (.int (1 : Int32)), .unset] [(.ref w_FAILS), (.ref w_FAILS)])
      refine Go.st (fun _ k => Jvm.RoadKit.acmp (g := (mkF m 82 #[.val (.int p0), .val (.int p1), .val (.int (1 : Int32)), .val (.ref w_FAILS), .val (.ref w_HOLDS), .val (.ref w_HOLDS), .val (.int (1 : Int32)), .unset] [(.ref w_FAILS), (.ref w_FAILS)])) X24 hx rfl rfl rfl (pc0 := 82) (pc' := 85) (same := true) rfl (hb hby at_82) rfl (decide_eq_true rfl) (by decide) (by decide) k) ?_
      show Go _ _ _ _ _ _ _ T24 (mkF m 85 #[.val (.int p0), .val (.int p1), .val (.int (1 : Int32)), .val (.ref w_FAILS), .val (.ref w_HOLDS), .val (.ref w_HOLDS), .val (.int (1 : Int32)), .unset] [])
      refine Go.st (fun _ k => XS.iconst X24.here hx rfl (hb hby at_85) k) ?_
      show Go _ _ _ _ _ _ _ T24 (mkF m 86 #[.val (.int p0), .val (.int p1), .val (.int (1 : Int32)), .val (.ref w_FAILS), .val (.ref w_HOLDS), .val (.ref w_HOLDS), .val (.int (1 : Int32)), .unset] [(.int (1 : Int32))])
      refine Go.st (fun _ k => XS.goto X24.here hx rfl (pc0 := 86) (pc' := 90) rfl (hb hby at_86) (by decide) (by decide) k) ?_
      show Go _ _ _ _ _ _ _ T24 (mkF m 90 #[.val (.int p0), .val (.int p1), .val (.int (1 : Int32)), .val (.ref w_FAILS), .val (.ref w_HOLDS), .val (.ref w_HOLDS), .val (.int (1 : Int32)), .unset] [(.int (1 : Int32))])
      refine Go.st (fun _ k => XS.istore X24.here hx rfl (hb hby at_90) rfl (l' := #[.val (.int p0), .val (.int p1), .val (.int (1 : Int32)), .val (.ref w_FAILS), .val (.ref w_HOLDS), .val (.ref w_HOLDS), .val (.int (1 : Int32)), .val (.int (1 : Int32))]) rfl k) ?_
      show Go _ _ _ _ _ _ _ T24 (mkF m 92 #[.val (.int p0), .val (.int p1), .val (.int (1 : Int32)), .val (.ref w_FAILS), .val (.ref w_HOLDS), .val (.ref w_HOLDS), .val (.int (1 : Int32)), .val (.int (1 : Int32))] [])
      refine Go.st (fun _ k => XS.aload X24.here hx rfl (hb hby at_92) rfl rfl k) ?_
      show Go _ _ _ _ _ _ _ T24 (mkF m 94 #[.val (.int p0), .val (.int p1), .val (.int (1 : Int32)), .val (.ref w_FAILS), .val (.ref w_HOLDS), .val (.ref w_HOLDS), .val (.int (1 : Int32)), .val (.int (1 : Int32))] [(.ref w_HOLDS)])
      refine Go.st (fun _ k => XS.aload X24.here hx rfl (hb hby at_94) rfl rfl k) ?_
      show Go _ _ _ _ _ _ _ T24 (mkF m 96 #[.val (.int p0), .val (.int p1), .val (.int (1 : Int32)), .val (.ref w_FAILS), .val (.ref w_HOLDS), .val (.ref w_HOLDS), .val (.int (1 : Int32)), .val (.int (1 : Int32))] [(.ref w_HOLDS), (.ref w_HOLDS)])
      refine Go.st (fun _ k => Jvm.RoadKit.acmp (g := (mkF m 96 #[.val (.int p0), .val (.int p1), .val (.int (1 : Int32)), .val (.ref w_FAILS), .val (.ref w_HOLDS), .val (.ref w_HOLDS), .val (.int (1 : Int32)), .val (.int (1 : Int32))] [(.ref w_HOLDS), (.ref w_HOLDS)])) X24 hx rfl rfl rfl (pc0 := 96) (pc' := 99) (same := true) rfl (hb hby at_96) rfl (decide_eq_true rfl) (by decide) (by decide) k) ?_
      show Go _ _ _ _ _ _ _ T24 (mkF m 99 #[.val (.int p0), .val (.int p1), .val (.int (1 : Int32)), .val (.ref w_FAILS), .val (.ref w_HOLDS), .val (.ref w_HOLDS), .val (.int (1 : Int32)), .val (.int (1 : Int32))] [])
      refine Go.st (fun _ k => XS.aload X24.here hx rfl (hb hby at_99) rfl rfl k) ?_
      show Go _ _ _ _ _ _ _ T24 (mkF m 101 #[.val (.int p0), .val (.int p1), .val (.int (1 : Int32)), .val (.ref w_FAILS), .val (.ref w_HOLDS), .val (.ref w_HOLDS), .val (.int (1 : Int32)), .val (.int (1 : Int32))] [(.ref w_HOLDS)])
      obtain ⟨cq25, kq25, q25a, q25b, q25c⟩ := isOf hZ e24 E_HOLDS
      obtain ⟨_, _, ⟨T25, L25, k25, n25⟩, -, X25, ⟨Lc25, hQ25, l25, y25, z25⟩, st25⟩ := X24.virtualBack hx (y := (⟨"com/example/grantd/grantd/policy/Condition$Truth", "negated", "()Lcom/example/grantd/grantd/policy/Condition$Truth;"⟩ : MethodName)) (z := (⟨"com/example/grantd/grantd/policy/Condition$Truth", "negated", "()Lcom/example/grantd/grantd/policy/Condition$Truth;"⟩ : MethodName)) hown (mvT hZ (hw _ (List.mem_of_getElem? (i := 10) rfl))) (mvT hZ (hw _ (List.mem_of_getElem? (i := 11) rfl))) (notFace_of_selects (args := #[]) (mvT hZ (hw _ (List.mem_of_getElem? (i := 13) rfl)))) (mvT hZ (hw _ (List.mem_of_getElem? (i := 13) rfl))) (mvT hZ (hw _ (List.mem_of_getElem? (i := 12) rfl))) (by decide) (backOf (W := 0) (rm2 l Z a0 hw [] w_HOLDS w_HOLDS w_FAILS w_EITHER (0 : Int32) h0 n0 Z0 S_HOLDS S_FAILS S_EITHER E_HOLDS F_HOLDS_ordinal (Or.inl rfl)) hZ (hw _ (List.mem_of_getElem? (i := 14) rfl)) (hw _ (List.mem_of_getElem? (i := 6) rfl)) (by decide) (by decide)) q25a q25c (g := (mkF m 101 #[.val (.int p0), .val (.int p1), .val (.int (1 : Int32)), .val (.ref w_FAILS), .val (.ref w_HOLDS), .val (.ref w_HOLDS), .val (.int (1 : Int32)), .val (.int (1 : Int32))] [(.ref w_HOLDS)])) rfl (by rw [hml]; rfl) (Steps.refl _) (argsL := []) (rest := []) (lenOf pd_2 rfl) rfl (by show 2 * 0 + _ ≤ _; exact Nat.le_of_eq rfl) (hb hby at_101) (fun _ _ => ⟨rfl, e24, (by decide : 0 + 0 ≤ _), (by decide : 0 + 0 ≤ _)⟩)
      dsimp only [Pt.U, Pt.locs, Pt.cells, Pt.slots] at X25 l25 y25 z25 st25 hQ25
      subst l25 y25 z25
      obtain ⟨rfl, N25q, e25⟩ := hQ25
      have N25 := Fr.app N24 N25q
      refine Go.st (fun _ k => st25.trans k) ?_
      show Go _ _ _ _ _ _ _ T25 (mkF m 104 #[.val (.int p0), .val (.int p1), .val (.int (1 : Int32)), .val (.ref w_FAILS), .val (.ref w_HOLDS), .val (.ref w_HOLDS), .val (.int (1 : Int32)), .val (.int (1 : Int32))] [(.ref (val_2 w_HOLDS w_HOLDS w_FAILS w_EITHER (0 : Int32)))])
      rw [show (val_2 w_HOLDS w_HOLDS w_FAILS w_EITHER (0 : Int32)) = w_FAILS from by unfold val_2; rw [if_pos (by decide +kernel : (0 : Int32) = (0 : Int32))]]
      show Go _ _ _ _ _ _ _ T25 (mkF m 104 #[.val (.int p0), .val (.int p1), .val (.int (1 : Int32)), .val (.ref w_FAILS), .val (.ref w_HOLDS), .val (.ref w_HOLDS), .val (.int (1 : Int32)), .val (.int (1 : Int32))] [(.ref w_FAILS)])
      refine Go.st (fun _ k => XS.aloadN X25.here hx rfl (hb hby at_104) rfl rfl k) ?_
      show Go _ _ _ _ _ _ _ T25 (mkF m 105 #[.val (.int p0), .val (.int p1), .val (.int (1 : Int32)), .val (.ref w_FAILS), .val (.ref w_HOLDS), .val (.ref w_HOLDS), .val (.int (1 : Int32)), .val (.int (1 : Int32))] [(.ref w_FAILS), (.ref w_FAILS)])
      refine Go.st (fun _ k => Jvm.RoadKit.acmp (g := (mkF m 105 #[.val (.int p0), .val (.int p1), .val (.int (1 : Int32)), .val (.ref w_FAILS), .val (.ref w_HOLDS), .val (.ref w_HOLDS), .val (.int (1 : Int32)), .val (.int (1 : Int32))] [(.ref w_FAILS), (.ref w_FAILS)])) X25 hx rfl rfl rfl (pc0 := 105) (pc' := 108) (same := true) rfl (hb hby at_105) rfl (decide_eq_true rfl) (by decide) (by decide) k) ?_
      show Go _ _ _ _ _ _ _ T25 (mkF m 108 #[.val (.int p0), .val (.int p1), .val (.int (1 : Int32)), .val (.ref w_FAILS), .val (.ref w_HOLDS), .val (.ref w_HOLDS), .val (.int (1 : Int32)), .val (.int (1 : Int32))] [])
      refine Go.st (fun _ k => XS.iload X25.here hx rfl (hb hby at_108) rfl k) ?_
      show Go _ _ _ _ _ _ _ T25 (mkF m 110 #[.val (.int p0), .val (.int p1), .val (.int (1 : Int32)), .val (.ref w_FAILS), .val (.ref w_HOLDS), .val (.ref w_HOLDS), .val (.int (1 : Int32)), .val (.int (1 : Int32))] [(.int (1 : Int32))])
      refine Go.st (fun _ k => XS.ifNo X25.here hx rfl (hb hby at_110) rfl ((if0 _ _).trans (feq (by decide : ¬ ((1 : Int32) = (0 : Int32)))).1) k) ?_
      show Go _ _ _ _ _ _ _ T25 (mkF m 113 #[.val (.int p0), .val (.int p1), .val (.int (1 : Int32)), .val (.ref w_FAILS), .val (.ref w_HOLDS), .val (.ref w_HOLDS), .val (.int (1 : Int32)), .val (.int (1 : Int32))] [])
      refine Go.st (fun _ k => XS.iconst X25.here hx rfl (hb hby at_113) k) ?_
      show Go _ _ _ _ _ _ _ T25 (mkF m 114 #[.val (.int p0), .val (.int p1), .val (.int (1 : Int32)), .val (.ref w_FAILS), .val (.ref w_HOLDS), .val (.ref w_HOLDS), .val (.int (1 : Int32)), .val (.int (1 : Int32))] [(.int (1 : Int32))])
      refine Go.st (fun _ k => XS.goto X25.here hx rfl (pc0 := 114) (pc' := 118) rfl (hb hby at_114) (by decide) (by decide) k) ?_
      show Go _ _ _ _ _ _ _ T25 (mkF m 118 #[.val (.int p0), .val (.int p1), .val (.int (1 : Int32)), .val (.ref w_FAILS), .val (.ref w_HOLDS), .val (.ref w_HOLDS), .val (.int (1 : Int32)), .val (.int (1 : Int32))] [(.int (1 : Int32))])
      refine Go.ret X25 hlk (v := some (.int (1 : Int32))) (fun h => by rw [hret] at h; cases h) (fun fs hr => retN X25 hx (t := .boolean) hret (by simp) (hb hby at_118) hr) ?_ (by decide) (by decide)
      show Q0 Z p0 p1 w_HOLDS w_FAILS w_EITHER h0 n0 (some (.int (1 : Int32))) T25.heap _
      rw [e25]
      exact ⟨rfl, N25⟩
  · rw [hk1]
    show Go _ _ _ _ _ _ _ s₁ (mkF m 6 #[.val (.int p0), .val (.int p1), .unset, .unset, .unset, .unset, .unset, .unset] [(.int (2 : Int32))])
    refine Go.st (fun _ k => XS.istoreN X0.here hx rfl (hb hby at_6) rfl (l' := #[.val (.int p0), .val (.int p1), .val (.int (2 : Int32)), .unset, .unset, .unset, .unset, .unset]) rfl k) ?_
    show Go _ _ _ _ _ _ _ s₁ (mkF m 7 #[.val (.int p0), .val (.int p1), .val (.int (2 : Int32)), .unset, .unset, .unset, .unset, .unset] [])
    refine Go.st (fun _ k => XS.iloadN X0.here hx rfl (hb hby at_7) rfl k) ?_
    show Go _ _ _ _ _ _ _ s₁ (mkF m 8 #[.val (.int p0), .val (.int p1), .val (.int (2 : Int32)), .unset, .unset, .unset, .unset, .unset] [(.int (2 : Int32))])
    obtain ⟨_, _, ⟨T26, L26, k26, n26⟩, -, X26, ⟨Lc26, hQ26, l26, y26, z26⟩, st26⟩ := Jvm.LawKit.callS X0 hx (y := (⟨"com/example/grantd/grantd/policy/TruthNegatedPinLaw", "pick", "(I)Lcom/example/grantd/grantd/policy/Condition$Truth;"⟩ : MethodName)) hown (mvT hZ (hw _ (List.mem_of_getElem? (i := 1) rfl))) (mvT hZ (hw _ (List.mem_of_getElem? (i := 2) rfl))) (mvT hZ (hw _ (List.mem_of_getElem? (i := 3) rfl))) (mvT hZ (hw _ (List.mem_of_getElem? (i := 4) rfl))) (by decide) (backOf (W := 0) (rm1 l Z a0 hw [] (2 : Int32) w_HOLDS w_FAILS w_EITHER h0 n0 Z0 S_HOLDS S_FAILS S_EITHER) hZ (hw _ (List.mem_of_getElem? (i := 4) rfl)) (hw _ (List.mem_of_getElem? (i := 3) rfl)) (by decide) (by decide)) (g := (mkF m 8 #[.val (.int p0), .val (.int p1), .val (.int (2 : Int32)), .unset, .unset, .unset, .unset, .unset] [(.int (2 : Int32))])) rfl (by rw [hml]; rfl) (argsL := [(.int (2 : Int32))]) (rest := []) (lenOf pd_1 rfl) rfl (by show 2 * 0 + _ ≤ _; exact Nat.le_of_eq rfl) (hb hby at_8) (fun _ _ => ⟨rfl, e0, (by decide : 0 + 0 ≤ _), (by decide : 0 + 0 ≤ _)⟩)
    dsimp only [Pt.U, Pt.locs, Pt.cells, Pt.slots] at X26 l26 y26 z26 st26 hQ26
    subst l26 y26 z26
    obtain ⟨rfl, N26q, e26⟩ := hQ26
    have N26 := Fr.app N0 N26q
    refine Go.st st26 ?_
    show Go _ _ _ _ _ _ _ T26 (mkF m 11 #[.val (.int p0), .val (.int p1), .val (.int (2 : Int32)), .unset, .unset, .unset, .unset, .unset] [(.ref (val_1 (2 : Int32) w_HOLDS w_FAILS w_EITHER))])
    rw [show (val_1 (2 : Int32) w_HOLDS w_FAILS w_EITHER) = w_EITHER from by unfold val_1; rw [if_neg (by decide +kernel : ¬ ((2 : Int32) = (0 : Int32))), if_neg (by decide +kernel : ¬ ((2 : Int32) = (1 : Int32)))]]
    show Go _ _ _ _ _ _ _ T26 (mkF m 11 #[.val (.int p0), .val (.int p1), .val (.int (2 : Int32)), .unset, .unset, .unset, .unset, .unset] [(.ref w_EITHER)])
    refine Go.st (fun _ k => XS.astoreN X26.here hx rfl (hb hby at_11) rfl rfl (l' := #[.val (.int p0), .val (.int p1), .val (.int (2 : Int32)), .val (.ref w_EITHER), .unset, .unset, .unset, .unset]) rfl k) ?_
    show Go _ _ _ _ _ _ _ T26 (mkF m 12 #[.val (.int p0), .val (.int p1), .val (.int (2 : Int32)), .val (.ref w_EITHER), .unset, .unset, .unset, .unset] [])
    refine Go.st (fun _ k => XS.iloadN X26.here hx rfl (hb hby at_12) rfl k) ?_
    show Go _ _ _ _ _ _ _ T26 (mkF m 13 #[.val (.int p0), .val (.int p1), .val (.int (2 : Int32)), .val (.ref w_EITHER), .unset, .unset, .unset, .unset] [(.int (2 : Int32))])
    refine Go.st (fun _ k => XS.ifYes X26.here hx rfl (pc0 := 13) (pc' := 24) rfl (hb hby at_13) rfl ((if0 _ _).trans (feq (by decide : ¬ ((2 : Int32) = (0 : Int32)))).2) (by decide) (by decide) k) ?_
    show Go _ _ _ _ _ _ _ T26 (mkF m 24 #[.val (.int p0), .val (.int p1), .val (.int (2 : Int32)), .val (.ref w_EITHER), .unset, .unset, .unset, .unset] [])
    refine Go.st (fun _ k => XS.iloadN X26.here hx rfl (hb hby at_24) rfl k) ?_
    show Go _ _ _ _ _ _ _ T26 (mkF m 25 #[.val (.int p0), .val (.int p1), .val (.int (2 : Int32)), .val (.ref w_EITHER), .unset, .unset, .unset, .unset] [(.int (2 : Int32))])
    refine Go.st (fun _ k => XS.iconst X26.here hx rfl (hb hby at_25) k) ?_
    show Go _ _ _ _ _ _ _ T26 (mkF m 26 #[.val (.int p0), .val (.int p1), .val (.int (2 : Int32)), .val (.ref w_EITHER), .unset, .unset, .unset, .unset] [(.int (1 : Int32)), (.int (2 : Int32))])
    refine Go.st (fun _ k => XS.icmpYes X26.here hx rfl (pc0 := 26) (pc' := 37) rfl (hb hby at_26) rfl (feq (by decide : ¬ ((2 : Int32) = (1 : Int32)))).2 (by decide) (by decide) k) ?_
    show Go _ _ _ _ _ _ _ T26 (mkF m 37 #[.val (.int p0), .val (.int p1), .val (.int (2 : Int32)), .val (.ref w_EITHER), .unset, .unset, .unset, .unset] [])
    obtain ⟨T27, X27, e27, st27⟩ := getS2 X26 hx hZ hown (host := "") (Or.inl (hw _ (List.mem_of_getElem? (i := 29) rfl))) Via.refl e26 S_EITHER (g := (mkF m 37 #[.val (.int p0), .val (.int p1), .val (.int (2 : Int32)), .val (.ref w_EITHER), .unset, .unset, .unset, .unset] [])) rfl (hb hby at_37)
    refine Go.st st27 ?_
    show Go _ _ _ _ _ _ _ T27 (mkF m 40 #[.val (.int p0), .val (.int p1), .val (.int (2 : Int32)), .val (.ref w_EITHER), .unset, .unset, .unset, .unset] [(.ref w_EITHER)])
    refine Go.st (fun _ k => XS.astore X27.here hx rfl (hb hby at_40) rfl rfl (l' := #[.val (.int p0), .val (.int p1), .val (.int (2 : Int32)), .val (.ref w_EITHER), .val (.ref w_EITHER), .unset, .unset, .unset]) rfl k) ?_
    show Go _ _ _ _ _ _ _ T27 (mkF m 42 #[.val (.int p0), .val (.int p1), .val (.int (2 : Int32)), .val (.ref w_EITHER), .val (.ref w_EITHER), .unset, .unset, .unset] [])
    refine Go.st (fun _ k => XS.aloadN X27.here hx rfl (hb hby at_42) rfl rfl k) ?_
    show Go _ _ _ _ _ _ _ T27 (mkF m 43 #[.val (.int p0), .val (.int p1), .val (.int (2 : Int32)), .val (.ref w_EITHER), .val (.ref w_EITHER), .unset, .unset, .unset] [(.ref w_EITHER)])
    obtain ⟨cq28, kq28, q28a, q28b, q28c⟩ := isOf hZ e27 E_EITHER
    obtain ⟨_, _, ⟨T28, L28, k28, n28⟩, -, X28, ⟨Lc28, hQ28, l28, y28, z28⟩, st28⟩ := X27.virtualBack hx (y := (⟨"com/example/grantd/grantd/policy/Condition$Truth", "negated", "()Lcom/example/grantd/grantd/policy/Condition$Truth;"⟩ : MethodName)) (z := (⟨"com/example/grantd/grantd/policy/Condition$Truth", "negated", "()Lcom/example/grantd/grantd/policy/Condition$Truth;"⟩ : MethodName)) hown (mvT hZ (hw _ (List.mem_of_getElem? (i := 10) rfl))) (mvT hZ (hw _ (List.mem_of_getElem? (i := 11) rfl))) (notFace_of_selects (args := #[]) (mvT hZ (hw _ (List.mem_of_getElem? (i := 13) rfl)))) (mvT hZ (hw _ (List.mem_of_getElem? (i := 13) rfl))) (mvT hZ (hw _ (List.mem_of_getElem? (i := 12) rfl))) (by decide) (backOf (W := 0) (rm2 l Z a0 hw [] w_EITHER w_HOLDS w_FAILS w_EITHER (2 : Int32) h0 n0 Z0 S_HOLDS S_FAILS S_EITHER E_EITHER F_EITHER_ordinal (Or.inr (Or.inr (rfl)))) hZ (hw _ (List.mem_of_getElem? (i := 14) rfl)) (hw _ (List.mem_of_getElem? (i := 6) rfl)) (by decide) (by decide)) q28a q28c (g := (mkF m 43 #[.val (.int p0), .val (.int p1), .val (.int (2 : Int32)), .val (.ref w_EITHER), .val (.ref w_EITHER), .unset, .unset, .unset] [(.ref w_EITHER)])) rfl (by rw [hml]; rfl) (Steps.refl _) (argsL := []) (rest := []) (lenOf pd_2 rfl) rfl (by show 2 * 0 + _ ≤ _; exact Nat.le_of_eq rfl) (hb hby at_43) (fun _ _ => ⟨rfl, e27, (by decide : 0 + 0 ≤ _), (by decide : 0 + 0 ≤ _)⟩)
    dsimp only [Pt.U, Pt.locs, Pt.cells, Pt.slots] at X28 l28 y28 z28 st28 hQ28
    subst l28 y28 z28
    obtain ⟨rfl, N28q, e28⟩ := hQ28
    have N28 := Fr.app N26 N28q
    refine Go.st (fun _ k => st28.trans k) ?_
    show Go _ _ _ _ _ _ _ T28 (mkF m 46 #[.val (.int p0), .val (.int p1), .val (.int (2 : Int32)), .val (.ref w_EITHER), .val (.ref w_EITHER), .unset, .unset, .unset] [(.ref (val_2 w_EITHER w_HOLDS w_FAILS w_EITHER (2 : Int32)))])
    rw [show (val_2 w_EITHER w_HOLDS w_FAILS w_EITHER (2 : Int32)) = w_EITHER from by unfold val_2; rw [if_neg (by decide +kernel : ¬ ((2 : Int32) = (0 : Int32))), if_neg (by decide +kernel : ¬ ((2 : Int32) = (1 : Int32)))]]
    show Go _ _ _ _ _ _ _ T28 (mkF m 46 #[.val (.int p0), .val (.int p1), .val (.int (2 : Int32)), .val (.ref w_EITHER), .val (.ref w_EITHER), .unset, .unset, .unset] [(.ref w_EITHER)])
    refine Go.st (fun _ k => XS.astore X28.here hx rfl (hb hby at_46) rfl rfl (l' := #[.val (.int p0), .val (.int p1), .val (.int (2 : Int32)), .val (.ref w_EITHER), .val (.ref w_EITHER), .val (.ref w_EITHER), .unset, .unset]) rfl k) ?_
    show Go _ _ _ _ _ _ _ T28 (mkF m 48 #[.val (.int p0), .val (.int p1), .val (.int (2 : Int32)), .val (.ref w_EITHER), .val (.ref w_EITHER), .val (.ref w_EITHER), .unset, .unset] [])
    refine Go.st (fun _ k => XS.iloadN X28.here hx rfl (hb hby at_48) rfl k) ?_
    show Go _ _ _ _ _ _ _ T28 (mkF m 49 #[.val (.int p0), .val (.int p1), .val (.int (2 : Int32)), .val (.ref w_EITHER), .val (.ref w_EITHER), .val (.ref w_EITHER), .unset, .unset] [(.int p1)])
    refine Go.st (fun _ k => XS.iconst X28.here hx rfl (hb hby at_49) k) ?_
    show Go _ _ _ _ _ _ _ T28 (mkF m 50 #[.val (.int p0), .val (.int p1), .val (.int (2 : Int32)), .val (.ref w_EITHER), .val (.ref w_EITHER), .val (.ref w_EITHER), .unset, .unset] [(.int (1 : Int32)), (.int p1)])
    refine Go.st (fun _ k => XS.iand X28.here hx rfl (hb hby at_50) rfl k) ?_
    show Go _ _ _ _ _ _ _ T28 (mkF m 51 #[.val (.int p0), .val (.int p1), .val (.int (2 : Int32)), .val (.ref w_EITHER), .val (.ref w_EITHER), .val (.ref w_EITHER), .unset, .unset] [(.int (p1 &&& (1 : Int32)))])
    rcases and_one p1 with hk29 | hk29
    · rw [hk29]
      show Go _ _ _ _ _ _ _ T28 (mkF m 51 #[.val (.int p0), .val (.int p1), .val (.int (2 : Int32)), .val (.ref w_EITHER), .val (.ref w_EITHER), .val (.ref w_EITHER), .unset, .unset] [(.int (0 : Int32))])
      refine Go.st (fun _ k => XS.ifYes X28.here hx rfl (pc0 := 51) (pc' := 58) rfl (hb hby at_51) rfl ((if0 _ _).trans (teq (by decide : (0 : Int32) = (0 : Int32))).1) (by decide) (by decide) k) ?_
      show Go _ _ _ _ _ _ _ T28 (mkF m 58 #[.val (.int p0), .val (.int p1), .val (.int (2 : Int32)), .val (.ref w_EITHER), .val (.ref w_EITHER), .val (.ref w_EITHER), .unset, .unset] [])
      refine Go.st (fun _ k => XS.iconst X28.here hx rfl (hb hby at_58) k) ?_
      show Go _ _ _ _ _ _ _ T28 (mkF m 59 #[.val (.int p0), .val (.int p1), .val (.int (2 : Int32)), .val (.ref w_EITHER), .val (.ref w_EITHER), .val (.ref w_EITHER), .unset, .unset] [(.int (0 : Int32))])
      refine Go.st (fun _ k => XS.istore X28.here hx rfl (hb hby at_59) rfl (l' := #[.val (.int p0), .val (.int p1), .val (.int (2 : Int32)), .val (.ref w_EITHER), .val (.ref w_EITHER), .val (.ref w_EITHER), .val (.int (0 : Int32)), .unset]) rfl k) ?_
      show Go _ _ _ _ _ _ _ T28 (mkF m 61 #[.val (.int p0), .val (.int p1), .val (.int (2 : Int32)), .val (.ref w_EITHER), .val (.ref w_EITHER), .val (.ref w_EITHER), .val (.int (0 : Int32)), .unset] [])
      refine Go.st (fun _ k => XS.iload X28.here hx rfl (hb hby at_61) rfl k) ?_
      show Go _ _ _ _ _ _ _ T28 (mkF m 63 #[.val (.int p0), .val (.int p1), .val (.int (2 : Int32)), .val (.ref w_EITHER), .val (.ref w_EITHER), .val (.ref w_EITHER), .val (.int (0 : Int32)), .unset] [(.int (0 : Int32))])
      obtain ⟨_, _, ⟨T30, L30, k30, n30⟩, -, X30, ⟨Lc30, hQ30, l30, y30, z30⟩, st30⟩ := Jvm.LawKit.callS X28 hx (y := (⟨"com/example/grantd/grantd/policy/Condition$Truth", "of", "(Z)Lcom/example/grantd/grantd/policy/Condition$Truth;"⟩ : MethodName)) hown (mvT hZ (hw _ (List.mem_of_getElem? (i := 25) rfl))) (mvT hZ (hw _ (List.mem_of_getElem? (i := 26) rfl))) (mvT hZ (hw _ (List.mem_of_getElem? (i := 6) rfl))) (mvT hZ (hw _ (List.mem_of_getElem? (i := 27) rfl))) (by decide) (backOf (W := 0) (rm4 l Z a0 hw [] (0 : Int32) w_HOLDS w_FAILS h0 n0 Z0 S_HOLDS S_FAILS) hZ (hw _ (List.mem_of_getElem? (i := 27) rfl)) (hw _ (List.mem_of_getElem? (i := 6) rfl)) (by decide) (by decide)) (g := (mkF m 63 #[.val (.int p0), .val (.int p1), .val (.int (2 : Int32)), .val (.ref w_EITHER), .val (.ref w_EITHER), .val (.ref w_EITHER), .val (.int (0 : Int32)), .unset] [(.int (0 : Int32))])) rfl (by rw [hml]; rfl) (argsL := [(.int (0 : Int32))]) (rest := []) (lenOf pd_3 rfl) rfl (by show 2 * 0 + _ ≤ _; exact Nat.le_of_eq rfl) (hb hby at_63) (fun _ _ => ⟨rfl, e28, (by decide : 0 + 0 ≤ _), (by decide : 0 + 0 ≤ _)⟩)
      dsimp only [Pt.U, Pt.locs, Pt.cells, Pt.slots] at X30 l30 y30 z30 st30 hQ30
      subst l30 y30 z30
      obtain ⟨rfl, N30q, e30⟩ := hQ30
      have N30 := Fr.app N28 N30q
      refine Go.st st30 ?_
      show Go _ _ _ _ _ _ _ T30 (mkF m 66 #[.val (.int p0), .val (.int p1), .val (.int (2 : Int32)), .val (.ref w_EITHER), .val (.ref w_EITHER), .val (.ref w_EITHER), .val (.int (0 : Int32)), .unset] [(.ref (val_4 (0 : Int32) w_HOLDS w_FAILS))])
      rw [show (val_4 (0 : Int32) w_HOLDS w_FAILS) = w_FAILS from by unfold val_4; rw [if_pos (by decide +kernel : (0 : Int32) = (0 : Int32))]]
      show Go _ _ _ _ _ _ _ T30 (mkF m 66 #[.val (.int p0), .val (.int p1), .val (.int (2 : Int32)), .val (.ref w_EITHER), .val (.ref w_EITHER), .val (.ref w_EITHER), .val (.int (0 : Int32)), .unset] [(.ref w_FAILS)])
      obtain ⟨cq31, kq31, q31a, q31b, q31c⟩ := isOf hZ e30 E_FAILS
      obtain ⟨_, _, ⟨T31, L31, k31, n31⟩, -, X31, ⟨Lc31, hQ31, l31, y31, z31⟩, st31⟩ := X30.virtualBack hx (y := (⟨"com/example/grantd/grantd/policy/Condition$Truth", "negated", "()Lcom/example/grantd/grantd/policy/Condition$Truth;"⟩ : MethodName)) (z := (⟨"com/example/grantd/grantd/policy/Condition$Truth", "negated", "()Lcom/example/grantd/grantd/policy/Condition$Truth;"⟩ : MethodName)) hown (mvT hZ (hw _ (List.mem_of_getElem? (i := 10) rfl))) (mvT hZ (hw _ (List.mem_of_getElem? (i := 11) rfl))) (notFace_of_selects (args := #[]) (mvT hZ (hw _ (List.mem_of_getElem? (i := 13) rfl)))) (mvT hZ (hw _ (List.mem_of_getElem? (i := 13) rfl))) (mvT hZ (hw _ (List.mem_of_getElem? (i := 12) rfl))) (by decide) (backOf (W := 0) (rm2 l Z a0 hw [] w_FAILS w_HOLDS w_FAILS w_EITHER (1 : Int32) h0 n0 Z0 S_HOLDS S_FAILS S_EITHER E_FAILS F_FAILS_ordinal (Or.inr (Or.inl rfl))) hZ (hw _ (List.mem_of_getElem? (i := 14) rfl)) (hw _ (List.mem_of_getElem? (i := 6) rfl)) (by decide) (by decide)) q31a q31c (g := (mkF m 66 #[.val (.int p0), .val (.int p1), .val (.int (2 : Int32)), .val (.ref w_EITHER), .val (.ref w_EITHER), .val (.ref w_EITHER), .val (.int (0 : Int32)), .unset] [(.ref w_FAILS)])) rfl (by rw [hml]; rfl) (Steps.refl _) (argsL := []) (rest := []) (lenOf pd_2 rfl) rfl (by show 2 * 0 + _ ≤ _; exact Nat.le_of_eq rfl) (hb hby at_66) (fun _ _ => ⟨rfl, e30, (by decide : 0 + 0 ≤ _), (by decide : 0 + 0 ≤ _)⟩)
      dsimp only [Pt.U, Pt.locs, Pt.cells, Pt.slots] at X31 l31 y31 z31 st31 hQ31
      subst l31 y31 z31
      obtain ⟨rfl, N31q, e31⟩ := hQ31
      have N31 := Fr.app N30 N31q
      refine Go.st (fun _ k => st31.trans k) ?_
      show Go _ _ _ _ _ _ _ T31 (mkF m 69 #[.val (.int p0), .val (.int p1), .val (.int (2 : Int32)), .val (.ref w_EITHER), .val (.ref w_EITHER), .val (.ref w_EITHER), .val (.int (0 : Int32)), .unset] [(.ref (val_2 w_FAILS w_HOLDS w_FAILS w_EITHER (1 : Int32)))])
      rw [show (val_2 w_FAILS w_HOLDS w_FAILS w_EITHER (1 : Int32)) = w_HOLDS from by unfold val_2; rw [if_neg (by decide +kernel : ¬ ((1 : Int32) = (0 : Int32))), if_pos (by decide +kernel : (1 : Int32) = (1 : Int32))]]
      show Go _ _ _ _ _ _ _ T31 (mkF m 69 #[.val (.int p0), .val (.int p1), .val (.int (2 : Int32)), .val (.ref w_EITHER), .val (.ref w_EITHER), .val (.ref w_EITHER), .val (.int (0 : Int32)), .unset] [(.ref w_HOLDS)])
      refine Go.st (fun _ k => XS.iload X31.here hx rfl (hb hby at_69) rfl k) ?_
      show Go _ _ _ _ _ _ _ T31 (mkF m 71 #[.val (.int p0), .val (.int p1), .val (.int (2 : Int32)), .val (.ref w_EITHER), .val (.ref w_EITHER), .val (.ref w_EITHER), .val (.int (0 : Int32)), .unset] [(.int (0 : Int32)), (.ref w_HOLDS)])
      refine Go.st (fun _ k => XS.ifNo X31.here hx rfl (hb hby at_71) rfl ((if0 _ _).trans (teq (by decide : (0 : Int32) = (0 : Int32))).2) k) ?_
      show Go _ _ _ _ _ _ _ T31 (mkF m 74 #[.val (.int p0), .val (.int p1), .val (.int (2 : Int32)), .val (.ref w_EITHER), .val (.ref w_EITHER), .val (.ref w_EITHER), .val (.int (0 : Int32)), .unset] [(.ref w_HOLDS)])
      refine Go.st (fun _ k => XS.iconst X31.here hx rfl (hb hby at_74) k) ?_
      show Go _ _ _ _ _ _ _ T31 (mkF m 75 #[.val (.int p0), .val (.int p1), .val (.int (2 : Int32)), .val (.ref w_EITHER), .val (.ref w_EITHER), .val (.ref w_EITHER), .val (.int (0 : Int32)), .unset] [(.int (1 : Int32)), (.ref w_HOLDS)])
      refine Go.st (fun _ k => XS.goto X31.here hx rfl (pc0 := 75) (pc' := 79) rfl (hb hby at_75) (by decide) (by decide) k) ?_
      show Go _ _ _ _ _ _ _ T31 (mkF m 79 #[.val (.int p0), .val (.int p1), .val (.int (2 : Int32)), .val (.ref w_EITHER), .val (.ref w_EITHER), .val (.ref w_EITHER), .val (.int (0 : Int32)), .unset] [(.int (1 : Int32)), (.ref w_HOLDS)])
      obtain ⟨_, _, ⟨T32, L32, k32, n32⟩, -, X32, ⟨Lc32, hQ32, l32, y32, z32⟩, st32⟩ := Jvm.LawKit.callS X31 hx (y := (⟨"com/example/grantd/grantd/policy/Condition$Truth", "of", "(Z)Lcom/example/grantd/grantd/policy/Condition$Truth;"⟩ : MethodName)) hown (mvT hZ (hw _ (List.mem_of_getElem? (i := 25) rfl))) (mvT hZ (hw _ (List.mem_of_getElem? (i := 26) rfl))) (mvT hZ (hw _ (List.mem_of_getElem? (i := 6) rfl))) (mvT hZ (hw _ (List.mem_of_getElem? (i := 27) rfl))) (by decide) (backOf (W := 1) (rm4 l Z a0 hw [] (1 : Int32) w_HOLDS w_FAILS h0 n0 Z0 S_HOLDS S_FAILS) hZ (hw _ (List.mem_of_getElem? (i := 27) rfl)) (hw _ (List.mem_of_getElem? (i := 6) rfl)) (by decide) (by decide)) (g := (mkF m 79 #[.val (.int p0), .val (.int p1), .val (.int (2 : Int32)), .val (.ref w_EITHER), .val (.ref w_EITHER), .val (.ref w_EITHER), .val (.int (0 : Int32)), .unset] [(.int (1 : Int32)), (.ref w_HOLDS)])) rfl (by rw [hml]; rfl) (argsL := [(.int (1 : Int32))]) (rest := [(.ref w_HOLDS)]) (lenOf pd_3 rfl) rfl (by show 2 * 0 + _ ≤ _; exact Nat.le_of_eq rfl) (hb hby at_79) (fun _ _ => ⟨rfl, e31, (by decide : 0 + 0 ≤ _), (by decide : 0 + 0 ≤ _)⟩)
      dsimp only [Pt.U, Pt.locs, Pt.cells, Pt.slots] at X32 l32 y32 z32 st32 hQ32
      subst l32 y32 z32
      obtain ⟨rfl, N32q, e32⟩ := hQ32
      have N32 := Fr.app N31 N32q
      refine Go.st st32 ?_
      show Go _ _ _ _ _ _ _ T32 (mkF m 82 #[.val (.int p0), .val (.int p1), .val (.int (2 : Int32)), .val (.ref w_EITHER), .val (.ref w_EITHER), .val (.ref w_EITHER), .val (.int (0 : Int32)), .unset] [(.ref (val_4 (1 : Int32) w_HOLDS w_FAILS)), (.ref w_HOLDS)])
      rw [show (val_4 (1 : Int32) w_HOLDS w_FAILS) = w_HOLDS from by unfold val_4; rw [if_neg (by decide +kernel : ¬ ((1 : Int32) = (0 : Int32)))]]
      show Go _ _ _ _ _ _ _ T32 (mkF m 82 #[.val (.int p0), .val (.int p1), .val (.int (2 : Int32)), .val (.ref w_EITHER), .val (.ref w_EITHER), .val (.ref w_EITHER), .val (.int (0 : Int32)), .unset] [(.ref w_HOLDS), (.ref w_HOLDS)])
      refine Go.st (fun _ k => Jvm.RoadKit.acmp (g := (mkF m 82 #[.val (.int p0), .val (.int p1), .val (.int (2 : Int32)), .val (.ref w_EITHER), .val (.ref w_EITHER), .val (.ref w_EITHER), .val (.int (0 : Int32)), .unset] [(.ref w_HOLDS), (.ref w_HOLDS)])) X32 hx rfl rfl rfl (pc0 := 82) (pc' := 85) (same := true) rfl (hb hby at_82) rfl (decide_eq_true rfl) (by decide) (by decide) k) ?_
      show Go _ _ _ _ _ _ _ T32 (mkF m 85 #[.val (.int p0), .val (.int p1), .val (.int (2 : Int32)), .val (.ref w_EITHER), .val (.ref w_EITHER), .val (.ref w_EITHER), .val (.int (0 : Int32)), .unset] [])
      refine Go.st (fun _ k => XS.iconst X32.here hx rfl (hb hby at_85) k) ?_
      show Go _ _ _ _ _ _ _ T32 (mkF m 86 #[.val (.int p0), .val (.int p1), .val (.int (2 : Int32)), .val (.ref w_EITHER), .val (.ref w_EITHER), .val (.ref w_EITHER), .val (.int (0 : Int32)), .unset] [(.int (1 : Int32))])
      refine Go.st (fun _ k => XS.goto X32.here hx rfl (pc0 := 86) (pc' := 90) rfl (hb hby at_86) (by decide) (by decide) k) ?_
      show Go _ _ _ _ _ _ _ T32 (mkF m 90 #[.val (.int p0), .val (.int p1), .val (.int (2 : Int32)), .val (.ref w_EITHER), .val (.ref w_EITHER), .val (.ref w_EITHER), .val (.int (0 : Int32)), .unset] [(.int (1 : Int32))])
      refine Go.st (fun _ k => XS.istore X32.here hx rfl (hb hby at_90) rfl (l' := #[.val (.int p0), .val (.int p1), .val (.int (2 : Int32)), .val (.ref w_EITHER), .val (.ref w_EITHER), .val (.ref w_EITHER), .val (.int (0 : Int32)), .val (.int (1 : Int32))]) rfl k) ?_
      show Go _ _ _ _ _ _ _ T32 (mkF m 92 #[.val (.int p0), .val (.int p1), .val (.int (2 : Int32)), .val (.ref w_EITHER), .val (.ref w_EITHER), .val (.ref w_EITHER), .val (.int (0 : Int32)), .val (.int (1 : Int32))] [])
      refine Go.st (fun _ k => XS.aload X32.here hx rfl (hb hby at_92) rfl rfl k) ?_
      show Go _ _ _ _ _ _ _ T32 (mkF m 94 #[.val (.int p0), .val (.int p1), .val (.int (2 : Int32)), .val (.ref w_EITHER), .val (.ref w_EITHER), .val (.ref w_EITHER), .val (.int (0 : Int32)), .val (.int (1 : Int32))] [(.ref w_EITHER)])
      refine Go.st (fun _ k => XS.aload X32.here hx rfl (hb hby at_94) rfl rfl k) ?_
      show Go _ _ _ _ _ _ _ T32 (mkF m 96 #[.val (.int p0), .val (.int p1), .val (.int (2 : Int32)), .val (.ref w_EITHER), .val (.ref w_EITHER), .val (.ref w_EITHER), .val (.int (0 : Int32)), .val (.int (1 : Int32))] [(.ref w_EITHER), (.ref w_EITHER)])
      refine Go.st (fun _ k => Jvm.RoadKit.acmp (g := (mkF m 96 #[.val (.int p0), .val (.int p1), .val (.int (2 : Int32)), .val (.ref w_EITHER), .val (.ref w_EITHER), .val (.ref w_EITHER), .val (.int (0 : Int32)), .val (.int (1 : Int32))] [(.ref w_EITHER), (.ref w_EITHER)])) X32 hx rfl rfl rfl (pc0 := 96) (pc' := 99) (same := true) rfl (hb hby at_96) rfl (decide_eq_true rfl) (by decide) (by decide) k) ?_
      show Go _ _ _ _ _ _ _ T32 (mkF m 99 #[.val (.int p0), .val (.int p1), .val (.int (2 : Int32)), .val (.ref w_EITHER), .val (.ref w_EITHER), .val (.ref w_EITHER), .val (.int (0 : Int32)), .val (.int (1 : Int32))] [])
      refine Go.st (fun _ k => XS.aload X32.here hx rfl (hb hby at_99) rfl rfl k) ?_
      show Go _ _ _ _ _ _ _ T32 (mkF m 101 #[.val (.int p0), .val (.int p1), .val (.int (2 : Int32)), .val (.ref w_EITHER), .val (.ref w_EITHER), .val (.ref w_EITHER), .val (.int (0 : Int32)), .val (.int (1 : Int32))] [(.ref w_EITHER)])
      obtain ⟨cq33, kq33, q33a, q33b, q33c⟩ := isOf hZ e32 E_EITHER
      obtain ⟨_, _, ⟨T33, L33, k33, n33⟩, -, X33, ⟨Lc33, hQ33, l33, y33, z33⟩, st33⟩ := X32.virtualBack hx (y := (⟨"com/example/grantd/grantd/policy/Condition$Truth", "negated", "()Lcom/example/grantd/grantd/policy/Condition$Truth;"⟩ : MethodName)) (z := (⟨"com/example/grantd/grantd/policy/Condition$Truth", "negated", "()Lcom/example/grantd/grantd/policy/Condition$Truth;"⟩ : MethodName)) hown (mvT hZ (hw _ (List.mem_of_getElem? (i := 10) rfl))) (mvT hZ (hw _ (List.mem_of_getElem? (i := 11) rfl))) (notFace_of_selects (args := #[]) (mvT hZ (hw _ (List.mem_of_getElem? (i := 13) rfl)))) (mvT hZ (hw _ (List.mem_of_getElem? (i := 13) rfl))) (mvT hZ (hw _ (List.mem_of_getElem? (i := 12) rfl))) (by decide) (backOf (W := 0) (rm2 l Z a0 hw [] w_EITHER w_HOLDS w_FAILS w_EITHER (2 : Int32) h0 n0 Z0 S_HOLDS S_FAILS S_EITHER E_EITHER F_EITHER_ordinal (Or.inr (Or.inr (rfl)))) hZ (hw _ (List.mem_of_getElem? (i := 14) rfl)) (hw _ (List.mem_of_getElem? (i := 6) rfl)) (by decide) (by decide)) q33a q33c (g := (mkF m 101 #[.val (.int p0), .val (.int p1), .val (.int (2 : Int32)), .val (.ref w_EITHER), .val (.ref w_EITHER), .val (.ref w_EITHER), .val (.int (0 : Int32)), .val (.int (1 : Int32))] [(.ref w_EITHER)])) rfl (by rw [hml]; rfl) (Steps.refl _) (argsL := []) (rest := []) (lenOf pd_2 rfl) rfl (by show 2 * 0 + _ ≤ _; exact Nat.le_of_eq rfl) (hb hby at_101) (fun _ _ => ⟨rfl, e32, (by decide : 0 + 0 ≤ _), (by decide : 0 + 0 ≤ _)⟩)
      dsimp only [Pt.U, Pt.locs, Pt.cells, Pt.slots] at X33 l33 y33 z33 st33 hQ33
      subst l33 y33 z33
      obtain ⟨rfl, N33q, e33⟩ := hQ33
      have N33 := Fr.app N32 N33q
      refine Go.st (fun _ k => st33.trans k) ?_
      show Go _ _ _ _ _ _ _ T33 (mkF m 104 #[.val (.int p0), .val (.int p1), .val (.int (2 : Int32)), .val (.ref w_EITHER), .val (.ref w_EITHER), .val (.ref w_EITHER), .val (.int (0 : Int32)), .val (.int (1 : Int32))] [(.ref (val_2 w_EITHER w_HOLDS w_FAILS w_EITHER (2 : Int32)))])
      rw [show (val_2 w_EITHER w_HOLDS w_FAILS w_EITHER (2 : Int32)) = w_EITHER from by unfold val_2; rw [if_neg (by decide +kernel : ¬ ((2 : Int32) = (0 : Int32))), if_neg (by decide +kernel : ¬ ((2 : Int32) = (1 : Int32)))]]
      show Go _ _ _ _ _ _ _ T33 (mkF m 104 #[.val (.int p0), .val (.int p1), .val (.int (2 : Int32)), .val (.ref w_EITHER), .val (.ref w_EITHER), .val (.ref w_EITHER), .val (.int (0 : Int32)), .val (.int (1 : Int32))] [(.ref w_EITHER)])
      refine Go.st (fun _ k => XS.aloadN X33.here hx rfl (hb hby at_104) rfl rfl k) ?_
      show Go _ _ _ _ _ _ _ T33 (mkF m 105 #[.val (.int p0), .val (.int p1), .val (.int (2 : Int32)), .val (.ref w_EITHER), .val (.ref w_EITHER), .val (.ref w_EITHER), .val (.int (0 : Int32)), .val (.int (1 : Int32))] [(.ref w_EITHER), (.ref w_EITHER)])
      refine Go.st (fun _ k => Jvm.RoadKit.acmp (g := (mkF m 105 #[.val (.int p0), .val (.int p1), .val (.int (2 : Int32)), .val (.ref w_EITHER), .val (.ref w_EITHER), .val (.ref w_EITHER), .val (.int (0 : Int32)), .val (.int (1 : Int32))] [(.ref w_EITHER), (.ref w_EITHER)])) X33 hx rfl rfl rfl (pc0 := 105) (pc' := 108) (same := true) rfl (hb hby at_105) rfl (decide_eq_true rfl) (by decide) (by decide) k) ?_
      show Go _ _ _ _ _ _ _ T33 (mkF m 108 #[.val (.int p0), .val (.int p1), .val (.int (2 : Int32)), .val (.ref w_EITHER), .val (.ref w_EITHER), .val (.ref w_EITHER), .val (.int (0 : Int32)), .val (.int (1 : Int32))] [])
      refine Go.st (fun _ k => XS.iload X33.here hx rfl (hb hby at_108) rfl k) ?_
      show Go _ _ _ _ _ _ _ T33 (mkF m 110 #[.val (.int p0), .val (.int p1), .val (.int (2 : Int32)), .val (.ref w_EITHER), .val (.ref w_EITHER), .val (.ref w_EITHER), .val (.int (0 : Int32)), .val (.int (1 : Int32))] [(.int (1 : Int32))])
      refine Go.st (fun _ k => XS.ifNo X33.here hx rfl (hb hby at_110) rfl ((if0 _ _).trans (feq (by decide : ¬ ((1 : Int32) = (0 : Int32)))).1) k) ?_
      show Go _ _ _ _ _ _ _ T33 (mkF m 113 #[.val (.int p0), .val (.int p1), .val (.int (2 : Int32)), .val (.ref w_EITHER), .val (.ref w_EITHER), .val (.ref w_EITHER), .val (.int (0 : Int32)), .val (.int (1 : Int32))] [])
      refine Go.st (fun _ k => XS.iconst X33.here hx rfl (hb hby at_113) k) ?_
      show Go _ _ _ _ _ _ _ T33 (mkF m 114 #[.val (.int p0), .val (.int p1), .val (.int (2 : Int32)), .val (.ref w_EITHER), .val (.ref w_EITHER), .val (.ref w_EITHER), .val (.int (0 : Int32)), .val (.int (1 : Int32))] [(.int (1 : Int32))])
      refine Go.st (fun _ k => XS.goto X33.here hx rfl (pc0 := 114) (pc' := 118) rfl (hb hby at_114) (by decide) (by decide) k) ?_
      show Go _ _ _ _ _ _ _ T33 (mkF m 118 #[.val (.int p0), .val (.int p1), .val (.int (2 : Int32)), .val (.ref w_EITHER), .val (.ref w_EITHER), .val (.ref w_EITHER), .val (.int (0 : Int32)), .val (.int (1 : Int32))] [(.int (1 : Int32))])
      refine Go.ret X33 hlk (v := some (.int (1 : Int32))) (fun h => by rw [hret] at h; cases h) (fun fs hr => retN X33 hx (t := .boolean) hret (by simp) (hb hby at_118) hr) ?_ (by decide) (by decide)
      show Q0 Z p0 p1 w_HOLDS w_FAILS w_EITHER h0 n0 (some (.int (1 : Int32))) T33.heap _
      rw [e33]
      exact ⟨rfl, N33⟩
    · rw [hk29]
      show Go _ _ _ _ _ _ _ T28 (mkF m 51 #[.val (.int p0), .val (.int p1), .val (.int (2 : Int32)), .val (.ref w_EITHER), .val (.ref w_EITHER), .val (.ref w_EITHER), .unset, .unset] [(.int (1 : Int32))])
      refine Go.st (fun _ k => XS.ifNo X28.here hx rfl (hb hby at_51) rfl ((if0 _ _).trans (feq (by decide : ¬ ((1 : Int32) = (0 : Int32)))).1) k) ?_
      show Go _ _ _ _ _ _ _ T28 (mkF m 54 #[.val (.int p0), .val (.int p1), .val (.int (2 : Int32)), .val (.ref w_EITHER), .val (.ref w_EITHER), .val (.ref w_EITHER), .unset, .unset] [])
      refine Go.st (fun _ k => XS.iconst X28.here hx rfl (hb hby at_54) k) ?_
      show Go _ _ _ _ _ _ _ T28 (mkF m 55 #[.val (.int p0), .val (.int p1), .val (.int (2 : Int32)), .val (.ref w_EITHER), .val (.ref w_EITHER), .val (.ref w_EITHER), .unset, .unset] [(.int (1 : Int32))])
      refine Go.st (fun _ k => XS.goto X28.here hx rfl (pc0 := 55) (pc' := 59) rfl (hb hby at_55) (by decide) (by decide) k) ?_
      show Go _ _ _ _ _ _ _ T28 (mkF m 59 #[.val (.int p0), .val (.int p1), .val (.int (2 : Int32)), .val (.ref w_EITHER), .val (.ref w_EITHER), .val (.ref w_EITHER), .unset, .unset] [(.int (1 : Int32))])
      refine Go.st (fun _ k => XS.istore X28.here hx rfl (hb hby at_59) rfl (l' := #[.val (.int p0), .val (.int p1), .val (.int (2 : Int32)), .val (.ref w_EITHER), .val (.ref w_EITHER), .val (.ref w_EITHER), .val (.int (1 : Int32)), .unset]) rfl k) ?_
      show Go _ _ _ _ _ _ _ T28 (mkF m 61 #[.val (.int p0), .val (.int p1), .val (.int (2 : Int32)), .val (.ref w_EITHER), .val (.ref w_EITHER), .val (.ref w_EITHER), .val (.int (1 : Int32)), .unset] [])
      refine Go.st (fun _ k => XS.iload X28.here hx rfl (hb hby at_61) rfl k) ?_
      show Go _ _ _ _ _ _ _ T28 (mkF m 63 #[.val (.int p0), .val (.int p1), .val (.int (2 : Int32)), .val (.ref w_EITHER), .val (.ref w_EITHER), .val (.ref w_EITHER), .val (.int (1 : Int32)), .unset] [(.int (1 : Int32))])
      obtain ⟨_, _, ⟨T34, L34, k34, n34⟩, -, X34, ⟨Lc34, hQ34, l34, y34, z34⟩, st34⟩ := Jvm.LawKit.callS X28 hx (y := (⟨"com/example/grantd/grantd/policy/Condition$Truth", "of", "(Z)Lcom/example/grantd/grantd/policy/Condition$Truth;"⟩ : MethodName)) hown (mvT hZ (hw _ (List.mem_of_getElem? (i := 25) rfl))) (mvT hZ (hw _ (List.mem_of_getElem? (i := 26) rfl))) (mvT hZ (hw _ (List.mem_of_getElem? (i := 6) rfl))) (mvT hZ (hw _ (List.mem_of_getElem? (i := 27) rfl))) (by decide) (backOf (W := 0) (rm4 l Z a0 hw [] (1 : Int32) w_HOLDS w_FAILS h0 n0 Z0 S_HOLDS S_FAILS) hZ (hw _ (List.mem_of_getElem? (i := 27) rfl)) (hw _ (List.mem_of_getElem? (i := 6) rfl)) (by decide) (by decide)) (g := (mkF m 63 #[.val (.int p0), .val (.int p1), .val (.int (2 : Int32)), .val (.ref w_EITHER), .val (.ref w_EITHER), .val (.ref w_EITHER), .val (.int (1 : Int32)), .unset] [(.int (1 : Int32))])) rfl (by rw [hml]; rfl) (argsL := [(.int (1 : Int32))]) (rest := []) (lenOf pd_3 rfl) rfl (by show 2 * 0 + _ ≤ _; exact Nat.le_of_eq rfl) (hb hby at_63) (fun _ _ => ⟨rfl, e28, (by decide : 0 + 0 ≤ _), (by decide : 0 + 0 ≤ _)⟩)
      dsimp only [Pt.U, Pt.locs, Pt.cells, Pt.slots] at X34 l34 y34 z34 st34 hQ34
      subst l34 y34 z34
      obtain ⟨rfl, N34q, e34⟩ := hQ34
      have N34 := Fr.app N28 N34q
      refine Go.st st34 ?_
      show Go _ _ _ _ _ _ _ T34 (mkF m 66 #[.val (.int p0), .val (.int p1), .val (.int (2 : Int32)), .val (.ref w_EITHER), .val (.ref w_EITHER), .val (.ref w_EITHER), .val (.int (1 : Int32)), .unset] [(.ref (val_4 (1 : Int32) w_HOLDS w_FAILS))])
      rw [show (val_4 (1 : Int32) w_HOLDS w_FAILS) = w_HOLDS from by unfold val_4; rw [if_neg (by decide +kernel : ¬ ((1 : Int32) = (0 : Int32)))]]
      show Go _ _ _ _ _ _ _ T34 (mkF m 66 #[.val (.int p0), .val (.int p1), .val (.int (2 : Int32)), .val (.ref w_EITHER), .val (.ref w_EITHER), .val (.ref w_EITHER), .val (.int (1 : Int32)), .unset] [(.ref w_HOLDS)])
      obtain ⟨cq35, kq35, q35a, q35b, q35c⟩ := isOf hZ e34 E_HOLDS
      obtain ⟨_, _, ⟨T35, L35, k35, n35⟩, -, X35, ⟨Lc35, hQ35, l35, y35, z35⟩, st35⟩ := X34.virtualBack hx (y := (⟨"com/example/grantd/grantd/policy/Condition$Truth", "negated", "()Lcom/example/grantd/grantd/policy/Condition$Truth;"⟩ : MethodName)) (z := (⟨"com/example/grantd/grantd/policy/Condition$Truth", "negated", "()Lcom/example/grantd/grantd/policy/Condition$Truth;"⟩ : MethodName)) hown (mvT hZ (hw _ (List.mem_of_getElem? (i := 10) rfl))) (mvT hZ (hw _ (List.mem_of_getElem? (i := 11) rfl))) (notFace_of_selects (args := #[]) (mvT hZ (hw _ (List.mem_of_getElem? (i := 13) rfl)))) (mvT hZ (hw _ (List.mem_of_getElem? (i := 13) rfl))) (mvT hZ (hw _ (List.mem_of_getElem? (i := 12) rfl))) (by decide) (backOf (W := 0) (rm2 l Z a0 hw [] w_HOLDS w_HOLDS w_FAILS w_EITHER (0 : Int32) h0 n0 Z0 S_HOLDS S_FAILS S_EITHER E_HOLDS F_HOLDS_ordinal (Or.inl rfl)) hZ (hw _ (List.mem_of_getElem? (i := 14) rfl)) (hw _ (List.mem_of_getElem? (i := 6) rfl)) (by decide) (by decide)) q35a q35c (g := (mkF m 66 #[.val (.int p0), .val (.int p1), .val (.int (2 : Int32)), .val (.ref w_EITHER), .val (.ref w_EITHER), .val (.ref w_EITHER), .val (.int (1 : Int32)), .unset] [(.ref w_HOLDS)])) rfl (by rw [hml]; rfl) (Steps.refl _) (argsL := []) (rest := []) (lenOf pd_2 rfl) rfl (by show 2 * 0 + _ ≤ _; exact Nat.le_of_eq rfl) (hb hby at_66) (fun _ _ => ⟨rfl, e34, (by decide : 0 + 0 ≤ _), (by decide : 0 + 0 ≤ _)⟩)
      dsimp only [Pt.U, Pt.locs, Pt.cells, Pt.slots] at X35 l35 y35 z35 st35 hQ35
      subst l35 y35 z35
      obtain ⟨rfl, N35q, e35⟩ := hQ35
      have N35 := Fr.app N34 N35q
      refine Go.st (fun _ k => st35.trans k) ?_
      show Go _ _ _ _ _ _ _ T35 (mkF m 69 #[.val (.int p0), .val (.int p1), .val (.int (2 : Int32)), .val (.ref w_EITHER), .val (.ref w_EITHER), .val (.ref w_EITHER), .val (.int (1 : Int32)), .unset] [(.ref (val_2 w_HOLDS w_HOLDS w_FAILS w_EITHER (0 : Int32)))])
      rw [show (val_2 w_HOLDS w_HOLDS w_FAILS w_EITHER (0 : Int32)) = w_FAILS from by unfold val_2; rw [if_pos (by decide +kernel : (0 : Int32) = (0 : Int32))]]
      show Go _ _ _ _ _ _ _ T35 (mkF m 69 #[.val (.int p0), .val (.int p1), .val (.int (2 : Int32)), .val (.ref w_EITHER), .val (.ref w_EITHER), .val (.ref w_EITHER), .val (.int (1 : Int32)), .unset] [(.ref w_FAILS)])
      refine Go.st (fun _ k => XS.iload X35.here hx rfl (hb hby at_69) rfl k) ?_
      show Go _ _ _ _ _ _ _ T35 (mkF m 71 #[.val (.int p0), .val (.int p1), .val (.int (2 : Int32)), .val (.ref w_EITHER), .val (.ref w_EITHER), .val (.ref w_EITHER), .val (.int (1 : Int32)), .unset] [(.int (1 : Int32)), (.ref w_FAILS)])
      refine Go.st (fun _ k => XS.ifYes X35.here hx rfl (pc0 := 71) (pc' := 78) rfl (hb hby at_71) rfl ((if0 _ _).trans (feq (by decide : ¬ ((1 : Int32) = (0 : Int32)))).2) (by decide) (by decide) k) ?_
      show Go _ _ _ _ _ _ _ T35 (mkF m 78 #[.val (.int p0), .val (.int p1), .val (.int (2 : Int32)), .val (.ref w_EITHER), .val (.ref w_EITHER), .val (.ref w_EITHER), .val (.int (1 : Int32)), .unset] [(.ref w_FAILS)])
      refine Go.st (fun _ k => XS.iconst X35.here hx rfl (hb hby at_78) k) ?_
      show Go _ _ _ _ _ _ _ T35 (mkF m 79 #[.val (.int p0), .val (.int p1), .val (.int (2 : Int32)), .val (.ref w_EITHER), .val (.ref w_EITHER), .val (.ref w_EITHER), .val (.int (1 : Int32)), .unset] [(.int (0 : Int32)), (.ref w_FAILS)])
      obtain ⟨_, _, ⟨T36, L36, k36, n36⟩, -, X36, ⟨Lc36, hQ36, l36, y36, z36⟩, st36⟩ := Jvm.LawKit.callS X35 hx (y := (⟨"com/example/grantd/grantd/policy/Condition$Truth", "of", "(Z)Lcom/example/grantd/grantd/policy/Condition$Truth;"⟩ : MethodName)) hown (mvT hZ (hw _ (List.mem_of_getElem? (i := 25) rfl))) (mvT hZ (hw _ (List.mem_of_getElem? (i := 26) rfl))) (mvT hZ (hw _ (List.mem_of_getElem? (i := 6) rfl))) (mvT hZ (hw _ (List.mem_of_getElem? (i := 27) rfl))) (by decide) (backOf (W := 1) (rm4 l Z a0 hw [] (0 : Int32) w_HOLDS w_FAILS h0 n0 Z0 S_HOLDS S_FAILS) hZ (hw _ (List.mem_of_getElem? (i := 27) rfl)) (hw _ (List.mem_of_getElem? (i := 6) rfl)) (by decide) (by decide)) (g := (mkF m 79 #[.val (.int p0), .val (.int p1), .val (.int (2 : Int32)), .val (.ref w_EITHER), .val (.ref w_EITHER), .val (.ref w_EITHER), .val (.int (1 : Int32)), .unset] [(.int (0 : Int32)), (.ref w_FAILS)])) rfl (by rw [hml]; rfl) (argsL := [(.int (0 : Int32))]) (rest := [(.ref w_FAILS)]) (lenOf pd_3 rfl) rfl (by show 2 * 0 + _ ≤ _; exact Nat.le_of_eq rfl) (hb hby at_79) (fun _ _ => ⟨rfl, e35, (by decide : 0 + 0 ≤ _), (by decide : 0 + 0 ≤ _)⟩)
      dsimp only [Pt.U, Pt.locs, Pt.cells, Pt.slots] at X36 l36 y36 z36 st36 hQ36
      subst l36 y36 z36
      obtain ⟨rfl, N36q, e36⟩ := hQ36
      have N36 := Fr.app N35 N36q
      refine Go.st st36 ?_
      show Go _ _ _ _ _ _ _ T36 (mkF m 82 #[.val (.int p0), .val (.int p1), .val (.int (2 : Int32)), .val (.ref w_EITHER), .val (.ref w_EITHER), .val (.ref w_EITHER), .val (.int (1 : Int32)), .unset] [(.ref (val_4 (0 : Int32) w_HOLDS w_FAILS)), (.ref w_FAILS)])
      rw [show (val_4 (0 : Int32) w_HOLDS w_FAILS) = w_FAILS from by unfold val_4; rw [if_pos (by decide +kernel : (0 : Int32) = (0 : Int32))]]
      show Go _ _ _ _ _ _ _ T36 (mkF m 82 #[.val (.int p0), .val (.int p1), .val (.int (2 : Int32)), .val (.ref w_EITHER), .val (.ref w_EITHER), .val (.ref w_EITHER), .val (.int (1 : Int32)), .unset] [(.ref w_FAILS), (.ref w_FAILS)])
      refine Go.st (fun _ k => Jvm.RoadKit.acmp (g := (mkF m 82 #[.val (.int p0), .val (.int p1), .val (.int (2 : Int32)), .val (.ref w_EITHER), .val (.ref w_EITHER), .val (.ref w_EITHER), .val (.int (1 : Int32)), .unset] [(.ref w_FAILS), (.ref w_FAILS)])) X36 hx rfl rfl rfl (pc0 := 82) (pc' := 85) (same := true) rfl (hb hby at_82) rfl (decide_eq_true rfl) (by decide) (by decide) k) ?_
      show Go _ _ _ _ _ _ _ T36 (mkF m 85 #[.val (.int p0), .val (.int p1), .val (.int (2 : Int32)), .val (.ref w_EITHER), .val (.ref w_EITHER), .val (.ref w_EITHER), .val (.int (1 : Int32)), .unset] [])
      refine Go.st (fun _ k => XS.iconst X36.here hx rfl (hb hby at_85) k) ?_
      show Go _ _ _ _ _ _ _ T36 (mkF m 86 #[.val (.int p0), .val (.int p1), .val (.int (2 : Int32)), .val (.ref w_EITHER), .val (.ref w_EITHER), .val (.ref w_EITHER), .val (.int (1 : Int32)), .unset] [(.int (1 : Int32))])
      refine Go.st (fun _ k => XS.goto X36.here hx rfl (pc0 := 86) (pc' := 90) rfl (hb hby at_86) (by decide) (by decide) k) ?_
      show Go _ _ _ _ _ _ _ T36 (mkF m 90 #[.val (.int p0), .val (.int p1), .val (.int (2 : Int32)), .val (.ref w_EITHER), .val (.ref w_EITHER), .val (.ref w_EITHER), .val (.int (1 : Int32)), .unset] [(.int (1 : Int32))])
      refine Go.st (fun _ k => XS.istore X36.here hx rfl (hb hby at_90) rfl (l' := #[.val (.int p0), .val (.int p1), .val (.int (2 : Int32)), .val (.ref w_EITHER), .val (.ref w_EITHER), .val (.ref w_EITHER), .val (.int (1 : Int32)), .val (.int (1 : Int32))]) rfl k) ?_
      show Go _ _ _ _ _ _ _ T36 (mkF m 92 #[.val (.int p0), .val (.int p1), .val (.int (2 : Int32)), .val (.ref w_EITHER), .val (.ref w_EITHER), .val (.ref w_EITHER), .val (.int (1 : Int32)), .val (.int (1 : Int32))] [])
      refine Go.st (fun _ k => XS.aload X36.here hx rfl (hb hby at_92) rfl rfl k) ?_
      show Go _ _ _ _ _ _ _ T36 (mkF m 94 #[.val (.int p0), .val (.int p1), .val (.int (2 : Int32)), .val (.ref w_EITHER), .val (.ref w_EITHER), .val (.ref w_EITHER), .val (.int (1 : Int32)), .val (.int (1 : Int32))] [(.ref w_EITHER)])
      refine Go.st (fun _ k => XS.aload X36.here hx rfl (hb hby at_94) rfl rfl k) ?_
      show Go _ _ _ _ _ _ _ T36 (mkF m 96 #[.val (.int p0), .val (.int p1), .val (.int (2 : Int32)), .val (.ref w_EITHER), .val (.ref w_EITHER), .val (.ref w_EITHER), .val (.int (1 : Int32)), .val (.int (1 : Int32))] [(.ref w_EITHER), (.ref w_EITHER)])
      refine Go.st (fun _ k => Jvm.RoadKit.acmp (g := (mkF m 96 #[.val (.int p0), .val (.int p1), .val (.int (2 : Int32)), .val (.ref w_EITHER), .val (.ref w_EITHER), .val (.ref w_EITHER), .val (.int (1 : Int32)), .val (.int (1 : Int32))] [(.ref w_EITHER), (.ref w_EITHER)])) X36 hx rfl rfl rfl (pc0 := 96) (pc' := 99) (same := true) rfl (hb hby at_96) rfl (decide_eq_true rfl) (by decide) (by decide) k) ?_
      show Go _ _ _ _ _ _ _ T36 (mkF m 99 #[.val (.int p0), .val (.int p1), .val (.int (2 : Int32)), .val (.ref w_EITHER), .val (.ref w_EITHER), .val (.ref w_EITHER), .val (.int (1 : Int32)), .val (.int (1 : Int32))] [])
      refine Go.st (fun _ k => XS.aload X36.here hx rfl (hb hby at_99) rfl rfl k) ?_
      show Go _ _ _ _ _ _ _ T36 (mkF m 101 #[.val (.int p0), .val (.int p1), .val (.int (2 : Int32)), .val (.ref w_EITHER), .val (.ref w_EITHER), .val (.ref w_EITHER), .val (.int (1 : Int32)), .val (.int (1 : Int32))] [(.ref w_EITHER)])
      obtain ⟨cq37, kq37, q37a, q37b, q37c⟩ := isOf hZ e36 E_EITHER
      obtain ⟨_, _, ⟨T37, L37, k37, n37⟩, -, X37, ⟨Lc37, hQ37, l37, y37, z37⟩, st37⟩ := X36.virtualBack hx (y := (⟨"com/example/grantd/grantd/policy/Condition$Truth", "negated", "()Lcom/example/grantd/grantd/policy/Condition$Truth;"⟩ : MethodName)) (z := (⟨"com/example/grantd/grantd/policy/Condition$Truth", "negated", "()Lcom/example/grantd/grantd/policy/Condition$Truth;"⟩ : MethodName)) hown (mvT hZ (hw _ (List.mem_of_getElem? (i := 10) rfl))) (mvT hZ (hw _ (List.mem_of_getElem? (i := 11) rfl))) (notFace_of_selects (args := #[]) (mvT hZ (hw _ (List.mem_of_getElem? (i := 13) rfl)))) (mvT hZ (hw _ (List.mem_of_getElem? (i := 13) rfl))) (mvT hZ (hw _ (List.mem_of_getElem? (i := 12) rfl))) (by decide) (backOf (W := 0) (rm2 l Z a0 hw [] w_EITHER w_HOLDS w_FAILS w_EITHER (2 : Int32) h0 n0 Z0 S_HOLDS S_FAILS S_EITHER E_EITHER F_EITHER_ordinal (Or.inr (Or.inr (rfl)))) hZ (hw _ (List.mem_of_getElem? (i := 14) rfl)) (hw _ (List.mem_of_getElem? (i := 6) rfl)) (by decide) (by decide)) q37a q37c (g := (mkF m 101 #[.val (.int p0), .val (.int p1), .val (.int (2 : Int32)), .val (.ref w_EITHER), .val (.ref w_EITHER), .val (.ref w_EITHER), .val (.int (1 : Int32)), .val (.int (1 : Int32))] [(.ref w_EITHER)])) rfl (by rw [hml]; rfl) (Steps.refl _) (argsL := []) (rest := []) (lenOf pd_2 rfl) rfl (by show 2 * 0 + _ ≤ _; exact Nat.le_of_eq rfl) (hb hby at_101) (fun _ _ => ⟨rfl, e36, (by decide : 0 + 0 ≤ _), (by decide : 0 + 0 ≤ _)⟩)
      dsimp only [Pt.U, Pt.locs, Pt.cells, Pt.slots] at X37 l37 y37 z37 st37 hQ37
      subst l37 y37 z37
      obtain ⟨rfl, N37q, e37⟩ := hQ37
      have N37 := Fr.app N36 N37q
      refine Go.st (fun _ k => st37.trans k) ?_
      show Go _ _ _ _ _ _ _ T37 (mkF m 104 #[.val (.int p0), .val (.int p1), .val (.int (2 : Int32)), .val (.ref w_EITHER), .val (.ref w_EITHER), .val (.ref w_EITHER), .val (.int (1 : Int32)), .val (.int (1 : Int32))] [(.ref (val_2 w_EITHER w_HOLDS w_FAILS w_EITHER (2 : Int32)))])
      rw [show (val_2 w_EITHER w_HOLDS w_FAILS w_EITHER (2 : Int32)) = w_EITHER from by unfold val_2; rw [if_neg (by decide +kernel : ¬ ((2 : Int32) = (0 : Int32))), if_neg (by decide +kernel : ¬ ((2 : Int32) = (1 : Int32)))]]
      show Go _ _ _ _ _ _ _ T37 (mkF m 104 #[.val (.int p0), .val (.int p1), .val (.int (2 : Int32)), .val (.ref w_EITHER), .val (.ref w_EITHER), .val (.ref w_EITHER), .val (.int (1 : Int32)), .val (.int (1 : Int32))] [(.ref w_EITHER)])
      refine Go.st (fun _ k => XS.aloadN X37.here hx rfl (hb hby at_104) rfl rfl k) ?_
      show Go _ _ _ _ _ _ _ T37 (mkF m 105 #[.val (.int p0), .val (.int p1), .val (.int (2 : Int32)), .val (.ref w_EITHER), .val (.ref w_EITHER), .val (.ref w_EITHER), .val (.int (1 : Int32)), .val (.int (1 : Int32))] [(.ref w_EITHER), (.ref w_EITHER)])
      refine Go.st (fun _ k => Jvm.RoadKit.acmp (g := (mkF m 105 #[.val (.int p0), .val (.int p1), .val (.int (2 : Int32)), .val (.ref w_EITHER), .val (.ref w_EITHER), .val (.ref w_EITHER), .val (.int (1 : Int32)), .val (.int (1 : Int32))] [(.ref w_EITHER), (.ref w_EITHER)])) X37 hx rfl rfl rfl (pc0 := 105) (pc' := 108) (same := true) rfl (hb hby at_105) rfl (decide_eq_true rfl) (by decide) (by decide) k) ?_
      show Go _ _ _ _ _ _ _ T37 (mkF m 108 #[.val (.int p0), .val (.int p1), .val (.int (2 : Int32)), .val (.ref w_EITHER), .val (.ref w_EITHER), .val (.ref w_EITHER), .val (.int (1 : Int32)), .val (.int (1 : Int32))] [])
      refine Go.st (fun _ k => XS.iload X37.here hx rfl (hb hby at_108) rfl k) ?_
      show Go _ _ _ _ _ _ _ T37 (mkF m 110 #[.val (.int p0), .val (.int p1), .val (.int (2 : Int32)), .val (.ref w_EITHER), .val (.ref w_EITHER), .val (.ref w_EITHER), .val (.int (1 : Int32)), .val (.int (1 : Int32))] [(.int (1 : Int32))])
      refine Go.st (fun _ k => XS.ifNo X37.here hx rfl (hb hby at_110) rfl ((if0 _ _).trans (feq (by decide : ¬ ((1 : Int32) = (0 : Int32)))).1) k) ?_
      show Go _ _ _ _ _ _ _ T37 (mkF m 113 #[.val (.int p0), .val (.int p1), .val (.int (2 : Int32)), .val (.ref w_EITHER), .val (.ref w_EITHER), .val (.ref w_EITHER), .val (.int (1 : Int32)), .val (.int (1 : Int32))] [])
      refine Go.st (fun _ k => XS.iconst X37.here hx rfl (hb hby at_113) k) ?_
      show Go _ _ _ _ _ _ _ T37 (mkF m 114 #[.val (.int p0), .val (.int p1), .val (.int (2 : Int32)), .val (.ref w_EITHER), .val (.ref w_EITHER), .val (.ref w_EITHER), .val (.int (1 : Int32)), .val (.int (1 : Int32))] [(.int (1 : Int32))])
      refine Go.st (fun _ k => XS.goto X37.here hx rfl (pc0 := 114) (pc' := 118) rfl (hb hby at_114) (by decide) (by decide) k) ?_
      show Go _ _ _ _ _ _ _ T37 (mkF m 118 #[.val (.int p0), .val (.int p1), .val (.int (2 : Int32)), .val (.ref w_EITHER), .val (.ref w_EITHER), .val (.ref w_EITHER), .val (.int (1 : Int32)), .val (.int (1 : Int32))] [(.int (1 : Int32))])
      refine Go.ret X37 hlk (v := some (.int (1 : Int32))) (fun h => by rw [hret] at h; cases h) (fun fs hr => retN X37 hx (t := .boolean) hret (by simp) (hb hby at_118) hr) ?_ (by decide) (by decide)
      show Q0 Z p0 p1 w_HOLDS w_FAILS w_EITHER h0 n0 (some (.int (1 : Int32))) T37.heap _
      rw [e37]
      exact ⟨rfl, N37⟩
set_option maxRecDepth 65536 in
set_option maxHeartbeats 40000000 in
theorem comes_1 {Post : Tables → Env → Array Value → State → Outcome → State → Prop} (hpost : ∀ tb e args s v u, (limb_1_1.after args s (.returned v) u = true ∧ limb_1_2.after args s (.returned v) u = true ∧ True) → FrameEnd s (.returned v) u (Jvm.fieldLocs frame_1_writes args s ++ Jvm.arrayLocs frame_1_arrays args s ++ Jvm.staticLocs frame_1_statics s) 0 0 → Post tb e args s (.returned v) u) :
    ArmFor flags0 classFile x code maxLocals ret World_1 tables_1 room_1 Calls_1 rest_1 Pre_1 Post := by
  intro l hfl _ _ p e ha hc hk s m args below hf hA hF happ hP
  obtain ⟨hcalls, hrest, hpre⟩ := hP
  obtain ⟨-, -, -, hnamed, -, -, -, hat⟩ := (Spec.applies_iff hf).mp happ
  obtain ⟨hg, hn⟩ := and_e (Cond.before_iff.mp (show (Jvm.Cond.and given_1 narrow_1).before args s = true from hpre))
  obtain ⟨g1, g2⟩ := and_e hg
  obtain ⟨g3, g4⟩ := and_e g2
  obtain ⟨w0, w1, rfl⟩ : ∃ w0 w1 : Value, args = #[w0, w1] := by
    have hs : args.size = 2 := by simpa [Cond.value, given_1] using g1
    obtain ⟨L⟩ := args
    match L, hs with
    | [w0, w1], _ => exact ⟨w0, w1, rfl⟩
  have hw := fun d (hd : d ∈ tables_1) => atoms_spec (ws := Jvm.Cond.code x code maxLocals ret :: tables_1) hat d (List.mem_cons_of_mem _ hd)
  have hfit : Fit s := fun {y c} hc i hi => by
    obtain ⟨ha, rfl⟩ := Array.getElem?_eq_some_iff.mp hc
    have q := List.all_eq_true.mp ((Array.all_eq_true_iff_forall_mem.mp hF) _ (Array.getElem_mem ha)) i (List.mem_range.mpr hi)
    simpa [Array.getElem?_eq_getElem hi] using q
  obtain ⟨i0, ei0⟩ := is_v g3
  obtain rfl : w0 = (.int i0) := Option.some.inj ei0
  obtain ⟨i1, ei1⟩ := is_v g4
  obtain rfl : w1 = (.int i1) := Option.some.inj ei1
  obtain ⟨g5, g6⟩ := and_e hn
  obtain ⟨g7, g8⟩ := and_e g6
  obtain ⟨g9, g10⟩ := and_e g8
  obtain ⟨g11, g12⟩ := and_e g10
  obtain ⟨g13, g14⟩ := and_e g12
  obtain ⟨w_HOLDS, ev_HOLDS⟩ := exa_v g5
  have S_HOLDS := Sta.start ev_HOLDS (Or.inr ⟨(hw _ (List.mem_of_getElem? (i := 6) rfl)), (hw _ (List.mem_of_getElem? (i := 7) rfl))⟩)
  have E_HOLDS := Exa.start ev_HOLDS g5
  obtain ⟨w_FAILS, ev_FAILS⟩ := exa_v g7
  have S_FAILS := Sta.start ev_FAILS (Or.inr ⟨(hw _ (List.mem_of_getElem? (i := 6) rfl)), (hw _ (List.mem_of_getElem? (i := 9) rfl))⟩)
  have E_FAILS := Exa.start ev_FAILS g7
  have F_HOLDS_ordinal := own_fld ev_HOLDS g9
  have F_FAILS_ordinal := own_fld ev_FAILS g11
  obtain ⟨w_EITHER, ev_EITHER⟩ := exa_v g13
  have S_EITHER := Sta.start ev_EITHER (Or.inr ⟨(hw _ (List.mem_of_getElem? (i := 6) rfl)), (hw _ (List.mem_of_getElem? (i := 30) rfl))⟩)
  have E_EITHER := Exa.start ev_EITHER g13
  have F_EITHER_ordinal := own_fld ev_EITHER g14
  obtain ⟨n, o, h1, h2, h3, _, L, rfl, ⟨rfl, N⟩, hq⟩ := rm0 l s _ hw tables_1 i0 i1 w_HOLDS w_FAILS w_EITHER s.heap s.heap.size (Nat.le_refl _) S_HOLDS E_HOLDS S_FAILS E_FAILS F_HOLDS_ordinal F_FAILS_ordinal S_EITHER E_EITHER F_EITHER_ordinal p e ha hc hk s m _ below hf ((Spec.applies_iff_loose hf).mp happ).1 ⟨rfl, State.Warmed39.refl s, rfl⟩ trivial
  refine ⟨n, _, h1, h2, h3, hpost _ _ _ _ _ _ ⟨Cond.after_iff.mpr rfl, Cond.after_iff.mpr (eq_i res_at (Term.int_eval (1)) rfl), trivial⟩ ⟨hq.1, hq.2.1, (hq.2.2.sift fun y hy => Or.inr (N y hy)).mono (by decide) (by decide)⟩⟩
theorem main_1_1 : Claimed_1_1 := comes_1 fun _ _ _ _ _ _ h hF => ⟨h.1, hF⟩
theorem main_1_2 : Claimed_1_2 := comes_1 fun _ _ _ _ _ _ h hF => ⟨h.2.1, hF⟩
end Jvm.Pilot.@@N@@
namespace Jvm.Pilot.@@N@@
open Jvm Jvm.ClassFile Sem Op Lib Jvm.Free Jvm.Stand Jvm.Pilot.@@N@@.Jvm.D
/-! MADE BY PROGRAM (witnessworld.py) out of the Statement's table words and the real class files: 12 classes; the members and pool entries that the words name. The judged class is class 1, her method 2. -/
namespace start1
open Jvm.ClassFile
def u (s : String) : CpInfo := .utf8 (stringToUtf16 s)
/-- a pool by its gaps: so many unusable entries, then the entry; so many at the end -/
def gap : Nat → List CpInfo → List CpInfo
  | 0, r => r
  | n + 1, r => .unusable :: gap n r
def poolList (es : List (Nat × CpInfo)) (last : Nat) : List CpInfo := es.foldr (fun e r => gap e.1 (e.2 :: r)) (gap last [])
def pool (es : List (Nat × CpInfo)) (last : Nat) : Array CpInfo := ⟨poolList es last⟩
def fileOf (pool : Array CpInfo) (this : Nat) (attrs : Array Attribute := #[]) (ms : Array MethodInfo := #[]) (fl : Nat := 33) (sup : Nat := 0) (ifs : Array Nat := #[]) (fds : Array FieldInfo := #[]) : ClassFile where
  minorVersion := 0
  majorVersion := 65
  constantPool := pool
  accessFlags := fl
  thisClass := this
  superClass := sup
  interfaces := ifs
  fields := fds
  methods := ms
  attributes := attrs
def plain (name : String) (sup : Option ClassId) : Class where
  name := name
  kind := .ordinary
  loader := none
  accessFlags := 33
  super := sup
  interfaces := #[]
  cf := none
  fields := #[]
  methods := #[]
  instanceTypes := #[]
  staticTypes := #[]
  resolved := #[]
  callSites := []
  init := .initialized
  statics := none
  mirror := none

def pool0 : Array CpInfo := pool [(5, u "<init>"), (0, u "()V"), (1, .class_ 10), (1, u "java/lang/Object")] 113

def k0m0 : Method := { name := "<init>", desc := "()V", sig := { parameters := [], returnType := none }, accessFlags := 1, code := none }
/-- java/lang/Object -/
def k0 : Class := { plain "java/lang/Object" none with
  accessFlags := 33
  interfaces := #[]
  cf := some (fileOf pool0 8 #[] #[{ accessFlags := 1, nameIndex := 5, descriptorIndex := 6, attributes := #[] }] 33 0 #[] #[])
  fields := #[]
  methods := #[k0m0]
  instanceTypes := #[]
  staticTypes := #[]
  resolved := Array.replicate 124 none
  statics := none }

def pool1 : Array CpInfo := pool [(2, .class_ 4), (1, u "java/lang/Object"), (0, u "<init>"), (0, u "()V"), (0, .fieldref 8 9), (0, .class_ 10), (0, .nameAndType 11 12), (0, u "com/example/grantd/grantd/policy/Condition$Truth"), (0, u "HOLDS"), (0, u "Lcom/example/grantd/grantd/policy/Condition$Truth;"), (0, .fieldref 8 14), (0, .nameAndType 15 12), (0, u "FAILS"), (0, .fieldref 8 17), (0, .nameAndType 18 12), (0, u "EITHER"), (0, .integer 2147483647), (0, .methodref 21 22), (0, .class_ 23), (0, .nameAndType 24 25), (0, u "com/example/grantd/grantd/policy/TruthNegatedPinLaw"), (0, u "pick"), (0, u "(I)Lcom/example/grantd/grantd/policy/Condition$Truth;"), (0, .methodref 8 27), (0, .nameAndType 28 29), (0, u "negated"), (0, u "()Lcom/example/grantd/grantd/policy/Condition$Truth;"), (0, .methodref 8 31), (0, .nameAndType 32 33), (0, u "of"), (0, u "(Z)Lcom/example/grantd/grantd/policy/Condition$Truth;"), (3, u "law"), (0, u "(II)Z")] 6

def k1m0 : Method := { name := "<init>", desc := "()V", sig := { parameters := [], returnType := none }, accessFlags := 2, code := none }
def k1c1 : Code := { maxStack := 2, maxLocals := 1, code := method_2_code, exceptionTable := #[], attributes := #[] }
def k1m1 : Method := { name := "pick", desc := "(I)Lcom/example/grantd/grantd/policy/Condition$Truth;", sig := { parameters := [.int], returnType := some (.object "com/example/grantd/grantd/policy/Condition$Truth") }, accessFlags := 10, code := some k1c1 }
def k1c2 : Code := { maxStack := 2, maxLocals := 8, code := code, exceptionTable := #[], attributes := #[] }
def k1m2 : Method := { name := "law", desc := "(II)Z", sig := { parameters := [.int, .int], returnType := some .boolean }, accessFlags := 9, code := some k1c2 }
/-- com/example/grantd/grantd/policy/TruthNegatedPinLaw -/
def k1 : Class := { plain "com/example/grantd/grantd/policy/TruthNegatedPinLaw" (some 0) with
  accessFlags := 49
  interfaces := #[]
  cf := some (fileOf pool1 21 #[] #[{ accessFlags := 2, nameIndex := 5, descriptorIndex := 6, attributes := #[] }, { accessFlags := 10, nameIndex := 24, descriptorIndex := 25, attributes := #[] }, { accessFlags := 9, nameIndex := 37, descriptorIndex := 38, attributes := #[] }] 49 2 #[] #[])
  fields := #[]
  methods := #[k1m0, k1m1, k1m2]
  instanceTypes := #[]
  staticTypes := #[]
  resolved := Array.replicate 45 none
  statics := none }

def pool2 : Array CpInfo := pool [(1, .class_ 2), (0, u "java/lang/constant/Constable"), (0, .class_ 4), (0, u "java/lang/Object")] 6

/-- java/lang/constant/Constable -/
def k2 : Class := { plain "java/lang/constant/Constable" (some 0) with
  accessFlags := 1537
  interfaces := #[]
  cf := some (fileOf pool2 1 #[] #[] 1537 3 #[] #[])
  fields := #[]
  methods := #[]
  instanceTypes := #[]
  staticTypes := #[]
  resolved := Array.replicate 11 none
  statics := none }

def pool3 : Array CpInfo := pool [(1, .class_ 2), (0, u "java/lang/Comparable"), (0, .class_ 4), (0, u "java/lang/Object")] 7

/-- java/lang/Comparable -/
def k3 : Class := { plain "java/lang/Comparable" (some 0) with
  accessFlags := 1537
  interfaces := #[]
  cf := some (fileOf pool3 1 #[] #[] 1537 3 #[] #[])
  fields := #[]
  methods := #[]
  instanceTypes := #[]
  staticTypes := #[]
  resolved := Array.replicate 12 none
  statics := none }

def pool4 : Array CpInfo := pool [(1, .class_ 2), (0, u "java/io/Serializable"), (0, .class_ 4), (0, u "java/lang/Object")] 2

/-- java/io/Serializable -/
def k4 : Class := { plain "java/io/Serializable" (some 0) with
  accessFlags := 1537
  interfaces := #[]
  cf := some (fileOf pool4 1 #[] #[] 1537 3 #[] #[])
  fields := #[]
  methods := #[]
  instanceTypes := #[]
  staticTypes := #[]
  resolved := Array.replicate 7 none
  statics := none }

def pool5 : Array CpInfo := pool [(2, .class_ 4), (1, u "java/lang/Enum"), (0, u "name"), (0, u "Ljava/lang/String;"), (0, .fieldref 2 8), (0, .nameAndType 9 10), (0, u "ordinal"), (0, u "I"), (1, .class_ 14), (1, u "java/lang/Object"), (4, u "hash"), (86, .class_ 108), (1, u "java/lang/Enum$EnumDesc"), (2, .class_ 112), (0, u "java/lang/constant/Constable"), (0, .class_ 114), (0, u "java/lang/Comparable"), (0, .class_ 116), (0, u "java/io/Serializable"), (9, u "()I")] 77

def k5c0 : Code := { maxStack := 1, maxLocals := 1, code := jdk_37_method_2_code, exceptionTable := #[], attributes := #[] }
def k5m0 : Method := { name := "ordinal", desc := "()I", sig := { parameters := [], returnType := some .int }, accessFlags := 17, code := some k5c0 }
/-- java/lang/Enum -/
def k5 : Class := { plain "java/lang/Enum" (some 0) with
  accessFlags := 1057
  interfaces := #[2, 3, 4]
  cf := some (fileOf pool5 2 #[.nestMembers #[106]] #[{ accessFlags := 17, nameIndex := 9, descriptorIndex := 126, attributes := #[] }] 1057 12 #[111, 113, 115] #[{ accessFlags := 18, nameIndex := 5, descriptorIndex := 6, attributes := #[] }, { accessFlags := 18, nameIndex := 9, descriptorIndex := 10, attributes := #[] }, { accessFlags := 2, nameIndex := 19, descriptorIndex := 10, attributes := #[] }])
  fields := #[{ name := "name", type := (.object "java/lang/String"), accessFlags := 18, slot := 0, constantValue := 0 }, { name := "ordinal", type := .int, accessFlags := 18, slot := 1, constantValue := 0 }, { name := "hash", type := .int, accessFlags := 2, slot := 2, constantValue := 0 }]
  methods := #[k5m0]
  instanceTypes := #[(.object "java/lang/String"), .int, .int]
  staticTypes := #[]
  resolved := Array.replicate 204 none
  statics := none }

def pool6 : Array CpInfo := pool [(1, .class_ 2), (0, u "com/example/grantd/grantd/policy/Condition$Truth"), (0, .fieldref 1 4), (0, .nameAndType 5 6), (0, u "HOLDS"), (0, u "Lcom/example/grantd/grantd/policy/Condition$Truth;"), (0, .fieldref 1 8), (0, .nameAndType 9 6), (0, u "FAILS"), (0, .fieldref 1 11), (0, .nameAndType 12 6), (0, u "EITHER"), (2, u "$VALUES"), (0, u "[Lcom/example/grantd/grantd/policy/Condition$Truth;"), (6, .class_ 25), (1, u "java/lang/Enum"), (6, .methodref 1 33), (0, .nameAndType 34 35), (0, u "ordinal"), (0, u "()I"), (7, u "negated"), (0, u "()Lcom/example/grantd/grantd/policy/Condition$Truth;"), (15, .class_ 61), (0, u "com/example/grantd/grantd/policy/Condition"), (19, u "of"), (0, u "(Z)Lcom/example/grantd/grantd/policy/Condition$Truth;")] 11

def k6c0 : Code := { maxStack := 1, maxLocals := 1, code := prog_39_method_4_code, exceptionTable := #[], attributes := #[] }
def k6m0 : Method := { name := "of", desc := "(Z)Lcom/example/grantd/grantd/policy/Condition$Truth;", sig := { parameters := [.boolean], returnType := some (.object "com/example/grantd/grantd/policy/Condition$Truth") }, accessFlags := 8, code := some k6c0 }
def k6c1 : Code := { maxStack := 4, maxLocals := 1, code := prog_39_method_5_code, exceptionTable := #[], attributes := #[] }
def k6m1 : Method := { name := "negated", desc := "()Lcom/example/grantd/grantd/policy/Condition$Truth;", sig := { parameters := [], returnType := some (.object "com/example/grantd/grantd/policy/Condition$Truth") }, accessFlags := 0, code := some k6c1 }
/-- com/example/grantd/grantd/policy/Condition$Truth -/
def k6 : Class := { plain "com/example/grantd/grantd/policy/Condition$Truth" (some 5) with
  accessFlags := 16433
  interfaces := #[]
  cf := some (fileOf pool6 1 #[.nestHost 60] #[{ accessFlags := 8, nameIndex := 81, descriptorIndex := 82, attributes := #[] }, { accessFlags := 0, nameIndex := 43, descriptorIndex := 44, attributes := #[] }] 16433 23 #[] #[{ accessFlags := 16409, nameIndex := 5, descriptorIndex := 6, attributes := #[] }, { accessFlags := 16409, nameIndex := 9, descriptorIndex := 6, attributes := #[] }, { accessFlags := 16409, nameIndex := 12, descriptorIndex := 6, attributes := #[] }, { accessFlags := 4122, nameIndex := 15, descriptorIndex := 16, attributes := #[] }])
  fields := #[{ name := "HOLDS", type := (.object "com/example/grantd/grantd/policy/Condition$Truth"), accessFlags := 16409, slot := 0, constantValue := 0 }, { name := "FAILS", type := (.object "com/example/grantd/grantd/policy/Condition$Truth"), accessFlags := 16409, slot := 1, constantValue := 0 }, { name := "EITHER", type := (.object "com/example/grantd/grantd/policy/Condition$Truth"), accessFlags := 16409, slot := 2, constantValue := 0 }, { name := "$VALUES", type := (.array (.object "com/example/grantd/grantd/policy/Condition$Truth")), accessFlags := 4122, slot := 3, constantValue := 0 }]
  methods := #[k6m0, k6m1]
  instanceTypes := #[(.object "java/lang/String"), .int, .int]
  staticTypes := #[(.object "com/example/grantd/grantd/policy/Condition$Truth"), (.object "com/example/grantd/grantd/policy/Condition$Truth"), (.object "com/example/grantd/grantd/policy/Condition$Truth"), (.array (.object "com/example/grantd/grantd/policy/Condition$Truth"))]
  resolved := Array.replicate 94 none
  statics := some 0 }

def pool7 : Array CpInfo := pool [(1, u "java/lang/Cloneable"), (0, .class_ 1), (0, u "java/lang/Object"), (0, .class_ 3)] 3

/-- java/lang/Cloneable -/
def k7 : Class := { plain "java/lang/Cloneable" (some 0) with
  accessFlags := 1537
  interfaces := #[]
  cf := some (fileOf pool7 2 #[] #[] 1537 4 #[] #[])
  fields := #[]
  methods := #[]
  instanceTypes := #[]
  staticTypes := #[]
  resolved := Array.replicate 8 none
  statics := none }

/-- the primitive byte -/
def k8 : Class := { plain "byte" none with kind := .primitive 'B', accessFlags := 0x411 }
/-- [B -/
def k9 : Class := { plain "[B" (some 0) with kind := .array 8 .byte, interfaces := #[7, 4], accessFlags := 1041 }

/-- the primitive int -/
def k10 : Class := { plain "int" none with kind := .primitive 'I', accessFlags := 0x411 }
/-- [I -/
def k11 : Class := { plain "[I" (some 0) with kind := .array 10 .int, interfaces := #[7, 4], accessFlags := 1041 }

def heap : Heap := #[{ cls := 6, slots := #[.ref 1, .ref 2, .ref 3, .null], vm := .statics 6 },
  { cls := 6, slots := #[.null, .int 0, .int 0], vm := .none },
  { cls := 6, slots := #[.null, .int 1, .int 0], vm := .none },
  { cls := 6, slots := #[.null, .int 2, .int 0], vm := .none }]
def classes : Array Class := #[k0, k1, k2, k3, k4, k5, k6, k7, k8, k9, k10, k11]
def interned : List (Array UInt16 × Addr) := []
def slotsUsed : Nat := 13
def theMethod : MethodId := ⟨1, 2⟩
def args0 : Array Value := #[.int 5, .int 3]
def aboutOver (below : List Frame) : State where
  vm := { classes := classes, interned := interned.toArray }
  heap := heap
  slotsUsed := slotsUsed
  threads := #[{ frames := .invoking theMethod args0 :: below }]
def below0 : List Frame := [.native { method := ⟨0, 0⟩, args := #[] }]
def about1 : State := aboutOver below0
def p0 : Program := .bare "" "" ""
def e0 : Env := launch0.env 0 0 0
theorem w_frames : about1.frames = Frame.invoking theMethod args0 :: below0 := rfl
set_option maxRecDepth 65536 in
theorem w_args : argsFit about1.vm theMethod args0 = true := by decide +kernel
set_option maxRecDepth 65536 in
theorem w_heap : heapFits about1 = true := by decide +kernel
set_option maxRecDepth 65536 in
theorem w_runnable : about1.curStatus? = some .runnable := by decide +kernel
set_option maxRecDepth 65536 in
theorem w_alone : about1.alone = true := by decide +kernel
set_option maxRecDepth 65536 in
theorem w_named : about1.methodNamed? x = some theMethod := by decide +kernel
set_option maxRecDepth 65536 in
theorem w_hears : about1.hears theMethod below0 = true := by decide +kernel
set_option maxRecDepth 65536 in
theorem w_ripe : about1.ripe theMethod args0 below0 = true := by decide +kernel
theorem w_running : about1.status = .running := rfl
set_option maxRecDepth 65536 in
theorem w_room : about1.hasRoom e0.platform room_1 = true :=
  launch0.hasRoom_least _ room_1 (by decide +kernel) (by decide +kernel) (by decide +kernel) (by decide +kernel) (by decide +kernel) (by decide +kernel)
theorem allAtoms_all (ts : List Jvm.Cond) (a : Array Jvm.Value) (st : Jvm.State) : (allAtoms ts).before a st = ts.all (fun c => c.before a st) := by
  induction ts with
  | nil => rfl
  | cons c t ih =>
    show (Jvm.Cond.and c (allAtoms t)).before a st = _
    rw [Jvm.Cond.before_and, ih, List.all_cons]
def words1 : List Jvm.Cond := Jvm.Cond.code x code maxLocals ret :: tables_1
/-- a 'code' word, met by the world's own term for the bytes: nothing is compared byte by byte -/
theorem code_word {y : MethodName} {bytes : ByteArray} {mx : Nat} {rt : Option FieldType} {a : Array Value} {s : State} {m : MethodId} {meth : Method} {c : Code} (h1 : s.methodNamed? y = some m) (h2 : s.vm.method? m = some meth) (h3 : meth.code = some c) (h4 : c.code = bytes)
    (h5 : (c.maxLocals == mx && c.exceptionTable.isEmpty && decide (c.maxStack ≤ mostOperands) && decide (meth.sig.returnType = rt) && !meth.locks && decide (parseMethodDescriptor y.desc = some meth.sig)) = true) : (Jvm.Cond.code y bytes mx rt).before a s = true := by
  simp only [Bool.and_eq_true, beq_iff_eq, Bool.not_eq_true', decide_eq_true_eq] at h5
  obtain ⟨⟨⟨⟨⟨g1, g2⟩, g3⟩, g4⟩, g5⟩, g6⟩ := h5
  simp [Cond.before, Cond.holds, Cond.value, h1, h2, h3, h4, g1, g2, g3, g4, g5, g6]
def isCode : Jvm.Cond → Bool
  | .code _ _ _ _ => true
  | _ => false
theorem all_split {L : List Jvm.Cond} {P : Jvm.Cond → Bool} (h1 : L.all (fun c => isCode c || P c) = true) (h2 : ∀ c ∈ L.filter isCode, P c = true) : L.all P = true := by
  refine List.all_eq_true.mpr fun c hc => ?_
  have h := List.all_eq_true.mp h1 c hc
  rcases Bool.eq_false_or_eq_true (isCode c) with hi | hi
  · exact h2 c (List.mem_filter.mpr ⟨hc, hi⟩)
  · simpa [hi] using h
set_option maxRecDepth 65536 in
theorem w_c0 : (Jvm.Cond.code x code maxLocals ret).before args0 about1 = true := code_word (m := ⟨1, 2⟩) (meth := k1m2) (c := k1c2) (by decide +kernel) rfl rfl rfl (by decide +kernel)
set_option maxRecDepth 65536 in
theorem w_c1 : (Jvm.Cond.code ({ cls := "com/example/grantd/grantd/policy/TruthNegatedPinLaw", name := "pick", desc := "(I)Lcom/example/grantd/grantd/policy/Condition$Truth;" } : Jvm.MethodName) method_2_code (1 : Nat) (Option.some (Jvm.ClassFile.FieldType.object "com/example/grantd/grantd/policy/Condition$Truth"))).before args0 about1 = true := code_word (m := ⟨1, 1⟩) (meth := k1m1) (c := k1c1) (by decide +kernel) rfl rfl rfl (by decide +kernel)
set_option maxRecDepth 65536 in
theorem w_c2 : (Jvm.Cond.code ({ cls := "com/example/grantd/grantd/policy/Condition$Truth", name := "negated", desc := "()Lcom/example/grantd/grantd/policy/Condition$Truth;" } : Jvm.MethodName) prog_39_method_5_code (1 : Nat) (Option.some (Jvm.ClassFile.FieldType.object "com/example/grantd/grantd/policy/Condition$Truth"))).before args0 about1 = true := code_word (m := ⟨6, 1⟩) (meth := k6m1) (c := k6c1) (by decide +kernel) rfl rfl rfl (by decide +kernel)
set_option maxRecDepth 65536 in
theorem w_c3 : (Jvm.Cond.code ({ cls := "java/lang/Enum", name := "ordinal", desc := "()I" } : Jvm.MethodName) jdk_37_method_2_code (1 : Nat) (Option.some Jvm.ClassFile.FieldType.int)).before args0 about1 = true := code_word (m := ⟨5, 0⟩) (meth := k5m0) (c := k5c0) (by decide +kernel) rfl rfl rfl (by decide +kernel)
set_option maxRecDepth 65536 in
theorem w_c4 : (Jvm.Cond.code ({ cls := "com/example/grantd/grantd/policy/Condition$Truth", name := "of", desc := "(Z)Lcom/example/grantd/grantd/policy/Condition$Truth;" } : Jvm.MethodName) prog_39_method_4_code (1 : Nat) (Option.some (Jvm.ClassFile.FieldType.object "com/example/grantd/grantd/policy/Condition$Truth"))).before args0 about1 = true := code_word (m := ⟨6, 0⟩) (meth := k6m0) (c := k6c0) (by decide +kernel) rfl rfl rfl (by decide +kernel)
def codes1 : List Jvm.Cond := [Jvm.Cond.code x code maxLocals ret, Jvm.Cond.code ({ cls := "com/example/grantd/grantd/policy/TruthNegatedPinLaw", name := "pick", desc := "(I)Lcom/example/grantd/grantd/policy/Condition$Truth;" } : Jvm.MethodName) method_2_code (1 : Nat) (Option.some (Jvm.ClassFile.FieldType.object "com/example/grantd/grantd/policy/Condition$Truth")), Jvm.Cond.code ({ cls := "com/example/grantd/grantd/policy/Condition$Truth", name := "negated", desc := "()Lcom/example/grantd/grantd/policy/Condition$Truth;" } : Jvm.MethodName) prog_39_method_5_code (1 : Nat) (Option.some (Jvm.ClassFile.FieldType.object "com/example/grantd/grantd/policy/Condition$Truth")), Jvm.Cond.code ({ cls := "java/lang/Enum", name := "ordinal", desc := "()I" } : Jvm.MethodName) jdk_37_method_2_code (1 : Nat) (Option.some Jvm.ClassFile.FieldType.int), Jvm.Cond.code ({ cls := "com/example/grantd/grantd/policy/Condition$Truth", name := "of", desc := "(Z)Lcom/example/grantd/grantd/policy/Condition$Truth;" } : Jvm.MethodName) prog_39_method_4_code (1 : Nat) (Option.some (Jvm.ClassFile.FieldType.object "com/example/grantd/grantd/policy/Condition$Truth"))]
set_option maxRecDepth 65536 in
theorem codes_eq : words1.filter isCode = codes1 := rfl
theorem w_codes : ∀ c ∈ words1.filter isCode, c.before args0 about1 = true := by
  rw [codes_eq]
  intro c hc
  simp only [codes1, List.mem_cons, List.not_mem_nil, or_false] at hc
  rcases hc with rfl | rfl | rfl | rfl | rfl
  · exact w_c0
  · exact w_c1
  · exact w_c2
  · exact w_c3
  · exact w_c4
set_option maxRecDepth 65536 in
theorem w_t1 : (words1.take 24).all (fun c => isCode c || c.before args0 about1) = true := by decide +kernel
set_option maxRecDepth 65536 in
theorem w_t2 : (words1.drop 24).all (fun c => isCode c || c.before args0 about1) = true := by decide +kernel
theorem w_tables : (allAtoms (Jvm.Cond.code x code maxLocals ret :: tables_1)).before args0 about1 = true := by
  rw [allAtoms_all]
  show words1.all (fun c => c.before args0 about1) = true
  refine all_split ?_ w_codes
  rw [← List.take_append_drop 24 words1, List.all_append, w_t1, w_t2]
  rfl
set_option maxRecDepth 65536 in
theorem w_case : (Jvm.Cond.and given_1 narrow_1).before args0 about1 = true := by decide +kernel
theorem w_applies : (headSpec (Jvm.Cond.code x code maxLocals ret :: tables_1) room_1).applies x e0.platform about1 = true :=
  (Spec.applies_iff w_frames).mpr ⟨w_running, w_runnable, w_alone, w_named, w_hears, w_ripe, w_room, w_tables⟩
theorem atStart : AtStart classFile x code maxLocals ret World_1 tables_1 room_1 Calls_1 rest_1 Pre_1 launch0 p0 e0 about1 theMethod args0 below0 :=
  ⟨lists_1, trivial, launch0.admits_env _ _ _, launch0.least_env, fairChoices_fair.cas, fairChoices_fair.clock, w_frames, w_args, w_heap, w_applies, trivial, trivial, w_case⟩
end start1
theorem witness_1 : WitnessClaimed_1 := ⟨start1.p0, start1.e0, start1.about1, start1.theMethod, start1.args0, start1.below0, start1.atStart⟩
end Jvm.Pilot.@@N@@
