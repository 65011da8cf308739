import JvmDerived
import JvmDerived.Pilot.@@N@@Statement
import JvmDerived.Pilot.@@N@@Code
set_option linter.unusedVariables false
set_option linter.unusedSimpArgs false
namespace Jvm.Pilot.@@N@@
open Jvm Jvm.ClassFile Sem Op Lib Jvm.Free Jvm.Stand Jvm.LawKit Jvm.RoadKit Bundle Jvm.Pilot.@@N@@.Jvm.D
section Own
variable {p : Program} {l : Launch} {e : Env} {R : Room} {s : State} {m : MethodId} {args : Array Value} {below : List Frame} {meth : Method} {c : Code} {T T' : State} {locs : List Loc} {cells slots : Nat}
/-- from the frame f on the run returns, and what it leaves is said by Q -/
def Go (p : Program) (e : Env) (below : List Frame) (s : State) (Q : Option Value → Heap → List Loc → Prop) (cs ss : Nat) (T : State) (f : JFrame) : Prop :=
  ∃ s₂ o, Steps p.tables e below (T.setTop f) s₂ ∧ s₂.status = .running ∧ Ended s₂ below o ∧ ∃ v L, o = .returned v ∧ Q v s₂.heap L ∧ FrameEnd s o s₂ L cs ss
theorem Go.st {Q : Option Value → Heap → List Loc → Prop} {cs ss : Nat} {f f' : JFrame} (k : ∀ t, Steps p.tables e below (T'.setTop f') t → Steps p.tables e below (T.setTop f) t) (h : Go p e below s Q cs ss T' f') : Go p e below s Q cs ss T f := by
  obtain ⟨s₂, o, h1, h2⟩ := h
  exact ⟨s₂, o, k _ h1, h2⟩
theorem Go.start {Q : Option Value → Heap → List Loc → Prop} {cs ss ml : Nat} {f : JFrame} (hf : entryFrame m args ml = f) (h : Go p e below s Q cs ss T f) :
    ∃ s₂ o, Steps p.tables e below (T.setTop (entryFrame m args ml)) s₂ ∧ s₂.status = .running ∧ Ended s₂ below o ∧ ∃ v L, o = .returned v ∧ Q v s₂.heap L ∧ FrameEnd s o s₂ L cs ss := by
  subst hf; exact h
theorem Go.fr {Q : Option Value → Heap → List Loc → Prop} {cs ss : Nat} {f f' : JFrame} (q : f = f') (h : Go p e below s Q cs ss T f') : Go p e below s Q cs ss T f := by
  subst q; exact h
theorem Go.ret {Q : Option Value → Heap → List Loc → Prop} {cs ss : Nat} {f : JFrame} (X : Stand p l e R s m args below meth c T locs cells slots) (hlk : meth.locks = false) {v : Option Value} (hv : meth.sig.returnType = none → v = none)
    (k : ∀ fs, (∀ (f : JFrame) (acts : List Action), f.method = m → f.locked = none → f.entered = [] → (doReturn e (T.setTop f) acts v).1 = T.setFrames fs) → Steps p.tables e below (T.setTop f) (T.setFrames fs))
    (hQ : Q v T.heap locs) (hc : cells ≤ cs) (hs : slots ≤ ss) : Go p e below s Q cs ss T f := by
  obtain ⟨fs, hr, hrun, hended, hW, hsame⟩ := X.leave (v := v) hv hlk
  exact ⟨_, _, k fs hr, hrun, hended, _, _, rfl, hQ, ⟨_, rfl⟩, hW, hsame.mono hc hs⟩
theorem own_fld {t : Term} {a : Addr} {C n d : String} {k : Int32} (ev : t.eval args s none [] s = some (.ref a)) (h : (Jvm.Cond.eq (.field t C n d) (.int k)).value args s none s [] = some true) : Fld s s.heap a C n d (.int k) := by
  have q : (Term.field t C n d).eval args s none [] s = s.fieldOf? a C n d := fld_at ev
  have q2 : (Term.field t C n d).eval args s none [] s = some (.int k) := Cond.eq_int (Cond.before_iff.mpr h) rfl
  exact Fld.start (q.symm.trans q2)
theorem own_sta {Z : State} {h h' : Heap} {C n d : String} {v : Value} {ws : List Addr} (F : Sta Z h C n d v) (K : Keep h h' ws) (q : ∀ x ∈ ws, ∃ c : Cell, h[x]? = some c ∧ ∀ q, c.vm ≠ .statics q) : Sta Z h' C n d v := by
  obtain ⟨cf, i, k, f, st, cell, h1, h2, h3, h4, h5, h6, h7⟩ := F
  refine ⟨cf, i, k, f, st, cell, h1, h2, h3, h4, K.2.1 st cell h5 fun hm => ?_, h6, h7⟩
  obtain ⟨c, hc, hn⟩ := q st hm
  cases hc.symm.trans h5
  cases hv : cell.vm <;> simp [hv, VmData.isStatics] at h6 hn
theorem own_bb (x : Int32) : x.toInt8.toInt32.toInt8.toInt32 = x.toInt8.toInt32 := by simp
theorem own_arvcell {Z : State} {h : Heap} {a : Addr} {k : ClassId} {ty : FieldType} {z : Int32} {vs : List Value} {dv : Value} (F : Arv Z h a k ty z vs dv) : ∃ c : Cell, h[a]? = some c ∧ ∀ q, c.vm ≠ .statics q := by
  obtain ⟨c, A, -⟩ := F
  exact ⟨c, A.1, fun q hq => by have := A.plain; simp [hq, VmData.isStatics] at this⟩
/-- a static that holds a reference or null -/
def StaR (Z : State) (h : Heap) (C n d : String) : Prop := Sta Z h C n d .null ∨ ∃ a, Sta Z h C n d (.ref a)
theorem StaR.ext {Z : State} {h h' : Heap} {C n d : String} (F : StaR Z h C n d) (E : Ext h h') : StaR Z h' C n d := F.imp (fun q => q.ext E) fun ⟨a, q⟩ => ⟨a, q.ext E⟩
theorem StaR.wr {Z : State} {h h' : Heap} {C n d : String} {a : Addr} {sl : Nat} {v : Value} (F : StaR Z h C n d) (W : Wr h h' a sl v) : StaR Z h' C n d := F.imp (fun q => q.wr W) fun ⟨a, q⟩ => ⟨a, q.wr W⟩
theorem own_staR {Z : State} {h h' : Heap} {C n d : String} {ws : List Addr} (F : StaR Z h C n d) (K : Keep h h' ws) (q : ∀ x ∈ ws, ∃ c : Cell, h[x]? = some c ∧ ∀ q, c.vm ≠ .statics q) : StaR Z h' C n d := F.imp (fun r => own_sta r K q) fun ⟨a, r⟩ => ⟨a, own_sta r K q⟩
end Own
theorem pn_com_example_nesenbach_nesenbach_city_PersonGroupHoldsLicencePinLaw : plainName "com/example/nesenbach/nesenbach/city/PersonGroupHoldsLicencePinLaw" = true := by first | (simp [plainName, overriddenIn]; done) | decide +kernel
theorem pn_com_example_nesenbach_nesenbach_city_PersonGroup : plainName "com/example/nesenbach/nesenbach/city/PersonGroup" = true := by first | (simp [plainName, overriddenIn]; done) | decide +kernel
theorem pd_0 : parseMethodDescriptor "(I)Lcom/example/nesenbach/nesenbach/city/PersonGroup;" = some ⟨[.int], some (.object "com/example/nesenbach/nesenbach/city/PersonGroup")⟩ := by decide +kernel
theorem pd_1 : parseMethodDescriptor "()Z" = some ⟨[], some .boolean⟩ := by decide +kernel
theorem pd_2 : parseMethodDescriptor "()I" = some ⟨[], some .int⟩ := by decide +kernel
theorem own_rem (x k : Int32) (hk : 0 < k.toInt) : 0 ≤ ((x &&& 2147483647) % k).toInt ∧ ((x &&& 2147483647) % k).toInt < k.toInt := by
  have h := c_mask x 2147483647 31 (by decide) (by decide)
  have h0 : 0 ≤ (x &&& 2147483647).toInt := by rw [h]; omega
  have h2 := (c_iremV (x &&& 2147483647) k).1 h0 hk
  exact ⟨h2.1, h2.2.1⟩
theorem own_i32 {x : Int32} {k : Int} (h : x.toInt = k) (y : Int32) (hy : y.toInt = k) : x = y := Int32.toInt_inj.mp (h.trans hy.symm)
theorem own_mod6 (x : Int32) : (x &&& 2147483647) % 6 = 0 ∨ (x &&& 2147483647) % 6 = 1 ∨ (x &&& 2147483647) % 6 = 2 ∨ (x &&& 2147483647) % 6 = 3 ∨ (x &&& 2147483647) % 6 = 4 ∨ (x &&& 2147483647) % 6 = 5 := by
  have h := own_rem x 6 (by decide)
  have h3 : (6 : Int32).toInt = 6 := by decide
  rw [h3] at h
  generalize (x &&& 2147483647) % 6 = y at h ⊢
  have : y.toInt = 0 ∨ y.toInt = 1 ∨ y.toInt = 2 ∨ y.toInt = 3 ∨ y.toInt = 4 ∨ y.toInt = 5 := by omega
  rcases this with h | h | h | h | h | h
  · exact Or.inl (own_i32 h 0 (by decide))
  · exact Or.inr (Or.inl (own_i32 h 1 (by decide)))
  · exact Or.inr (Or.inr (Or.inl (own_i32 h 2 (by decide))))
  · exact Or.inr (Or.inr (Or.inr (Or.inl (own_i32 h 3 (by decide)))))
  · exact Or.inr (Or.inr (Or.inr (Or.inr (Or.inl (own_i32 h 4 (by decide))))))
  · exact Or.inr (Or.inr (Or.inr (Or.inr (Or.inr ((own_i32 h 5 (by decide)))))))
theorem d1_0 : decode method_2_code 0 = .ok (.iload_n 0, 1) := by decide +kernel
theorem d1_1 : decode method_2_code 1 = .ok (.ifCond .ne 7, 3) := by decide +kernel
theorem d1_4 : decode method_2_code 4 = .ok (.getstatic 7, 3) := by decide +kernel
theorem d1_7 : decode method_2_code 7 = .ok (.areturn, 1) := by decide +kernel
theorem d1_8 : decode method_2_code 8 = .ok (.iload_n 0, 1) := by decide +kernel
theorem d1_9 : decode method_2_code 9 = .ok (.iconst 1, 1) := by decide +kernel
theorem d1_10 : decode method_2_code 10 = .ok (.if_icmp .ne 7, 3) := by decide +kernel
theorem d1_13 : decode method_2_code 13 = .ok (.getstatic 13, 3) := by decide +kernel
theorem d1_16 : decode method_2_code 16 = .ok (.areturn, 1) := by decide +kernel
theorem d1_17 : decode method_2_code 17 = .ok (.iload_n 0, 1) := by decide +kernel
theorem d1_18 : decode method_2_code 18 = .ok (.iconst 2, 1) := by decide +kernel
theorem d1_19 : decode method_2_code 19 = .ok (.if_icmp .ne 7, 3) := by decide +kernel
theorem d1_22 : decode method_2_code 22 = .ok (.getstatic 16, 3) := by decide +kernel
theorem d1_25 : decode method_2_code 25 = .ok (.areturn, 1) := by decide +kernel
theorem d1_26 : decode method_2_code 26 = .ok (.iload_n 0, 1) := by decide +kernel
theorem d1_27 : decode method_2_code 27 = .ok (.iconst 3, 1) := by decide +kernel
theorem d1_28 : decode method_2_code 28 = .ok (.if_icmp .ne 7, 3) := by decide +kernel
theorem d1_31 : decode method_2_code 31 = .ok (.getstatic 19, 3) := by decide +kernel
theorem d1_34 : decode method_2_code 34 = .ok (.areturn, 1) := by decide +kernel
theorem d1_35 : decode method_2_code 35 = .ok (.iload_n 0, 1) := by decide +kernel
theorem d1_36 : decode method_2_code 36 = .ok (.iconst 4, 1) := by decide +kernel
theorem d1_37 : decode method_2_code 37 = .ok (.if_icmp .ne 7, 3) := by decide +kernel
theorem d1_40 : decode method_2_code 40 = .ok (.getstatic 22, 3) := by decide +kernel
theorem d1_43 : decode method_2_code 43 = .ok (.areturn, 1) := by decide +kernel
theorem d1_44 : decode method_2_code 44 = .ok (.getstatic 25, 3) := by decide +kernel
theorem d1_47 : decode method_2_code 47 = .ok (.areturn, 1) := by decide +kernel
def val_1 (p0 : Int32) (w_PUPIL : Addr) (w_FULL_TIME : Addr) (w_PART_TIME : Addr) (w_STUDENT : Addr) (w_NO_OCCUPATION : Addr) (w_RETIRED : Addr) : Addr := (if p0 = (0 : Int32) then w_PUPIL else (if p0 = (1 : Int32) then w_FULL_TIME else (if p0 = (2 : Int32) then w_PART_TIME else (if p0 = (3 : Int32) then w_STUDENT else (if p0 = (4 : Int32) then w_NO_OCCUPATION else w_RETIRED)))))
theorem ef_1 (m : MethodId) (p0 : Int32) : entryFrame m #[(.int p0)] 1 = mkF m 0 #[.val (.int p0)] [] := by first | (simp [entryFrame, mkF, argsToLocals, Value.category]; done) | rfl
def Q1 (Z : State) (p0 : Int32) (w_PUPIL : Addr) (w_FULL_TIME : Addr) (w_PART_TIME : Addr) (w_STUDENT : Addr) (w_NO_OCCUPATION : Addr) (w_RETIRED : Addr) (h0 : Heap) (n0 : Nat) (v : Option Value) (h : Heap) (L : List Loc) : Prop := v = some (.ref (val_1 p0 w_PUPIL w_FULL_TIME w_PART_TIME w_STUDENT w_NO_OCCUPATION w_RETIRED)) ∧ Fr n0 L ∧ h = h0
set_option maxRecDepth 65536 in
set_option maxHeartbeats 40000000 in
theorem rm1 (l : Launch) (Z : State) (a0 : Array Value) (hw : ∀ d ∈ tables_1, d.before a0 Z = true) (ws : List Jvm.Cond) (p0 : Int32) (w_PUPIL : Addr) (w_FULL_TIME : Addr) (w_PART_TIME : Addr) (w_STUDENT : Addr) (w_NO_OCCUPATION : Addr) (w_RETIRED : Addr) (h0 : Heap) (n0 : Nat) (Z0 : n0 ≤ h0.size) (S_PUPIL : Sta Z h0 "com/example/nesenbach/nesenbach/city/PersonGroup" "PUPIL" "Lcom/example/nesenbach/nesenbach/city/PersonGroup;" (.ref w_PUPIL)) (S_FULL_TIME : Sta Z h0 "com/example/nesenbach/nesenbach/city/PersonGroup" "FULL_TIME" "Lcom/example/nesenbach/nesenbach/city/PersonGroup;" (.ref w_FULL_TIME)) (S_PART_TIME : Sta Z h0 "com/example/nesenbach/nesenbach/city/PersonGroup" "PART_TIME" "Lcom/example/nesenbach/nesenbach/city/PersonGroup;" (.ref w_PART_TIME)) (S_STUDENT : Sta Z h0 "com/example/nesenbach/nesenbach/city/PersonGroup" "STUDENT" "Lcom/example/nesenbach/nesenbach/city/PersonGroup;" (.ref w_STUDENT)) (S_NO_OCCUPATION : Sta Z h0 "com/example/nesenbach/nesenbach/city/PersonGroup" "NO_OCCUPATION" "Lcom/example/nesenbach/nesenbach/city/PersonGroup;" (.ref w_NO_OCCUPATION)) (S_RETIRED : Sta Z h0 "com/example/nesenbach/nesenbach/city/PersonGroup" "RETIRED" "Lcom/example/nesenbach/nesenbach/city/PersonGroup;" (.ref w_RETIRED)) :
    MetFree l (⟨"com/example/nesenbach/nesenbach/city/PersonGroupHoldsLicencePinLaw", "pick", "(I)Lcom/example/nesenbach/nesenbach/city/PersonGroup;"⟩ : MethodName) (head1 (Jvm.Cond.code (⟨"com/example/nesenbach/nesenbach/city/PersonGroupHoldsLicencePinLaw", "pick", "(I)Lcom/example/nesenbach/nesenbach/city/PersonGroup;"⟩ : MethodName) method_2_code 1 (some (.object "com/example/nesenbach/nesenbach/city/PersonGroup")) :: ws) ({ frames := 0, cells := 0, slots := 0, locals := 0 } : Room)) (fun a U => a = #[(.int p0)] ∧ Z.Warmed39 U.vm ∧ U.heap = h0) (fun _ _ _ _ _ => True) (fun _ U o U' => ∃ v L, o = .returned v ∧ Q1 Z p0 w_PUPIL w_FULL_TIME w_PART_TIME w_STUDENT w_NO_OCCUPATION w_RETIRED h0 n0 v U'.heap L ∧ FrameEnd U o U' L ({ frames := 0, cells := 0, slots := 0, locals := 0 } : Room).cells ({ frames := 0, cells := 0, slots := 0, locals := 0 } : Room).slots) := by
  refine MetFree.of_bodySF (plainFor_of_name pn_com_example_nesenbach_nesenbach_city_PersonGroupHoldsLicencePinLaw) hisR ?_
  intro p e s m args below meth c s₁ Bd hml0 hP hK
  obtain ⟨rfl, hZ, hh⟩ := hP
  have hx := Bd.exec
  have hby := Bd.bytes
  have hlk : meth.locks = false := BodyLoose.notSynchronized Bd
  have hret := Bd.returns
  have hml : c.maxLocals = 1 := hml0
  have hown : s.vm.findClass "com/example/nesenbach/nesenbach/city/PersonGroupHoldsLicencePinLaw" = some m.cls := findClass_of_methodNamed Bd.named
  have hnm := (name_of_methodNamed Bd.named Bd.method).1
  have X0 : Stand p l e ({ frames := 0, cells := 0, slots := 0, locals := 0 } : Room) s m #[(.int p0)] below meth c s₁ [] 0 0 := Stand.of_body Bd
  have e0 : s₁.heap = h0 := by rw [← hh, Bd.state]; rfl
  have N0 := Fr.nil n0
  refine Go.start (Q := Q1 Z p0 w_PUPIL w_FULL_TIME w_PART_TIME w_STUDENT w_NO_OCCUPATION w_RETIRED h0 n0) (ef_1 m p0) ?_
  show Go _ _ _ _ _ _ _ s₁ (mkF m 0 #[.val (.int p0)] [])
  refine Go.st (fun _ k => XS.iloadN X0.here hx rfl (hb hby d1_0) rfl k) ?_
  show Go _ _ _ _ _ _ _ s₁ (mkF m 1 #[.val (.int p0)] [(.int p0)])
  by_cases hc1 : p0 = (0 : Int32)
  · refine Go.st (fun _ k => XS.ifNo X0.here hx rfl (hb hby d1_1) rfl ((if0 _ _).trans (teq hc1).2) k) ?_
    show Go _ _ _ _ _ _ _ s₁ (mkF m 4 #[.val (.int p0)] [])
    obtain ⟨T2, X2, e2, st2⟩ := getS2 X0 hx hZ hown (host := "") (Or.inl (hw _ (List.mem_of_getElem? (i := 5) rfl))) Via.refl e0 S_PUPIL (g := (mkF m 4 #[.val (.int p0)] [])) rfl (hb hby d1_4)
    refine Go.st st2 ?_
    show Go _ _ _ _ _ _ _ T2 (mkF m 7 #[.val (.int p0)] [(.ref w_PUPIL)])
    refine Go.ret X2 hlk (v := some (.ref w_PUPIL)) (fun h => by rw [hret] at h; cases h) (fun fs hr => retOut X2 hx (i := .areturn) hret rfl (Or.inr (Or.inr (Or.inr (Or.inr ⟨rfl, rfl, rfl⟩)))) (hb hby d1_7) hr) ?_ (by decide) (by decide)
    show Q1 Z p0 w_PUPIL w_FULL_TIME w_PART_TIME w_STUDENT w_NO_OCCUPATION w_RETIRED h0 n0 (some (.ref w_PUPIL)) T2.heap _
    rw [e2]
    refine ⟨?_, N0, rfl⟩
    unfold val_1
    first | rfl | rw [if_pos hc1]
  · refine Go.st (fun _ k => XS.ifYes X0.here hx rfl (pc0 := 1) (pc' := 8) rfl (hb hby d1_1) rfl ((if0 _ _).trans (feq hc1).2) (by decide) (by decide) k) ?_
    show Go _ _ _ _ _ _ _ s₁ (mkF m 8 #[.val (.int p0)] [])
    refine Go.st (fun _ k => XS.iloadN X0.here hx rfl (hb hby d1_8) rfl k) ?_
    show Go _ _ _ _ _ _ _ s₁ (mkF m 9 #[.val (.int p0)] [(.int p0)])
    refine Go.st (fun _ k => XS.iconst X0.here hx rfl (hb hby d1_9) k) ?_
    show Go _ _ _ _ _ _ _ s₁ (mkF m 10 #[.val (.int p0)] [(.int (1 : Int32)), (.int p0)])
    by_cases hc3 : p0 = (1 : Int32)
    · refine Go.st (fun _ k => XS.icmpNo X0.here hx rfl (hb hby d1_10) rfl (teq hc3).2 k) ?_
      show Go _ _ _ _ _ _ _ s₁ (mkF m 13 #[.val (.int p0)] [])
      obtain ⟨T4, X4, e4, st4⟩ := getS2 X0 hx hZ hown (host := "") (Or.inl (hw _ (List.mem_of_getElem? (i := 25) rfl))) Via.refl e0 S_FULL_TIME (g := (mkF m 13 #[.val (.int p0)] [])) rfl (hb hby d1_13)
      refine Go.st st4 ?_
      show Go _ _ _ _ _ _ _ T4 (mkF m 16 #[.val (.int p0)] [(.ref w_FULL_TIME)])
      refine Go.ret X4 hlk (v := some (.ref w_FULL_TIME)) (fun h => by rw [hret] at h; cases h) (fun fs hr => retOut X4 hx (i := .areturn) hret rfl (Or.inr (Or.inr (Or.inr (Or.inr ⟨rfl, rfl, rfl⟩)))) (hb hby d1_16) hr) ?_ (by decide) (by decide)
      show Q1 Z p0 w_PUPIL w_FULL_TIME w_PART_TIME w_STUDENT w_NO_OCCUPATION w_RETIRED h0 n0 (some (.ref w_FULL_TIME)) T4.heap _
      rw [e4]
      refine ⟨?_, N0, rfl⟩
      unfold val_1
      first | rfl | rw [if_neg hc1, if_pos hc3]
    · refine Go.st (fun _ k => XS.icmpYes X0.here hx rfl (pc0 := 10) (pc' := 17) rfl (hb hby d1_10) rfl (feq hc3).2 (by decide) (by decide) k) ?_
      show Go _ _ _ _ _ _ _ s₁ (mkF m 17 #[.val (.int p0)] [])
      refine Go.st (fun _ k => XS.iloadN X0.here hx rfl (hb hby d1_17) rfl k) ?_
      show Go _ _ _ _ _ _ _ s₁ (mkF m 18 #[.val (.int p0)] [(.int p0)])
      refine Go.st (fun _ k => XS.iconst X0.here hx rfl (hb hby d1_18) k) ?_
      show Go _ _ _ _ _ _ _ s₁ (mkF m 19 #[.val (.int p0)] [(.int (2 : Int32)), (.int p0)])
      by_cases hc5 : p0 = (2 : Int32)
      · refine Go.st (fun _ k => XS.icmpNo X0.here hx rfl (hb hby d1_19) rfl (teq hc5).2 k) ?_
        show Go _ _ _ _ _ _ _ s₁ (mkF m 22 #[.val (.int p0)] [])
        obtain ⟨T6, X6, e6, st6⟩ := getS2 X0 hx hZ hown (host := "") (Or.inl (hw _ (List.mem_of_getElem? (i := 23) rfl))) Via.refl e0 S_PART_TIME (g := (mkF m 22 #[.val (.int p0)] [])) rfl (hb hby d1_22)
        refine Go.st st6 ?_
        show Go _ _ _ _ _ _ _ T6 (mkF m 25 #[.val (.int p0)] [(.ref w_PART_TIME)])
        refine Go.ret X6 hlk (v := some (.ref w_PART_TIME)) (fun h => by rw [hret] at h; cases h) (fun fs hr => retOut X6 hx (i := .areturn) hret rfl (Or.inr (Or.inr (Or.inr (Or.inr ⟨rfl, rfl, rfl⟩)))) (hb hby d1_25) hr) ?_ (by decide) (by decide)
        show Q1 Z p0 w_PUPIL w_FULL_TIME w_PART_TIME w_STUDENT w_NO_OCCUPATION w_RETIRED h0 n0 (some (.ref w_PART_TIME)) T6.heap _
        rw [e6]
        refine ⟨?_, N0, rfl⟩
        unfold val_1
        first | rfl | rw [if_neg hc1, if_neg hc3, if_pos hc5]
      · refine Go.st (fun _ k => XS.icmpYes X0.here hx rfl (pc0 := 19) (pc' := 26) rfl (hb hby d1_19) rfl (feq hc5).2 (by decide) (by decide) k) ?_
        show Go _ _ _ _ _ _ _ s₁ (mkF m 26 #[.val (.int p0)] [])
        refine Go.st (fun _ k => XS.iloadN X0.here hx rfl (hb hby d1_26) rfl k) ?_
        show Go _ _ _ _ _ _ _ s₁ (mkF m 27 #[.val (.int p0)] [(.int p0)])
        refine Go.st (fun _ k => XS.iconst X0.here hx rfl (hb hby d1_27) k) ?_
        show Go _ _ _ _ _ _ _ s₁ (mkF m 28 #[.val (.int p0)] [(.int (3 : Int32)), (.int p0)])
        by_cases hc7 : p0 = (3 : Int32)
        · refine Go.st (fun _ k => XS.icmpNo X0.here hx rfl (hb hby d1_28) rfl (teq hc7).2 k) ?_
          show Go _ _ _ _ _ _ _ s₁ (mkF m 31 #[.val (.int p0)] [])
          obtain ⟨T8, X8, e8, st8⟩ := getS2 X0 hx hZ hown (host := "") (Or.inl (hw _ (List.mem_of_getElem? (i := 21) rfl))) Via.refl e0 S_STUDENT (g := (mkF m 31 #[.val (.int p0)] [])) rfl (hb hby d1_31)
          refine Go.st st8 ?_
          show Go _ _ _ _ _ _ _ T8 (mkF m 34 #[.val (.int p0)] [(.ref w_STUDENT)])
          refine Go.ret X8 hlk (v := some (.ref w_STUDENT)) (fun h => by rw [hret] at h; cases h) (fun fs hr => retOut X8 hx (i := .areturn) hret rfl (Or.inr (Or.inr (Or.inr (Or.inr ⟨rfl, rfl, rfl⟩)))) (hb hby d1_34) hr) ?_ (by decide) (by decide)
          show Q1 Z p0 w_PUPIL w_FULL_TIME w_PART_TIME w_STUDENT w_NO_OCCUPATION w_RETIRED h0 n0 (some (.ref w_STUDENT)) T8.heap _
          rw [e8]
          refine ⟨?_, N0, rfl⟩
          unfold val_1
          first | rfl | rw [if_neg hc1, if_neg hc3, if_neg hc5, if_pos hc7]
        · refine Go.st (fun _ k => XS.icmpYes X0.here hx rfl (pc0 := 28) (pc' := 35) rfl (hb hby d1_28) rfl (feq hc7).2 (by decide) (by decide) k) ?_
          show Go _ _ _ _ _ _ _ s₁ (mkF m 35 #[.val (.int p0)] [])
          refine Go.st (fun _ k => XS.iloadN X0.here hx rfl (hb hby d1_35) rfl k) ?_
          show Go _ _ _ _ _ _ _ s₁ (mkF m 36 #[.val (.int p0)] [(.int p0)])
          refine Go.st (fun _ k => XS.iconst X0.here hx rfl (hb hby d1_36) k) ?_
          show Go _ _ _ _ _ _ _ s₁ (mkF m 37 #[.val (.int p0)] [(.int (4 : Int32)), (.int p0)])
          by_cases hc9 : p0 = (4 : Int32)
          · refine Go.st (fun _ k => XS.icmpNo X0.here hx rfl (hb hby d1_37) rfl (teq hc9).2 k) ?_
            show Go _ _ _ _ _ _ _ s₁ (mkF m 40 #[.val (.int p0)] [])
            obtain ⟨T10, X10, e10, st10⟩ := getS2 X0 hx hZ hown (host := "") (Or.inl (hw _ (List.mem_of_getElem? (i := 29) rfl))) Via.refl e0 S_NO_OCCUPATION (g := (mkF m 40 #[.val (.int p0)] [])) rfl (hb hby d1_40)
            refine Go.st st10 ?_
            show Go _ _ _ _ _ _ _ T10 (mkF m 43 #[.val (.int p0)] [(.ref w_NO_OCCUPATION)])
            refine Go.ret X10 hlk (v := some (.ref w_NO_OCCUPATION)) (fun h => by rw [hret] at h; cases h) (fun fs hr => retOut X10 hx (i := .areturn) hret rfl (Or.inr (Or.inr (Or.inr (Or.inr ⟨rfl, rfl, rfl⟩)))) (hb hby d1_43) hr) ?_ (by decide) (by decide)
            show Q1 Z p0 w_PUPIL w_FULL_TIME w_PART_TIME w_STUDENT w_NO_OCCUPATION w_RETIRED h0 n0 (some (.ref w_NO_OCCUPATION)) T10.heap _
            rw [e10]
            refine ⟨?_, N0, rfl⟩
            unfold val_1
            first | rfl | rw [if_neg hc1, if_neg hc3, if_neg hc5, if_neg hc7, if_pos hc9]
          · refine Go.st (fun _ k => XS.icmpYes X0.here hx rfl (pc0 := 37) (pc' := 44) rfl (hb hby d1_37) rfl (feq hc9).2 (by decide) (by decide) k) ?_
            show Go _ _ _ _ _ _ _ s₁ (mkF m 44 #[.val (.int p0)] [])
            obtain ⟨T11, X11, e11, st11⟩ := getS2 X0 hx hZ hown (host := "") (Or.inl (hw _ (List.mem_of_getElem? (i := 27) rfl))) Via.refl e0 S_RETIRED (g := (mkF m 44 #[.val (.int p0)] [])) rfl (hb hby d1_44)
            refine Go.st st11 ?_
            show Go _ _ _ _ _ _ _ T11 (mkF m 47 #[.val (.int p0)] [(.ref w_RETIRED)])
            refine Go.ret X11 hlk (v := some (.ref w_RETIRED)) (fun h => by rw [hret] at h; cases h) (fun fs hr => retOut X11 hx (i := .areturn) hret rfl (Or.inr (Or.inr (Or.inr (Or.inr ⟨rfl, rfl, rfl⟩)))) (hb hby d1_47) hr) ?_ (by decide) (by decide)
            show Q1 Z p0 w_PUPIL w_FULL_TIME w_PART_TIME w_STUDENT w_NO_OCCUPATION w_RETIRED h0 n0 (some (.ref w_RETIRED)) T11.heap _
            rw [e11]
            refine ⟨?_, N0, rfl⟩
            unfold val_1
            first | rfl | rw [if_neg hc1, if_neg hc3, if_neg hc5, if_neg hc7, if_neg hc9]
theorem d2_0 : decode prog_8_method_6_code 0 = .ok (.aload_n 0, 1) := by decide +kernel
theorem d2_1 : decode prog_8_method_6_code 1 = .ok (.getstatic 3, 3) := by decide +kernel
theorem d2_4 : decode prog_8_method_6_code 4 = .ok (.if_acmp .eq 7, 3) := by decide +kernel
theorem d2_7 : decode prog_8_method_6_code 7 = .ok (.iconst 1, 1) := by decide +kernel
theorem d2_8 : decode prog_8_method_6_code 8 = .ok (.goto 4, 3) := by decide +kernel
theorem d2_11 : decode prog_8_method_6_code 11 = .ok (.iconst 0, 1) := by decide +kernel
theorem d2_12 : decode prog_8_method_6_code 12 = .ok (.ireturn, 1) := by decide +kernel
def val_2 (o0 : Addr) (w_PUPIL : Addr) : Int32 := (if o0 = w_PUPIL then (0 : Int32) else (1 : Int32))
theorem ef_2 (m : MethodId) (o0 : Addr) : entryFrame m #[(.ref o0)] 1 = mkF m 0 #[.val (.ref o0)] [] := by first | (simp [entryFrame, mkF, argsToLocals, Value.category]; done) | rfl
def Q2 (Z : State) (o0 : Addr) (w_PUPIL : Addr) (h0 : Heap) (n0 : Nat) (v : Option Value) (h : Heap) (L : List Loc) : Prop := v = some (.int (val_2 o0 w_PUPIL)) ∧ Fr n0 L ∧ h = h0
set_option maxRecDepth 65536 in
set_option maxHeartbeats 40000000 in
theorem rm2 (l : Launch) (Z : State) (a0 : Array Value) (hw : ∀ d ∈ tables_1, d.before a0 Z = true) (ws : List Jvm.Cond) (o0 : Addr) (w_PUPIL : Addr) (h0 : Heap) (n0 : Nat) (Z0 : n0 ≤ h0.size) (S_PUPIL : Sta Z h0 "com/example/nesenbach/nesenbach/city/PersonGroup" "PUPIL" "Lcom/example/nesenbach/nesenbach/city/PersonGroup;" (.ref w_PUPIL)) :
    MetFree l (⟨"com/example/nesenbach/nesenbach/city/PersonGroup", "holdsLicence", "()Z"⟩ : MethodName) (head1 (Jvm.Cond.code (⟨"com/example/nesenbach/nesenbach/city/PersonGroup", "holdsLicence", "()Z"⟩ : MethodName) prog_8_method_6_code 1 (some .boolean) :: ws) ({ frames := 0, cells := 0, slots := 0, locals := 0 } : Room)) (fun a U => a = #[(.ref o0)] ∧ Z.Warmed39 U.vm ∧ U.heap = h0) (fun _ _ _ _ _ => True) (fun _ U o U' => ∃ v L, o = .returned v ∧ Q2 Z o0 w_PUPIL h0 n0 v U'.heap L ∧ FrameEnd U o U' L ({ frames := 0, cells := 0, slots := 0, locals := 0 } : Room).cells ({ frames := 0, cells := 0, slots := 0, locals := 0 } : Room).slots) := by
  refine MetFree.of_bodySF (plainFor_of_name pn_com_example_nesenbach_nesenbach_city_PersonGroup) hisR ?_
  intro p e s m args below meth c s₁ Bd hml0 hP hK
  obtain ⟨rfl, hZ, hh⟩ := hP
  have hx := Bd.exec
  have hby := Bd.bytes
  have hlk : meth.locks = false := BodyLoose.notSynchronized Bd
  have hret := Bd.returns
  have hml : c.maxLocals = 1 := hml0
  have hown : s.vm.findClass "com/example/nesenbach/nesenbach/city/PersonGroup" = some m.cls := findClass_of_methodNamed Bd.named
  have hnm := (name_of_methodNamed Bd.named Bd.method).1
  have X0 : Stand p l e ({ frames := 0, cells := 0, slots := 0, locals := 0 } : Room) s m #[(.ref o0)] below meth c s₁ [] 0 0 := Stand.of_body Bd
  have e0 : s₁.heap = h0 := by rw [← hh, Bd.state]; rfl
  have N0 := Fr.nil n0
  refine Go.start (Q := Q2 Z o0 w_PUPIL h0 n0) (ef_2 m o0) ?_
  show Go _ _ _ _ _ _ _ s₁ (mkF m 0 #[.val (.ref o0)] [])
  refine Go.st (fun _ k => XS.aloadN X0.here hx rfl (hb hby d2_0) rfl rfl k) ?_
  show Go _ _ _ _ _ _ _ s₁ (mkF m 1 #[.val (.ref o0)] [(.ref o0)])
  obtain ⟨T1, X1, e1, st1⟩ := getS2 X0 hx hZ hown (host := "") (Or.inl (hw _ (List.mem_of_getElem? (i := 13) rfl))) Via.refl e0 S_PUPIL (g := (mkF m 1 #[.val (.ref o0)] [(.ref o0)])) rfl (hb hby d2_1)
  refine Go.st st1 ?_
  show Go _ _ _ _ _ _ _ T1 (mkF m 4 #[.val (.ref o0)] [(.ref w_PUPIL), (.ref o0)])
  by_cases ha2 : o0 = w_PUPIL
  · refine Go.st (fun _ k => Jvm.RoadKit.acmp (g := (mkF m 4 #[.val (.ref o0)] [(.ref w_PUPIL), (.ref o0)])) X1 hx rfl rfl rfl (pc0 := 4) (pc' := 11) (same := true) rfl (hb hby d2_4) rfl (decide_eq_true (congrArg Value.ref ha2)) (by decide) (by decide) k) ?_
    show Go _ _ _ _ _ _ _ T1 (mkF m 11 #[.val (.ref o0)] [])
    refine Go.st (fun _ k => XS.iconst X1.here hx rfl (hb hby d2_11) k) ?_
    show Go _ _ _ _ _ _ _ T1 (mkF m 12 #[.val (.ref o0)] [(.int (0 : Int32))])
    refine Go.ret X1 hlk (v := some (.int (0 : Int32))) (fun h => by rw [hret] at h; cases h) (fun fs hr => retN X1 hx (t := .boolean) hret (by simp) (hb hby d2_12) hr) ?_ (by decide) (by decide)
    show Q2 Z o0 w_PUPIL h0 n0 (some (.int (0 : Int32))) T1.heap _
    rw [e1]
    refine ⟨?_, N0, rfl⟩
    unfold val_2
    first | rfl | rw [if_pos ha2]
  · refine Go.st (fun _ k => Jvm.RoadKit.acmp (g := (mkF m 4 #[.val (.ref o0)] [(.ref w_PUPIL), (.ref o0)])) X1 hx rfl rfl rfl (pc0 := 4) (pc' := 7) (same := false) rfl (hb hby d2_4) rfl (decide_eq_false fun q => ha2 (Value.ref.inj q)) (by decide) (by decide) k) ?_
    show Go _ _ _ _ _ _ _ T1 (mkF m 7 #[.val (.ref o0)] [])
    refine Go.st (fun _ k => XS.iconst X1.here hx rfl (hb hby d2_7) k) ?_
    show Go _ _ _ _ _ _ _ T1 (mkF m 8 #[.val (.ref o0)] [(.int (1 : Int32))])
    refine Go.st (fun _ k => XS.goto X1.here hx rfl (pc0 := 8) (pc' := 12) rfl (hb hby d2_8) (by decide) (by decide) k) ?_
    show Go _ _ _ _ _ _ _ T1 (mkF m 12 #[.val (.ref o0)] [(.int (1 : Int32))])
    refine Go.ret X1 hlk (v := some (.int (1 : Int32))) (fun h => by rw [hret] at h; cases h) (fun fs hr => retN X1 hx (t := .boolean) hret (by simp) (hb hby d2_12) hr) ?_ (by decide) (by decide)
    show Q2 Z o0 w_PUPIL h0 n0 (some (.int (1 : Int32))) T1.heap _
    rw [e1]
    refine ⟨?_, N0, rfl⟩
    unfold val_2
    first | rfl | rw [if_neg ha2]
theorem d3_0 : decode prog_8_method_5_code 0 = .ok (.aload_n 0, 1) := by decide +kernel
theorem d3_1 : decode prog_8_method_5_code 1 = .ok (.getfield 48, 3) := by decide +kernel
theorem d3_4 : decode prog_8_method_5_code 4 = .ok (.ireturn, 1) := by decide +kernel
def val_3 (o0 : Addr) (ag : Int32) : Int32 := ag
theorem ef_3 (m : MethodId) (o0 : Addr) : entryFrame m #[(.ref o0)] 1 = mkF m 0 #[.val (.ref o0)] [] := by first | (simp [entryFrame, mkF, argsToLocals, Value.category]; done) | rfl
def Q3 (Z : State) (o0 : Addr) (ag : Int32) (h0 : Heap) (n0 : Nat) (v : Option Value) (h : Heap) (L : List Loc) : Prop := v = some (.int (val_3 o0 ag)) ∧ Fr n0 L ∧ h = h0
set_option maxRecDepth 65536 in
set_option maxHeartbeats 40000000 in
theorem rm3 (l : Launch) (Z : State) (a0 : Array Value) (hw : ∀ d ∈ tables_1, d.before a0 Z = true) (ws : List Jvm.Cond) (o0 : Addr) (ag : Int32) (h0 : Heap) (n0 : Nat) (Z0 : n0 ≤ h0.size) (F_age_o0 : Fld Z h0 o0 "com/example/nesenbach/nesenbach/city/PersonGroup" "age" "I" (.int ag)) :
    MetFree l (⟨"com/example/nesenbach/nesenbach/city/PersonGroup", "age", "()I"⟩ : MethodName) (head1 (Jvm.Cond.code (⟨"com/example/nesenbach/nesenbach/city/PersonGroup", "age", "()I"⟩ : MethodName) prog_8_method_5_code 1 (some .int) :: ws) ({ frames := 0, cells := 0, slots := 0, locals := 0 } : Room)) (fun a U => a = #[(.ref o0)] ∧ Z.Warmed39 U.vm ∧ U.heap = h0) (fun _ _ _ _ _ => True) (fun _ U o U' => ∃ v L, o = .returned v ∧ Q3 Z o0 ag h0 n0 v U'.heap L ∧ FrameEnd U o U' L ({ frames := 0, cells := 0, slots := 0, locals := 0 } : Room).cells ({ frames := 0, cells := 0, slots := 0, locals := 0 } : Room).slots) := by
  refine MetFree.of_bodySF (plainFor_of_name pn_com_example_nesenbach_nesenbach_city_PersonGroup) hisR ?_
  intro p e s m args below meth c s₁ Bd hml0 hP hK
  obtain ⟨rfl, hZ, hh⟩ := hP
  have hx := Bd.exec
  have hby := Bd.bytes
  have hlk : meth.locks = false := BodyLoose.notSynchronized Bd
  have hret := Bd.returns
  have hml : c.maxLocals = 1 := hml0
  have hown : s.vm.findClass "com/example/nesenbach/nesenbach/city/PersonGroup" = some m.cls := findClass_of_methodNamed Bd.named
  have hnm := (name_of_methodNamed Bd.named Bd.method).1
  have X0 : Stand p l e ({ frames := 0, cells := 0, slots := 0, locals := 0 } : Room) s m #[(.ref o0)] below meth c s₁ [] 0 0 := Stand.of_body Bd
  have e0 : s₁.heap = h0 := by rw [← hh, Bd.state]; rfl
  have N0 := Fr.nil n0
  refine Go.start (Q := Q3 Z o0 ag h0 n0) (ef_3 m o0) ?_
  show Go _ _ _ _ _ _ _ s₁ (mkF m 0 #[.val (.ref o0)] [])
  refine Go.st (fun _ k => XS.aloadN X0.here hx rfl (hb hby d3_0) rfl rfl k) ?_
  show Go _ _ _ _ _ _ _ s₁ (mkF m 1 #[.val (.ref o0)] [(.ref o0)])
  obtain ⟨T1, X1, e1, st1⟩ := getF X0 hx hZ hown (host := "") (Or.inl (hw _ (List.mem_of_getElem? (i := 19) rfl))) Via.refl e0 F_age_o0 (g := (mkF m 1 #[.val (.ref o0)] [(.ref o0)])) rfl rfl (hb hby d3_1)
  refine Go.st st1 ?_
  show Go _ _ _ _ _ _ _ T1 (mkF m 4 #[.val (.ref o0)] [(.int ag)])
  refine Go.ret X1 hlk (v := some (.int ag)) (fun h => by rw [hret] at h; cases h) (fun fs hr => retOut X1 hx (t := .int) (i := .ireturn) hret rfl (Or.inl ⟨rfl, Or.inl rfl, _, rfl⟩) (hb hby d3_4) hr) ?_ (by decide) (by decide)
  show Q3 Z o0 ag h0 n0 (some (.int ag)) T1.heap _
  rw [e1]
  refine ⟨?_, N0, rfl⟩
  unfold val_3
  rfl
theorem ef_0 (m : MethodId) (p0 : Int32) : entryFrame m #[(.int p0)] maxLocals = mkF m 0 #[.val (.int p0), .unset, .unset, .unset, .unset, .unset] [] := by first | (simp [entryFrame, mkF, argsToLocals, Value.category, maxLocals]; done) | rfl
def Q0 (Z : State) (p0 : Int32) (w_PUPIL : Addr) (w_STUDENT : Addr) (w_PART_TIME : Addr) (w_FULL_TIME : Addr) (w_RETIRED : Addr) (w_NO_OCCUPATION : Addr) (h0 : Heap) (n0 : Nat) (v : Option Value) (h : Heap) (L : List Loc) : Prop := v = some (.int 1) ∧ Fr n0 L
set_option maxRecDepth 65536 in
set_option maxHeartbeats 40000000 in
theorem rm0 (l : Launch) (Z : State) (a0 : Array Value) (hw : ∀ d ∈ tables_1, d.before a0 Z = true) (ws : List Jvm.Cond) (p0 : Int32) (w_PUPIL : Addr) (w_STUDENT : Addr) (w_PART_TIME : Addr) (w_FULL_TIME : Addr) (w_RETIRED : Addr) (w_NO_OCCUPATION : Addr) (h0 : Heap) (n0 : Nat) (Z0 : n0 ≤ h0.size) (S_PUPIL : Sta Z h0 "com/example/nesenbach/nesenbach/city/PersonGroup" "PUPIL" "Lcom/example/nesenbach/nesenbach/city/PersonGroup;" (.ref w_PUPIL)) (E_PUPIL : Exa Z h0 w_PUPIL "com/example/nesenbach/nesenbach/city/PersonGroup") (F_PUPIL_age : Fld Z h0 w_PUPIL "com/example/nesenbach/nesenbach/city/PersonGroup" "age" "I" (.int (12 : Int32))) (S_STUDENT : Sta Z h0 "com/example/nesenbach/nesenbach/city/PersonGroup" "STUDENT" "Lcom/example/nesenbach/nesenbach/city/PersonGroup;" (.ref w_STUDENT)) (E_STUDENT : Exa Z h0 w_STUDENT "com/example/nesenbach/nesenbach/city/PersonGroup") (F_STUDENT_ordinal : Fld Z h0 w_STUDENT "java/lang/Enum" "ordinal" "I" (.int (3 : Int32))) (F_PUPIL_ordinal : Fld Z h0 w_PUPIL "java/lang/Enum" "ordinal" "I" (.int (0 : Int32))) (F_STUDENT_age : Fld Z h0 w_STUDENT "com/example/nesenbach/nesenbach/city/PersonGroup" "age" "I" (.int (22 : Int32))) (S_PART_TIME : Sta Z h0 "com/example/nesenbach/nesenbach/city/PersonGroup" "PART_TIME" "Lcom/example/nesenbach/nesenbach/city/PersonGroup;" (.ref w_PART_TIME)) (E_PART_TIME : Exa Z h0 w_PART_TIME "com/example/nesenbach/nesenbach/city/PersonGroup") (F_PART_TIME_ordinal : Fld Z h0 w_PART_TIME "java/lang/Enum" "ordinal" "I" (.int (2 : Int32))) (F_PART_TIME_age : Fld Z h0 w_PART_TIME "com/example/nesenbach/nesenbach/city/PersonGroup" "age" "I" (.int (40 : Int32))) (S_FULL_TIME : Sta Z h0 "com/example/nesenbach/nesenbach/city/PersonGroup" "FULL_TIME" "Lcom/example/nesenbach/nesenbach/city/PersonGroup;" (.ref w_FULL_TIME)) (E_FULL_TIME : Exa Z h0 w_FULL_TIME "com/example/nesenbach/nesenbach/city/PersonGroup") (F_FULL_TIME_ordinal : Fld Z h0 w_FULL_TIME "java/lang/Enum" "ordinal" "I" (.int (1 : Int32))) (F_FULL_TIME_age : Fld Z h0 w_FULL_TIME "com/example/nesenbach/nesenbach/city/PersonGroup" "age" "I" (.int (40 : Int32))) (S_RETIRED : Sta Z h0 "com/example/nesenbach/nesenbach/city/PersonGroup" "RETIRED" "Lcom/example/nesenbach/nesenbach/city/PersonGroup;" (.ref w_RETIRED)) (E_RETIRED : Exa Z h0 w_RETIRED "com/example/nesenbach/nesenbach/city/PersonGroup") (F_RETIRED_ordinal : Fld Z h0 w_RETIRED "java/lang/Enum" "ordinal" "I" (.int (5 : Int32))) (F_RETIRED_age : Fld Z h0 w_RETIRED "com/example/nesenbach/nesenbach/city/PersonGroup" "age" "I" (.int (72 : Int32))) (S_NO_OCCUPATION : Sta Z h0 "com/example/nesenbach/nesenbach/city/PersonGroup" "NO_OCCUPATION" "Lcom/example/nesenbach/nesenbach/city/PersonGroup;" (.ref w_NO_OCCUPATION)) (E_NO_OCCUPATION : Exa Z h0 w_NO_OCCUPATION "com/example/nesenbach/nesenbach/city/PersonGroup") (F_NO_OCCUPATION_ordinal : Fld Z h0 w_NO_OCCUPATION "java/lang/Enum" "ordinal" "I" (.int (4 : Int32))) (F_NO_OCCUPATION_age : Fld Z h0 w_NO_OCCUPATION "com/example/nesenbach/nesenbach/city/PersonGroup" "age" "I" (.int (40 : Int32))) :
    MetFree l x (head1 (Jvm.Cond.code x code maxLocals ret :: ws) room_1) (fun a U => a = #[(.int p0)] ∧ Z.Warmed39 U.vm ∧ U.heap = h0) (fun _ _ _ _ _ => True) (fun _ U o U' => ∃ v L, o = .returned v ∧ Q0 Z p0 w_PUPIL w_STUDENT w_PART_TIME w_FULL_TIME w_RETIRED w_NO_OCCUPATION h0 n0 v U'.heap L ∧ FrameEnd U o U' L room_1.cells room_1.slots) := by
  refine MetFree.of_bodySF (plainFor_of_name pn_com_example_nesenbach_nesenbach_city_PersonGroupHoldsLicencePinLaw) hisR ?_
  intro p e s m args below meth c s₁ Bd hml0 hP hK
  obtain ⟨rfl, hZ, hh⟩ := hP
  have hx := Bd.exec
  have hby := Bd.bytes
  have hlk : meth.locks = false := BodyLoose.notSynchronized Bd
  have hret := Bd.returns
  have hml : c.maxLocals = 6 := hml0
  have hown : s.vm.findClass "com/example/nesenbach/nesenbach/city/PersonGroupHoldsLicencePinLaw" = some m.cls := findClass_of_methodNamed Bd.named
  have hnm := (name_of_methodNamed Bd.named Bd.method).1
  have X0 : Stand p l e room_1 s m #[(.int p0)] below meth c s₁ [] 0 0 := Stand.of_body Bd
  have e0 : s₁.heap = h0 := by rw [← hh, Bd.state]; rfl
  have N0 := Fr.nil n0
  refine Go.start (Q := Q0 Z p0 w_PUPIL w_STUDENT w_PART_TIME w_FULL_TIME w_RETIRED w_NO_OCCUPATION h0 n0) (ef_0 m p0) ?_
  have ne_w_PUPIL_w_STUDENT : w_PUPIL ≠ w_STUDENT := Fld.ne F_PUPIL_age F_STUDENT_age (by simp)
  have ne_w_PUPIL_w_PART_TIME : w_PUPIL ≠ w_PART_TIME := Fld.ne F_PUPIL_age F_PART_TIME_age (by simp)
  have ne_w_PUPIL_w_FULL_TIME : w_PUPIL ≠ w_FULL_TIME := Fld.ne F_PUPIL_age F_FULL_TIME_age (by simp)
  have ne_w_PUPIL_w_RETIRED : w_PUPIL ≠ w_RETIRED := Fld.ne F_PUPIL_age F_RETIRED_age (by simp)
  have ne_w_PUPIL_w_NO_OCCUPATION : w_PUPIL ≠ w_NO_OCCUPATION := Fld.ne F_PUPIL_age F_NO_OCCUPATION_age (by simp)
  have ne_w_STUDENT_w_PART_TIME : w_STUDENT ≠ w_PART_TIME := Fld.ne F_STUDENT_age F_PART_TIME_age (by simp)
  have ne_w_STUDENT_w_FULL_TIME : w_STUDENT ≠ w_FULL_TIME := Fld.ne F_STUDENT_age F_FULL_TIME_age (by simp)
  have ne_w_STUDENT_w_RETIRED : w_STUDENT ≠ w_RETIRED := Fld.ne F_STUDENT_age F_RETIRED_age (by simp)
  have ne_w_STUDENT_w_NO_OCCUPATION : w_STUDENT ≠ w_NO_OCCUPATION := Fld.ne F_STUDENT_age F_NO_OCCUPATION_age (by simp)
  have ne_w_PART_TIME_w_RETIRED : w_PART_TIME ≠ w_RETIRED := Fld.ne F_PART_TIME_age F_RETIRED_age (by simp)
  have ne_w_FULL_TIME_w_RETIRED : w_FULL_TIME ≠ w_RETIRED := Fld.ne F_FULL_TIME_age F_RETIRED_age (by simp)
  have ne_w_RETIRED_w_NO_OCCUPATION : w_RETIRED ≠ w_NO_OCCUPATION := Fld.ne F_RETIRED_age F_NO_OCCUPATION_age (by simp)
  have ne_w_STUDENT_w_PUPIL : w_STUDENT ≠ w_PUPIL := Fld.ne F_STUDENT_ordinal F_PUPIL_ordinal (by simp)
  have ne_w_PART_TIME_w_FULL_TIME : w_PART_TIME ≠ w_FULL_TIME := Fld.ne F_PART_TIME_ordinal F_FULL_TIME_ordinal (by simp)
  have ne_w_PART_TIME_w_NO_OCCUPATION : w_PART_TIME ≠ w_NO_OCCUPATION := Fld.ne F_PART_TIME_ordinal F_NO_OCCUPATION_ordinal (by simp)
  have ne_w_FULL_TIME_w_NO_OCCUPATION : w_FULL_TIME ≠ w_NO_OCCUPATION := Fld.ne F_FULL_TIME_ordinal F_NO_OCCUPATION_ordinal (by simp)
  show Go _ _ _ _ _ _ _ s₁ (mkF m 0 #[.val (.int p0), .unset, .unset, .unset, .unset, .unset] [])
  refine Go.st (fun _ k => XS.iloadN X0.here hx rfl (hb hby at_0) rfl k) ?_
  show Go _ _ _ _ _ _ _ s₁ (mkF m 1 #[.val (.int p0), .unset, .unset, .unset, .unset, .unset] [(.int p0)])
  refine Go.st (fun _ k => Jvm.Stand.ldcI X0 hx hown (mvT hZ (hw _ (List.mem_of_getElem? (i := 0) rfl))) rfl (hb hby at_1) k) ?_
  show Go _ _ _ _ _ _ _ s₁ (mkF m 3 #[.val (.int p0), .unset, .unset, .unset, .unset, .unset] [(.int (2147483647 : Int32)), (.int p0)])
  refine Go.st (fun _ k => XS.iand X0.here hx rfl (hb hby at_3) rfl k) ?_
  show Go _ _ _ _ _ _ _ s₁ (mkF m 4 #[.val (.int p0), .unset, .unset, .unset, .unset, .unset] [(.int (p0 &&& (2147483647 : Int32)))])
  refine Go.st (fun _ k => XS.bipush X0.here hx rfl (hb hby at_4) k) ?_
  show Go _ _ _ _ _ _ _ s₁ (mkF m 6 #[.val (.int p0), .unset, .unset, .unset, .unset, .unset] [(.int (6 : Int32)), (.int (p0 &&& (2147483647 : Int32)))])
  refine Go.st (fun _ k => iremM (g := (mkF m 6 #[.val (.int p0), .unset, .unset, .unset, .unset, .unset] [(.int (6 : Int32)), (.int (p0 &&& (2147483647 : Int32)))])) X0 hx rfl (hb hby at_6) rfl (by decide) k) ?_
  show Go _ _ _ _ _ _ _ s₁ (mkF m 7 #[.val (.int p0), .unset, .unset, .unset, .unset, .unset] [(.int ((p0 &&& (2147483647 : Int32)) % (6 : Int32)))])
  rcases own_mod6 p0 with hk1 | hk1 | hk1 | hk1 | hk1 | hk1
  · rw [hk1]
    show Go _ _ _ _ _ _ _ s₁ (mkF m 7 #[.val (.int p0), .unset, .unset, .unset, .unset, .unset] [(.int (0 : Int32))])
    refine Go.st (fun _ k => XS.istoreN X0.here hx rfl (hb hby at_7) rfl (l' := #[.val (.int p0), .val (.int (0 : Int32)), .unset, .unset, .unset, .unset]) rfl k) ?_
    show Go _ _ _ _ _ _ _ s₁ (mkF m 8 #[.val (.int p0), .val (.int (0 : Int32)), .unset, .unset, .unset, .unset] [])
    refine Go.st (fun _ k => XS.iloadN X0.here hx rfl (hb hby at_8) rfl k) ?_
    show Go _ _ _ _ _ _ _ s₁ (mkF m 9 #[.val (.int p0), .val (.int (0 : Int32)), .unset, .unset, .unset, .unset] [(.int (0 : Int32))])
    obtain ⟨_, _, ⟨T2, L2, k2, n2⟩, -, X2, ⟨Lc2, hQ2, l2, y2, z2⟩, st2⟩ := Jvm.LawKit.callS X0 hx (y := (⟨"com/example/nesenbach/nesenbach/city/PersonGroupHoldsLicencePinLaw", "pick", "(I)Lcom/example/nesenbach/nesenbach/city/PersonGroup;"⟩ : MethodName)) hown (mvT hZ (hw _ (List.mem_of_getElem? (i := 1) rfl))) (mvT hZ (hw _ (List.mem_of_getElem? (i := 2) rfl))) (mvT hZ (hw _ (List.mem_of_getElem? (i := 3) rfl))) (mvT hZ (hw _ (List.mem_of_getElem? (i := 4) rfl))) (by decide) (backOf (W := 0) (rm1 l Z a0 hw [] (0 : Int32) w_PUPIL w_FULL_TIME w_PART_TIME w_STUDENT w_NO_OCCUPATION w_RETIRED h0 n0 Z0 S_PUPIL S_FULL_TIME S_PART_TIME S_STUDENT S_NO_OCCUPATION S_RETIRED) hZ (hw _ (List.mem_of_getElem? (i := 4) rfl)) (hw _ (List.mem_of_getElem? (i := 3) rfl)) (by decide) (by decide)) (g := (mkF m 9 #[.val (.int p0), .val (.int (0 : Int32)), .unset, .unset, .unset, .unset] [(.int (0 : Int32))])) rfl (by rw [hml]; rfl) (argsL := [(.int (0 : Int32))]) (rest := []) (lenOf pd_0 rfl) rfl (by show 2 * 0 + _ ≤ _; exact Nat.le_of_eq rfl) (hb hby at_9) (fun _ _ => ⟨rfl, e0, (by decide : 0 + 0 ≤ _), (by decide : 0 + 0 ≤ _)⟩)
    dsimp only [Pt.U, Pt.locs, Pt.cells, Pt.slots] at X2 l2 y2 z2 st2 hQ2
    subst l2 y2 z2
    obtain ⟨rfl, N2q, e2⟩ := hQ2
    have N2 := Fr.app N0 N2q
    refine Go.st st2 ?_
    show Go _ _ _ _ _ _ _ T2 (mkF m 12 #[.val (.int p0), .val (.int (0 : Int32)), .unset, .unset, .unset, .unset] [(.ref (val_1 (0 : Int32) w_PUPIL w_FULL_TIME w_PART_TIME w_STUDENT w_NO_OCCUPATION w_RETIRED))])
    rw [show (val_1 (0 : Int32) w_PUPIL w_FULL_TIME w_PART_TIME w_STUDENT w_NO_OCCUPATION w_RETIRED) = w_PUPIL from by unfold val_1; rw [if_pos (by decide +kernel : (0 : Int32) = (0 : Int32))]]
    show Go _ _ _ _ _ _ _ T2 (mkF m 12 #[.val (.int p0), .val (.int (0 : Int32)), .unset, .unset, .unset, .unset] [(.ref w_PUPIL)])
    refine Go.st (fun _ k => XS.astoreN X2.here hx rfl (hb hby at_12) rfl rfl (l' := #[.val (.int p0), .val (.int (0 : Int32)), .val (.ref w_PUPIL), .unset, .unset, .unset]) rfl k) ?_
    show Go _ _ _ _ _ _ _ T2 (mkF m 13 #[.val (.int p0), .val (.int (0 : Int32)), .val (.ref w_PUPIL), .unset, .unset, .unset] [])
    refine Go.st (fun _ k => XS.aloadN X2.here hx rfl (hb hby at_13) rfl rfl k) ?_
    show Go _ _ _ _ _ _ _ T2 (mkF m 14 #[.val (.int p0), .val (.int (0 : Int32)), .val (.ref w_PUPIL), .unset, .unset, .unset] [(.ref w_PUPIL)])
    obtain ⟨cq3, kq3, q3a, q3b, q3c⟩ := isOf hZ e2 E_PUPIL
    obtain ⟨_, _, ⟨T3, L3, k3, n3⟩, -, X3, ⟨Lc3, hQ3, l3, y3, z3⟩, st3⟩ := X2.virtualBack hx (y := (⟨"com/example/nesenbach/nesenbach/city/PersonGroup", "holdsLicence", "()Z"⟩ : MethodName)) (z := (⟨"com/example/nesenbach/nesenbach/city/PersonGroup", "holdsLicence", "()Z"⟩ : MethodName)) hown (mvT hZ (hw _ (List.mem_of_getElem? (i := 8) rfl))) (mvT hZ (hw _ (List.mem_of_getElem? (i := 9) rfl))) (notFace_of_selects (args := #[]) (mvT hZ (hw _ (List.mem_of_getElem? (i := 11) rfl)))) (mvT hZ (hw _ (List.mem_of_getElem? (i := 11) rfl))) (mvT hZ (hw _ (List.mem_of_getElem? (i := 10) rfl))) (by decide) (backOf (W := 0) (rm2 l Z a0 hw [] w_PUPIL w_PUPIL h0 n0 Z0 S_PUPIL) hZ (hw _ (List.mem_of_getElem? (i := 12) rfl)) (hw _ (List.mem_of_getElem? (i := 6) rfl)) (by decide) (by decide)) q3a q3c (g := (mkF m 14 #[.val (.int p0), .val (.int (0 : Int32)), .val (.ref w_PUPIL), .unset, .unset, .unset] [(.ref w_PUPIL)])) rfl (by rw [hml]; rfl) (Steps.refl _) (argsL := []) (rest := []) (lenOf pd_1 rfl) rfl (by show 2 * 0 + _ ≤ _; exact Nat.le_of_eq rfl) (hb hby at_14) (fun _ _ => ⟨rfl, e2, (by decide : 0 + 0 ≤ _), (by decide : 0 + 0 ≤ _)⟩)
    dsimp only [Pt.U, Pt.locs, Pt.cells, Pt.slots] at X3 l3 y3 z3 st3 hQ3
    subst l3 y3 z3
    obtain ⟨rfl, N3q, e3⟩ := hQ3
    have N3 := Fr.app N2 N3q
    refine Go.st (fun _ k => st3.trans k) ?_
    show Go _ _ _ _ _ _ _ T3 (mkF m 17 #[.val (.int p0), .val (.int (0 : Int32)), .val (.ref w_PUPIL), .unset, .unset, .unset] [(.int (val_2 w_PUPIL w_PUPIL))])
    rw [show (val_2 w_PUPIL w_PUPIL) = (0 : Int32) from by unfold val_2; rw [if_pos rfl]]
    show Go _ _ _ _ _ _ _ T3 (mkF m 17 #[.val (.int p0), .val (.int (0 : Int32)), .val (.ref w_PUPIL), .unset, .unset, .unset] [(.int (0 : Int32))])
    refine Go.st (fun _ k => XS.istoreN X3.here hx rfl (hb hby at_17) rfl (l' := #[.val (.int p0), .val (.int (0 : Int32)), .val (.ref w_PUPIL), .val (.int (0 : Int32)), .unset, .unset]) rfl k) ?_
    show Go _ _ _ _ _ _ _ T3 (mkF m 18 #[.val (.int p0), .val (.int (0 : Int32)), .val (.ref w_PUPIL), .val (.int (0 : Int32)), .unset, .unset] [])
    refine Go.st (fun _ k => XS.iloadN X3.here hx rfl (hb hby at_18) rfl k) ?_
    show Go _ _ _ _ _ _ _ T3 (mkF m 19 #[.val (.int p0), .val (.int (0 : Int32)), .val (.ref w_PUPIL), .val (.int (0 : Int32)), .unset, .unset] [(.int (0 : Int32))])
    refine Go.st (fun _ k => XS.ifYes X3.here hx rfl (pc0 := 19) (pc' := 26) rfl (hb hby at_19) rfl ((if0 _ _).trans (teq (by decide : (0 : Int32) = (0 : Int32))).1) (by decide) (by decide) k) ?_
    show Go _ _ _ _ _ _ _ T3 (mkF m 26 #[.val (.int p0), .val (.int (0 : Int32)), .val (.ref w_PUPIL), .val (.int (0 : Int32)), .unset, .unset] [])
    refine Go.st (fun _ k => XS.iconst X3.here hx rfl (hb hby at_26) k) ?_
    show Go _ _ _ _ _ _ _ T3 (mkF m 27 #[.val (.int p0), .val (.int (0 : Int32)), .val (.ref w_PUPIL), .val (.int (0 : Int32)), .unset, .unset] [(.int (0 : Int32))])
    refine Go.st (fun _ k => XS.istore X3.here hx rfl (hb hby at_27) rfl (l' := #[.val (.int p0), .val (.int (0 : Int32)), .val (.ref w_PUPIL), .val (.int (0 : Int32)), .val (.int (0 : Int32)), .unset]) rfl k) ?_
    show Go _ _ _ _ _ _ _ T3 (mkF m 29 #[.val (.int p0), .val (.int (0 : Int32)), .val (.ref w_PUPIL), .val (.int (0 : Int32)), .val (.int (0 : Int32)), .unset] [])
    refine Go.st (fun _ k => XS.aloadN X3.here hx rfl (hb hby at_29) rfl rfl k) ?_
    show Go _ _ _ _ _ _ _ T3 (mkF m 30 #[.val (.int p0), .val (.int (0 : Int32)), .val (.ref w_PUPIL), .val (.int (0 : Int32)), .val (.int (0 : Int32)), .unset] [(.ref w_PUPIL)])
    obtain ⟨cq4, kq4, q4a, q4b, q4c⟩ := isOf hZ e3 E_PUPIL
    obtain ⟨_, _, ⟨T4, L4, k4, n4⟩, -, X4, ⟨Lc4, hQ4, l4, y4, z4⟩, st4⟩ := X3.virtualBack hx (y := (⟨"com/example/nesenbach/nesenbach/city/PersonGroup", "age", "()I"⟩ : MethodName)) (z := (⟨"com/example/nesenbach/nesenbach/city/PersonGroup", "age", "()I"⟩ : MethodName)) hown (mvT hZ (hw _ (List.mem_of_getElem? (i := 14) rfl))) (mvT hZ (hw _ (List.mem_of_getElem? (i := 15) rfl))) (notFace_of_selects (args := #[]) (mvT hZ (hw _ (List.mem_of_getElem? (i := 17) rfl)))) (mvT hZ (hw _ (List.mem_of_getElem? (i := 17) rfl))) (mvT hZ (hw _ (List.mem_of_getElem? (i := 16) rfl))) (by decide) (backOf (W := 0) (rm3 l Z a0 hw [] w_PUPIL (12 : Int32) h0 n0 Z0 F_PUPIL_age) hZ (hw _ (List.mem_of_getElem? (i := 18) rfl)) (hw _ (List.mem_of_getElem? (i := 6) rfl)) (by decide) (by decide)) q4a q4c (g := (mkF m 30 #[.val (.int p0), .val (.int (0 : Int32)), .val (.ref w_PUPIL), .val (.int (0 : Int32)), .val (.int (0 : Int32)), .unset] [(.ref w_PUPIL)])) rfl (by rw [hml]; rfl) (Steps.refl _) (argsL := []) (rest := []) (lenOf pd_2 rfl) rfl (by show 2 * 0 + _ ≤ _; exact Nat.le_of_eq rfl) (hb hby at_30) (fun _ _ => ⟨rfl, e3, (by decide : 0 + 0 ≤ _), (by decide : 0 + 0 ≤ _)⟩)
    dsimp only [Pt.U, Pt.locs, Pt.cells, Pt.slots] at X4 l4 y4 z4 st4 hQ4
    subst l4 y4 z4
    obtain ⟨rfl, N4q, e4⟩ := hQ4
    have N4 := Fr.app N3 N4q
    refine Go.st (fun _ k => st4.trans k) ?_
    show Go _ _ _ _ _ _ _ T4 (mkF m 33 #[.val (.int p0), .val (.int (0 : Int32)), .val (.ref w_PUPIL), .val (.int (0 : Int32)), .val (.int (0 : Int32)), .unset] [(.int (val_3 w_PUPIL (12 : Int32)))])
    rw [show (val_3 w_PUPIL (12 : Int32)) = (12 : Int32) from by unfold val_3; rfl]
    show Go _ _ _ _ _ _ _ T4 (mkF m 33 #[.val (.int p0), .val (.int (0 : Int32)), .val (.ref w_PUPIL), .val (.int (0 : Int32)), .val (.int (0 : Int32)), .unset] [(.int (12 : Int32))])
    refine Go.st (fun _ k => XS.bipush X4.here hx rfl (hb hby at_33) k) ?_
    show Go _ _ _ _ _ _ _ T4 (mkF m 35 #[.val (.int p0), .val (.int (0 : Int32)), .val (.ref w_PUPIL), .val (.int (0 : Int32)), .val (.int (0 : Int32)), .unset] [(.int (18 : Int32)), (.int (12 : Int32))])
    refine Go.st (fun _ k => XS.icmpYes X4.here hx rfl (pc0 := 35) (pc' := 42) rfl (hb hby at_35) rfl (tlt (by decide : (12 : Int32) < (18 : Int32))).1 (by decide) (by decide) k) ?_
    show Go _ _ _ _ _ _ _ T4 (mkF m 42 #[.val (.int p0), .val (.int (0 : Int32)), .val (.ref w_PUPIL), .val (.int (0 : Int32)), .val (.int (0 : Int32)), .unset] [])
    refine Go.st (fun _ k => XS.iconst X4.here hx rfl (hb hby at_42) k) ?_
    show Go _ _ _ _ _ _ _ T4 (mkF m 43 #[.val (.int p0), .val (.int (0 : Int32)), .val (.ref w_PUPIL), .val (.int (0 : Int32)), .val (.int (0 : Int32)), .unset] [(.int (0 : Int32))])
    refine Go.st (fun _ k => XS.istore X4.here hx rfl (hb hby at_43) rfl (l' := #[.val (.int p0), .val (.int (0 : Int32)), .val (.ref w_PUPIL), .val (.int (0 : Int32)), .val (.int (0 : Int32)), .val (.int (0 : Int32))]) rfl k) ?_
    show Go _ _ _ _ _ _ _ T4 (mkF m 45 #[.val (.int p0), .val (.int (0 : Int32)), .val (.ref w_PUPIL), .val (.int (0 : Int32)), .val (.int (0 : Int32)), .val (.int (0 : Int32))] [])
    refine Go.st (fun _ k => XS.iloadN X4.here hx rfl (hb hby at_45) rfl k) ?_
    show Go _ _ _ _ _ _ _ T4 (mkF m 46 #[.val (.int p0), .val (.int (0 : Int32)), .val (.ref w_PUPIL), .val (.int (0 : Int32)), .val (.int (0 : Int32)), .val (.int (0 : Int32))] [(.int (0 : Int32))])
    refine Go.st (fun _ k => XS.iload X4.here hx rfl (hb hby at_46) rfl k) ?_
    show Go _ _ _ _ _ _ _ T4 (mkF m 48 #[.val (.int p0), .val (.int (0 : Int32)), .val (.ref w_PUPIL), .val (.int (0 : Int32)), .val (.int (0 : Int32)), .val (.int (0 : Int32))] [(.int (0 : Int32)), (.int (0 : Int32))])
    refine Go.st (fun _ k => XS.icmpNo X4.here hx rfl (hb hby at_48) rfl (teq (by decide : (0 : Int32) = (0 : Int32))).2 k) ?_
    show Go _ _ _ _ _ _ _ T4 (mkF m 51 #[.val (.int p0), .val (.int (0 : Int32)), .val (.ref w_PUPIL), .val (.int (0 : Int32)), .val (.int (0 : Int32)), .val (.int (0 : Int32))] [])
    refine Go.st (fun _ k => XS.iloadN X4.here hx rfl (hb hby at_51) rfl k) ?_
    show Go _ _ _ _ _ _ _ T4 (mkF m 52 #[.val (.int p0), .val (.int (0 : Int32)), .val (.ref w_PUPIL), .val (.int (0 : Int32)), .val (.int (0 : Int32)), .val (.int (0 : Int32))] [(.int (0 : Int32))])
    refine Go.st (fun _ k => XS.iload X4.here hx rfl (hb hby at_52) rfl k) ?_
    show Go _ _ _ _ _ _ _ T4 (mkF m 54 #[.val (.int p0), .val (.int (0 : Int32)), .val (.ref w_PUPIL), .val (.int (0 : Int32)), .val (.int (0 : Int32)), .val (.int (0 : Int32))] [(.int (0 : Int32)), (.int (0 : Int32))])
    refine Go.st (fun _ k => XS.icmpNo X4.here hx rfl (hb hby at_54) rfl (teq (by decide : (0 : Int32) = (0 : Int32))).2 k) ?_
    show Go _ _ _ _ _ _ _ T4 (mkF m 57 #[.val (.int p0), .val (.int (0 : Int32)), .val (.ref w_PUPIL), .val (.int (0 : Int32)), .val (.int (0 : Int32)), .val (.int (0 : Int32))] [])
    refine Go.st (fun _ k => XS.iconst X4.here hx rfl (hb hby at_57) k) ?_
    show Go _ _ _ _ _ _ _ T4 (mkF m 58 #[.val (.int p0), .val (.int (0 : Int32)), .val (.ref w_PUPIL), .val (.int (0 : Int32)), .val (.int (0 : Int32)), .val (.int (0 : Int32))] [(.int (1 : Int32))])
    refine Go.st (fun _ k => XS.goto X4.here hx rfl (pc0 := 58) (pc' := 62) rfl (hb hby at_58) (by decide) (by decide) k) ?_
    show Go _ _ _ _ _ _ _ T4 (mkF m 62 #[.val (.int p0), .val (.int (0 : Int32)), .val (.ref w_PUPIL), .val (.int (0 : Int32)), .val (.int (0 : Int32)), .val (.int (0 : Int32))] [(.int (1 : Int32))])
    refine Go.ret X4 hlk (v := some (.int (1 : Int32))) (fun h => by rw [hret] at h; cases h) (fun fs hr => retN X4 hx (t := .boolean) hret (by simp) (hb hby at_62) hr) ?_ (by decide) (by decide)
    show Q0 Z p0 w_PUPIL w_STUDENT w_PART_TIME w_FULL_TIME w_RETIRED w_NO_OCCUPATION h0 n0 (some (.int (1 : Int32))) T4.heap _
    rw [e4]
    exact ⟨rfl, N4⟩
  · rw [hk1]
    show Go _ _ _ _ _ _ _ s₁ (mkF m 7 #[.val (.int p0), .unset, .unset, .unset, .unset, .unset] [(.int (1 : Int32))])
    refine Go.st (fun _ k => XS.istoreN X0.here hx rfl (hb hby at_7) rfl (l' := #[.val (.int p0), .val (.int (1 : Int32)), .unset, .unset, .unset, .unset]) rfl k) ?_
    show Go _ _ _ _ _ _ _ s₁ (mkF m 8 #[.val (.int p0), .val (.int (1 : Int32)), .unset, .unset, .unset, .unset] [])
    refine Go.st (fun _ k => XS.iloadN X0.here hx rfl (hb hby at_8) rfl k) ?_
    show Go _ _ _ _ _ _ _ s₁ (mkF m 9 #[.val (.int p0), .val (.int (1 : Int32)), .unset, .unset, .unset, .unset] [(.int (1 : Int32))])
    obtain ⟨_, _, ⟨T5, L5, k5, n5⟩, -, X5, ⟨Lc5, hQ5, l5, y5, z5⟩, st5⟩ := Jvm.LawKit.callS X0 hx (y := (⟨"com/example/nesenbach/nesenbach/city/PersonGroupHoldsLicencePinLaw", "pick", "(I)Lcom/example/nesenbach/nesenbach/city/PersonGroup;"⟩ : MethodName)) hown (mvT hZ (hw _ (List.mem_of_getElem? (i := 1) rfl))) (mvT hZ (hw _ (List.mem_of_getElem? (i := 2) rfl))) (mvT hZ (hw _ (List.mem_of_getElem? (i := 3) rfl))) (mvT hZ (hw _ (List.mem_of_getElem? (i := 4) rfl))) (by decide) (backOf (W := 0) (rm1 l Z a0 hw [] (1 : Int32) w_PUPIL w_FULL_TIME w_PART_TIME w_STUDENT w_NO_OCCUPATION w_RETIRED h0 n0 Z0 S_PUPIL S_FULL_TIME S_PART_TIME S_STUDENT S_NO_OCCUPATION S_RETIRED) hZ (hw _ (List.mem_of_getElem? (i := 4) rfl)) (hw _ (List.mem_of_getElem? (i := 3) rfl)) (by decide) (by decide)) (g := (mkF m 9 #[.val (.int p0), .val (.int (1 : Int32)), .unset, .unset, .unset, .unset] [(.int (1 : Int32))])) rfl (by rw [hml]; rfl) (argsL := [(.int (1 : Int32))]) (rest := []) (lenOf pd_0 rfl) rfl (by show 2 * 0 + _ ≤ _; exact Nat.le_of_eq rfl) (hb hby at_9) (fun _ _ => ⟨rfl, e0, (by decide : 0 + 0 ≤ _), (by decide : 0 + 0 ≤ _)⟩)
    dsimp only [Pt.U, Pt.locs, Pt.cells, Pt.slots] at X5 l5 y5 z5 st5 hQ5
    subst l5 y5 z5
    obtain ⟨rfl, N5q, e5⟩ := hQ5
    have N5 := Fr.app N0 N5q
    refine Go.st st5 ?_
    show Go _ _ _ _ _ _ _ T5 (mkF m 12 #[.val (.int p0), .val (.int (1 : Int32)), .unset, .unset, .unset, .unset] [(.ref (val_1 (1 : Int32) w_PUPIL w_FULL_TIME w_PART_TIME w_STUDENT w_NO_OCCUPATION w_RETIRED))])
    rw [show (val_1 (1 : Int32) w_PUPIL w_FULL_TIME w_PART_TIME w_STUDENT w_NO_OCCUPATION w_RETIRED) = w_FULL_TIME from by unfold val_1; rw [if_neg (by decide +kernel : ¬ ((1 : Int32) = (0 : Int32))), if_pos (by decide +kernel : (1 : Int32) = (1 : Int32))]]
    show Go _ _ _ _ _ _ _ T5 (mkF m 12 #[.val (.int p0), .val (.int (1 : Int32)), .unset, .unset, .unset, .unset] [(.ref w_FULL_TIME)])
    refine Go.st (fun _ k => XS.astoreN X5.here hx rfl (hb hby at_12) rfl rfl (l' := #[.val (.int p0), .val (.int (1 : Int32)), .val (.ref w_FULL_TIME), .unset, .unset, .unset]) rfl k) ?_
    show Go _ _ _ _ _ _ _ T5 (mkF m 13 #[.val (.int p0), .val (.int (1 : Int32)), .val (.ref w_FULL_TIME), .unset, .unset, .unset] [])
    refine Go.st (fun _ k => XS.aloadN X5.here hx rfl (hb hby at_13) rfl rfl k) ?_
    show Go _ _ _ _ _ _ _ T5 (mkF m 14 #[.val (.int p0), .val (.int (1 : Int32)), .val (.ref w_FULL_TIME), .unset, .unset, .unset] [(.ref w_FULL_TIME)])
    obtain ⟨cq6, kq6, q6a, q6b, q6c⟩ := isOf hZ e5 E_FULL_TIME
    obtain ⟨_, _, ⟨T6, L6, k6, n6⟩, -, X6, ⟨Lc6, hQ6, l6, y6, z6⟩, st6⟩ := X5.virtualBack hx (y := (⟨"com/example/nesenbach/nesenbach/city/PersonGroup", "holdsLicence", "()Z"⟩ : MethodName)) (z := (⟨"com/example/nesenbach/nesenbach/city/PersonGroup", "holdsLicence", "()Z"⟩ : MethodName)) hown (mvT hZ (hw _ (List.mem_of_getElem? (i := 8) rfl))) (mvT hZ (hw _ (List.mem_of_getElem? (i := 9) rfl))) (notFace_of_selects (args := #[]) (mvT hZ (hw _ (List.mem_of_getElem? (i := 11) rfl)))) (mvT hZ (hw _ (List.mem_of_getElem? (i := 11) rfl))) (mvT hZ (hw _ (List.mem_of_getElem? (i := 10) rfl))) (by decide) (backOf (W := 0) (rm2 l Z a0 hw [] w_FULL_TIME w_PUPIL h0 n0 Z0 S_PUPIL) hZ (hw _ (List.mem_of_getElem? (i := 12) rfl)) (hw _ (List.mem_of_getElem? (i := 6) rfl)) (by decide) (by decide)) q6a q6c (g := (mkF m 14 #[.val (.int p0), .val (.int (1 : Int32)), .val (.ref w_FULL_TIME), .unset, .unset, .unset] [(.ref w_FULL_TIME)])) rfl (by rw [hml]; rfl) (Steps.refl _) (argsL := []) (rest := []) (lenOf pd_1 rfl) rfl (by show 2 * 0 + _ ≤ _; exact Nat.le_of_eq rfl) (hb hby at_14) (fun _ _ => ⟨rfl, e5, (by decide : 0 + 0 ≤ _), (by decide : 0 + 0 ≤ _)⟩)
    dsimp only [Pt.U, Pt.locs, Pt.cells, Pt.slots] at X6 l6 y6 z6 st6 hQ6
    subst l6 y6 z6
    obtain ⟨rfl, N6q, e6⟩ := hQ6
    have N6 := Fr.app N5 N6q
    refine Go.st (fun _ k => st6.trans k) ?_
    show Go _ _ _ _ _ _ _ T6 (mkF m 17 #[.val (.int p0), .val (.int (1 : Int32)), .val (.ref w_FULL_TIME), .unset, .unset, .unset] [(.int (val_2 w_FULL_TIME w_PUPIL))])
    rw [show (val_2 w_FULL_TIME w_PUPIL) = (1 : Int32) from by unfold val_2; rw [if_neg (Ne.symm ne_w_PUPIL_w_FULL_TIME)]]
    show Go _ _ _ _ _ _ _ T6 (mkF m 17 #[.val (.int p0), .val (.int (1 : Int32)), .val (.ref w_FULL_TIME), .unset, .unset, .unset] [(.int (1 : Int32))])
    refine Go.st (fun _ k => XS.istoreN X6.here hx rfl (hb hby at_17) rfl (l' := #[.val (.int p0), .val (.int (1 : Int32)), .val (.ref w_FULL_TIME), .val (.int (1 : Int32)), .unset, .unset]) rfl k) ?_
    show Go _ _ _ _ _ _ _ T6 (mkF m 18 #[.val (.int p0), .val (.int (1 : Int32)), .val (.ref w_FULL_TIME), .val (.int (1 : Int32)), .unset, .unset] [])
    refine Go.st (fun _ k => XS.iloadN X6.here hx rfl (hb hby at_18) rfl k) ?_
    show Go _ _ _ _ _ _ _ T6 (mkF m 19 #[.val (.int p0), .val (.int (1 : Int32)), .val (.ref w_FULL_TIME), .val (.int (1 : Int32)), .unset, .unset] [(.int (1 : Int32))])
    refine Go.st (fun _ k => XS.ifNo X6.here hx rfl (hb hby at_19) rfl ((if0 _ _).trans (feq (by decide : ¬ ((1 : Int32) = (0 : Int32)))).1) k) ?_
    show Go _ _ _ _ _ _ _ T6 (mkF m 22 #[.val (.int p0), .val (.int (1 : Int32)), .val (.ref w_FULL_TIME), .val (.int (1 : Int32)), .unset, .unset] [])
    refine Go.st (fun _ k => XS.iconst X6.here hx rfl (hb hby at_22) k) ?_
    show Go _ _ _ _ _ _ _ T6 (mkF m 23 #[.val (.int p0), .val (.int (1 : Int32)), .val (.ref w_FULL_TIME), .val (.int (1 : Int32)), .unset, .unset] [(.int (1 : Int32))])
    refine Go.st (fun _ k => XS.goto X6.here hx rfl (pc0 := 23) (pc' := 27) rfl (hb hby at_23) (by decide) (by decide) k) ?_
    show Go _ _ _ _ _ _ _ T6 (mkF m 27 #[.val (.int p0), .val (.int (1 : Int32)), .val (.ref w_FULL_TIME), .val (.int (1 : Int32)), .unset, .unset] [(.int (1 : Int32))])
    refine Go.st (fun _ k => XS.istore X6.here hx rfl (hb hby at_27) rfl (l' := #[.val (.int p0), .val (.int (1 : Int32)), .val (.ref w_FULL_TIME), .val (.int (1 : Int32)), .val (.int (1 : Int32)), .unset]) rfl k) ?_
    show Go _ _ _ _ _ _ _ T6 (mkF m 29 #[.val (.int p0), .val (.int (1 : Int32)), .val (.ref w_FULL_TIME), .val (.int (1 : Int32)), .val (.int (1 : Int32)), .unset] [])
    refine Go.st (fun _ k => XS.aloadN X6.here hx rfl (hb hby at_29) rfl rfl k) ?_
    show Go _ _ _ _ _ _ _ T6 (mkF m 30 #[.val (.int p0), .val (.int (1 : Int32)), .val (.ref w_FULL_TIME), .val (.int (1 : Int32)), .val (.int (1 : Int32)), .unset] [(.ref w_FULL_TIME)])
    obtain ⟨cq7, kq7, q7a, q7b, q7c⟩ := isOf hZ e6 E_FULL_TIME
    obtain ⟨_, _, ⟨T7, L7, k7, n7⟩, -, X7, ⟨Lc7, hQ7, l7, y7, z7⟩, st7⟩ := X6.virtualBack hx (y := (⟨"com/example/nesenbach/nesenbach/city/PersonGroup", "age", "()I"⟩ : MethodName)) (z := (⟨"com/example/nesenbach/nesenbach/city/PersonGroup", "age", "()I"⟩ : MethodName)) hown (mvT hZ (hw _ (List.mem_of_getElem? (i := 14) rfl))) (mvT hZ (hw _ (List.mem_of_getElem? (i := 15) rfl))) (notFace_of_selects (args := #[]) (mvT hZ (hw _ (List.mem_of_getElem? (i := 17) rfl)))) (mvT hZ (hw _ (List.mem_of_getElem? (i := 17) rfl))) (mvT hZ (hw _ (List.mem_of_getElem? (i := 16) rfl))) (by decide) (backOf (W := 0) (rm3 l Z a0 hw [] w_FULL_TIME (40 : Int32) h0 n0 Z0 F_FULL_TIME_age) hZ (hw _ (List.mem_of_getElem? (i := 18) rfl)) (hw _ (List.mem_of_getElem? (i := 6) rfl)) (by decide) (by decide)) q7a q7c (g := (mkF m 30 #[.val (.int p0), .val (.int (1 : Int32)), .val (.ref w_FULL_TIME), .val (.int (1 : Int32)), .val (.int (1 : Int32)), .unset] [(.ref w_FULL_TIME)])) rfl (by rw [hml]; rfl) (Steps.refl _) (argsL := []) (rest := []) (lenOf pd_2 rfl) rfl (by show 2 * 0 + _ ≤ _; exact Nat.le_of_eq rfl) (hb hby at_30) (fun _ _ => ⟨rfl, e6, (by decide : 0 + 0 ≤ _), (by decide : 0 + 0 ≤ _)⟩)
    dsimp only [Pt.U, Pt.locs, Pt.cells, Pt.slots] at X7 l7 y7 z7 st7 hQ7
    subst l7 y7 z7
    obtain ⟨rfl, N7q, e7⟩ := hQ7
    have N7 := Fr.app N6 N7q
    refine Go.st (fun _ k => st7.trans k) ?_
    show Go _ _ _ _ _ _ _ T7 (mkF m 33 #[.val (.int p0), .val (.int (1 : Int32)), .val (.ref w_FULL_TIME), .val (.int (1 : Int32)), .val (.int (1 : Int32)), .unset] [(.int (val_3 w_FULL_TIME (40 : Int32)))])
    rw [show (val_3 w_FULL_TIME (40 : Int32)) = (40 : Int32) from by unfold val_3; rfl]
    show Go _ _ _ _ _ _ _ T7 (mkF m 33 #[.val (.int p0), .val (.int (1 : Int32)), .val (.ref w_FULL_TIME), .val (.int (1 : Int32)), .val (.int (1 : Int32)), .unset] [(.int (40 : Int32))])
    refine Go.st (fun _ k => XS.bipush X7.here hx rfl (hb hby at_33) k) ?_
    show Go _ _ _ _ _ _ _ T7 (mkF m 35 #[.val (.int p0), .val (.int (1 : Int32)), .val (.ref w_FULL_TIME), .val (.int (1 : Int32)), .val (.int (1 : Int32)), .unset] [(.int (18 : Int32)), (.int (40 : Int32))])
    refine Go.st (fun _ k => XS.icmpNo X7.here hx rfl (hb hby at_35) rfl (flt (by decide : ¬ ((40 : Int32) < (18 : Int32)))).1 k) ?_
    show Go _ _ _ _ _ _ _ T7 (mkF m 38 #[.val (.int p0), .val (.int (1 : Int32)), .val (.ref w_FULL_TIME), .val (.int (1 : Int32)), .val (.int (1 : Int32)), .unset] [])
    refine Go.st (fun _ k => XS.iconst X7.here hx rfl (hb hby at_38) k) ?_
    show Go _ _ _ _ _ _ _ T7 (mkF m 39 #[.val (.int p0), .val (.int (1 : Int32)), .val (.ref w_FULL_TIME), .val (.int (1 : Int32)), .val (.int (1 : Int32)), .unset] [(.int (1 : Int32))])
    refine Go.st (fun _ k => XS.goto X7.here hx rfl (pc0 := 39) (pc' := 43) rfl (hb hby at_39) (by decide) (by decide) k) ?_
    show Go _ _ _ _ _ _ _ T7 (mkF m 43 #[.val (.int p0), .val (.int (1 : Int32)), .val (.ref w_FULL_TIME), .val (.int (1 : Int32)), .val (.int (1 : Int32)), .unset] [(.int (1 : Int32))])
    refine Go.st (fun _ k => XS.istore X7.here hx rfl (hb hby at_43) rfl (l' := #[.val (.int p0), .val (.int (1 : Int32)), .val (.ref w_FULL_TIME), .val (.int (1 : Int32)), .val (.int (1 : Int32)), .val (.int (1 : Int32))]) rfl k) ?_
    show Go _ _ _ _ _ _ _ T7 (mkF m 45 #[.val (.int p0), .val (.int (1 : Int32)), .val (.ref w_FULL_TIME), .val (.int (1 : Int32)), .val (.int (1 : Int32)), .val (.int (1 : Int32))] [])
    refine Go.st (fun _ k => XS.iloadN X7.here hx rfl (hb hby at_45) rfl k) ?_
    show Go _ _ _ _ _ _ _ T7 (mkF m 46 #[.val (.int p0), .val (.int (1 : Int32)), .val (.ref w_FULL_TIME), .val (.int (1 : Int32)), .val (.int (1 : Int32)), .val (.int (1 : Int32))] [(.int (1 : Int32))])
    refine Go.st (fun _ k => XS.iload X7.here hx rfl (hb hby at_46) rfl k) ?_
    show Go _ _ _ _ _ _ _ T7 (mkF m 48 #[.val (.int p0), .val (.int (1 : Int32)), .val (.ref w_FULL_TIME), .val (.int (1 : Int32)), .val (.int (1 : Int32)), .val (.int (1 : Int32))] [(.int (1 : Int32)), (.int (1 : Int32))])
    refine Go.st (fun _ k => XS.icmpNo X7.here hx rfl (hb hby at_48) rfl (teq (by decide : (1 : Int32) = (1 : Int32))).2 k) ?_
    show Go _ _ _ _ _ _ _ T7 (mkF m 51 #[.val (.int p0), .val (.int (1 : Int32)), .val (.ref w_FULL_TIME), .val (.int (1 : Int32)), .val (.int (1 : Int32)), .val (.int (1 : Int32))] [])
    refine Go.st (fun _ k => XS.iloadN X7.here hx rfl (hb hby at_51) rfl k) ?_
    show Go _ _ _ _ _ _ _ T7 (mkF m 52 #[.val (.int p0), .val (.int (1 : Int32)), .val (.ref w_FULL_TIME), .val (.int (1 : Int32)), .val (.int (1 : Int32)), .val (.int (1 : Int32))] [(.int (1 : Int32))])
    refine Go.st (fun _ k => XS.iload X7.here hx rfl (hb hby at_52) rfl k) ?_
    show Go _ _ _ _ _ _ _ T7 (mkF m 54 #[.val (.int p0), .val (.int (1 : Int32)), .val (.ref w_FULL_TIME), .val (.int (1 : Int32)), .val (.int (1 : Int32)), .val (.int (1 : Int32))] [(.int (1 : Int32)), (.int (1 : Int32))])
    refine Go.st (fun _ k => XS.icmpNo X7.here hx rfl (hb hby at_54) rfl (teq (by decide : (1 : Int32) = (1 : Int32))).2 k) ?_
    show Go _ _ _ _ _ _ _ T7 (mkF m 57 #[.val (.int p0), .val (.int (1 : Int32)), .val (.ref w_FULL_TIME), .val (.int (1 : Int32)), .val (.int (1 : Int32)), .val (.int (1 : Int32))] [])
    refine Go.st (fun _ k => XS.iconst X7.here hx rfl (hb hby at_57) k) ?_
    show Go _ _ _ _ _ _ _ T7 (mkF m 58 #[.val (.int p0), .val (.int (1 : Int32)), .val (.ref w_FULL_TIME), .val (.int (1 : Int32)), .val (.int (1 : Int32)), .val (.int (1 : Int32))] [(.int (1 : Int32))])
    refine Go.st (fun _ k => XS.goto X7.here hx rfl (pc0 := 58) (pc' := 62) rfl (hb hby at_58) (by decide) (by decide) k) ?_
    show Go _ _ _ _ _ _ _ T7 (mkF m 62 #[.val (.int p0), .val (.int (1 : Int32)), .val (.ref w_FULL_TIME), .val (.int (1 : Int32)), .val (.int (1 : Int32)), .val (.int (1 : Int32))] [(.int (1 : Int32))])
    refine Go.ret X7 hlk (v := some (.int (1 : Int32))) (fun h => by rw [hret] at h; cases h) (fun fs hr => retN X7 hx (t := .boolean) hret (by simp) (hb hby at_62) hr) ?_ (by decide) (by decide)
    show Q0 Z p0 w_PUPIL w_STUDENT w_PART_TIME w_FULL_TIME w_RETIRED w_NO_OCCUPATION h0 n0 (some (.int (1 : Int32))) T7.heap _
    rw [e7]
    exact ⟨rfl, N7⟩
  · rw [hk1]
    show Go _ _ _ _ _ _ _ s₁ (mkF m 7 #[.val (.int p0), .unset, .unset, .unset, .unset, .unset] [(.int (2 : Int32))])
    refine Go.st (fun _ k => XS.istoreN X0.here hx rfl (hb hby at_7) rfl (l' := #[.val (.int p0), .val (.int (2 : Int32)), .unset, .unset, .unset, .unset]) rfl k) ?_
    show Go _ _ _ _ _ _ _ s₁ (mkF m 8 #[.val (.int p0), .val (.int (2 : Int32)), .unset, .unset, .unset, .unset] [])
    refine Go.st (fun _ k => XS.iloadN X0.here hx rfl (hb hby at_8) rfl k) ?_
    show Go _ _ _ _ _ _ _ s₁ (mkF m 9 #[.val (.int p0), .val (.int (2 : Int32)), .unset, .unset, .unset, .unset] [(.int (2 : Int32))])
    obtain ⟨_, _, ⟨T8, L8, k8, n8⟩, -, X8, ⟨Lc8, hQ8, l8, y8, z8⟩, st8⟩ := Jvm.LawKit.callS X0 hx (y := (⟨"com/example/nesenbach/nesenbach/city/PersonGroupHoldsLicencePinLaw", "pick", "(I)Lcom/example/nesenbach/nesenbach/city/PersonGroup;"⟩ : MethodName)) hown (mvT hZ (hw _ (List.mem_of_getElem? (i := 1) rfl))) (mvT hZ (hw _ (List.mem_of_getElem? (i := 2) rfl))) (mvT hZ (hw _ (List.mem_of_getElem? (i := 3) rfl))) (mvT hZ (hw _ (List.mem_of_getElem? (i := 4) rfl))) (by decide) (backOf (W := 0) (rm1 l Z a0 hw [] (2 : Int32) w_PUPIL w_FULL_TIME w_PART_TIME w_STUDENT w_NO_OCCUPATION w_RETIRED h0 n0 Z0 S_PUPIL S_FULL_TIME S_PART_TIME S_STUDENT S_NO_OCCUPATION S_RETIRED) hZ (hw _ (List.mem_of_getElem? (i := 4) rfl)) (hw _ (List.mem_of_getElem? (i := 3) rfl)) (by decide) (by decide)) (g := (mkF m 9 #[.val (.int p0), .val (.int (2 : Int32)), .unset, .unset, .unset, .unset] [(.int (2 : Int32))])) rfl (by rw [hml]; rfl) (argsL := [(.int (2 : Int32))]) (rest := []) (lenOf pd_0 rfl) rfl (by show 2 * 0 + _ ≤ _; exact Nat.le_of_eq rfl) (hb hby at_9) (fun _ _ => ⟨rfl, e0, (by decide : 0 + 0 ≤ _), (by decide : 0 + 0 ≤ _)⟩)
    dsimp only [Pt.U, Pt.locs, Pt.cells, Pt.slots] at X8 l8 y8 z8 st8 hQ8
    subst l8 y8 z8
    obtain ⟨rfl, N8q, e8⟩ := hQ8
    have N8 := Fr.app N0 N8q
    refine Go.st st8 ?_
    show Go _ _ _ _ _ _ _ T8 (mkF m 12 #[.val (.int p0), .val (.int (2 : Int32)), .unset, .unset, .unset, .unset] [(.ref (val_1 (2 : Int32) w_PUPIL w_FULL_TIME w_PART_TIME w_STUDENT w_NO_OCCUPATION w_RETIRED))])
    rw [show (val_1 (2 : Int32) w_PUPIL w_FULL_TIME w_PART_TIME w_STUDENT w_NO_OCCUPATION w_RETIRED) = w_PART_TIME from by unfold val_1; rw [if_neg (by decide +kernel : ¬ ((2 : Int32) = (0 : Int32))), if_neg (by decide +kernel : ¬ ((2 : Int32) = (1 : Int32))), if_pos (by decide +kernel : (2 : Int32) = (2 : Int32))]]
    show Go _ _ _ _ _ _ _ T8 (mkF m 12 #[.val (.int p0), .val (.int (2 : Int32)), .unset, .unset, .unset, .unset] [(.ref w_PART_TIME)])
    refine Go.st (fun _ k => XS.astoreN X8.here hx rfl (hb hby at_12) rfl rfl (l' := #[.val (.int p0), .val (.int (2 : Int32)), .val (.ref w_PART_TIME), .unset, .unset, .unset]) rfl k) ?_
    show Go _ _ _ _ _ _ _ T8 (mkF m 13 #[.val (.int p0), .val (.int (2 : Int32)), .val (.ref w_PART_TIME), .unset, .unset, .unset] [])
    refine Go.st (fun _ k => XS.aloadN X8.here hx rfl (hb hby at_13) rfl rfl k) ?_
    show Go _ _ _ _ _ _ _ T8 (mkF m 14 #[.val (.int p0), .val (.int (2 : Int32)), .val (.ref w_PART_TIME), .unset, .unset, .unset] [(.ref w_PART_TIME)])
    obtain ⟨cq9, kq9, q9a, q9b, q9c⟩ := isOf hZ e8 E_PART_TIME
    obtain ⟨_, _, ⟨T9, L9, k9, n9⟩, -, X9, ⟨Lc9, hQ9, l9, y9, z9⟩, st9⟩ := X8.virtualBack hx (y := (⟨"com/example/nesenbach/nesenbach/city/PersonGroup", "holdsLicence", "()Z"⟩ : MethodName)) (z := (⟨"com/example/nesenbach/nesenbach/city/PersonGroup", "holdsLicence", "()Z"⟩ : MethodName)) hown (mvT hZ (hw _ (List.mem_of_getElem? (i := 8) rfl))) (mvT hZ (hw _ (List.mem_of_getElem? (i := 9) rfl))) (notFace_of_selects (args := #[]) (mvT hZ (hw _ (List.mem_of_getElem? (i := 11) rfl)))) (mvT hZ (hw _ (List.mem_of_getElem? (i := 11) rfl))) (mvT hZ (hw _ (List.mem_of_getElem? (i := 10) rfl))) (by decide) (backOf (W := 0) (rm2 l Z a0 hw [] w_PART_TIME w_PUPIL h0 n0 Z0 S_PUPIL) hZ (hw _ (List.mem_of_getElem? (i := 12) rfl)) (hw _ (List.mem_of_getElem? (i := 6) rfl)) (by decide) (by decide)) q9a q9c (g := (mkF m 14 #[.val (.int p0), .val (.int (2 : Int32)), .val (.ref w_PART_TIME), .unset, .unset, .unset] [(.ref w_PART_TIME)])) rfl (by rw [hml]; rfl) (Steps.refl _) (argsL := []) (rest := []) (lenOf pd_1 rfl) rfl (by show 2 * 0 + _ ≤ _; exact Nat.le_of_eq rfl) (hb hby at_14) (fun _ _ => ⟨rfl, e8, (by decide : 0 + 0 ≤ _), (by decide : 0 + 0 ≤ _)⟩)
    dsimp only [Pt.U, Pt.locs, Pt.cells, Pt.slots] at X9 l9 y9 z9 st9 hQ9
    subst l9 y9 z9
    obtain ⟨rfl, N9q, e9⟩ := hQ9
    have N9 := Fr.app N8 N9q
    refine Go.st (fun _ k => st9.trans k) ?_
    show Go _ _ _ _ _ _ _ T9 (mkF m 17 #[.val (.int p0), .val (.int (2 : Int32)), .val (.ref w_PART_TIME), .unset, .unset, .unset] [(.int (val_2 w_PART_TIME w_PUPIL))])
    rw [show (val_2 w_PART_TIME w_PUPIL) = (1 : Int32) from by unfold val_2; rw [if_neg (Ne.symm ne_w_PUPIL_w_PART_TIME)]]
    show Go _ _ _ _ _ _ _ T9 (mkF m 17 #[.val (.int p0), .val (.int (2 : Int32)), .val (.ref w_PART_TIME), .unset, .unset, .unset] [(.int (1 : Int32))])
    refine Go.st (fun _ k => XS.istoreN X9.here hx rfl (hb hby at_17) rfl (l' := #[.val (.int p0), .val (.int (2 : Int32)), .val (.ref w_PART_TIME), .val (.int (1 : Int32)), .unset, .unset]) rfl k) ?_
    show Go _ _ _ _ _ _ _ T9 (mkF m 18 #[.val (.int p0), .val (.int (2 : Int32)), .val (.ref w_PART_TIME), .val (.int (1 : Int32)), .unset, .unset] [])
    refine Go.st (fun _ k => XS.iloadN X9.here hx rfl (hb hby at_18) rfl k) ?_
    show Go _ _ _ _ _ _ _ T9 (mkF m 19 #[.val (.int p0), .val (.int (2 : Int32)), .val (.ref w_PART_TIME), .val (.int (1 : Int32)), .unset, .unset] [(.int (2 : Int32))])
    refine Go.st (fun _ k => XS.ifNo X9.here hx rfl (hb hby at_19) rfl ((if0 _ _).trans (feq (by decide : ¬ ((2 : Int32) = (0 : Int32)))).1) k) ?_
    show Go _ _ _ _ _ _ _ T9 (mkF m 22 #[.val (.int p0), .val (.int (2 : Int32)), .val (.ref w_PART_TIME), .val (.int (1 : Int32)), .unset, .unset] [])
    refine Go.st (fun _ k => XS.iconst X9.here hx rfl (hb hby at_22) k) ?_
    show Go _ _ _ _ _ _ _ T9 (mkF m 23 #[.val (.int p0), .val (.int (2 : Int32)), .val (.ref w_PART_TIME), .val (.int (1 : Int32)), .unset, .unset] [(.int (1 : Int32))])
    refine Go.st (fun _ k => XS.goto X9.here hx rfl (pc0 := 23) (pc' := 27) rfl (hb hby at_23) (by decide) (by decide) k) ?_
    show Go _ _ _ _ _ _ _ T9 (mkF m 27 #[.val (.int p0), .val (.int (2 : Int32)), .val (.ref w_PART_TIME), .val (.int (1 : Int32)), .unset, .unset] [(.int (1 : Int32))])
    refine Go.st (fun _ k => XS.istore X9.here hx rfl (hb hby at_27) rfl (l' := #[.val (.int p0), .val (.int (2 : Int32)), .val (.ref w_PART_TIME), .val (.int (1 : Int32)), .val (.int (1 : Int32)), .unset]) rfl k) ?_
    show Go _ _ _ _ _ _ _ T9 (mkF m 29 #[.val (.int p0), .val (.int (2 : Int32)), .val (.ref w_PART_TIME), .val (.int (1 : Int32)), .val (.int (1 : Int32)), .unset] [])
    refine Go.st (fun _ k => XS.aloadN X9.here hx rfl (hb hby at_29) rfl rfl k) ?_
    show Go _ _ _ _ _ _ _ T9 (mkF m 30 #[.val (.int p0), .val (.int (2 : Int32)), .val (.ref w_PART_TIME), .val (.int (1 : Int32)), .val (.int (1 : Int32)), .unset] [(.ref w_PART_TIME)])
    obtain ⟨cq10, kq10, q10a, q10b, q10c⟩ := isOf hZ e9 E_PART_TIME
    obtain ⟨_, _, ⟨T10, L10, k10, n10⟩, -, X10, ⟨Lc10, hQ10, l10, y10, z10⟩, st10⟩ := X9.virtualBack hx (y := (⟨"com/example/nesenbach/nesenbach/city/PersonGroup", "age", "()I"⟩ : MethodName)) (z := (⟨"com/example/nesenbach/nesenbach/city/PersonGroup", "age", "()I"⟩ : MethodName)) hown (mvT hZ (hw _ (List.mem_of_getElem? (i := 14) rfl))) (mvT hZ (hw _ (List.mem_of_getElem? (i := 15) rfl))) (notFace_of_selects (args := #[]) (mvT hZ (hw _ (List.mem_of_getElem? (i := 17) rfl)))) (mvT hZ (hw _ (List.mem_of_getElem? (i := 17) rfl))) (mvT hZ (hw _ (List.mem_of_getElem? (i := 16) rfl))) (by decide) (backOf (W := 0) (rm3 l Z a0 hw [] w_PART_TIME (40 : Int32) h0 n0 Z0 F_PART_TIME_age) hZ (hw _ (List.mem_of_getElem? (i := 18) rfl)) (hw _ (List.mem_of_getElem? (i := 6) rfl)) (by decide) (by decide)) q10a q10c (g := (mkF m 30 #[.val (.int p0), .val (.int (2 : Int32)), .val (.ref w_PART_TIME), .val (.int (1 : Int32)), .val (.int (1 : Int32)), .unset] [(.ref w_PART_TIME)])) rfl (by rw [hml]; rfl) (Steps.refl _) (argsL := []) (rest := []) (lenOf pd_2 rfl) rfl (by show 2 * 0 + _ ≤ _; exact Nat.le_of_eq rfl) (hb hby at_30) (fun _ _ => ⟨rfl, e9, (by decide : 0 + 0 ≤ _), (by decide : 0 + 0 ≤ _)⟩)
    dsimp only [Pt.U, Pt.locs, Pt.cells, Pt.slots] at X10 l10 y10 z10 st10 hQ10
    subst l10 y10 z10
    obtain ⟨rfl, N10q, e10⟩ := hQ10
    have N10 := Fr.app N9 N10q
    refine Go.st (fun _ k => st10.trans k) ?_
    show Go _ _ _ _ _ _ _ T10 (mkF m 33 #[.val (.int p0), .val (.int (2 : Int32)), .val (.ref w_PART_TIME), .val (.int (1 : Int32)), .val (.int (1 : Int32)), .unset] [(.int (val_3 w_PART_TIME (40 : Int32)))])
    rw [show (val_3 w_PART_TIME (40 : Int32)) = (40 : Int32) from by unfold val_3; rfl]
    show Go _ _ _ _ _ _ _ T10 (mkF m 33 #[.val (.int p0), .val (.int (2 : Int32)), .val (.ref w_PART_TIME), .val (.int (1 : Int32)), .val (.int (1 : Int32)), .unset] [(.int (40 : Int32))])
    refine Go.st (fun _ k => XS.bipush X10.here hx rfl (hb hby at_33) k) ?_
    show Go _ _ _ _ _ _ _ T10 (mkF m 35 #[.val (.int p0), .val (.int (2 : Int32)), .val (.ref w_PART_TIME), .val (.int (1 : Int32)), .val (.int (1 : Int32)), .unset] [(.int (18 : Int32)), (.int (40 : Int32))])
    refine Go.st (fun _ k => XS.icmpNo X10.here hx rfl (hb hby at_35) rfl (flt (by decide : ¬ ((40 : Int32) < (18 : Int32)))).1 k) ?_
    show Go _ _ _ _ _ _ _ T10 (mkF m 38 #[.val (.int p0), .val (.int (2 : Int32)), .val (.ref w_PART_TIME), .val (.int (1 : Int32)), .val (.int (1 : Int32)), .unset] [])
    refine Go.st (fun _ k => XS.iconst X10.here hx rfl (hb hby at_38) k) ?_
    show Go _ _ _ _ _ _ _ T10 (mkF m 39 #[.val (.int p0), .val (.int (2 : Int32)), .val (.ref w_PART_TIME), .val (.int (1 : Int32)), .val (.int (1 : Int32)), .unset] [(.int (1 : Int32))])
    refine Go.st (fun _ k => XS.goto X10.here hx rfl (pc0 := 39) (pc' := 43) rfl (hb hby at_39) (by decide) (by decide) k) ?_
    show Go _ _ _ _ _ _ _ T10 (mkF m 43 #[.val (.int p0), .val (.int (2 : Int32)), .val (.ref w_PART_TIME), .val (.int (1 : Int32)), .val (.int (1 : Int32)), .unset] [(.int (1 : Int32))])
    refine Go.st (fun _ k => XS.istore X10.here hx rfl (hb hby at_43) rfl (l' := #[.val (.int p0), .val (.int (2 : Int32)), .val (.ref w_PART_TIME), .val (.int (1 : Int32)), .val (.int (1 : Int32)), .val (.int (1 : Int32))]) rfl k) ?_
    show Go _ _ _ _ _ _ _ T10 (mkF m 45 #[.val (.int p0), .val (.int (2 : Int32)), .val (.ref w_PART_TIME), .val (.int (1 : Int32)), .val (.int (1 : Int32)), .val (.int (1 : Int32))] [])
    refine Go.st (fun _ k => XS.iloadN X10.here hx rfl (hb hby at_45) rfl k) ?_
    show Go _ _ _ _ _ _ _ T10 (mkF m 46 #[.val (.int p0), .val (.int (2 : Int32)), .val (.ref w_PART_TIME), .val (.int (1 : Int32)), .val (.int (1 : Int32)), .val (.int (1 : Int32))] [(.int (1 : Int32))])
    refine Go.st (fun _ k => XS.iload X10.here hx rfl (hb hby at_46) rfl k) ?_
    show Go _ _ _ _ _ _ _ T10 (mkF m 48 #[.val (.int p0), .val (.int (2 : Int32)), .val (.ref w_PART_TIME), .val (.int (1 : Int32)), .val (.int (1 : Int32)), .val (.int (1 : Int32))] [(.int (1 : Int32)), (.int (1 : Int32))])
    refine Go.st (fun _ k => XS.icmpNo X10.here hx rfl (hb hby at_48) rfl (teq (by decide : (1 : Int32) = (1 : Int32))).2 k) ?_
    show Go _ _ _ _ _ _ _ T10 (mkF m 51 #[.val (.int p0), .val (.int (2 : Int32)), .val (.ref w_PART_TIME), .val (.int (1 : Int32)), .val (.int (1 : Int32)), .val (.int (1 : Int32))] [])
    refine Go.st (fun _ k => XS.iloadN X10.here hx rfl (hb hby at_51) rfl k) ?_
    show Go _ _ _ _ _ _ _ T10 (mkF m 52 #[.val (.int p0), .val (.int (2 : Int32)), .val (.ref w_PART_TIME), .val (.int (1 : Int32)), .val (.int (1 : Int32)), .val (.int (1 : Int32))] [(.int (1 : Int32))])
    refine Go.st (fun _ k => XS.iload X10.here hx rfl (hb hby at_52) rfl k) ?_
    show Go _ _ _ _ _ _ _ T10 (mkF m 54 #[.val (.int p0), .val (.int (2 : Int32)), .val (.ref w_PART_TIME), .val (.int (1 : Int32)), .val (.int (1 : Int32)), .val (.int (1 : Int32))] [(.int (1 : Int32)), (.int (1 : Int32))])
    refine Go.st (fun _ k => XS.icmpNo X10.here hx rfl (hb hby at_54) rfl (teq (by decide : (1 : Int32) = (1 : Int32))).2 k) ?_
    show Go _ _ _ _ _ _ _ T10 (mkF m 57 #[.val (.int p0), .val (.int (2 : Int32)), .val (.ref w_PART_TIME), .val (.int (1 : Int32)), .val (.int (1 : Int32)), .val (.int (1 : Int32))] [])
    refine Go.st (fun _ k => XS.iconst X10.here hx rfl (hb hby at_57) k) ?_
    show Go _ _ _ _ _ _ _ T10 (mkF m 58 #[.val (.int p0), .val (.int (2 : Int32)), .val (.ref w_PART_TIME), .val (.int (1 : Int32)), .val (.int (1 : Int32)), .val (.int (1 : Int32))] [(.int (1 : Int32))])
    refine Go.st (fun _ k => XS.goto X10.here hx rfl (pc0 := 58) (pc' := 62) rfl (hb hby at_58) (by decide) (by decide) k) ?_
    show Go _ _ _ _ _ _ _ T10 (mkF m 62 #[.val (.int p0), .val (.int (2 : Int32)), .val (.ref w_PART_TIME), .val (.int (1 : Int32)), .val (.int (1 : Int32)), .val (.int (1 : Int32))] [(.int (1 : Int32))])
    refine Go.ret X10 hlk (v := some (.int (1 : Int32))) (fun h => by rw [hret] at h; cases h) (fun fs hr => retN X10 hx (t := .boolean) hret (by simp) (hb hby at_62) hr) ?_ (by decide) (by decide)
    show Q0 Z p0 w_PUPIL w_STUDENT w_PART_TIME w_FULL_TIME w_RETIRED w_NO_OCCUPATION h0 n0 (some (.int (1 : Int32))) T10.heap _
    rw [e10]
    exact ⟨rfl, N10⟩
  · rw [hk1]
    show Go _ _ _ _ _ _ _ s₁ (mkF m 7 #[.val (.int p0), .unset, .unset, .unset, .unset, .unset] [(.int (3 : Int32))])
    refine Go.st (fun _ k => XS.istoreN X0.here hx rfl (hb hby at_7) rfl (l' := #[.val (.int p0), .val (.int (3 : Int32)), .unset, .unset, .unset, .unset]) rfl k) ?_
    show Go _ _ _ _ _ _ _ s₁ (mkF m 8 #[.val (.int p0), .val (.int (3 : Int32)), .unset, .unset, .unset, .unset] [])
    refine Go.st (fun _ k => XS.iloadN X0.here hx rfl (hb hby at_8) rfl k) ?_
    show Go _ _ _ _ _ _ _ s₁ (mkF m 9 #[.val (.int p0), .val (.int (3 : Int32)), .unset, .unset, .unset, .unset] [(.int (3 : Int32))])
    obtain ⟨_, _, ⟨T11, L11, k11, n11⟩, -, X11, ⟨Lc11, hQ11, l11, y11, z11⟩, st11⟩ := Jvm.LawKit.callS X0 hx (y := (⟨"com/example/nesenbach/nesenbach/city/PersonGroupHoldsLicencePinLaw", "pick", "(I)Lcom/example/nesenbach/nesenbach/city/PersonGroup;"⟩ : MethodName)) hown (mvT hZ (hw _ (List.mem_of_getElem? (i := 1) rfl))) (mvT hZ (hw _ (List.mem_of_getElem? (i := 2) rfl))) (mvT hZ (hw _ (List.mem_of_getElem? (i := 3) rfl))) (mvT hZ (hw _ (List.mem_of_getElem? (i := 4) rfl))) (by decide) (backOf (W := 0) (rm1 l Z a0 hw [] (3 : Int32) w_PUPIL w_FULL_TIME w_PART_TIME w_STUDENT w_NO_OCCUPATION w_RETIRED h0 n0 Z0 S_PUPIL S_FULL_TIME S_PART_TIME S_STUDENT S_NO_OCCUPATION S_RETIRED) hZ (hw _ (List.mem_of_getElem? (i := 4) rfl)) (hw _ (List.mem_of_getElem? (i := 3) rfl)) (by decide) (by decide)) (g := (mkF m 9 #[.val (.int p0), .val (.int (3 : Int32)), .unset, .unset, .unset, .unset] [(.int (3 : Int32))])) rfl (by rw [hml]; rfl) (argsL := [(.int (3 : Int32))]) (rest := []) (lenOf pd_0 rfl) rfl (by show 2 * 0 + _ ≤ _; exact Nat.le_of_eq rfl) (hb hby at_9) (fun _ _ => ⟨rfl, e0, (by decide : 0 + 0 ≤ _), (by decide : 0 + 0 ≤ _)⟩)
    dsimp only [Pt.U, Pt.locs, Pt.cells, Pt.slots] at X11 l11 y11 z11 st11 hQ11
    subst l11 y11 z11
    obtain ⟨rfl, N11q, e11⟩ := hQ11
    have N11 := Fr.app N0 N11q
    refine Go.st st11 ?_
    show Go _ _ _ _ _ _ _ T11 (mkF m 12 #[.val (.int p0), .val (.int (3 : Int32)), .unset, .unset, .unset, .unset] [(.ref (val_1 (3 : Int32) w_PUPIL w_FULL_TIME w_PART_TIME w_STUDENT w_NO_OCCUPATION w_RETIRED))])
    rw [show (val_1 (3 : Int32) w_PUPIL w_FULL_TIME w_PART_TIME w_STUDENT w_NO_OCCUPATION w_RETIRED) = w_STUDENT from by unfold val_1; rw [if_neg (by decide +kernel : ¬ ((3 : Int32) = (0 : Int32))), if_neg (by decide +kernel : ¬ ((3 : Int32) = (1 : Int32))), if_neg (by decide +kernel : ¬ ((3 : Int32) = (2 : Int32))), if_pos (by decide +kernel : (3 : Int32) = (3 : Int32))]]
    show Go _ _ _ _ _ _ _ T11 (mkF m 12 #[.val (.int p0), .val (.int (3 : Int32)), .unset, .unset, .unset, .unset] [(.ref w_STUDENT)])
    refine Go.st (fun _ k => XS.astoreN X11.here hx rfl (hb hby at_12) rfl rfl (l' := #[.val (.int p0), .val (.int (3 : Int32)), .val (.ref w_STUDENT), .unset, .unset, .unset]) rfl k) ?_
    show Go _ _ _ _ _ _ _ T11 (mkF m 13 #[.val (.int p0), .val (.int (3 : Int32)), .val (.ref w_STUDENT), .unset, .unset, .unset] [])
    refine Go.st (fun _ k => XS.aloadN X11.here hx rfl (hb hby at_13) rfl rfl k) ?_
    show Go _ _ _ _ _ _ _ T11 (mkF m 14 #[.val (.int p0), .val (.int (3 : Int32)), .val (.ref w_STUDENT), .unset, .unset, .unset] [(.ref w_STUDENT)])
    obtain ⟨cq12, kq12, q12a, q12b, q12c⟩ := isOf hZ e11 E_STUDENT
    obtain ⟨_, _, ⟨T12, L12, k12, n12⟩, -, X12, ⟨Lc12, hQ12, l12, y12, z12⟩, st12⟩ := X11.virtualBack hx (y := (⟨"com/example/nesenbach/nesenbach/city/PersonGroup", "holdsLicence", "()Z"⟩ : MethodName)) (z := (⟨"com/example/nesenbach/nesenbach/city/PersonGroup", "holdsLicence", "()Z"⟩ : MethodName)) hown (mvT hZ (hw _ (List.mem_of_getElem? (i := 8) rfl))) (mvT hZ (hw _ (List.mem_of_getElem? (i := 9) rfl))) (notFace_of_selects (args := #[]) (mvT hZ (hw _ (List.mem_of_getElem? (i := 11) rfl)))) (mvT hZ (hw _ (List.mem_of_getElem? (i := 11) rfl))) (mvT hZ (hw _ (List.mem_of_getElem? (i := 10) rfl))) (by decide) (backOf (W := 0) (rm2 l Z a0 hw [] w_STUDENT w_PUPIL h0 n0 Z0 S_PUPIL) hZ (hw _ (List.mem_of_getElem? (i := 12) rfl)) (hw _ (List.mem_of_getElem? (i := 6) rfl)) (by decide) (by decide)) q12a q12c (g := (mkF m 14 #[.val (.int p0), .val (.int (3 : Int32)), .val (.ref w_STUDENT), .unset, .unset, .unset] [(.ref w_STUDENT)])) rfl (by rw [hml]; rfl) (Steps.refl _) (argsL := []) (rest := []) (lenOf pd_1 rfl) rfl (by show 2 * 0 + _ ≤ _; exact Nat.le_of_eq rfl) (hb hby at_14) (fun _ _ => ⟨rfl, e11, (by decide : 0 + 0 ≤ _), (by decide : 0 + 0 ≤ _)⟩)
    dsimp only [Pt.U, Pt.locs, Pt.cells, Pt.slots] at X12 l12 y12 z12 st12 hQ12
    subst l12 y12 z12
    obtain ⟨rfl, N12q, e12⟩ := hQ12
    have N12 := Fr.app N11 N12q
    refine Go.st (fun _ k => st12.trans k) ?_
    show Go _ _ _ _ _ _ _ T12 (mkF m 17 #[.val (.int p0), .val (.int (3 : Int32)), .val (.ref w_STUDENT), .unset, .unset, .unset] [(.int (val_2 w_STUDENT w_PUPIL))])
    rw [show (val_2 w_STUDENT w_PUPIL) = (1 : Int32) from by unfold val_2; rw [if_neg ne_w_STUDENT_w_PUPIL]]
    show Go _ _ _ _ _ _ _ T12 (mkF m 17 #[.val (.int p0), .val (.int (3 : Int32)), .val (.ref w_STUDENT), .unset, .unset, .unset] [(.int (1 : Int32))])
    refine Go.st (fun _ k => XS.istoreN X12.here hx rfl (hb hby at_17) rfl (l' := #[.val (.int p0), .val (.int (3 : Int32)), .val (.ref w_STUDENT), .val (.int (1 : Int32)), .unset, .unset]) rfl k) ?_
    show Go _ _ _ _ _ _ _ T12 (mkF m 18 #[.val (.int p0), .val (.int (3 : Int32)), .val (.ref w_STUDENT), .val (.int (1 : Int32)), .unset, .unset] [])
    refine Go.st (fun _ k => XS.iloadN X12.here hx rfl (hb hby at_18) rfl k) ?_
    show Go _ _ _ _ _ _ _ T12 (mkF m 19 #[.val (.int p0), .val (.int (3 : Int32)), .val (.ref w_STUDENT), .val (.int (1 : Int32)), .unset, .unset] [(.int (3 : Int32))])
    refine Go.st (fun _ k => XS.ifNo X12.here hx rfl (hb hby at_19) rfl ((if0 _ _).trans (feq (by decide : ¬ ((3 : Int32) = (0 : Int32)))).1) k) ?_
    show Go _ _ _ _ _ _ _ T12 (mkF m 22 #[.val (.int p0), .val (.int (3 : Int32)), .val (.ref w_STUDENT), .val (.int (1 : Int32)), .unset, .unset] [])
    refine Go.st (fun _ k => XS.iconst X12.here hx rfl (hb hby at_22) k) ?_
    show Go _ _ _ _ _ _ _ T12 (mkF m 23 #[.val (.int p0), .val (.int (3 : Int32)), .val (.ref w_STUDENT), .val (.int (1 : Int32)), .unset, .unset] [(.int (1 : Int32))])
    refine Go.st (fun _ k => XS.goto X12.here hx rfl (pc0 := 23) (pc' := 27) rfl (hb hby at_23) (by decide) (by decide) k) ?_
    show Go _ _ _ _ _ _ _ T12 (mkF m 27 #[.val (.int p0), .val (.int (3 : Int32)), .val (.ref w_STUDENT), .val (.int (1 : Int32)), .unset, .unset] [(.int (1 : Int32))])
    refine Go.st (fun _ k => XS.istore X12.here hx rfl (hb hby at_27) rfl (l' := #[.val (.int p0), .val (.int (3 : Int32)), .val (.ref w_STUDENT), .val (.int (1 : Int32)), .val (.int (1 : Int32)), .unset]) rfl k) ?_
    show Go _ _ _ _ _ _ _ T12 (mkF m 29 #[.val (.int p0), .val (.int (3 : Int32)), .val (.ref w_STUDENT), .val (.int (1 : Int32)), .val (.int (1 : Int32)), .unset] [])
    refine Go.st (fun _ k => XS.aloadN X12.here hx rfl (hb hby at_29) rfl rfl k) ?_
    show Go _ _ _ _ _ _ _ T12 (mkF m 30 #[.val (.int p0), .val (.int (3 : Int32)), .val (.ref w_STUDENT), .val (.int (1 : Int32)), .val (.int (1 : Int32)), .unset] [(.ref w_STUDENT)])
    obtain ⟨cq13, kq13, q13a, q13b, q13c⟩ := isOf hZ e12 E_STUDENT
    obtain ⟨_, _, ⟨T13, L13, k13, n13⟩, -, X13, ⟨Lc13, hQ13, l13, y13, z13⟩, st13⟩ := X12.virtualBack hx (y := (⟨"com/example/nesenbach/nesenbach/city/PersonGroup", "age", "()I"⟩ : MethodName)) (z := (⟨"com/example/nesenbach/nesenbach/city/PersonGroup", "age", "()I"⟩ : MethodName)) hown (mvT hZ (hw _ (List.mem_of_getElem? (i := 14) rfl))) (mvT hZ (hw _ (List.mem_of_getElem? (i := 15) rfl))) (notFace_of_selects (args := #[]) (mvT hZ (hw _ (List.mem_of_getElem? (i := 17) rfl)))) (mvT hZ (hw _ (List.mem_of_getElem? (i := 17) rfl))) (mvT hZ (hw _ (List.mem_of_getElem? (i := 16) rfl))) (by decide) (backOf (W := 0) (rm3 l Z a0 hw [] w_STUDENT (22 : Int32) h0 n0 Z0 F_STUDENT_age) hZ (hw _ (List.mem_of_getElem? (i := 18) rfl)) (hw _ (List.mem_of_getElem? (i := 6) rfl)) (by decide) (by decide)) q13a q13c (g := (mkF m 30 #[.val (.int p0), .val (.int (3 : Int32)), .val (.ref w_STUDENT), .val (.int (1 : Int32)), .val (.int (1 : Int32)), .unset] [(.ref w_STUDENT)])) rfl (by rw [hml]; rfl) (Steps.refl _) (argsL := []) (rest := []) (lenOf pd_2 rfl) rfl (by show 2 * 0 + _ ≤ _; exact Nat.le_of_eq rfl) (hb hby at_30) (fun _ _ => ⟨rfl, e12, (by decide : 0 + 0 ≤ _), (by decide : 0 + 0 ≤ _)⟩)
    dsimp only [Pt.U, Pt.locs, Pt.cells, Pt.slots] at X13 l13 y13 z13 st13 hQ13
    subst l13 y13 z13
    obtain ⟨rfl, N13q, e13⟩ := hQ13
    have N13 := Fr.app N12 N13q
    refine Go.st (fun _ k => st13.trans k) ?_
    show Go _ _ _ _ _ _ _ T13 (mkF m 33 #[.val (.int p0), .val (.int (3 : Int32)), .val (.ref w_STUDENT), .val (.int (1 : Int32)), .val (.int (1 : Int32)), .unset] [(.int (val_3 w_STUDENT (22 : Int32)))])
    rw [show (val_3 w_STUDENT (22 : Int32)) = (22 : Int32) from by unfold val_3; rfl]
    show Go _ _ _ _ _ _ _ T13 (mkF m 33 #[.val (.int p0), .val (.int (3 : Int32)), .val (.ref w_STUDENT), .val (.int (1 : Int32)), .val (.int (1 : Int32)), .unset] [(.int (22 : Int32))])
    refine Go.st (fun _ k => XS.bipush X13.here hx rfl (hb hby at_33) k) ?_
    show Go _ _ _ _ _ _ _ T13 (mkF m 35 #[.val (.int p0), .val (.int (3 : Int32)), .val (.ref w_STUDENT), .val (.int (1 : Int32)), .val (.int (1 : Int32)), .unset] [(.int (18 : Int32)), (.int (22 : Int32))])
    refine Go.st (fun _ k => XS.icmpNo X13.here hx rfl (hb hby at_35) rfl (flt (by decide : ¬ ((22 : Int32) < (18 : Int32)))).1 k) ?_
    show Go _ _ _ _ _ _ _ T13 (mkF m 38 #[.val (.int p0), .val (.int (3 : Int32)), .val (.ref w_STUDENT), .val (.int (1 : Int32)), .val (.int (1 : Int32)), .unset] [])
    refine Go.st (fun _ k => XS.iconst X13.here hx rfl (hb hby at_38) k) ?_
    show Go _ _ _ _ _ _ _ T13 (mkF m 39 #[.val (.int p0), .val (.int (3 : Int32)), .val (.ref w_STUDENT), .val (.int (1 : Int32)), .val (.int (1 : Int32)), .unset] [(.int (1 : Int32))])
    refine Go.st (fun _ k => XS.goto X13.here hx rfl (pc0 := 39) (pc' := 43) rfl (hb hby at_39) (by decide) (by decide) k) ?_
    show Go _ _ _ _ _ _ _ T13 (mkF m 43 #[.val (.int p0), .val (.int (3 : Int32)), .val (.ref w_STUDENT), .val (.int (1 : Int32)), .val (.int (1 : Int32)), .unset] [(.int (1 : Int32))])
    refine Go.st (fun _ k => XS.istore X13.here hx rfl (hb hby at_43) rfl (l' := #[.val (.int p0), .val (.int (3 : Int32)), .val (.ref w_STUDENT), .val (.int (1 : Int32)), .val (.int (1 : Int32)), .val (.int (1 : Int32))]) rfl k) ?_
    show Go _ _ _ _ _ _ _ T13 (mkF m 45 #[.val (.int p0), .val (.int (3 : Int32)), .val (.ref w_STUDENT), .val (.int (1 : Int32)), .val (.int (1 : Int32)), .val (.int (1 : Int32))] [])
    refine Go.st (fun _ k => XS.iloadN X13.here hx rfl (hb hby at_45) rfl k) ?_
    show Go _ _ _ _ _ _ _ T13 (mkF m 46 #[.val (.int p0), .val (.int (3 : Int32)), .val (.ref w_STUDENT), .val (.int (1 : Int32)), .val (.int (1 : Int32)), .val (.int (1 : Int32))] [(.int (1 : Int32))])
    refine Go.st (fun _ k => XS.iload X13.here hx rfl (hb hby at_46) rfl k) ?_
    show Go _ _ _ _ _ _ _ T13 (mkF m 48 #[.val (.int p0), .val (.int (3 : Int32)), .val (.ref w_STUDENT), .val (.int (1 : Int32)), .val (.int (1 : Int32)), .val (.int (1 : Int32))] [(.int (1 : Int32)), (.int (1 : Int32))])
    refine Go.st (fun _ k => XS.icmpNo X13.here hx rfl (hb hby at_48) rfl (teq (by decide : (1 : Int32) = (1 : Int32))).2 k) ?_
    show Go _ _ _ _ _ _ _ T13 (mkF m 51 #[.val (.int p0), .val (.int (3 : Int32)), .val (.ref w_STUDENT), .val (.int (1 : Int32)), .val (.int (1 : Int32)), .val (.int (1 : Int32))] [])
    refine Go.st (fun _ k => XS.iloadN X13.here hx rfl (hb hby at_51) rfl k) ?_
    show Go _ _ _ _ _ _ _ T13 (mkF m 52 #[.val (.int p0), .val (.int (3 : Int32)), .val (.ref w_STUDENT), .val (.int (1 : Int32)), .val (.int (1 : Int32)), .val (.int (1 : Int32))] [(.int (1 : Int32))])
    refine Go.st (fun _ k => XS.iload X13.here hx rfl (hb hby at_52) rfl k) ?_
    show Go _ _ _ _ _ _ _ T13 (mkF m 54 #[.val (.int p0), .val (.int (3 : Int32)), .val (.ref w_STUDENT), .val (.int (1 : Int32)), .val (.int (1 : Int32)), .val (.int (1 : Int32))] [(.int (1 : Int32)), (.int (1 : Int32))])
    refine Go.st (fun _ k => XS.icmpNo X13.here hx rfl (hb hby at_54) rfl (teq (by decide : (1 : Int32) = (1 : Int32))).2 k) ?_
    show Go _ _ _ _ _ _ _ T13 (mkF m 57 #[.val (.int p0), .val (.int (3 : Int32)), .val (.ref w_STUDENT), .val (.int (1 : Int32)), .val (.int (1 : Int32)), .val (.int (1 : Int32))] [])
    refine Go.st (fun _ k => XS.iconst X13.here hx rfl (hb hby at_57) k) ?_
    show Go _ _ _ _ _ _ _ T13 (mkF m 58 #[.val (.int p0), .val (.int (3 : Int32)), .val (.ref w_STUDENT), .val (.int (1 : Int32)), .val (.int (1 : Int32)), .val (.int (1 : Int32))] [(.int (1 : Int32))])
    refine Go.st (fun _ k => XS.goto X13.here hx rfl (pc0 := 58) (pc' := 62) rfl (hb hby at_58) (by decide) (by decide) k) ?_
    show Go _ _ _ _ _ _ _ T13 (mkF m 62 #[.val (.int p0), .val (.int (3 : Int32)), .val (.ref w_STUDENT), .val (.int (1 : Int32)), .val (.int (1 : Int32)), .val (.int (1 : Int32))] [(.int (1 : Int32))])
    refine Go.ret X13 hlk (v := some (.int (1 : Int32))) (fun h => by rw [hret] at h; cases h) (fun fs hr => retN X13 hx (t := .boolean) hret (by simp) (hb hby at_62) hr) ?_ (by decide) (by decide)
    show Q0 Z p0 w_PUPIL w_STUDENT w_PART_TIME w_FULL_TIME w_RETIRED w_NO_OCCUPATION h0 n0 (some (.int (1 : Int32))) T13.heap _
    rw [e13]
    exact ⟨rfl, N13⟩
  · rw [hk1]
    show Go _ _ _ _ _ _ _ s₁ (mkF m 7 #[.val (.int p0), .unset, .unset, .unset, .unset, .unset] [(.int (4 : Int32))])
    refine Go.st (fun _ k => XS.istoreN X0.here hx rfl (hb hby at_7) rfl (l' := #[.val (.int p0), .val (.int (4 : Int32)), .unset, .unset, .unset, .unset]) rfl k) ?_
    show Go _ _ _ _ _ _ _ s₁ (mkF m 8 #[.val (.int p0), .val (.int (4 : Int32)), .unset, .unset, .unset, .unset] [])
    refine Go.st (fun _ k => XS.iloadN X0.here hx rfl (hb hby at_8) rfl k) ?_
    show Go _ _ _ _ _ _ _ s₁ (mkF m 9 #[.val (.int p0), .val (.int (4 : Int32)), .unset, .unset, .unset, .unset] [(.int (4 : Int32))])
    obtain ⟨_, _, ⟨T14, L14, k14, n14⟩, -, X14, ⟨Lc14, hQ14, l14, y14, z14⟩, st14⟩ := Jvm.LawKit.callS X0 hx (y := (⟨"com/example/nesenbach/nesenbach/city/PersonGroupHoldsLicencePinLaw", "pick", "(I)Lcom/example/nesenbach/nesenbach/city/PersonGroup;"⟩ : MethodName)) hown (mvT hZ (hw _ (List.mem_of_getElem? (i := 1) rfl))) (mvT hZ (hw _ (List.mem_of_getElem? (i := 2) rfl))) (mvT hZ (hw _ (List.mem_of_getElem? (i := 3) rfl))) (mvT hZ (hw _ (List.mem_of_getElem? (i := 4) rfl))) (by decide) (backOf (W := 0) (rm1 l Z a0 hw [] (4 : Int32) w_PUPIL w_FULL_TIME w_PART_TIME w_STUDENT w_NO_OCCUPATION w_RETIRED h0 n0 Z0 S_PUPIL S_FULL_TIME S_PART_TIME S_STUDENT S_NO_OCCUPATION S_RETIRED) hZ (hw _ (List.mem_of_getElem? (i := 4) rfl)) (hw _ (List.mem_of_getElem? (i := 3) rfl)) (by decide) (by decide)) (g := (mkF m 9 #[.val (.int p0), .val (.int (4 : Int32)), .unset, .unset, .unset, .unset] [(.int (4 : Int32))])) rfl (by rw [hml]; rfl) (argsL := [(.int (4 : Int32))]) (rest := []) (lenOf pd_0 rfl) rfl (by show 2 * 0 + _ ≤ _; exact Nat.le_of_eq rfl) (hb hby at_9) (fun _ _ => ⟨rfl, e0, (by decide : 0 + 0 ≤ _), (by decide : 0 + 0 ≤ _)⟩)
    dsimp only [Pt.U, Pt.locs, Pt.cells, Pt.slots] at X14 l14 y14 z14 st14 hQ14
    subst l14 y14 z14
    obtain ⟨rfl, N14q, e14⟩ := hQ14
    have N14 := Fr.app N0 N14q
    refine Go.st st14 ?_
    show Go _ _ _ _ _ _ _ T14 (mkF m 12 #[.val (.int p0), .val (.int (4 : Int32)), .unset, .unset, .unset, .unset] [(.ref (val_1 (4 : Int32) w_PUPIL w_FULL_TIME w_PART_TIME w_STUDENT w_NO_OCCUPATION w_RETIRED))])
    rw [show (val_1 (4 : Int32) w_PUPIL w_FULL_TIME w_PART_TIME w_STUDENT w_NO_OCCUPATION w_RETIRED) = w_NO_OCCUPATION from by unfold val_1; rw [if_neg (by decide +kernel : ¬ ((4 : Int32) = (0 : Int32))), if_neg (by decide +kernel : ¬ ((4 : Int32) = (1 : Int32))), if_neg (by decide +kernel : ¬ ((4 : Int32) = (2 : Int32))), if_neg (by decide +kernel : ¬ ((4 : Int32) = (3 : Int32))), if_pos (by decide +kernel : (4 : Int32) = (4 : Int32))]]
    show Go _ _ _ _ _ _ _ T14 (mkF m 12 #[.val (.int p0), .val (.int (4 : Int32)), .unset, .unset, .unset, .unset] [(.ref w_NO_OCCUPATION)])
    refine Go.st (fun _ k => XS.astoreN X14.here hx rfl (hb hby at_12) rfl rfl (l' := #[.val (.int p0), .val (.int (4 : Int32)), .val (.ref w_NO_OCCUPATION), .unset, .unset, .unset]) rfl k) ?_
    show Go _ _ _ _ _ _ _ T14 (mkF m 13 #[.val (.int p0), .val (.int (4 : Int32)), .val (.ref w_NO_OCCUPATION), .unset, .unset, .unset] [])
    refine Go.st (fun _ k => XS.aloadN X14.here hx rfl (hb hby at_13) rfl rfl k) ?_
    show Go _ _ _ _ _ _ _ T14 (mkF m 14 #[.val (.int p0), .val (.int (4 : Int32)), .val (.ref w_NO_OCCUPATION), .unset, .unset, .unset] [(.ref w_NO_OCCUPATION)])
    obtain ⟨cq15, kq15, q15a, q15b, q15c⟩ := isOf hZ e14 E_NO_OCCUPATION
    obtain ⟨_, _, ⟨T15, L15, k15, n15⟩, -, X15, ⟨Lc15, hQ15, l15, y15, z15⟩, st15⟩ := X14.virtualBack hx (y := (⟨"com/example/nesenbach/nesenbach/city/PersonGroup", "holdsLicence", "()Z"⟩ : MethodName)) (z := (⟨"com/example/nesenbach/nesenbach/city/PersonGroup", "holdsLicence", "()Z"⟩ : MethodName)) hown (mvT hZ (hw _ (List.mem_of_getElem? (i := 8) rfl))) (mvT hZ (hw _ (List.mem_of_getElem? (i := 9) rfl))) (notFace_of_selects (args := #[]) (mvT hZ (hw _ (List.mem_of_getElem? (i := 11) rfl)))) (mvT hZ (hw _ (List.mem_of_getElem? (i := 11) rfl))) (mvT hZ (hw _ (List.mem_of_getElem? (i := 10) rfl))) (by decide) (backOf (W := 0) (rm2 l Z a0 hw [] w_NO_OCCUPATION w_PUPIL h0 n0 Z0 S_PUPIL) hZ (hw _ (List.mem_of_getElem? (i := 12) rfl)) (hw _ (List.mem_of_getElem? (i := 6) rfl)) (by decide) (by decide)) q15a q15c (g := (mkF m 14 #[.val (.int p0), .val (.int (4 : Int32)), .val (.ref w_NO_OCCUPATION), .unset, .unset, .unset] [(.ref w_NO_OCCUPATION)])) rfl (by rw [hml]; rfl) (Steps.refl _) (argsL := []) (rest := []) (lenOf pd_1 rfl) rfl (by show 2 * 0 + _ ≤ _; exact Nat.le_of_eq rfl) (hb hby at_14) (fun _ _ => ⟨rfl, e14, (by decide : 0 + 0 ≤ _), (by decide : 0 + 0 ≤ _)⟩)
    dsimp only [Pt.U, Pt.locs, Pt.cells, Pt.slots] at X15 l15 y15 z15 st15 hQ15
    subst l15 y15 z15
    obtain ⟨rfl, N15q, e15⟩ := hQ15
    have N15 := Fr.app N14 N15q
    refine Go.st (fun _ k => st15.trans k) ?_
    show Go _ _ _ _ _ _ _ T15 (mkF m 17 #[.val (.int p0), .val (.int (4 : Int32)), .val (.ref w_NO_OCCUPATION), .unset, .unset, .unset] [(.int (val_2 w_NO_OCCUPATION w_PUPIL))])
    rw [show (val_2 w_NO_OCCUPATION w_PUPIL) = (1 : Int32) from by unfold val_2; rw [if_neg (Ne.symm ne_w_PUPIL_w_NO_OCCUPATION)]]
    show Go _ _ _ _ _ _ _ T15 (mkF m 17 #[.val (.int p0), .val (.int (4 : Int32)), .val (.ref w_NO_OCCUPATION), .unset, .unset, .unset] [(.int (1 : Int32))])
    refine Go.st (fun _ k => XS.istoreN X15.here hx rfl (hb hby at_17) rfl (l' := #[.val (.int p0), .val (.int (4 : Int32)), .val (.ref w_NO_OCCUPATION), .val (.int (1 : Int32)), .unset, .unset]) rfl k) ?_
    show Go _ _ _ _ _ _ _ T15 (mkF m 18 #[.val (.int p0), .val (.int (4 : Int32)), .val (.ref w_NO_OCCUPATION), .val (.int (1 : Int32)), .unset, .unset] [])
    refine Go.st (fun _ k => XS.iloadN X15.here hx rfl (hb hby at_18) rfl k) ?_
    show Go _ _ _ _ _ _ _ T15 (mkF m 19 #[.val (.int p0), .val (.int (4 : Int32)), .val (.ref w_NO_OCCUPATION), .val (.int (1 : Int32)), .unset, .unset] [(.int (4 : Int32))])
    refine Go.st (fun _ k => XS.ifNo X15.here hx rfl (hb hby at_19) rfl ((if0 _ _).trans (feq (by decide : ¬ ((4 : Int32) = (0 : Int32)))).1) k) ?_
    show Go _ _ _ _ _ _ _ T15 (mkF m 22 #[.val (.int p0), .val (.int (4 : Int32)), .val (.ref w_NO_OCCUPATION), .val (.int (1 : Int32)), .unset, .unset] [])
    refine Go.st (fun _ k => XS.iconst X15.here hx rfl (hb hby at_22) k) ?_
    show Go _ _ _ _ _ _ _ T15 (mkF m 23 #[.val (.int p0), .val (.int (4 : Int32)), .val (.ref w_NO_OCCUPATION), .val (.int (1 : Int32)), .unset, .unset] [(.int (1 : Int32))])
    refine Go.st (fun _ k => XS.goto X15.here hx rfl (pc0 := 23) (pc' := 27) rfl (hb hby at_23) (by decide) (by decide) k) ?_
    show Go _ _ _ _ _ _ _ T15 (mkF m 27 #[.val (.int p0), .val (.int (4 : Int32)), .val (.ref w_NO_OCCUPATION), .val (.int (1 : Int32)), .unset, .unset] [(.int (1 : Int32))])
    refine Go.st (fun _ k => XS.istore X15.here hx rfl (hb hby at_27) rfl (l' := #[.val (.int p0), .val (.int (4 : Int32)), .val (.ref w_NO_OCCUPATION), .val (.int (1 : Int32)), .val (.int (1 : Int32)), .unset]) rfl k) ?_
    show Go _ _ _ _ _ _ _ T15 (mkF m 29 #[.val (.int p0), .val (.int (4 : Int32)), .val (.ref w_NO_OCCUPATION), .val (.int (1 : Int32)), .val (.int (1 : Int32)), .unset] [])
    refine Go.st (fun _ k => XS.aloadN X15.here hx rfl (hb hby at_29) rfl rfl k) ?_
    show Go _ _ _ _ _ _ _ T15 (mkF m 30 #[.val (.int p0), .val (.int (4 : Int32)), .val (.ref w_NO_OCCUPATION), .val (.int (1 : Int32)), .val (.int (1 : Int32)), .unset] [(.ref w_NO_OCCUPATION)])
    obtain ⟨cq16, kq16, q16a, q16b, q16c⟩ := isOf hZ e15 E_NO_OCCUPATION
    obtain ⟨_, _, ⟨T16, L16, k16, n16⟩, -, X16, ⟨Lc16, hQ16, l16, y16, z16⟩, st16⟩ := X15.virtualBack hx (y := (⟨"com/example/nesenbach/nesenbach/city/PersonGroup", "age", "()I"⟩ : MethodName)) (z := (⟨"com/example/nesenbach/nesenbach/city/PersonGroup", "age", "()I"⟩ : MethodName)) hown (mvT hZ (hw _ (List.mem_of_getElem? (i := 14) rfl))) (mvT hZ (hw _ (List.mem_of_getElem? (i := 15) rfl))) (notFace_of_selects (args := #[]) (mvT hZ (hw _ (List.mem_of_getElem? (i := 17) rfl)))) (mvT hZ (hw _ (List.mem_of_getElem? (i := 17) rfl))) (mvT hZ (hw _ (List.mem_of_getElem? (i := 16) rfl))) (by decide) (backOf (W := 0) (rm3 l Z a0 hw [] w_NO_OCCUPATION (40 : Int32) h0 n0 Z0 F_NO_OCCUPATION_age) hZ (hw _ (List.mem_of_getElem? (i := 18) rfl)) (hw _ (List.mem_of_getElem? (i := 6) rfl)) (by decide) (by decide)) q16a q16c (g := (mkF m 30 #[.val (.int p0), .val (.int (4 : Int32)), .val (.ref w_NO_OCCUPATION), .val (.int (1 : Int32)), .val (.int (1 : Int32)), .unset] [(.ref w_NO_OCCUPATION)])) rfl (by rw [hml]; rfl) (Steps.refl _) (argsL := []) (rest := []) (lenOf pd_2 rfl) rfl (by show 2 * 0 + _ ≤ _; exact Nat.le_of_eq rfl) (hb hby at_30) (fun _ _ => ⟨rfl, e15, (by decide : 0 + 0 ≤ _), (by decide : 0 + 0 ≤ _)⟩)
    dsimp only [Pt.U, Pt.locs, Pt.cells, Pt.slots] at X16 l16 y16 z16 st16 hQ16
    subst l16 y16 z16
    obtain ⟨rfl, N16q, e16⟩ := hQ16
    have N16 := Fr.app N15 N16q
    refine Go.st (fun _ k => st16.trans k) ?_
    show Go _ _ _ _ _ _ _ T16 (mkF m 33 #[.val (.int p0), .val (.int (4 : Int32)), .val (.ref w_NO_OCCUPATION), .val (.int (1 : Int32)), .val (.int (1 : Int32)), .unset] [(.int (val_3 w_NO_OCCUPATION (40 : Int32)))])
    rw [show (val_3 w_NO_OCCUPATION (40 : Int32)) = (40 : Int32) from by unfold val_3; rfl]
    show Go _ _ _ _ _ _ _ T16 (mkF m 33 #[.val (.int p0), .val (.int (4 : Int32)), .val (.ref w_NO_OCCUPATION), .val (.int (1 : Int32)), .val (.int (1 : Int32)), .unset] [(.int (40 : Int32))])
    refine Go.st (fun _ k => XS.bipush X16.here hx rfl (hb hby at_33) k) ?_
    show Go _ _ _ _ _ _ _ T16 (mkF m 35 #[.val (.int p0), .val (.int (4 : Int32)), .val (.ref w_NO_OCCUPATION), .val (.int (1 : Int32)), .val (.int (1 : Int32)), .unset] [(.int (18 : Int32)), (.int (40 : Int32))])
    refine Go.st (fun _ k => XS.icmpNo X16.here hx rfl (hb hby at_35) rfl (flt (by decide : ¬ ((40 : Int32) < (18 : Int32)))).1 k) ?_
    show Go _ _ _ _ _ _ _ T16 (mkF m 38 #[.val (.int p0), .val (.int (4 : Int32)), .val (.ref w_NO_OCCUPATION), .val (.int (1 : Int32)), .val (.int (1 : Int32)), .unset] [])
    refine Go.st (fun _ k => XS.iconst X16.here hx rfl (hb hby at_38) k) ?_
    show Go _ _ _ _ _ _ _ T16 (mkF m 39 #[.val (.int p0), .val (.int (4 : Int32)), .val (.ref w_NO_OCCUPATION), .val (.int (1 : Int32)), .val (.int (1 : Int32)), .unset] [(.int (1 : Int32))])
    refine Go.st (fun _ k => XS.goto X16.here hx rfl (pc0 := 39) (pc' := 43) rfl (hb hby at_39) (by decide) (by decide) k) ?_
    show Go _ _ _ _ _ _ _ T16 (mkF m 43 #[.val (.int p0), .val (.int (4 : Int32)), .val (.ref w_NO_OCCUPATION), .val (.int (1 : Int32)), .val (.int (1 : Int32)), .unset] [(.int (1 : Int32))])
    refine Go.st (fun _ k => XS.istore X16.here hx rfl (hb hby at_43) rfl (l' := #[.val (.int p0), .val (.int (4 : Int32)), .val (.ref w_NO_OCCUPATION), .val (.int (1 : Int32)), .val (.int (1 : Int32)), .val (.int (1 : Int32))]) rfl k) ?_
    show Go _ _ _ _ _ _ _ T16 (mkF m 45 #[.val (.int p0), .val (.int (4 : Int32)), .val (.ref w_NO_OCCUPATION), .val (.int (1 : Int32)), .val (.int (1 : Int32)), .val (.int (1 : Int32))] [])
    refine Go.st (fun _ k => XS.iloadN X16.here hx rfl (hb hby at_45) rfl k) ?_
    show Go _ _ _ _ _ _ _ T16 (mkF m 46 #[.val (.int p0), .val (.int (4 : Int32)), .val (.ref w_NO_OCCUPATION), .val (.int (1 : Int32)), .val (.int (1 : Int32)), .val (.int (1 : Int32))] [(.int (1 : Int32))])
    refine Go.st (fun _ k => XS.iload X16.here hx rfl (hb hby at_46) rfl k) ?_
    show Go _ _ _ _ _ _ _ T16 (mkF m 48 #[.val (.int p0), .val (.int (4 : Int32)), .val (.ref w_NO_OCCUPATION), .val (.int (1 : Int32)), .val (.int (1 : Int32)), .val (.int (1 : Int32))] [(.int (1 : Int32)), (.int (1 : Int32))])
    refine Go.st (fun _ k => XS.icmpNo X16.here hx rfl (hb hby at_48) rfl (teq (by decide : (1 : Int32) = (1 : Int32))).2 k) ?_
    show Go _ _ _ _ _ _ _ T16 (mkF m 51 #[.val (.int p0), .val (.int (4 : Int32)), .val (.ref w_NO_OCCUPATION), .val (.int (1 : Int32)), .val (.int (1 : Int32)), .val (.int (1 : Int32))] [])
    refine Go.st (fun _ k => XS.iloadN X16.here hx rfl (hb hby at_51) rfl k) ?_
    show Go _ _ _ _ _ _ _ T16 (mkF m 52 #[.val (.int p0), .val (.int (4 : Int32)), .val (.ref w_NO_OCCUPATION), .val (.int (1 : Int32)), .val (.int (1 : Int32)), .val (.int (1 : Int32))] [(.int (1 : Int32))])
    refine Go.st (fun _ k => XS.iload X16.here hx rfl (hb hby at_52) rfl k) ?_
    show Go _ _ _ _ _ _ _ T16 (mkF m 54 #[.val (.int p0), .val (.int (4 : Int32)), .val (.ref w_NO_OCCUPATION), .val (.int (1 : Int32)), .val (.int (1 : Int32)), .val (.int (1 : Int32))] [(.int (1 : Int32)), (.int (1 : Int32))])
    refine Go.st (fun _ k => XS.icmpNo X16.here hx rfl (hb hby at_54) rfl (teq (by decide : (1 : Int32) = (1 : Int32))).2 k) ?_
    show Go _ _ _ _ _ _ _ T16 (mkF m 57 #[.val (.int p0), .val (.int (4 : Int32)), .val (.ref w_NO_OCCUPATION), .val (.int (1 : Int32)), .val (.int (1 : Int32)), .val (.int (1 : Int32))] [])
    refine Go.st (fun _ k => XS.iconst X16.here hx rfl (hb hby at_57) k) ?_
    show Go _ _ _ _ _ _ _ T16 (mkF m 58 #[.val (.int p0), .val (.int (4 : Int32)), .val (.ref w_NO_OCCUPATION), .val (.int (1 : Int32)), .val (.int (1 : Int32)), .val (.int (1 : Int32))] [(.int (1 : Int32))])
    refine Go.st (fun _ k => XS.goto X16.here hx rfl (pc0 := 58) (pc' := 62) rfl (hb hby at_58) (by decide) (by decide) k) ?_
    show Go _ _ _ _ _ _ _ T16 (mkF m 62 #[.val (.int p0), .val (.int (4 : Int32)), .val (.ref w_NO_OCCUPATION), .val (.int (1 : Int32)), .val (.int (1 : Int32)), .val (.int (1 : Int32))] [(.int (1 : Int32))])
    refine Go.ret X16 hlk (v := some (.int (1 : Int32))) (fun h => by rw [hret] at h; cases h) (fun fs hr => retN X16 hx (t := .boolean) hret (by simp) (hb hby at_62) hr) ?_ (by decide) (by decide)
    show Q0 Z p0 w_PUPIL w_STUDENT w_PART_TIME w_FULL_TIME w_RETIRED w_NO_OCCUPATION h0 n0 (some (.int (1 : Int32))) T16.heap _
    rw [e16]
    exact ⟨rfl, N16⟩
  · rw [hk1]
    show Go _ _ _ _ _ _ _ s₁ (mkF m 7 #[.val (.int p0), .unset, .unset, .unset, .unset, .unset] [(.int (5 : Int32))])
    refine Go.st (fun _ k => XS.istoreN X0.here hx rfl (hb hby at_7) rfl (l' := #[.val (.int p0), .val (.int (5 : Int32)), .unset, .unset, .unset, .unset]) rfl k) ?_
    show Go _ _ _ _ _ _ _ s₁ (mkF m 8 #[.val (.int p0), .val (.int (5 : Int32)), .unset, .unset, .unset, .unset] [])
    refine Go.st (fun _ k => XS.iloadN X0.here hx rfl (hb hby at_8) rfl k) ?_
    show Go _ _ _ _ _ _ _ s₁ (mkF m 9 #[.val (.int p0), .val (.int (5 : Int32)), .unset, .unset, .unset, .unset] [(.int (5 : Int32))])
    obtain ⟨_, _, ⟨T17, L17, k17, n17⟩, -, X17, ⟨Lc17, hQ17, l17, y17, z17⟩, st17⟩ := Jvm.LawKit.callS X0 hx (y := (⟨"com/example/nesenbach/nesenbach/city/PersonGroupHoldsLicencePinLaw", "pick", "(I)Lcom/example/nesenbach/nesenbach/city/PersonGroup;"⟩ : MethodName)) hown (mvT hZ (hw _ (List.mem_of_getElem? (i := 1) rfl))) (mvT hZ (hw _ (List.mem_of_getElem? (i := 2) rfl))) (mvT hZ (hw _ (List.mem_of_getElem? (i := 3) rfl))) (mvT hZ (hw _ (List.mem_of_getElem? (i := 4) rfl))) (by decide) (backOf (W := 0) (rm1 l Z a0 hw [] (5 : Int32) w_PUPIL w_FULL_TIME w_PART_TIME w_STUDENT w_NO_OCCUPATION w_RETIRED h0 n0 Z0 S_PUPIL S_FULL_TIME S_PART_TIME S_STUDENT S_NO_OCCUPATION S_RETIRED) hZ (hw _ (List.mem_of_getElem? (i := 4) rfl)) (hw _ (List.mem_of_getElem? (i := 3) rfl)) (by decide) (by decide)) (g := (mkF m 9 #[.val (.int p0), .val (.int (5 : Int32)), .unset, .unset, .unset, .unset] [(.int (5 : Int32))])) rfl (by rw [hml]; rfl) (argsL := [(.int (5 : Int32))]) (rest := []) (lenOf pd_0 rfl) rfl (by show 2 * 0 + _ ≤ _; exact Nat.le_of_eq rfl) (hb hby at_9) (fun _ _ => ⟨rfl, e0, (by decide : 0 + 0 ≤ _), (by decide : 0 + 0 ≤ _)⟩)
    dsimp only [Pt.U, Pt.locs, Pt.cells, Pt.slots] at X17 l17 y17 z17 st17 hQ17
    subst l17 y17 z17
    obtain ⟨rfl, N17q, e17⟩ := hQ17
    have N17 := Fr.app N0 N17q
    refine Go.st st17 ?_
    show Go _ _ _ _ _ _ _ T17 (mkF m 12 #[.val (.int p0), .val (.int (5 : Int32)), .unset, .unset, .unset, .unset] [(.ref (val_1 (5 : Int32) w_PUPIL w_FULL_TIME w_PART_TIME w_STUDENT w_NO_OCCUPATION w_RETIRED))])
    rw [show (val_1 (5 : Int32) w_PUPIL w_FULL_TIME w_PART_TIME w_STUDENT w_NO_OCCUPATION w_RETIRED) = w_RETIRED from by unfold val_1; rw [if_neg (by decide +kernel : ¬ ((5 : Int32) = (0 : Int32))), if_neg (by decide +kernel : ¬ ((5 : Int32) = (1 : Int32))), if_neg (by decide +kernel : ¬ ((5 : Int32) = (2 : Int32))), if_neg (by decide +kernel : ¬ ((5 : Int32) = (3 : Int32))), if_neg (by decide +kernel : ¬ ((5 : Int32) = (4 : Int32)))]]
    show Go _ _ _ _ _ _ _ T17 (mkF m 12 #[.val (.int p0), .val (.int (5 : Int32)), .unset, .unset, .unset, .unset] [(.ref w_RETIRED)])
    refine Go.st (fun _ k => XS.astoreN X17.here hx rfl (hb hby at_12) rfl rfl (l' := #[.val (.int p0), .val (.int (5 : Int32)), .val (.ref w_RETIRED), .unset, .unset, .unset]) rfl k) ?_
    show Go _ _ _ _ _ _ _ T17 (mkF m 13 #[.val (.int p0), .val (.int (5 : Int32)), .val (.ref w_RETIRED), .unset, .unset, .unset] [])
    refine Go.st (fun _ k => XS.aloadN X17.here hx rfl (hb hby at_13) rfl rfl k) ?_
    show Go _ _ _ _ _ _ _ T17 (mkF m 14 #[.val (.int p0), .val (.int (5 : Int32)), .val (.ref w_RETIRED), .unset, .unset, .unset] [(.ref w_RETIRED)])
    obtain ⟨cq18, kq18, q18a, q18b, q18c⟩ := isOf hZ e17 E_RETIRED
    obtain ⟨_, _, ⟨T18, L18, k18, n18⟩, -, X18, ⟨Lc18, hQ18, l18, y18, z18⟩, st18⟩ := X17.virtualBack hx (y := (⟨"com/example/nesenbach/nesenbach/city/PersonGroup", "holdsLicence", "()Z"⟩ : MethodName)) (z := (⟨"com/example/nesenbach/nesenbach/city/PersonGroup", "holdsLicence", "()Z"⟩ : MethodName)) hown (mvT hZ (hw _ (List.mem_of_getElem? (i := 8) rfl))) (mvT hZ (hw _ (List.mem_of_getElem? (i := 9) rfl))) (notFace_of_selects (args := #[]) (mvT hZ (hw _ (List.mem_of_getElem? (i := 11) rfl)))) (mvT hZ (hw _ (List.mem_of_getElem? (i := 11) rfl))) (mvT hZ (hw _ (List.mem_of_getElem? (i := 10) rfl))) (by decide) (backOf (W := 0) (rm2 l Z a0 hw [] w_RETIRED w_PUPIL h0 n0 Z0 S_PUPIL) hZ (hw _ (List.mem_of_getElem? (i := 12) rfl)) (hw _ (List.mem_of_getElem? (i := 6) rfl)) (by decide) (by decide)) q18a q18c (g := (mkF m 14 #[.val (.int p0), .val (.int (5 : Int32)), .val (.ref w_RETIRED), .unset, .unset, .unset] [(.ref w_RETIRED)])) rfl (by rw [hml]; rfl) (Steps.refl _) (argsL := []) (rest := []) (lenOf pd_1 rfl) rfl (by show 2 * 0 + _ ≤ _; exact Nat.le_of_eq rfl) (hb hby at_14) (fun _ _ => ⟨rfl, e17, (by decide : 0 + 0 ≤ _), (by decide : 0 + 0 ≤ _)⟩)
    dsimp only [Pt.U, Pt.locs, Pt.cells, Pt.slots] at X18 l18 y18 z18 st18 hQ18
    subst l18 y18 z18
    obtain ⟨rfl, N18q, e18⟩ := hQ18
    have N18 := Fr.app N17 N18q
    refine Go.st (fun _ k => st18.trans k) ?_
    show Go _ _ _ _ _ _ _ T18 (mkF m 17 #[.val (.int p0), .val (.int (5 : Int32)), .val (.ref w_RETIRED), .unset, .unset, .unset] [(.int (val_2 w_RETIRED w_PUPIL))])
    rw [show (val_2 w_RETIRED w_PUPIL) = (1 : Int32) from by unfold val_2; rw [if_neg (Ne.symm ne_w_PUPIL_w_RETIRED)]]
    show Go _ _ _ _ _ _ _ T18 (mkF m 17 #[.val (.int p0), .val (.int (5 : Int32)), .val (.ref w_RETIRED), .unset, .unset, .unset] [(.int (1 : Int32))])
    refine Go.st (fun _ k => XS.istoreN X18.here hx rfl (hb hby at_17) rfl (l' := #[.val (.int p0), .val (.int (5 : Int32)), .val (.ref w_RETIRED), .val (.int (1 : Int32)), .unset, .unset]) rfl k) ?_
    show Go _ _ _ _ _ _ _ T18 (mkF m 18 #[.val (.int p0), .val (.int (5 : Int32)), .val (.ref w_RETIRED), .val (.int (1 : Int32)), .unset, .unset] [])
    refine Go.st (fun _ k => XS.iloadN X18.here hx rfl (hb hby at_18) rfl k) ?_
    show Go _ _ _ _ _ _ _ T18 (mkF m 19 #[.val (.int p0), .val (.int (5 : Int32)), .val (.ref w_RETIRED), .val (.int (1 : Int32)), .unset, .unset] [(.int (5 : Int32))])
    refine Go.st (fun _ k => XS.ifNo X18.here hx rfl (hb hby at_19) rfl ((if0 _ _).trans (feq (by decide : ¬ ((5 : Int32) = (0 : Int32)))).1) k) ?_
    show Go _ _ _ _ _ _ _ T18 (mkF m 22 #[.val (.int p0), .val (.int (5 : Int32)), .val (.ref w_RETIRED), .val (.int (1 : Int32)), .unset, .unset] [])
    refine Go.st (fun _ k => XS.iconst X18.here hx rfl (hb hby at_22) k) ?_
    show Go _ _ _ _ _ _ _ T18 (mkF m 23 #[.val (.int p0), .val (.int (5 : Int32)), .val (.ref w_RETIRED), .val (.int (1 : Int32)), .unset, .unset] [(.int (1 : Int32))])
    refine Go.st (fun _ k => XS.goto X18.here hx rfl (pc0 := 23) (pc' := 27) rfl (hb hby at_23) (by decide) (by decide) k) ?_
    show Go _ _ _ _ _ _ _ T18 (mkF m 27 #[.val (.int p0), .val (.int (5 : Int32)), .val (.ref w_RETIRED), .val (.int (1 : Int32)), .unset, .unset] [(.int (1 : Int32))])
    refine Go.st (fun _ k => XS.istore X18.here hx rfl (hb hby at_27) rfl (l' := #[.val (.int p0), .val (.int (5 : Int32)), .val (.ref w_RETIRED), .val (.int (1 : Int32)), .val (.int (1 : Int32)), .unset]) rfl k) ?_
    show Go _ _ _ _ _ _ _ T18 (mkF m 29 #[.val (.int p0), .val (.int (5 : Int32)), .val (.ref w_RETIRED), .val (.int (1 : Int32)), .val (.int (1 : Int32)), .unset] [])
    refine Go.st (fun _ k => XS.aloadN X18.here hx rfl (hb hby at_29) rfl rfl k) ?_
    show Go _ _ _ _ _ _ _ T18 (mkF m 30 #[.val (.int p0), .val (.int (5 : Int32)), .val (.ref w_RETIRED), .val (.int (1 : Int32)), .val (.int (1 : Int32)), .unset] [(.ref w_RETIRED)])
    obtain ⟨cq19, kq19, q19a, q19b, q19c⟩ := isOf hZ e18 E_RETIRED
    obtain ⟨_, _, ⟨T19, L19, k19, n19⟩, -, X19, ⟨Lc19, hQ19, l19, y19, z19⟩, st19⟩ := X18.virtualBack hx (y := (⟨"com/example/nesenbach/nesenbach/city/PersonGroup", "age", "()I"⟩ : MethodName)) (z := (⟨"com/example/nesenbach/nesenbach/city/PersonGroup", "age", "()I"⟩ : MethodName)) hown (mvT hZ (hw _ (List.mem_of_getElem? (i := 14) rfl))) (mvT hZ (hw _ (List.mem_of_getElem? (i := 15) rfl))) (notFace_of_selects (args := #[]) (mvT hZ (hw _ (List.mem_of_getElem? (i := 17) rfl)))) (mvT hZ (hw _ (List.mem_of_getElem? (i := 17) rfl))) (mvT hZ (hw _ (List.mem_of_getElem? (i := 16) rfl))) (by decide) (backOf (W := 0) (rm3 l Z a0 hw [] w_RETIRED (72 : Int32) h0 n0 Z0 F_RETIRED_age) hZ (hw _ (List.mem_of_getElem? (i := 18) rfl)) (hw _ (List.mem_of_getElem? (i := 6) rfl)) (by decide) (by decide)) q19a q19c (g := (mkF m 30 #[.val (.int p0), .val (.int (5 : Int32)), .val (.ref w_RETIRED), .val (.int (1 : Int32)), .val (.int (1 : Int32)), .unset] [(.ref w_RETIRED)])) rfl (by rw [hml]; rfl) (Steps.refl _) (argsL := []) (rest := []) (lenOf pd_2 rfl) rfl (by show 2 * 0 + _ ≤ _; exact Nat.le_of_eq rfl) (hb hby at_30) (fun _ _ => ⟨rfl, e18, (by decide : 0 + 0 ≤ _), (by decide : 0 + 0 ≤ _)⟩)
    dsimp only [Pt.U, Pt.locs, Pt.cells, Pt.slots] at X19 l19 y19 z19 st19 hQ19
    subst l19 y19 z19
    obtain ⟨rfl, N19q, e19⟩ := hQ19
    have N19 := Fr.app N18 N19q
    refine Go.st (fun _ k => st19.trans k) ?_
    show Go _ _ _ _ _ _ _ T19 (mkF m 33 #[.val (.int p0), .val (.int (5 : Int32)), .val (.ref w_RETIRED), .val (.int (1 : Int32)), .val (.int (1 : Int32)), .unset] [(.int (val_3 w_RETIRED (72 : Int32)))])
    rw [show (val_3 w_RETIRED (72 : Int32)) = (72 : Int32) from by unfold val_3; rfl]
    show Go _ _ _ _ _ _ _ T19 (mkF m 33 #[.val (.int p0), .val (.int (5 : Int32)), .val (.ref w_RETIRED), .val (.int (1 : Int32)), .val (.int (1 : Int32)), .unset] [(.int (72 : Int32))])
    refine Go.st (fun _ k => XS.bipush X19.here hx rfl (hb hby at_33) k) ?_
    show Go _ _ _ _ _ _ _ T19 (mkF m 35 #[.val (.int p0), .val (.int (5 : Int32)), .val (.ref w_RETIRED), .val (.int (1 : Int32)), .val (.int (1 : Int32)), .unset] [(.int (18 : Int32)), (.int (72 : Int32))])
    refine Go.st (fun _ k => XS.icmpNo X19.here hx rfl (hb hby at_35) rfl (flt (by decide : ¬ ((72 : Int32) < (18 : Int32)))).1 k) ?_
    show Go _ _ _ _ _ _ _ T19 (mkF m 38 #[.val (.int p0), .val (.int (5 : Int32)), .val (.ref w_RETIRED), .val (.int (1 : Int32)), .val (.int (1 : Int32)), .unset] [])
    refine Go.st (fun _ k => XS.iconst X19.here hx rfl (hb hby at_38) k) ?_
    show Go _ _ _ _ _ _ _ T19 (mkF m 39 #[.val (.int p0), .val (.int (5 : Int32)), .val (.ref w_RETIRED), .val (.int (1 : Int32)), .val (.int (1 : Int32)), .unset] [(.int (1 : Int32))])
    refine Go.st (fun _ k => XS.goto X19.here hx rfl (pc0 := 39) (pc' := 43) rfl (hb hby at_39) (by decide) (by decide) k) ?_
    show Go _ _ _ _ _ _ _ T19 (mkF m 43 #[.val (.int p0), .val (.int (5 : Int32)), .val (.ref w_RETIRED), .val (.int (1 : Int32)), .val (.int (1 : Int32)), .unset] [(.int (1 : Int32))])
    refine Go.st (fun _ k => XS.istore X19.here hx rfl (hb hby at_43) rfl (l' := #[.val (.int p0), .val (.int (5 : Int32)), .val (.ref w_RETIRED), .val (.int (1 : Int32)), .val (.int (1 : Int32)), .val (.int (1 : Int32))]) rfl k) ?_
    show Go _ _ _ _ _ _ _ T19 (mkF m 45 #[.val (.int p0), .val (.int (5 : Int32)), .val (.ref w_RETIRED), .val (.int (1 : Int32)), .val (.int (1 : Int32)), .val (.int (1 : Int32))] [])
    refine Go.st (fun _ k => XS.iloadN X19.here hx rfl (hb hby at_45) rfl k) ?_
    show Go _ _ _ _ _ _ _ T19 (mkF m 46 #[.val (.int p0), .val (.int (5 : Int32)), .val (.ref w_RETIRED), .val (.int (1 : Int32)), .val (.int (1 : Int32)), .val (.int (1 : Int32))] [(.int (1 : Int32))])
    refine Go.st (fun _ k => XS.iload X19.here hx rfl (hb hby at_46) rfl k) ?_
    show Go _ _ _ _ _ _ _ T19 (mkF m 48 #[.val (.int p0), .val (.int (5 : Int32)), .val (.ref w_RETIRED), .val (.int (1 : Int32)), .val (.int (1 : Int32)), .val (.int (1 : Int32))] [(.int (1 : Int32)), (.int (1 : Int32))])
    refine Go.st (fun _ k => XS.icmpNo X19.here hx rfl (hb hby at_48) rfl (teq (by decide : (1 : Int32) = (1 : Int32))).2 k) ?_
    show Go _ _ _ _ _ _ _ T19 (mkF m 51 #[.val (.int p0), .val (.int (5 : Int32)), .val (.ref w_RETIRED), .val (.int (1 : Int32)), .val (.int (1 : Int32)), .val (.int (1 : Int32))] [])
    refine Go.st (fun _ k => XS.iloadN X19.here hx rfl (hb hby at_51) rfl k) ?_
    show Go _ _ _ _ _ _ _ T19 (mkF m 52 #[.val (.int p0), .val (.int (5 : Int32)), .val (.ref w_RETIRED), .val (.int (1 : Int32)), .val (.int (1 : Int32)), .val (.int (1 : Int32))] [(.int (1 : Int32))])
    refine Go.st (fun _ k => XS.iload X19.here hx rfl (hb hby at_52) rfl k) ?_
    show Go _ _ _ _ _ _ _ T19 (mkF m 54 #[.val (.int p0), .val (.int (5 : Int32)), .val (.ref w_RETIRED), .val (.int (1 : Int32)), .val (.int (1 : Int32)), .val (.int (1 : Int32))] [(.int (1 : Int32)), (.int (1 : Int32))])
    refine Go.st (fun _ k => XS.icmpNo X19.here hx rfl (hb hby at_54) rfl (teq (by decide : (1 : Int32) = (1 : Int32))).2 k) ?_
    show Go _ _ _ _ _ _ _ T19 (mkF m 57 #[.val (.int p0), .val (.int (5 : Int32)), .val (.ref w_RETIRED), .val (.int (1 : Int32)), .val (.int (1 : Int32)), .val (.int (1 : Int32))] [])
    refine Go.st (fun _ k => XS.iconst X19.here hx rfl (hb hby at_57) k) ?_
    show Go _ _ _ _ _ _ _ T19 (mkF m 58 #[.val (.int p0), .val (.int (5 : Int32)), .val (.ref w_RETIRED), .val (.int (1 : Int32)), .val (.int (1 : Int32)), .val (.int (1 : Int32))] [(.int (1 : Int32))])
    refine Go.st (fun _ k => XS.goto X19.here hx rfl (pc0 := 58) (pc' := 62) rfl (hb hby at_58) (by decide) (by decide) k) ?_
    show Go _ _ _ _ _ _ _ T19 (mkF m 62 #[.val (.int p0), .val (.int (5 : Int32)), .val (.ref w_RETIRED), .val (.int (1 : Int32)), .val (.int (1 : Int32)), .val (.int (1 : Int32))] [(.int (1 : Int32))])
    refine Go.ret X19 hlk (v := some (.int (1 : Int32))) (fun h => by rw [hret] at h; cases h) (fun fs hr => retN X19 hx (t := .boolean) hret (by simp) (hb hby at_62) hr) ?_ (by decide) (by decide)
    show Q0 Z p0 w_PUPIL w_STUDENT w_PART_TIME w_FULL_TIME w_RETIRED w_NO_OCCUPATION h0 n0 (some (.int (1 : Int32))) T19.heap _
    rw [e19]
    exact ⟨rfl, N19⟩
set_option maxRecDepth 65536 in
set_option maxHeartbeats 40000000 in
theorem comes_1 {Post : Tables → Env → Array Value → State → Outcome → State → Prop} (hpost : ∀ tb e args s v u, (limb_1_1.after args s (.returned v) u = true ∧ limb_1_2.after args s (.returned v) u = true ∧ True) → FrameEnd s (.returned v) u (Jvm.fieldLocs frame_1_writes args s ++ Jvm.arrayLocs frame_1_arrays args s ++ Jvm.staticLocs frame_1_statics s) 0 0 → Post tb e args s (.returned v) u) :
    ArmFor flags0 classFile x code maxLocals ret World_1 tables_1 room_1 Calls_1 rest_1 Pre_1 Post := by
  intro l hfl _ _ p e ha hc hk s m args below hf hA hF happ hP
  obtain ⟨hcalls, hrest, hpre⟩ := hP
  obtain ⟨-, -, -, hnamed, -, -, -, hat⟩ := (Spec.applies_iff hf).mp happ
  obtain ⟨hg, hn⟩ := and_e (Cond.before_iff.mp (show (Jvm.Cond.and given_1 narrow_1).before args s = true from hpre))
  obtain ⟨g1, g2⟩ := and_e hg
  obtain ⟨w0, rfl⟩ : ∃ w0 : Value, args = #[w0] := by
    have hs : args.size = 1 := by simpa [Cond.value, given_1] using g1
    obtain ⟨L⟩ := args
    match L, hs with
    | [w0], _ => exact ⟨w0, rfl⟩
  have hw := fun d (hd : d ∈ tables_1) => atoms_spec (ws := Jvm.Cond.code x code maxLocals ret :: tables_1) hat d (List.mem_cons_of_mem _ hd)
  have hfit : Fit s := fun {y c} hc i hi => by
    obtain ⟨ha, rfl⟩ := Array.getElem?_eq_some_iff.mp hc
    have q := List.all_eq_true.mp ((Array.all_eq_true_iff_forall_mem.mp hF) _ (Array.getElem_mem ha)) i (List.mem_range.mpr hi)
    simpa [Array.getElem?_eq_getElem hi] using q
  obtain ⟨i0, ei0⟩ := is_v g2
  obtain rfl : w0 = (.int i0) := Option.some.inj ei0
  obtain ⟨g3, g4⟩ := and_e hn
  obtain ⟨g5, g6⟩ := and_e g4
  obtain ⟨g7, g8⟩ := and_e g6
  obtain ⟨g9, g10⟩ := and_e g8
  obtain ⟨g11, g12⟩ := and_e g10
  obtain ⟨g13, g14⟩ := and_e g12
  obtain ⟨g15, g16⟩ := and_e g14
  obtain ⟨g17, g18⟩ := and_e g16
  obtain ⟨g19, g20⟩ := and_e g18
  obtain ⟨g21, g22⟩ := and_e g20
  obtain ⟨g23, g24⟩ := and_e g22
  obtain ⟨g25, g26⟩ := and_e g24
  obtain ⟨g27, g28⟩ := and_e g26
  obtain ⟨g29, g30⟩ := and_e g28
  obtain ⟨g31, g32⟩ := and_e g30
  obtain ⟨g33, g34⟩ := and_e g32
  obtain ⟨g35, g36⟩ := and_e g34
  obtain ⟨w_PUPIL, ev_PUPIL⟩ := exa_v g3
  have S_PUPIL := Sta.start ev_PUPIL (Or.inr ⟨(hw _ (List.mem_of_getElem? (i := 6) rfl)), (hw _ (List.mem_of_getElem? (i := 7) rfl))⟩)
  have E_PUPIL := Exa.start ev_PUPIL g3
  have F_PUPIL_age := own_fld ev_PUPIL g5
  obtain ⟨w_STUDENT, ev_STUDENT⟩ := exa_v g7
  have S_STUDENT := Sta.start ev_STUDENT (Or.inr ⟨(hw _ (List.mem_of_getElem? (i := 6) rfl)), (hw _ (List.mem_of_getElem? (i := 22) rfl))⟩)
  have E_STUDENT := Exa.start ev_STUDENT g7
  have F_STUDENT_ordinal := own_fld ev_STUDENT g9
  have F_PUPIL_ordinal := own_fld ev_PUPIL g11
  have F_STUDENT_age := own_fld ev_STUDENT g13
  obtain ⟨w_PART_TIME, ev_PART_TIME⟩ := exa_v g15
  have S_PART_TIME := Sta.start ev_PART_TIME (Or.inr ⟨(hw _ (List.mem_of_getElem? (i := 6) rfl)), (hw _ (List.mem_of_getElem? (i := 24) rfl))⟩)
  have E_PART_TIME := Exa.start ev_PART_TIME g15
  have F_PART_TIME_ordinal := own_fld ev_PART_TIME g17
  have F_PART_TIME_age := own_fld ev_PART_TIME g19
  obtain ⟨w_FULL_TIME, ev_FULL_TIME⟩ := exa_v g21
  have S_FULL_TIME := Sta.start ev_FULL_TIME (Or.inr ⟨(hw _ (List.mem_of_getElem? (i := 6) rfl)), (hw _ (List.mem_of_getElem? (i := 26) rfl))⟩)
  have E_FULL_TIME := Exa.start ev_FULL_TIME g21
  have F_FULL_TIME_ordinal := own_fld ev_FULL_TIME g23
  have F_FULL_TIME_age := own_fld ev_FULL_TIME g25
  obtain ⟨w_RETIRED, ev_RETIRED⟩ := exa_v g27
  have S_RETIRED := Sta.start ev_RETIRED (Or.inr ⟨(hw _ (List.mem_of_getElem? (i := 6) rfl)), (hw _ (List.mem_of_getElem? (i := 28) rfl))⟩)
  have E_RETIRED := Exa.start ev_RETIRED g27
  have F_RETIRED_ordinal := own_fld ev_RETIRED g29
  have F_RETIRED_age := own_fld ev_RETIRED g31
  obtain ⟨w_NO_OCCUPATION, ev_NO_OCCUPATION⟩ := exa_v g33
  have S_NO_OCCUPATION := Sta.start ev_NO_OCCUPATION (Or.inr ⟨(hw _ (List.mem_of_getElem? (i := 6) rfl)), (hw _ (List.mem_of_getElem? (i := 30) rfl))⟩)
  have E_NO_OCCUPATION := Exa.start ev_NO_OCCUPATION g33
  have F_NO_OCCUPATION_ordinal := own_fld ev_NO_OCCUPATION g35
  have F_NO_OCCUPATION_age := own_fld ev_NO_OCCUPATION g36
  obtain ⟨n, o, h1, h2, h3, _, L, rfl, ⟨rfl, N⟩, hq⟩ := rm0 l s _ hw tables_1 i0 w_PUPIL w_STUDENT w_PART_TIME w_FULL_TIME w_RETIRED w_NO_OCCUPATION s.heap s.heap.size (Nat.le_refl _) S_PUPIL E_PUPIL F_PUPIL_age S_STUDENT E_STUDENT F_STUDENT_ordinal F_PUPIL_ordinal F_STUDENT_age S_PART_TIME E_PART_TIME F_PART_TIME_ordinal F_PART_TIME_age S_FULL_TIME E_FULL_TIME F_FULL_TIME_ordinal F_FULL_TIME_age S_RETIRED E_RETIRED F_RETIRED_ordinal F_RETIRED_age S_NO_OCCUPATION E_NO_OCCUPATION F_NO_OCCUPATION_ordinal F_NO_OCCUPATION_age p e ha hc hk s m _ below hf ((Spec.applies_iff_loose hf).mp happ).1 ⟨rfl, State.Warmed39.refl s, rfl⟩ trivial
  refine ⟨n, _, h1, h2, h3, hpost _ _ _ _ _ _ ⟨Cond.after_iff.mpr rfl, Cond.after_iff.mpr (eq_i res_at (Term.int_eval (1)) rfl), trivial⟩ ⟨hq.1, hq.2.1, (hq.2.2.sift fun y hy => Or.inr (N y hy)).mono (by decide) (by decide)⟩⟩
theorem main_1_1 : Claimed_1_1 := comes_1 fun _ _ _ _ _ _ h hF => ⟨h.1, hF⟩
theorem main_1_2 : Claimed_1_2 := comes_1 fun _ _ _ _ _ _ h hF => ⟨h.2.1, hF⟩
end Jvm.Pilot.@@N@@
namespace Jvm.Pilot.@@N@@
open Jvm Jvm.ClassFile Sem Op Lib Jvm.Free Jvm.Stand Jvm.Pilot.@@N@@.Jvm.D
/-! MADE BY PROGRAM (witnessworld.py) out of the Statement's table words and the real class files: 12 classes; the members and pool entries that the words name. The judged class is class 1, her method 2. -/
namespace start1
open Jvm.ClassFile
def u (s : String) : CpInfo := .utf8 (stringToUtf16 s)
/-- a pool by its gaps: so many unusable entries, then the entry; so many at the end -/
def gap : Nat → List CpInfo → List CpInfo
  | 0, r => r
  | n + 1, r => .unusable :: gap n r
def poolList (es : List (Nat × CpInfo)) (last : Nat) : List CpInfo := es.foldr (fun e r => gap e.1 (e.2 :: r)) (gap last [])
def pool (es : List (Nat × CpInfo)) (last : Nat) : Array CpInfo := ⟨poolList es last⟩
def fileOf (pool : Array CpInfo) (this : Nat) (attrs : Array Attribute := #[]) (ms : Array MethodInfo := #[]) (fl : Nat := 33) (sup : Nat := 0) (ifs : Array Nat := #[]) (fds : Array FieldInfo := #[]) : ClassFile where
  minorVersion := 0
  majorVersion := 65
  constantPool := pool
  accessFlags := fl
  thisClass := this
  superClass := sup
  interfaces := ifs
  fields := fds
  methods := ms
  attributes := attrs
def plain (name : String) (sup : Option ClassId) : Class where
  name := name
  kind := .ordinary
  loader := none
  accessFlags := 33
  super := sup
  interfaces := #[]
  cf := none
  fields := #[]
  methods := #[]
  instanceTypes := #[]
  staticTypes := #[]
  resolved := #[]
  callSites := []
  init := .initialized
  statics := none
  mirror := none

def pool0 : Array CpInfo := pool [(5, u "<init>"), (0, u "()V"), (1, .class_ 10), (1, u "java/lang/Object")] 113

def k0m0 : Method := { name := "<init>", desc := "()V", sig := { parameters := [], returnType := none }, accessFlags := 1, code := none }
/-- java/lang/Object -/
def k0 : Class := { plain "java/lang/Object" none with
  accessFlags := 33
  interfaces := #[]
  cf := some (fileOf pool0 8 #[] #[{ accessFlags := 1, nameIndex := 5, descriptorIndex := 6, attributes := #[] }] 33 0 #[] #[])
  fields := #[]
  methods := #[k0m0]
  instanceTypes := #[]
  staticTypes := #[]
  resolved := Array.replicate 124 none
  statics := none }

def pool1 : Array CpInfo := pool [(2, .class_ 4), (1, u "java/lang/Object"), (0, u "<init>"), (0, u "()V"), (0, .fieldref 8 9), (0, .class_ 10), (0, .nameAndType 11 12), (0, u "com/example/nesenbach/nesenbach/city/PersonGroup"), (0, u "PUPIL"), (0, u "Lcom/example/nesenbach/nesenbach/city/PersonGroup;"), (0, .fieldref 8 14), (0, .nameAndType 15 12), (0, u "FULL_TIME"), (0, .fieldref 8 17), (0, .nameAndType 18 12), (0, u "PART_TIME"), (0, .fieldref 8 20), (0, .nameAndType 21 12), (0, u "STUDENT"), (0, .fieldref 8 23), (0, .nameAndType 24 12), (0, u "NO_OCCUPATION"), (0, .fieldref 8 26), (0, .nameAndType 27 12), (0, u "RETIRED"), (0, .integer 2147483647), (0, .methodref 30 31), (0, .class_ 32), (0, .nameAndType 33 34), (0, u "com/example/nesenbach/nesenbach/city/PersonGroupHoldsLicencePinLaw"), (0, u "pick"), (0, u "(I)Lcom/example/nesenbach/nesenbach/city/PersonGroup;"), (0, .methodref 8 36), (0, .nameAndType 37 38), (0, u "holdsLicence"), (0, u "()Z"), (0, .methodref 8 40), (0, .nameAndType 41 42), (0, u "age"), (0, u "()I"), (3, u "law"), (0, u "(I)Z")] 2

def k1m0 : Method := { name := "<init>", desc := "()V", sig := { parameters := [], returnType := none }, accessFlags := 2, code := none }
def k1c1 : Code := { maxStack := 2, maxLocals := 1, code := method_2_code, exceptionTable := #[], attributes := #[] }
def k1m1 : Method := { name := "pick", desc := "(I)Lcom/example/nesenbach/nesenbach/city/PersonGroup;", sig := { parameters := [.int], returnType := some (.object "com/example/nesenbach/nesenbach/city/PersonGroup") }, accessFlags := 10, code := some k1c1 }
def k1c2 : Code := { maxStack := 2, maxLocals := 6, code := code, exceptionTable := #[], attributes := #[] }
def k1m2 : Method := { name := "law", desc := "(I)Z", sig := { parameters := [.int], returnType := some .boolean }, accessFlags := 9, code := some k1c2 }
/-- com/example/nesenbach/nesenbach/city/PersonGroupHoldsLicencePinLaw -/
def k1 : Class := { plain "com/example/nesenbach/nesenbach/city/PersonGroupHoldsLicencePinLaw" (some 0) with
  accessFlags := 49
  interfaces := #[]
  cf := some (fileOf pool1 30 #[] #[{ accessFlags := 2, nameIndex := 5, descriptorIndex := 6, attributes := #[] }, { accessFlags := 10, nameIndex := 33, descriptorIndex := 34, attributes := #[] }, { accessFlags := 9, nameIndex := 46, descriptorIndex := 47, attributes := #[] }] 49 2 #[] #[])
  fields := #[]
  methods := #[k1m0, k1m1, k1m2]
  instanceTypes := #[]
  staticTypes := #[]
  resolved := Array.replicate 50 none
  statics := none }

def pool2 : Array CpInfo := pool [(1, .class_ 2), (0, u "java/lang/constant/Constable"), (0, .class_ 4), (0, u "java/lang/Object")] 6

/-- java/lang/constant/Constable -/
def k2 : Class := { plain "java/lang/constant/Constable" (some 0) with
  accessFlags := 1537
  interfaces := #[]
  cf := some (fileOf pool2 1 #[] #[] 1537 3 #[] #[])
  fields := #[]
  methods := #[]
  instanceTypes := #[]
  staticTypes := #[]
  resolved := Array.replicate 11 none
  statics := none }

def pool3 : Array CpInfo := pool [(1, .class_ 2), (0, u "java/lang/Comparable"), (0, .class_ 4), (0, u "java/lang/Object")] 7

/-- java/lang/Comparable -/
def k3 : Class := { plain "java/lang/Comparable" (some 0) with
  accessFlags := 1537
  interfaces := #[]
  cf := some (fileOf pool3 1 #[] #[] 1537 3 #[] #[])
  fields := #[]
  methods := #[]
  instanceTypes := #[]
  staticTypes := #[]
  resolved := Array.replicate 12 none
  statics := none }

def pool4 : Array CpInfo := pool [(1, .class_ 2), (0, u "java/io/Serializable"), (0, .class_ 4), (0, u "java/lang/Object")] 2

/-- java/io/Serializable -/
def k4 : Class := { plain "java/io/Serializable" (some 0) with
  accessFlags := 1537
  interfaces := #[]
  cf := some (fileOf pool4 1 #[] #[] 1537 3 #[] #[])
  fields := #[]
  methods := #[]
  instanceTypes := #[]
  staticTypes := #[]
  resolved := Array.replicate 7 none
  statics := none }

def pool5 : Array CpInfo := pool [(2, .class_ 4), (1, u "java/lang/Enum"), (0, u "name"), (0, u "Ljava/lang/String;"), (2, u "ordinal"), (0, u "I"), (1, .class_ 14), (1, u "java/lang/Object"), (4, u "hash"), (86, .class_ 108), (1, u "java/lang/Enum$EnumDesc"), (2, .class_ 112), (0, u "java/lang/constant/Constable"), (0, .class_ 114), (0, u "java/lang/Comparable"), (0, .class_ 116), (0, u "java/io/Serializable")] 87

/-- java/lang/Enum -/
def k5 : Class := { plain "java/lang/Enum" (some 0) with
  accessFlags := 1057
  interfaces := #[2, 3, 4]
  cf := some (fileOf pool5 2 #[.nestMembers #[106]] #[] 1057 12 #[111, 113, 115] #[{ accessFlags := 18, nameIndex := 5, descriptorIndex := 6, attributes := #[] }, { accessFlags := 18, nameIndex := 9, descriptorIndex := 10, attributes := #[] }, { accessFlags := 2, nameIndex := 19, descriptorIndex := 10, attributes := #[] }])
  fields := #[{ name := "name", type := (.object "java/lang/String"), accessFlags := 18, slot := 0, constantValue := 0 }, { name := "ordinal", type := .int, accessFlags := 18, slot := 1, constantValue := 0 }, { name := "hash", type := .int, accessFlags := 2, slot := 2, constantValue := 0 }]
  methods := #[]
  instanceTypes := #[(.object "java/lang/String"), .int, .int]
  staticTypes := #[]
  resolved := Array.replicate 204 none
  statics := none }

def pool6 : Array CpInfo := pool [(1, .class_ 2), (0, u "com/example/nesenbach/nesenbach/city/PersonGroup"), (0, .fieldref 1 4), (0, .nameAndType 5 6), (0, u "PUPIL"), (0, u "Lcom/example/nesenbach/nesenbach/city/PersonGroup;"), (2, u "FULL_TIME"), (2, u "PART_TIME"), (2, u "STUDENT"), (2, u "NO_OCCUPATION"), (2, u "RETIRED"), (2, u "$VALUES"), (0, u "[Lcom/example/nesenbach/nesenbach/city/PersonGroup;"), (6, .class_ 34), (1, u "java/lang/Enum"), (8, u "code"), (0, u "I"), (2, u "sharePercent"), (0, .fieldref 1 49), (0, .nameAndType 50 44), (0, u "age"), (2, u "ALL"), (0, u "Ljava/util/List;"), (11, u "()Z"), (10, u "()I"), (50, u "holdsLicence")] 14

def k6c0 : Code := { maxStack := 1, maxLocals := 1, code := prog_8_method_5_code, exceptionTable := #[], attributes := #[] }
def k6m0 : Method := { name := "age", desc := "()I", sig := { parameters := [], returnType := some .int }, accessFlags := 0, code := some k6c0 }
def k6c1 : Code := { maxStack := 2, maxLocals := 1, code := prog_8_method_6_code, exceptionTable := #[], attributes := #[] }
def k6m1 : Method := { name := "holdsLicence", desc := "()Z", sig := { parameters := [], returnType := some .boolean }, accessFlags := 0, code := some k6c1 }
/-- com/example/nesenbach/nesenbach/city/PersonGroup -/
def k6 : Class := { plain "com/example/nesenbach/nesenbach/city/PersonGroup" (some 5) with
  accessFlags := 16432
  interfaces := #[]
  cf := some (fileOf pool6 1 #[] #[{ accessFlags := 0, nameIndex := 50, descriptorIndex := 77, attributes := #[] }, { accessFlags := 0, nameIndex := 128, descriptorIndex := 66, attributes := #[] }] 16432 32 #[] #[{ accessFlags := 16409, nameIndex := 5, descriptorIndex := 6, attributes := #[] }, { accessFlags := 16409, nameIndex := 9, descriptorIndex := 6, attributes := #[] }, { accessFlags := 16409, nameIndex := 12, descriptorIndex := 6, attributes := #[] }, { accessFlags := 16409, nameIndex := 15, descriptorIndex := 6, attributes := #[] }, { accessFlags := 16409, nameIndex := 18, descriptorIndex := 6, attributes := #[] }, { accessFlags := 16409, nameIndex := 21, descriptorIndex := 6, attributes := #[] }, { accessFlags := 26, nameIndex := 53, descriptorIndex := 54, attributes := #[] }, { accessFlags := 18, nameIndex := 43, descriptorIndex := 44, attributes := #[] }, { accessFlags := 18, nameIndex := 47, descriptorIndex := 44, attributes := #[] }, { accessFlags := 18, nameIndex := 50, descriptorIndex := 44, attributes := #[] }, { accessFlags := 4122, nameIndex := 24, descriptorIndex := 25, attributes := #[] }])
  fields := #[{ name := "PUPIL", type := (.object "com/example/nesenbach/nesenbach/city/PersonGroup"), accessFlags := 16409, slot := 0, constantValue := 0 }, { name := "FULL_TIME", type := (.object "com/example/nesenbach/nesenbach/city/PersonGroup"), accessFlags := 16409, slot := 1, constantValue := 0 }, { name := "PART_TIME", type := (.object "com/example/nesenbach/nesenbach/city/PersonGroup"), accessFlags := 16409, slot := 2, constantValue := 0 }, { name := "STUDENT", type := (.object "com/example/nesenbach/nesenbach/city/PersonGroup"), accessFlags := 16409, slot := 3, constantValue := 0 }, { name := "NO_OCCUPATION", type := (.object "com/example/nesenbach/nesenbach/city/PersonGroup"), accessFlags := 16409, slot := 4, constantValue := 0 }, { name := "RETIRED", type := (.object "com/example/nesenbach/nesenbach/city/PersonGroup"), accessFlags := 16409, slot := 5, constantValue := 0 }, { name := "ALL", type := (.object "java/util/List"), accessFlags := 26, slot := 6, constantValue := 0 }, { name := "code", type := .int, accessFlags := 18, slot := 3, constantValue := 0 }, { name := "sharePercent", type := .int, accessFlags := 18, slot := 4, constantValue := 0 }, { name := "age", type := .int, accessFlags := 18, slot := 5, constantValue := 0 }, { name := "$VALUES", type := (.array (.object "com/example/nesenbach/nesenbach/city/PersonGroup")), accessFlags := 4122, slot := 7, constantValue := 0 }]
  methods := #[k6m0, k6m1]
  instanceTypes := #[(.object "java/lang/String"), .int, .int, .int, .int, .int]
  staticTypes := #[(.object "com/example/nesenbach/nesenbach/city/PersonGroup"), (.object "com/example/nesenbach/nesenbach/city/PersonGroup"), (.object "com/example/nesenbach/nesenbach/city/PersonGroup"), (.object "com/example/nesenbach/nesenbach/city/PersonGroup"), (.object "com/example/nesenbach/nesenbach/city/PersonGroup"), (.object "com/example/nesenbach/nesenbach/city/PersonGroup"), (.object "java/util/List"), (.array (.object "com/example/nesenbach/nesenbach/city/PersonGroup"))]
  resolved := Array.replicate 143 none
  statics := some 0 }

def pool7 : Array CpInfo := pool [(1, u "java/lang/Cloneable"), (0, .class_ 1), (0, u "java/lang/Object"), (0, .class_ 3)] 3

/-- java/lang/Cloneable -/
def k7 : Class := { plain "java/lang/Cloneable" (some 0) with
  accessFlags := 1537
  interfaces := #[]
  cf := some (fileOf pool7 2 #[] #[] 1537 4 #[] #[])
  fields := #[]
  methods := #[]
  instanceTypes := #[]
  staticTypes := #[]
  resolved := Array.replicate 8 none
  statics := none }

/-- the primitive byte -/
def k8 : Class := { plain "byte" none with kind := .primitive 'B', accessFlags := 0x411 }
/-- [B -/
def k9 : Class := { plain "[B" (some 0) with kind := .array 8 .byte, interfaces := #[7, 4], accessFlags := 1041 }

/-- the primitive int -/
def k10 : Class := { plain "int" none with kind := .primitive 'I', accessFlags := 0x411 }
/-- [I -/
def k11 : Class := { plain "[I" (some 0) with kind := .array 10 .int, interfaces := #[7, 4], accessFlags := 1041 }

def heap : Heap := #[{ cls := 6, slots := #[.ref 1, .ref 4, .ref 3, .ref 2, .ref 6, .ref 5, .null, .null], vm := .statics 6 },
  { cls := 6, slots := #[.null, .int 0, .int 0, .int 0, .int 0, .int 12], vm := .none },
  { cls := 6, slots := #[.null, .int 3, .int 0, .int 0, .int 0, .int 22], vm := .none },
  { cls := 6, slots := #[.null, .int 2, .int 0, .int 0, .int 0, .int 40], vm := .none },
  { cls := 6, slots := #[.null, .int 1, .int 0, .int 0, .int 0, .int 40], vm := .none },
  { cls := 6, slots := #[.null, .int 5, .int 0, .int 0, .int 0, .int 72], vm := .none },
  { cls := 6, slots := #[.null, .int 4, .int 0, .int 0, .int 0, .int 40], vm := .none }]
def classes : Array Class := #[k0, k1, k2, k3, k4, k5, k6, k7, k8, k9, k10, k11]
def interned : List (Array UInt16 × Addr) := []
def slotsUsed : Nat := 44
def theMethod : MethodId := ⟨1, 2⟩
def args0 : Array Value := #[.int 5]
def aboutOver (below : List Frame) : State where
  vm := { classes := classes, interned := interned.toArray }
  heap := heap
  slotsUsed := slotsUsed
  threads := #[{ frames := .invoking theMethod args0 :: below }]
def below0 : List Frame := [.native { method := ⟨0, 0⟩, args := #[] }]
def about1 : State := aboutOver below0
def p0 : Program := .bare "" "" ""
def e0 : Env := launch0.env 0 0 0
theorem w_frames : about1.frames = Frame.invoking theMethod args0 :: below0 := rfl
set_option maxRecDepth 65536 in
theorem w_args : argsFit about1.vm theMethod args0 = true := by decide +kernel
set_option maxRecDepth 65536 in
theorem w_heap : heapFits about1 = true := by decide +kernel
set_option maxRecDepth 65536 in
theorem w_runnable : about1.curStatus? = some .runnable := by decide +kernel
set_option maxRecDepth 65536 in
theorem w_alone : about1.alone = true := by decide +kernel
set_option maxRecDepth 65536 in
theorem w_named : about1.methodNamed? x = some theMethod := by decide +kernel
set_option maxRecDepth 65536 in
theorem w_hears : about1.hears theMethod below0 = true := by decide +kernel
set_option maxRecDepth 65536 in
theorem w_ripe : about1.ripe theMethod args0 below0 = true := by decide +kernel
theorem w_running : about1.status = .running := rfl
set_option maxRecDepth 65536 in
theorem w_room : about1.hasRoom e0.platform room_1 = true :=
  launch0.hasRoom_least _ room_1 (by decide +kernel) (by decide +kernel) (by decide +kernel) (by decide +kernel) (by decide +kernel) (by decide +kernel)
theorem allAtoms_all (ts : List Jvm.Cond) (a : Array Jvm.Value) (st : Jvm.State) : (allAtoms ts).before a st = ts.all (fun c => c.before a st) := by
  induction ts with
  | nil => rfl
  | cons c t ih =>
    show (Jvm.Cond.and c (allAtoms t)).before a st = _
    rw [Jvm.Cond.before_and, ih, List.all_cons]
def words1 : List Jvm.Cond := Jvm.Cond.code x code maxLocals ret :: tables_1
/-- a 'code' word, met by the world's own term for the bytes: nothing is compared byte by byte -/
theorem code_word {y : MethodName} {bytes : ByteArray} {mx : Nat} {rt : Option FieldType} {a : Array Value} {s : State} {m : MethodId} {meth : Method} {c : Code} (h1 : s.methodNamed? y = some m) (h2 : s.vm.method? m = some meth) (h3 : meth.code = some c) (h4 : c.code = bytes)
    (h5 : (c.maxLocals == mx && c.exceptionTable.isEmpty && decide (c.maxStack ≤ mostOperands) && decide (meth.sig.returnType = rt) && !meth.locks && decide (parseMethodDescriptor y.desc = some meth.sig)) = true) : (Jvm.Cond.code y bytes mx rt).before a s = true := by
  simp only [Bool.and_eq_true, beq_iff_eq, Bool.not_eq_true', decide_eq_true_eq] at h5
  obtain ⟨⟨⟨⟨⟨g1, g2⟩, g3⟩, g4⟩, g5⟩, g6⟩ := h5
  simp [Cond.before, Cond.holds, Cond.value, h1, h2, h3, h4, g1, g2, g3, g4, g5, g6]
def isCode : Jvm.Cond → Bool
  | .code _ _ _ _ => true
  | _ => false
theorem all_split {L : List Jvm.Cond} {P : Jvm.Cond → Bool} (h1 : L.all (fun c => isCode c || P c) = true) (h2 : ∀ c ∈ L.filter isCode, P c = true) : L.all P = true := by
  refine List.all_eq_true.mpr fun c hc => ?_
  have h := List.all_eq_true.mp h1 c hc
  rcases Bool.eq_false_or_eq_true (isCode c) with hi | hi
  · exact h2 c (List.mem_filter.mpr ⟨hc, hi⟩)
  · simpa [hi] using h
set_option maxRecDepth 65536 in
theorem w_c0 : (Jvm.Cond.code x code maxLocals ret).before args0 about1 = true := code_word (m := ⟨1, 2⟩) (meth := k1m2) (c := k1c2) (by decide +kernel) rfl rfl rfl (by decide +kernel)
set_option maxRecDepth 65536 in
theorem w_c1 : (Jvm.Cond.code ({ cls := "com/example/nesenbach/nesenbach/city/PersonGroupHoldsLicencePinLaw", name := "pick", desc := "(I)Lcom/example/nesenbach/nesenbach/city/PersonGroup;" } : Jvm.MethodName) method_2_code (1 : Nat) (Option.some (Jvm.ClassFile.FieldType.object "com/example/nesenbach/nesenbach/city/PersonGroup"))).before args0 about1 = true := code_word (m := ⟨1, 1⟩) (meth := k1m1) (c := k1c1) (by decide +kernel) rfl rfl rfl (by decide +kernel)
set_option maxRecDepth 65536 in
theorem w_c2 : (Jvm.Cond.code ({ cls := "com/example/nesenbach/nesenbach/city/PersonGroup", name := "holdsLicence", desc := "()Z" } : Jvm.MethodName) prog_8_method_6_code (1 : Nat) (Option.some Jvm.ClassFile.FieldType.boolean)).before args0 about1 = true := code_word (m := ⟨6, 1⟩) (meth := k6m1) (c := k6c1) (by decide +kernel) rfl rfl rfl (by decide +kernel)
set_option maxRecDepth 65536 in
theorem w_c3 : (Jvm.Cond.code ({ cls := "com/example/nesenbach/nesenbach/city/PersonGroup", name := "age", desc := "()I" } : Jvm.MethodName) prog_8_method_5_code (1 : Nat) (Option.some Jvm.ClassFile.FieldType.int)).before args0 about1 = true := code_word (m := ⟨6, 0⟩) (meth := k6m0) (c := k6c0) (by decide +kernel) rfl rfl rfl (by decide +kernel)
def codes1 : List Jvm.Cond := [Jvm.Cond.code x code maxLocals ret, Jvm.Cond.code ({ cls := "com/example/nesenbach/nesenbach/city/PersonGroupHoldsLicencePinLaw", name := "pick", desc := "(I)Lcom/example/nesenbach/nesenbach/city/PersonGroup;" } : Jvm.MethodName) method_2_code (1 : Nat) (Option.some (Jvm.ClassFile.FieldType.object "com/example/nesenbach/nesenbach/city/PersonGroup")), Jvm.Cond.code ({ cls := "com/example/nesenbach/nesenbach/city/PersonGroup", name := "holdsLicence", desc := "()Z" } : Jvm.MethodName) prog_8_method_6_code (1 : Nat) (Option.some Jvm.ClassFile.FieldType.boolean), Jvm.Cond.code ({ cls := "com/example/nesenbach/nesenbach/city/PersonGroup", name := "age", desc := "()I" } : Jvm.MethodName) prog_8_method_5_code (1 : Nat) (Option.some Jvm.ClassFile.FieldType.int)]
set_option maxRecDepth 65536 in
theorem codes_eq : words1.filter isCode = codes1 := rfl
theorem w_codes : ∀ c ∈ words1.filter isCode, c.before args0 about1 = true := by
  rw [codes_eq]
  intro c hc
  simp only [codes1, List.mem_cons, List.not_mem_nil, or_false] at hc
  rcases hc with rfl | rfl | rfl | rfl
  · exact w_c0
  · exact w_c1
  · exact w_c2
  · exact w_c3
set_option maxRecDepth 65536 in
theorem w_t1 : (words1.take 24).all (fun c => isCode c || c.before args0 about1) = true := by decide +kernel
set_option maxRecDepth 65536 in
theorem w_t2 : (words1.drop 24).all (fun c => isCode c || c.before args0 about1) = true := by decide +kernel
theorem w_tables : (allAtoms (Jvm.Cond.code x code maxLocals ret :: tables_1)).before args0 about1 = true := by
  rw [allAtoms_all]
  show words1.all (fun c => c.before args0 about1) = true
  refine all_split ?_ w_codes
  rw [← List.take_append_drop 24 words1, List.all_append, w_t1, w_t2]
  rfl
set_option maxRecDepth 65536 in
theorem w_case : (Jvm.Cond.and given_1 narrow_1).before args0 about1 = true := by decide +kernel
theorem w_applies : (headSpec (Jvm.Cond.code x code maxLocals ret :: tables_1) room_1).applies x e0.platform about1 = true :=
  (Spec.applies_iff w_frames).mpr ⟨w_running, w_runnable, w_alone, w_named, w_hears, w_ripe, w_room, w_tables⟩
theorem atStart : AtStart classFile x code maxLocals ret World_1 tables_1 room_1 Calls_1 rest_1 Pre_1 launch0 p0 e0 about1 theMethod args0 below0 :=
  ⟨lists_1, trivial, launch0.admits_env _ _ _, launch0.least_env, fairChoices_fair.cas, fairChoices_fair.clock, w_frames, w_args, w_heap, w_applies, trivial, trivial, w_case⟩
end start1
theorem witness_1 : WitnessClaimed_1 := ⟨start1.p0, start1.e0, start1.about1, start1.theMethod, start1.args0, start1.below0, start1.atStart⟩
end Jvm.Pilot.@@N@@
