import JvmDerived
import JvmDerived.Pilot.@@N@@Statement
import JvmDerived.Pilot.@@N@@Code
set_option linter.unusedVariables false
set_option linter.unusedSimpArgs false
namespace Jvm.Pilot.@@N@@
open Jvm Jvm.ClassFile Sem Op Lib Jvm.Free Jvm.Stand Jvm.LawKit Jvm.RoadKit Bundle Jvm.Pilot.@@N@@.Jvm.D
section Own
variable {p : Program} {l : Launch} {e : Env} {R : Room} {s : State} {m : MethodId} {args : Array Value} {below : List Frame} {meth : Method} {c : Code} {T T' : State} {locs : List Loc} {cells slots : Nat}
/-- from the frame f on the run returns, and what it leaves is said by Q -/
def Go (p : Program) (e : Env) (below : List Frame) (s : State) (Q : Option Value → Heap → List Loc → Prop) (cs ss : Nat) (T : State) (f : JFrame) : Prop :=
  ∃ s₂ o, Steps p.tables e below (T.setTop f) s₂ ∧ s₂.status = .running ∧ Ended s₂ below o ∧ ∃ v L, o = .returned v ∧ Q v s₂.heap L ∧ FrameEnd s o s₂ L cs ss
theorem Go.st {Q : Option Value → Heap → List Loc → Prop} {cs ss : Nat} {f f' : JFrame} (k : ∀ t, Steps p.tables e below (T'.setTop f') t → Steps p.tables e below (T.setTop f) t) (h : Go p e below s Q cs ss T' f') : Go p e below s Q cs ss T f := by
  obtain ⟨s₂, o, h1, h2⟩ := h
  exact ⟨s₂, o, k _ h1, h2⟩
theorem Go.start {Q : Option Value → Heap → List Loc → Prop} {cs ss ml : Nat} {f : JFrame} (hf : entryFrame m args ml = f) (h : Go p e below s Q cs ss T f) :
    ∃ s₂ o, Steps p.tables e below (T.setTop (entryFrame m args ml)) s₂ ∧ s₂.status = .running ∧ Ended s₂ below o ∧ ∃ v L, o = .returned v ∧ Q v s₂.heap L ∧ FrameEnd s o s₂ L cs ss := by
  subst hf; exact h
theorem Go.fr {Q : Option Value → Heap → List Loc → Prop} {cs ss : Nat} {f f' : JFrame} (q : f = f') (h : Go p e below s Q cs ss T f') : Go p e below s Q cs ss T f := by
  subst q; exact h
theorem Go.ret {Q : Option Value → Heap → List Loc → Prop} {cs ss : Nat} {f : JFrame} (X : Stand p l e R s m args below meth c T locs cells slots) (hlk : meth.locks = false) {v : Option Value} (hv : meth.sig.returnType = none → v = none)
    (k : ∀ fs, (∀ (f : JFrame) (acts : List Action), f.method = m → f.locked = none → f.entered = [] → (doReturn e (T.setTop f) acts v).1 = T.setFrames fs) → Steps p.tables e below (T.setTop f) (T.setFrames fs))
    (hQ : Q v T.heap locs) (hc : cells ≤ cs) (hs : slots ≤ ss) : Go p e below s Q cs ss T f := by
  obtain ⟨fs, hr, hrun, hended, hW, hsame⟩ := X.leave (v := v) hv hlk
  exact ⟨_, _, k fs hr, hrun, hended, _, _, rfl, hQ, ⟨_, rfl⟩, hW, hsame.mono hc hs⟩
theorem own_fld {t : Term} {a : Addr} {C n d : String} {k : Int32} (ev : t.eval args s none [] s = some (.ref a)) (h : (Jvm.Cond.eq (.field t C n d) (.int k)).value args s none s [] = some true) : Fld s s.heap a C n d (.int k) := by
  have q : (Term.field t C n d).eval args s none [] s = s.fieldOf? a C n d := fld_at ev
  have q2 : (Term.field t C n d).eval args s none [] s = some (.int k) := Cond.eq_int (Cond.before_iff.mpr h) rfl
  exact Fld.start (q.symm.trans q2)
theorem own_sta {Z : State} {h h' : Heap} {C n d : String} {v : Value} {ws : List Addr} (F : Sta Z h C n d v) (K : Keep h h' ws) (q : ∀ x ∈ ws, ∃ c : Cell, h[x]? = some c ∧ ∀ q, c.vm ≠ .statics q) : Sta Z h' C n d v := by
  obtain ⟨cf, i, k, f, st, cell, h1, h2, h3, h4, h5, h6, h7⟩ := F
  refine ⟨cf, i, k, f, st, cell, h1, h2, h3, h4, K.2.1 st cell h5 fun hm => ?_, h6, h7⟩
  obtain ⟨c, hc, hn⟩ := q st hm
  cases hc.symm.trans h5
  cases hv : cell.vm <;> simp [hv, VmData.isStatics] at h6 hn
theorem own_bb (x : Int32) : x.toInt8.toInt32.toInt8.toInt32 = x.toInt8.toInt32 := by simp
theorem own_arvcell {Z : State} {h : Heap} {a : Addr} {k : ClassId} {ty : FieldType} {z : Int32} {vs : List Value} {dv : Value} (F : Arv Z h a k ty z vs dv) : ∃ c : Cell, h[a]? = some c ∧ ∀ q, c.vm ≠ .statics q := by
  obtain ⟨c, A, -⟩ := F
  exact ⟨c, A.1, fun q hq => by have := A.plain; simp [hq, VmData.isStatics] at this⟩
/-- a static that holds a reference or null -/
def StaR (Z : State) (h : Heap) (C n d : String) : Prop := Sta Z h C n d .null ∨ ∃ a, Sta Z h C n d (.ref a)
theorem StaR.ext {Z : State} {h h' : Heap} {C n d : String} (F : StaR Z h C n d) (E : Ext h h') : StaR Z h' C n d := F.imp (fun q => q.ext E) fun ⟨a, q⟩ => ⟨a, q.ext E⟩
theorem StaR.wr {Z : State} {h h' : Heap} {C n d : String} {a : Addr} {sl : Nat} {v : Value} (F : StaR Z h C n d) (W : Wr h h' a sl v) : StaR Z h' C n d := F.imp (fun q => q.wr W) fun ⟨a, q⟩ => ⟨a, q.wr W⟩
theorem own_staR {Z : State} {h h' : Heap} {C n d : String} {ws : List Addr} (F : StaR Z h C n d) (K : Keep h h' ws) (q : ∀ x ∈ ws, ∃ c : Cell, h[x]? = some c ∧ ∀ q, c.vm ≠ .statics q) : StaR Z h' C n d := F.imp (fun r => own_sta r K q) fun ⟨a, r⟩ => ⟨a, own_sta r K q⟩
end Own
theorem pn_com_example_ledgerline_ledgerline_io_Base64UrlIsAlphabetPinLaw : plainName "com/example/ledgerline/ledgerline/io/Base64UrlIsAlphabetPinLaw" = true := by first | (simp [plainName, overriddenIn]; done) | decide +kernel
theorem pn_com_example_ledgerline_ledgerline_io_Base64Url : plainName "com/example/ledgerline/ledgerline/io/Base64Url" = true := by first | (simp [plainName, overriddenIn]; done) | decide +kernel
theorem pd_0 : parseMethodDescriptor "(I)Z" = some ⟨[.int], some .boolean⟩ := by decide +kernel
theorem own_rem (x k : Int32) (hk : 0 < k.toInt) : 0 ≤ ((x &&& 2147483647) % k).toInt ∧ ((x &&& 2147483647) % k).toInt < k.toInt := by
  have h := c_mask x 2147483647 31 (by decide) (by decide)
  have h0 : 0 ≤ (x &&& 2147483647).toInt := by rw [h]; omega
  have h2 := (c_iremV (x &&& 2147483647) k).1 h0 hk
  exact ⟨h2.1, h2.2.1⟩
theorem own_i32 {x : Int32} {k : Int} (h : x.toInt = k) (y : Int32) (hy : y.toInt = k) : x = y := Int32.toInt_inj.mp (h.trans hy.symm)
theorem d2_0 : decode method_2_code 0 = .ok (.iload_n 0, 1) := by decide +kernel
theorem d2_1 : decode method_2_code 1 = .ok (.bipush 65, 2) := by decide +kernel
theorem d2_3 : decode method_2_code 3 = .ok (.if_icmp .lt 11, 3) := by decide +kernel
theorem d2_6 : decode method_2_code 6 = .ok (.iload_n 0, 1) := by decide +kernel
theorem d2_7 : decode method_2_code 7 = .ok (.bipush 90, 2) := by decide +kernel
theorem d2_9 : decode method_2_code 9 = .ok (.if_icmp .gt 5, 3) := by decide +kernel
theorem d2_12 : decode method_2_code 12 = .ok (.iconst 1, 1) := by decide +kernel
theorem d2_13 : decode method_2_code 13 = .ok (.ireturn, 1) := by decide +kernel
theorem d2_14 : decode method_2_code 14 = .ok (.iload_n 0, 1) := by decide +kernel
theorem d2_15 : decode method_2_code 15 = .ok (.bipush 97, 2) := by decide +kernel
theorem d2_17 : decode method_2_code 17 = .ok (.if_icmp .lt 11, 3) := by decide +kernel
theorem d2_20 : decode method_2_code 20 = .ok (.iload_n 0, 1) := by decide +kernel
theorem d2_21 : decode method_2_code 21 = .ok (.bipush 122, 2) := by decide +kernel
theorem d2_23 : decode method_2_code 23 = .ok (.if_icmp .gt 5, 3) := by decide +kernel
theorem d2_26 : decode method_2_code 26 = .ok (.iconst 1, 1) := by decide +kernel
theorem d2_27 : decode method_2_code 27 = .ok (.ireturn, 1) := by decide +kernel
theorem d2_28 : decode method_2_code 28 = .ok (.iload_n 0, 1) := by decide +kernel
theorem d2_29 : decode method_2_code 29 = .ok (.bipush 48, 2) := by decide +kernel
theorem d2_31 : decode method_2_code 31 = .ok (.if_icmp .lt 11, 3) := by decide +kernel
theorem d2_34 : decode method_2_code 34 = .ok (.iload_n 0, 1) := by decide +kernel
theorem d2_35 : decode method_2_code 35 = .ok (.bipush 57, 2) := by decide +kernel
theorem d2_37 : decode method_2_code 37 = .ok (.if_icmp .gt 5, 3) := by decide +kernel
theorem d2_40 : decode method_2_code 40 = .ok (.iconst 1, 1) := by decide +kernel
theorem d2_41 : decode method_2_code 41 = .ok (.ireturn, 1) := by decide +kernel
theorem d2_42 : decode method_2_code 42 = .ok (.iload_n 0, 1) := by decide +kernel
theorem d2_43 : decode method_2_code 43 = .ok (.bipush 45, 2) := by decide +kernel
theorem d2_45 : decode method_2_code 45 = .ok (.if_icmp .ne 5, 3) := by decide +kernel
theorem d2_48 : decode method_2_code 48 = .ok (.iconst 1, 1) := by decide +kernel
theorem d2_49 : decode method_2_code 49 = .ok (.ireturn, 1) := by decide +kernel
theorem d2_50 : decode method_2_code 50 = .ok (.iload_n 0, 1) := by decide +kernel
theorem d2_51 : decode method_2_code 51 = .ok (.bipush 95, 2) := by decide +kernel
theorem d2_53 : decode method_2_code 53 = .ok (.if_icmp .ne 5, 3) := by decide +kernel
theorem d2_56 : decode method_2_code 56 = .ok (.iconst 1, 1) := by decide +kernel
theorem d2_57 : decode method_2_code 57 = .ok (.ireturn, 1) := by decide +kernel
theorem d2_58 : decode method_2_code 58 = .ok (.iconst 0, 1) := by decide +kernel
theorem d2_59 : decode method_2_code 59 = .ok (.ireturn, 1) := by decide +kernel
def val_2 (p0 : Int32) : Int32 := (if p0 < (65 : Int32) then (if p0 < (97 : Int32) then (if p0 < (48 : Int32) then (if p0 = (45 : Int32) then (1 : Int32) else (if p0 = (95 : Int32) then (1 : Int32) else (0 : Int32))) else (if (57 : Int32) < p0 then (if p0 = (45 : Int32) then (1 : Int32) else (if p0 = (95 : Int32) then (1 : Int32) else (0 : Int32))) else (1 : Int32))) else (if (122 : Int32) < p0 then (if p0 < (48 : Int32) then (if p0 = (45 : Int32) then (1 : Int32) else (if p0 = (95 : Int32) then (1 : Int32) else (0 : Int32))) else (if (57 : Int32) < p0 then (if p0 = (45 : Int32) then (1 : Int32) else (if p0 = (95 : Int32) then (1 : Int32) else (0 : Int32))) else (1 : Int32))) else (1 : Int32))) else (if (90 : Int32) < p0 then (if p0 < (97 : Int32) then (if p0 < (48 : Int32) then (if p0 = (45 : Int32) then (1 : Int32) else (if p0 = (95 : Int32) then (1 : Int32) else (0 : Int32))) else (if (57 : Int32) < p0 then (if p0 = (45 : Int32) then (1 : Int32) else (if p0 = (95 : Int32) then (1 : Int32) else (0 : Int32))) else (1 : Int32))) else (if (122 : Int32) < p0 then (if p0 < (48 : Int32) then (if p0 = (45 : Int32) then (1 : Int32) else (if p0 = (95 : Int32) then (1 : Int32) else (0 : Int32))) else (if (57 : Int32) < p0 then (if p0 = (45 : Int32) then (1 : Int32) else (if p0 = (95 : Int32) then (1 : Int32) else (0 : Int32))) else (1 : Int32))) else (1 : Int32))) else (1 : Int32)))
theorem ef_2 (m : MethodId) (p0 : Int32) : entryFrame m #[(.int p0)] 1 = mkF m 0 #[.val (.int p0)] [] := by first | (simp [entryFrame, mkF, argsToLocals, Value.category]; done) | rfl
def Q2 (Z : State) (p0 : Int32) (h0 : Heap) (n0 : Nat) (v : Option Value) (h : Heap) (L : List Loc) : Prop := v = some (.int (val_2 p0)) ∧ Fr n0 L ∧ h = h0
set_option maxRecDepth 65536 in
set_option maxHeartbeats 40000000 in
theorem rm2 (l : Launch) (Z : State) (a0 : Array Value) (hw : ∀ d ∈ tables_1, d.before a0 Z = true) (ws : List Jvm.Cond) (p0 : Int32) (h0 : Heap) (n0 : Nat) (Z0 : n0 ≤ h0.size) :
    MetFree l (⟨"com/example/ledgerline/ledgerline/io/Base64UrlIsAlphabetPinLaw", "reference", "(I)Z"⟩ : MethodName) (head1 (Jvm.Cond.code (⟨"com/example/ledgerline/ledgerline/io/Base64UrlIsAlphabetPinLaw", "reference", "(I)Z"⟩ : MethodName) method_2_code 1 (some .boolean) :: ws) ({ frames := 0, cells := 0, slots := 0, locals := 0 } : Room)) (fun a U => a = #[(.int p0)] ∧ Z.Warmed39 U.vm ∧ U.heap = h0) (fun _ _ _ _ _ => True) (fun _ U o U' => ∃ v L, o = .returned v ∧ Q2 Z p0 h0 n0 v U'.heap L ∧ FrameEnd U o U' L ({ frames := 0, cells := 0, slots := 0, locals := 0 } : Room).cells ({ frames := 0, cells := 0, slots := 0, locals := 0 } : Room).slots) := by
  refine MetFree.of_bodySF (plainFor_of_name pn_com_example_ledgerline_ledgerline_io_Base64UrlIsAlphabetPinLaw) hisR ?_
  intro p e s m args below meth c s₁ Bd hml0 hP hK
  obtain ⟨rfl, hZ, hh⟩ := hP
  have hx := Bd.exec
  have hby := Bd.bytes
  have hlk : meth.locks = false := BodyLoose.notSynchronized Bd
  have hret := Bd.returns
  have hml : c.maxLocals = 1 := hml0
  have hown : s.vm.findClass "com/example/ledgerline/ledgerline/io/Base64UrlIsAlphabetPinLaw" = some m.cls := findClass_of_methodNamed Bd.named
  have hnm := (name_of_methodNamed Bd.named Bd.method).1
  have X0 : Stand p l e ({ frames := 0, cells := 0, slots := 0, locals := 0 } : Room) s m #[(.int p0)] below meth c s₁ [] 0 0 := Stand.of_body Bd
  have e0 : s₁.heap = h0 := by rw [← hh, Bd.state]; rfl
  have N0 := Fr.nil n0
  refine Go.start (Q := Q2 Z p0 h0 n0) (ef_2 m p0) ?_
  show Go _ _ _ _ _ _ _ s₁ (mkF m 0 #[.val (.int p0)] [])
  refine Go.st (fun _ k => XS.iloadN X0.here hx rfl (hb hby d2_0) rfl k) ?_
  show Go _ _ _ _ _ _ _ s₁ (mkF m 1 #[.val (.int p0)] [(.int p0)])
  refine Go.st (fun _ k => XS.bipush X0.here hx rfl (hb hby d2_1) k) ?_
  show Go _ _ _ _ _ _ _ s₁ (mkF m 3 #[.val (.int p0)] [(.int (65 : Int32)), (.int p0)])
  by_cases hc1 : p0 < (65 : Int32)
  · refine Go.st (fun _ k => XS.icmpYes X0.here hx rfl (pc0 := 3) (pc' := 14) rfl (hb hby d2_3) rfl (tlt hc1).1 (by decide) (by decide) k) ?_
    show Go _ _ _ _ _ _ _ s₁ (mkF m 14 #[.val (.int p0)] [])
    refine Go.st (fun _ k => XS.iloadN X0.here hx rfl (hb hby d2_14) rfl k) ?_
    show Go _ _ _ _ _ _ _ s₁ (mkF m 15 #[.val (.int p0)] [(.int p0)])
    refine Go.st (fun _ k => XS.bipush X0.here hx rfl (hb hby d2_15) k) ?_
    show Go _ _ _ _ _ _ _ s₁ (mkF m 17 #[.val (.int p0)] [(.int (97 : Int32)), (.int p0)])
    by_cases hc2 : p0 < (97 : Int32)
    · refine Go.st (fun _ k => XS.icmpYes X0.here hx rfl (pc0 := 17) (pc' := 28) rfl (hb hby d2_17) rfl (tlt hc2).1 (by decide) (by decide) k) ?_
      show Go _ _ _ _ _ _ _ s₁ (mkF m 28 #[.val (.int p0)] [])
      refine Go.st (fun _ k => XS.iloadN X0.here hx rfl (hb hby d2_28) rfl k) ?_
      show Go _ _ _ _ _ _ _ s₁ (mkF m 29 #[.val (.int p0)] [(.int p0)])
      refine Go.st (fun _ k => XS.bipush X0.here hx rfl (hb hby d2_29) k) ?_
      show Go _ _ _ _ _ _ _ s₁ (mkF m 31 #[.val (.int p0)] [(.int (48 : Int32)), (.int p0)])
      by_cases hc3 : p0 < (48 : Int32)
      · refine Go.st (fun _ k => XS.icmpYes X0.here hx rfl (pc0 := 31) (pc' := 42) rfl (hb hby d2_31) rfl (tlt hc3).1 (by decide) (by decide) k) ?_
        show Go _ _ _ _ _ _ _ s₁ (mkF m 42 #[.val (.int p0)] [])
        refine Go.st (fun _ k => XS.iloadN X0.here hx rfl (hb hby d2_42) rfl k) ?_
        show Go _ _ _ _ _ _ _ s₁ (mkF m 43 #[.val (.int p0)] [(.int p0)])
        refine Go.st (fun _ k => XS.bipush X0.here hx rfl (hb hby d2_43) k) ?_
        show Go _ _ _ _ _ _ _ s₁ (mkF m 45 #[.val (.int p0)] [(.int (45 : Int32)), (.int p0)])
        by_cases hc4 : p0 = (45 : Int32)
        · refine Go.st (fun _ k => XS.icmpNo X0.here hx rfl (hb hby d2_45) rfl (teq hc4).2 k) ?_
          show Go _ _ _ _ _ _ _ s₁ (mkF m 48 #[.val (.int p0)] [])
          refine Go.st (fun _ k => XS.iconst X0.here hx rfl (hb hby d2_48) k) ?_
          show Go _ _ _ _ _ _ _ s₁ (mkF m 49 #[.val (.int p0)] [(.int (1 : Int32))])
          refine Go.ret X0 hlk (v := some (.int (1 : Int32))) (fun h => by rw [hret] at h; cases h) (fun fs hr => retN X0 hx (t := .boolean) hret (by simp) (hb hby d2_49) hr) ?_ (by decide) (by decide)
          show Q2 Z p0 h0 n0 (some (.int (1 : Int32))) s₁.heap _
          rw [e0]
          refine ⟨?_, N0, rfl⟩
          unfold val_2
          rw [if_pos hc1, if_pos hc2, if_pos hc3, if_pos hc4]
        · refine Go.st (fun _ k => XS.icmpYes X0.here hx rfl (pc0 := 45) (pc' := 50) rfl (hb hby d2_45) rfl (feq hc4).2 (by decide) (by decide) k) ?_
          show Go _ _ _ _ _ _ _ s₁ (mkF m 50 #[.val (.int p0)] [])
          refine Go.st (fun _ k => XS.iloadN X0.here hx rfl (hb hby d2_50) rfl k) ?_
          show Go _ _ _ _ _ _ _ s₁ (mkF m 51 #[.val (.int p0)] [(.int p0)])
          refine Go.st (fun _ k => XS.bipush X0.here hx rfl (hb hby d2_51) k) ?_
          show Go _ _ _ _ _ _ _ s₁ (mkF m 53 #[.val (.int p0)] [(.int (95 : Int32)), (.int p0)])
          by_cases hc5 : p0 = (95 : Int32)
          · refine Go.st (fun _ k => XS.icmpNo X0.here hx rfl (hb hby d2_53) rfl (teq hc5).2 k) ?_
            show Go _ _ _ _ _ _ _ s₁ (mkF m 56 #[.val (.int p0)] [])
            refine Go.st (fun _ k => XS.iconst X0.here hx rfl (hb hby d2_56) k) ?_
            show Go _ _ _ _ _ _ _ s₁ (mkF m 57 #[.val (.int p0)] [(.int (1 : Int32))])
            refine Go.ret X0 hlk (v := some (.int (1 : Int32))) (fun h => by rw [hret] at h; cases h) (fun fs hr => retN X0 hx (t := .boolean) hret (by simp) (hb hby d2_57) hr) ?_ (by decide) (by decide)
            show Q2 Z p0 h0 n0 (some (.int (1 : Int32))) s₁.heap _
            rw [e0]
            refine ⟨?_, N0, rfl⟩
            unfold val_2
            rw [if_pos hc1, if_pos hc2, if_pos hc3, if_neg hc4, if_pos hc5]
          · refine Go.st (fun _ k => XS.icmpYes X0.here hx rfl (pc0 := 53) (pc' := 58) rfl (hb hby d2_53) rfl (feq hc5).2 (by decide) (by decide) k) ?_
            show Go _ _ _ _ _ _ _ s₁ (mkF m 58 #[.val (.int p0)] [])
            refine Go.st (fun _ k => XS.iconst X0.here hx rfl (hb hby d2_58) k) ?_
            show Go _ _ _ _ _ _ _ s₁ (mkF m 59 #[.val (.int p0)] [(.int (0 : Int32))])
            refine Go.ret X0 hlk (v := some (.int (0 : Int32))) (fun h => by rw [hret] at h; cases h) (fun fs hr => retN X0 hx (t := .boolean) hret (by simp) (hb hby d2_59) hr) ?_ (by decide) (by decide)
            show Q2 Z p0 h0 n0 (some (.int (0 : Int32))) s₁.heap _
            rw [e0]
            refine ⟨?_, N0, rfl⟩
            unfold val_2
            rw [if_pos hc1, if_pos hc2, if_pos hc3, if_neg hc4, if_neg hc5]
      · refine Go.st (fun _ k => XS.icmpNo X0.here hx rfl (hb hby d2_31) rfl (flt hc3).1 k) ?_
        show Go _ _ _ _ _ _ _ s₁ (mkF m 34 #[.val (.int p0)] [])
        refine Go.st (fun _ k => XS.iloadN X0.here hx rfl (hb hby d2_34) rfl k) ?_
        show Go _ _ _ _ _ _ _ s₁ (mkF m 35 #[.val (.int p0)] [(.int p0)])
        refine Go.st (fun _ k => XS.bipush X0.here hx rfl (hb hby d2_35) k) ?_
        show Go _ _ _ _ _ _ _ s₁ (mkF m 37 #[.val (.int p0)] [(.int (57 : Int32)), (.int p0)])
        by_cases hc6 : (57 : Int32) < p0
        · refine Go.st (fun _ k => XS.icmpYes X0.here hx rfl (pc0 := 37) (pc' := 42) rfl (hb hby d2_37) rfl (tlt hc6).2.2.1 (by decide) (by decide) k) ?_
          show Go _ _ _ _ _ _ _ s₁ (mkF m 42 #[.val (.int p0)] [])
          refine Go.st (fun _ k => XS.iloadN X0.here hx rfl (hb hby d2_42) rfl k) ?_
          show Go _ _ _ _ _ _ _ s₁ (mkF m 43 #[.val (.int p0)] [(.int p0)])
          refine Go.st (fun _ k => XS.bipush X0.here hx rfl (hb hby d2_43) k) ?_
          show Go _ _ _ _ _ _ _ s₁ (mkF m 45 #[.val (.int p0)] [(.int (45 : Int32)), (.int p0)])
          by_cases hc7 : p0 = (45 : Int32)
          · refine Go.st (fun _ k => XS.icmpNo X0.here hx rfl (hb hby d2_45) rfl (teq hc7).2 k) ?_
            show Go _ _ _ _ _ _ _ s₁ (mkF m 48 #[.val (.int p0)] [])
            refine Go.st (fun _ k => XS.iconst X0.here hx rfl (hb hby d2_48) k) ?_
            show Go _ _ _ _ _ _ _ s₁ (mkF m 49 #[.val (.int p0)] [(.int (1 : Int32))])
            refine Go.ret X0 hlk (v := some (.int (1 : Int32))) (fun h => by rw [hret] at h; cases h) (fun fs hr => retN X0 hx (t := .boolean) hret (by simp) (hb hby d2_49) hr) ?_ (by decide) (by decide)
            show Q2 Z p0 h0 n0 (some (.int (1 : Int32))) s₁.heap _
            rw [e0]
            refine ⟨?_, N0, rfl⟩
            unfold val_2
            rw [if_pos hc1, if_pos hc2, if_neg hc3, if_pos hc6, if_pos hc7]
          · refine Go.st (fun _ k => XS.icmpYes X0.here hx rfl (pc0 := 45) (pc' := 50) rfl (hb hby d2_45) rfl (feq hc7).2 (by decide) (by decide) k) ?_
            show Go _ _ _ _ _ _ _ s₁ (mkF m 50 #[.val (.int p0)] [])
            refine Go.st (fun _ k => XS.iloadN X0.here hx rfl (hb hby d2_50) rfl k) ?_
            show Go _ _ _ _ _ _ _ s₁ (mkF m 51 #[.val (.int p0)] [(.int p0)])
            refine Go.st (fun _ k => XS.bipush X0.here hx rfl (hb hby d2_51) k) ?_
            show Go _ _ _ _ _ _ _ s₁ (mkF m 53 #[.val (.int p0)] [(.int (95 : Int32)), (.int p0)])
            by_cases hc8 : p0 = (95 : Int32)
            · refine Go.st (fun _ k => XS.icmpNo X0.here hx rfl (hb hby d2_53) rfl (teq hc8).2 k) ?_
              show Go _ _ _ _ _ _ _ s₁ (mkF m 56 #[.val (.int p0)] [])
              refine Go.st (fun _ k => XS.iconst X0.here hx rfl (hb hby d2_56) k) ?_
              show Go _ _ _ _ _ _ _ s₁ (mkF m 57 #[.val (.int p0)] [(.int (1 : Int32))])
              refine Go.ret X0 hlk (v := some (.int (1 : Int32))) (fun h => by rw [hret] at h; cases h) (fun fs hr => retN X0 hx (t := .boolean) hret (by simp) (hb hby d2_57) hr) ?_ (by decide) (by decide)
              show Q2 Z p0 h0 n0 (some (.int (1 : Int32))) s₁.heap _
              rw [e0]
              refine ⟨?_, N0, rfl⟩
              unfold val_2
              rw [if_pos hc1, if_pos hc2, if_neg hc3, if_pos hc6, if_neg hc7, if_pos hc8]
            · refine Go.st (fun _ k => XS.icmpYes X0.here hx rfl (pc0 := 53) (pc' := 58) rfl (hb hby d2_53) rfl (feq hc8).2 (by decide) (by decide) k) ?_
              show Go _ _ _ _ _ _ _ s₁ (mkF m 58 #[.val (.int p0)] [])
              refine Go.st (fun _ k => XS.iconst X0.here hx rfl (hb hby d2_58) k) ?_
              show Go _ _ _ _ _ _ _ s₁ (mkF m 59 #[.val (.int p0)] [(.int (0 : Int32))])
              refine Go.ret X0 hlk (v := some (.int (0 : Int32))) (fun h => by rw [hret] at h; cases h) (fun fs hr => retN X0 hx (t := .boolean) hret (by simp) (hb hby d2_59) hr) ?_ (by decide) (by decide)
              show Q2 Z p0 h0 n0 (some (.int (0 : Int32))) s₁.heap _
              rw [e0]
              refine ⟨?_, N0, rfl⟩
              unfold val_2
              rw [if_pos hc1, if_pos hc2, if_neg hc3, if_pos hc6, if_neg hc7, if_neg hc8]
        · refine Go.st (fun _ k => XS.icmpNo X0.here hx rfl (hb hby d2_37) rfl (flt hc6).2.2.1 k) ?_
          show Go _ _ _ _ _ _ _ s₁ (mkF m 40 #[.val (.int p0)] [])
          refine Go.st (fun _ k => XS.iconst X0.here hx rfl (hb hby d2_40) k) ?_
          show Go _ _ _ _ _ _ _ s₁ (mkF m 41 #[.val (.int p0)] [(.int (1 : Int32))])
          refine Go.ret X0 hlk (v := some (.int (1 : Int32))) (fun h => by rw [hret] at h; cases h) (fun fs hr => retN X0 hx (t := .boolean) hret (by simp) (hb hby d2_41) hr) ?_ (by decide) (by decide)
          show Q2 Z p0 h0 n0 (some (.int (1 : Int32))) s₁.heap _
          rw [e0]
          refine ⟨?_, N0, rfl⟩
          unfold val_2
          rw [if_pos hc1, if_pos hc2, if_neg hc3, if_neg hc6]
    · refine Go.st (fun _ k => XS.icmpNo X0.here hx rfl (hb hby d2_17) rfl (flt hc2).1 k) ?_
      show Go _ _ _ _ _ _ _ s₁ (mkF m 20 #[.val (.int p0)] [])
      refine Go.st (fun _ k => XS.iloadN X0.here hx rfl (hb hby d2_20) rfl k) ?_
      show Go _ _ _ _ _ _ _ s₁ (mkF m 21 #[.val (.int p0)] [(.int p0)])
      refine Go.st (fun _ k => XS.bipush X0.here hx rfl (hb hby d2_21) k) ?_
      show Go _ _ _ _ _ _ _ s₁ (mkF m 23 #[.val (.int p0)] [(.int (122 : Int32)), (.int p0)])
      by_cases hc9 : (122 : Int32) < p0
      · refine Go.st (fun _ k => XS.icmpYes X0.here hx rfl (pc0 := 23) (pc' := 28) rfl (hb hby d2_23) rfl (tlt hc9).2.2.1 (by decide) (by decide) k) ?_
        show Go _ _ _ _ _ _ _ s₁ (mkF m 28 #[.val (.int p0)] [])
        refine Go.st (fun _ k => XS.iloadN X0.here hx rfl (hb hby d2_28) rfl k) ?_
        show Go _ _ _ _ _ _ _ s₁ (mkF m 29 #[.val (.int p0)] [(.int p0)])
        refine Go.st (fun _ k => XS.bipush X0.here hx rfl (hb hby d2_29) k) ?_
        show Go _ _ _ _ _ _ _ s₁ (mkF m 31 #[.val (.int p0)] [(.int (48 : Int32)), (.int p0)])
        by_cases hc10 : p0 < (48 : Int32)
        · refine Go.st (fun _ k => XS.icmpYes X0.here hx rfl (pc0 := 31) (pc' := 42) rfl (hb hby d2_31) rfl (tlt hc10).1 (by decide) (by decide) k) ?_
          show Go _ _ _ _ _ _ _ s₁ (mkF m 42 #[.val (.int p0)] [])
          refine Go.st (fun _ k => XS.iloadN X0.here hx rfl (hb hby d2_42) rfl k) ?_
          show Go _ _ _ _ _ _ _ s₁ (mkF m 43 #[.val (.int p0)] [(.int p0)])
          refine Go.st (fun _ k => XS.bipush X0.here hx rfl (hb hby d2_43) k) ?_
          show Go _ _ _ _ _ _ _ s₁ (mkF m 45 #[.val (.int p0)] [(.int (45 : Int32)), (.int p0)])
          by_cases hc11 : p0 = (45 : Int32)
          · refine Go.st (fun _ k => XS.icmpNo X0.here hx rfl (hb hby d2_45) rfl (teq hc11).2 k) ?_
            show Go _ _ _ _ _ _ _ s₁ (mkF m 48 #[.val (.int p0)] [])
            refine Go.st (fun _ k => XS.iconst X0.here hx rfl (hb hby d2_48) k) ?_
            show Go _ _ _ _ _ _ _ s₁ (mkF m 49 #[.val (.int p0)] [(.int (1 : Int32))])
            refine Go.ret X0 hlk (v := some (.int (1 : Int32))) (fun h => by rw [hret] at h; cases h) (fun fs hr => retN X0 hx (t := .boolean) hret (by simp) (hb hby d2_49) hr) ?_ (by decide) (by decide)
            show Q2 Z p0 h0 n0 (some (.int (1 : Int32))) s₁.heap _
            rw [e0]
            refine ⟨?_, N0, rfl⟩
            unfold val_2
            rw [if_pos hc1, if_neg hc2, if_pos hc9, if_pos hc10, if_pos hc11]
          · refine Go.st (fun _ k => XS.icmpYes X0.here hx rfl (pc0 := 45) (pc' := 50) rfl (hb hby d2_45) rfl (feq hc11).2 (by decide) (by decide) k) ?_
            show Go _ _ _ _ _ _ _ s₁ (mkF m 50 #[.val (.int p0)] [])
            refine Go.st (fun _ k => XS.iloadN X0.here hx rfl (hb hby d2_50) rfl k) ?_
            show Go _ _ _ _ _ _ _ s₁ (mkF m 51 #[.val (.int p0)] [(.int p0)])
            refine Go.st (fun _ k => XS.bipush X0.here hx rfl (hb hby d2_51) k) ?_
            show Go _ _ _ _ _ _ _ s₁ (mkF m 53 #[.val (.int p0)] [(.int (95 : Int32)), (.int p0)])
            by_cases hc12 : p0 = (95 : Int32)
            · refine Go.st (fun _ k => XS.icmpNo X0.here hx rfl (hb hby d2_53) rfl (teq hc12).2 k) ?_
              show Go _ _ _ _ _ _ _ s₁ (mkF m 56 #[.val (.int p0)] [])
              refine Go.st (fun _ k => XS.iconst X0.here hx rfl (hb hby d2_56) k) ?_
              show Go _ _ _ _ _ _ _ s₁ (mkF m 57 #[.val (.int p0)] [(.int (1 : Int32))])
              refine Go.ret X0 hlk (v := some (.int (1 : Int32))) (fun h => by rw [hret] at h; cases h) (fun fs hr => retN X0 hx (t := .boolean) hret (by simp) (hb hby d2_57) hr) ?_ (by decide) (by decide)
              show Q2 Z p0 h0 n0 (some (.int (1 : Int32))) s₁.heap _
              rw [e0]
              refine ⟨?_, N0, rfl⟩
              unfold val_2
              rw [if_pos hc1, if_neg hc2, if_pos hc9, if_pos hc10, if_neg hc11, if_pos hc12]
            · refine Go.st (fun _ k => XS.icmpYes X0.here hx rfl (pc0 := 53) (pc' := 58) rfl (hb hby d2_53) rfl (feq hc12).2 (by decide) (by decide) k) ?_
              show Go _ _ _ _ _ _ _ s₁ (mkF m 58 #[.val (.int p0)] [])
              refine Go.st (fun _ k => XS.iconst X0.here hx rfl (hb hby d2_58) k) ?_
              show Go _ _ _ _ _ _ _ s₁ (mkF m 59 #[.val (.int p0)] [(.int (0 : Int32))])
              refine Go.ret X0 hlk (v := some (.int (0 : Int32))) (fun h => by rw [hret] at h; cases h) (fun fs hr => retN X0 hx (t := .boolean) hret (by simp) (hb hby d2_59) hr) ?_ (by decide) (by decide)
              show Q2 Z p0 h0 n0 (some (.int (0 : Int32))) s₁.heap _
              rw [e0]
              refine ⟨?_, N0, rfl⟩
              unfold val_2
              rw [if_pos hc1, if_neg hc2, if_pos hc9, if_pos hc10, if_neg hc11, if_neg hc12]
        · refine Go.st (fun _ k => XS.icmpNo X0.here hx rfl (hb hby d2_31) rfl (flt hc10).1 k) ?_
          show Go _ _ _ _ _ _ _ s₁ (mkF m 34 #[.val (.int p0)] [])
          refine Go.st (fun _ k => XS.iloadN X0.here hx rfl (hb hby d2_34) rfl k) ?_
          show Go _ _ _ _ _ _ _ s₁ (mkF m 35 #[.val (.int p0)] [(.int p0)])
          refine Go.st (fun _ k => XS.bipush X0.here hx rfl (hb hby d2_35) k) ?_
          show Go _ _ _ _ _ _ _ s₁ (mkF m 37 #[.val (.int p0)] [(.int (57 : Int32)), (.int p0)])
          by_cases hc13 : (57 : Int32) < p0
          · refine Go.st (fun _ k => XS.icmpYes X0.here hx rfl (pc0 := 37) (pc' := 42) rfl (hb hby d2_37) rfl (tlt hc13).2.2.1 (by decide) (by decide) k) ?_
            show Go _ _ _ _ _ _ _ s₁ (mkF m 42 #[.val (.int p0)] [])
            refine Go.st (fun _ k => XS.iloadN X0.here hx rfl (hb hby d2_42) rfl k) ?_
            show Go _ _ _ _ _ _ _ s₁ (mkF m 43 #[.val (.int p0)] [(.int p0)])
            refine Go.st (fun _ k => XS.bipush X0.here hx rfl (hb hby d2_43) k) ?_
            show Go _ _ _ _ _ _ _ s₁ (mkF m 45 #[.val (.int p0)] [(.int (45 : Int32)), (.int p0)])
            by_cases hc14 : p0 = (45 : Int32)
            · refine Go.st (fun _ k => XS.icmpNo X0.here hx rfl (hb hby d2_45) rfl (teq hc14).2 k) ?_
              show Go _ _ _ _ _ _ _ s₁ (mkF m 48 #[.val (.int p0)] [])
              refine Go.st (fun _ k => XS.iconst X0.here hx rfl (hb hby d2_48) k) ?_
              show Go _ _ _ _ _ _ _ s₁ (mkF m 49 #[.val (.int p0)] [(.int (1 : Int32))])
              refine Go.ret X0 hlk (v := some (.int (1 : Int32))) (fun h => by rw [hret] at h; cases h) (fun fs hr => retN X0 hx (t := .boolean) hret (by simp) (hb hby d2_49) hr) ?_ (by decide) (by decide)
              show Q2 Z p0 h0 n0 (some (.int (1 : Int32))) s₁.heap _
              rw [e0]
              refine ⟨?_, N0, rfl⟩
              unfold val_2
              rw [if_pos hc1, if_neg hc2, if_pos hc9, if_neg hc10, if_pos hc13, if_pos hc14]
            · refine Go.st (fun _ k => XS.icmpYes X0.here hx rfl (pc0 := 45) (pc' := 50) rfl (hb hby d2_45) rfl (feq hc14).2 (by decide) (by decide) k) ?_
              show Go _ _ _ _ _ _ _ s₁ (mkF m 50 #[.val (.int p0)] [])
              refine Go.st (fun _ k => XS.iloadN X0.here hx rfl (hb hby d2_50) rfl k) ?_
              show Go _ _ _ _ _ _ _ s₁ (mkF m 51 #[.val (.int p0)] [(.int p0)])
              refine Go.st (fun _ k => XS.bipush X0.here hx rfl (hb hby d2_51) k) ?_
              show Go _ _ _ _ _ _ _ s₁ (mkF m 53 #[.val (.int p0)] [(.int (95 : Int32)), (.int p0)])
              by_cases hc15 : p0 = (95 : Int32)
              · refine Go.st (fun _ k => XS.icmpNo X0.here hx rfl (hb hby d2_53) rfl (teq hc15).2 k) ?_
                show Go _ _ _ _ _ _ _ s₁ (mkF m 56 #[.val (.int p0)] [])
                refine Go.st (fun _ k => XS.iconst X0.here hx rfl (hb hby d2_56) k) ?_
                show Go _ _ _ _ _ _ _ s₁ (mkF m 57 #[.val (.int p0)] [(.int (1 : Int32))])
                refine Go.ret X0 hlk (v := some (.int (1 : Int32))) (fun h => by rw [hret] at h; cases h) (fun fs hr => retN X0 hx (t := .boolean) hret (by simp) (hb hby d2_57) hr) ?_ (by decide) (by decide)
                show Q2 Z p0 h0 n0 (some (.int (1 : Int32))) s₁.heap _
                rw [e0]
                refine ⟨?_, N0, rfl⟩
                unfold val_2
                rw [if_pos hc1, if_neg hc2, if_pos hc9, if_neg hc10, if_pos hc13, if_neg hc14, if_pos hc15]
              · refine Go.st (fun _ k => XS.icmpYes X0.here hx rfl (pc0 := 53) (pc' := 58) rfl (hb hby d2_53) rfl (feq hc15).2 (by decide) (by decide) k) ?_
                show Go _ _ _ _ _ _ _ s₁ (mkF m 58 #[.val (.int p0)] [])
                refine Go.st (fun _ k => XS.iconst X0.here hx rfl (hb hby d2_58) k) ?_
                show Go _ _ _ _ _ _ _ s₁ (mkF m 59 #[.val (.int p0)] [(.int (0 : Int32))])
                refine Go.ret X0 hlk (v := some (.int (0 : Int32))) (fun h => by rw [hret] at h; cases h) (fun fs hr => retN X0 hx (t := .boolean) hret (by simp) (hb hby d2_59) hr) ?_ (by decide) (by decide)
                show Q2 Z p0 h0 n0 (some (.int (0 : Int32))) s₁.heap _
                rw [e0]
                refine ⟨?_, N0, rfl⟩
                unfold val_2
                rw [if_pos hc1, if_neg hc2, if_pos hc9, if_neg hc10, if_pos hc13, if_neg hc14, if_neg hc15]
          · refine Go.st (fun _ k => XS.icmpNo X0.here hx rfl (hb hby d2_37) rfl (flt hc13).2.2.1 k) ?_
            show Go _ _ _ _ _ _ _ s₁ (mkF m 40 #[.val (.int p0)] [])
            refine Go.st (fun _ k => XS.iconst X0.here hx rfl (hb hby d2_40) k) ?_
            show Go _ _ _ _ _ _ _ s₁ (mkF m 41 #[.val (.int p0)] [(.int (1 : Int32))])
            refine Go.ret X0 hlk (v := some (.int (1 : Int32))) (fun h => by rw [hret] at h; cases h) (fun fs hr => retN X0 hx (t := .boolean) hret (by simp) (hb hby d2_41) hr) ?_ (by decide) (by decide)
            show Q2 Z p0 h0 n0 (some (.int (1 : Int32))) s₁.heap _
            rw [e0]
            refine ⟨?_, N0, rfl⟩
            unfold val_2
            rw [if_pos hc1, if_neg hc2, if_pos hc9, if_neg hc10, if_neg hc13]
      · refine Go.st (fun _ k => XS.icmpNo X0.here hx rfl (hb hby d2_23) rfl (flt hc9).2.2.1 k) ?_
        show Go _ _ _ _ _ _ _ s₁ (mkF m 26 #[.val (.int p0)] [])
        refine Go.st (fun _ k => XS.iconst X0.here hx rfl (hb hby d2_26) k) ?_
        show Go _ _ _ _ _ _ _ s₁ (mkF m 27 #[.val (.int p0)] [(.int (1 : Int32))])
        refine Go.ret X0 hlk (v := some (.int (1 : Int32))) (fun h => by rw [hret] at h; cases h) (fun fs hr => retN X0 hx (t := .boolean) hret (by simp) (hb hby d2_27) hr) ?_ (by decide) (by decide)
        show Q2 Z p0 h0 n0 (some (.int (1 : Int32))) s₁.heap _
        rw [e0]
        refine ⟨?_, N0, rfl⟩
        unfold val_2
        rw [if_pos hc1, if_neg hc2, if_neg hc9]
  · refine Go.st (fun _ k => XS.icmpNo X0.here hx rfl (hb hby d2_3) rfl (flt hc1).1 k) ?_
    show Go _ _ _ _ _ _ _ s₁ (mkF m 6 #[.val (.int p0)] [])
    refine Go.st (fun _ k => XS.iloadN X0.here hx rfl (hb hby d2_6) rfl k) ?_
    show Go _ _ _ _ _ _ _ s₁ (mkF m 7 #[.val (.int p0)] [(.int p0)])
    refine Go.st (fun _ k => XS.bipush X0.here hx rfl (hb hby d2_7) k) ?_
    show Go _ _ _ _ _ _ _ s₁ (mkF m 9 #[.val (.int p0)] [(.int (90 : Int32)), (.int p0)])
    by_cases hc16 : (90 : Int32) < p0
    · refine Go.st (fun _ k => XS.icmpYes X0.here hx rfl (pc0 := 9) (pc' := 14) rfl (hb hby d2_9) rfl (tlt hc16).2.2.1 (by decide) (by decide) k) ?_
      show Go _ _ _ _ _ _ _ s₁ (mkF m 14 #[.val (.int p0)] [])
      refine Go.st (fun _ k => XS.iloadN X0.here hx rfl (hb hby d2_14) rfl k) ?_
      show Go _ _ _ _ _ _ _ s₁ (mkF m 15 #[.val (.int p0)] [(.int p0)])
      refine Go.st (fun _ k => XS.bipush X0.here hx rfl (hb hby d2_15) k) ?_
      show Go _ _ _ _ _ _ _ s₁ (mkF m 17 #[.val (.int p0)] [(.int (97 : Int32)), (.int p0)])
      by_cases hc17 : p0 < (97 : Int32)
      · refine Go.st (fun _ k => XS.icmpYes X0.here hx rfl (pc0 := 17) (pc' := 28) rfl (hb hby d2_17) rfl (tlt hc17).1 (by decide) (by decide) k) ?_
        show Go _ _ _ _ _ _ _ s₁ (mkF m 28 #[.val (.int p0)] [])
        refine Go.st (fun _ k => XS.iloadN X0.here hx rfl (hb hby d2_28) rfl k) ?_
        show Go _ _ _ _ _ _ _ s₁ (mkF m 29 #[.val (.int p0)] [(.int p0)])
        refine Go.st (fun _ k => XS.bipush X0.here hx rfl (hb hby d2_29) k) ?_
        show Go _ _ _ _ _ _ _ s₁ (mkF m 31 #[.val (.int p0)] [(.int (48 : Int32)), (.int p0)])
        by_cases hc18 : p0 < (48 : Int32)
        · refine Go.st (fun _ k => XS.icmpYes X0.here hx rfl (pc0 := 31) (pc' := 42) rfl (hb hby d2_31) rfl (tlt hc18).1 (by decide) (by decide) k) ?_
          show Go _ _ _ _ _ _ _ s₁ (mkF m 42 #[.val (.int p0)] [])
          refine Go.st (fun _ k => XS.iloadN X0.here hx rfl (hb hby d2_42) rfl k) ?_
          show Go _ _ _ _ _ _ _ s₁ (mkF m 43 #[.val (.int p0)] [(.int p0)])
          refine Go.st (fun _ k => XS.bipush X0.here hx rfl (hb hby d2_43) k) ?_
          show Go _ _ _ _ _ _ _ s₁ (mkF m 45 #[.val (.int p0)] [(.int (45 : Int32)), (.int p0)])
          by_cases hc19 : p0 = (45 : Int32)
          · refine Go.st (fun _ k => XS.icmpNo X0.here hx rfl (hb hby d2_45) rfl (teq hc19).2 k) ?_
            show Go _ _ _ _ _ _ _ s₁ (mkF m 48 #[.val (.int p0)] [])
            refine Go.st (fun _ k => XS.iconst X0.here hx rfl (hb hby d2_48) k) ?_
            show Go _ _ _ _ _ _ _ s₁ (mkF m 49 #[.val (.int p0)] [(.int (1 : Int32))])
            refine Go.ret X0 hlk (v := some (.int (1 : Int32))) (fun h => by rw [hret] at h; cases h) (fun fs hr => retN X0 hx (t := .boolean) hret (by simp) (hb hby d2_49) hr) ?_ (by decide) (by decide)
            show Q2 Z p0 h0 n0 (some (.int (1 : Int32))) s₁.heap _
            rw [e0]
            refine ⟨?_, N0, rfl⟩
            unfold val_2
            rw [if_neg hc1, if_pos hc16, if_pos hc17, if_pos hc18, if_pos hc19]
          · refine Go.st (fun _ k => XS.icmpYes X0.here hx rfl (pc0 := 45) (pc' := 50) rfl (hb hby d2_45) rfl (feq hc19).2 (by decide) (by decide) k) ?_
            show Go _ _ _ _ _ _ _ s₁ (mkF m 50 #[.val (.int p0)] [])
            refine Go.st (fun _ k => XS.iloadN X0.here hx rfl (hb hby d2_50) rfl k) ?_
            show Go _ _ _ _ _ _ _ s₁ (mkF m 51 #[.val (.int p0)] [(.int p0)])
            refine Go.st (fun _ k => XS.bipush X0.here hx rfl (hb hby d2_51) k) ?_
            show Go _ _ _ _ _ _ _ s₁ (mkF m 53 #[.val (.int p0)] [(.int (95 : Int32)), (.int p0)])
            by_cases hc20 : p0 = (95 : Int32)
            · refine Go.st (fun _ k => XS.icmpNo X0.here hx rfl (hb hby d2_53) rfl (teq hc20).2 k) ?_
              show Go _ _ _ _ _ _ _ s₁ (mkF m 56 #[.val (.int p0)] [])
              refine Go.st (fun _ k => XS.iconst X0.here hx rfl (hb hby d2_56) k) ?_
              show Go _ _ _ _ _ _ _ s₁ (mkF m 57 #[.val (.int p0)] [(.int (1 : Int32))])
              refine Go.ret X0 hlk (v := some (.int (1 : Int32))) (fun h => by rw [hret] at h; cases h) (fun fs hr => retN X0 hx (t := .boolean) hret (by simp) (hb hby d2_57) hr) ?_ (by decide) (by decide)
              show Q2 Z p0 h0 n0 (some (.int (1 : Int32))) s₁.heap _
              rw [e0]
              refine ⟨?_, N0, rfl⟩
              unfold val_2
              rw [if_neg hc1, if_pos hc16, if_pos hc17, if_pos hc18, if_neg hc19, if_pos hc20]
            · refine Go.st (fun _ k => XS.icmpYes X0.here hx rfl (pc0 := 53) (pc' := 58) rfl (hb hby d2_53) rfl (feq hc20).2 (by decide) (by decide) k) ?_
              show Go _ _ _ _ _ _ _ s₁ (mkF m 58 #[.val (.int p0)] [])
              refine Go.st (fun _ k => XS.iconst X0.here hx rfl (hb hby d2_58) k) ?_
              show Go _ _ _ _ _ _ _ s₁ (mkF m 59 #[.val (.int p0)] [(.int (0 : Int32))])
              refine Go.ret X0 hlk (v := some (.int (0 : Int32))) (fun h => by rw [hret] at h; cases h) (fun fs hr => retN X0 hx (t := .boolean) hret (by simp) (hb hby d2_59) hr) ?_ (by decide) (by decide)
              show Q2 Z p0 h0 n0 (some (.int (0 : Int32))) s₁.heap _
              rw [e0]
              refine ⟨?_, N0, rfl⟩
              unfold val_2
              rw [if_neg hc1, if_pos hc16, if_pos hc17, if_pos hc18, if_neg hc19, if_neg hc20]
        · refine Go.st (fun _ k => XS.icmpNo X0.here hx rfl (hb hby d2_31) rfl (flt hc18).1 k) ?_
          show Go _ _ _ _ _ _ _ s₁ (mkF m 34 #[.val (.int p0)] [])
          refine Go.st (fun _ k => XS.iloadN X0.here hx rfl (hb hby d2_34) rfl k) ?_
          show Go _ _ _ _ _ _ _ s₁ (mkF m 35 #[.val (.int p0)] [(.int p0)])
          refine Go.st (fun _ k => XS.bipush X0.here hx rfl (hb hby d2_35) k) ?_
          show Go _ _ _ _ _ _ _ s₁ (mkF m 37 #[.val (.int p0)] [(.int (57 : Int32)), (.int p0)])
          by_cases hc21 : (57 : Int32) < p0
          · refine Go.st (fun _ k => XS.icmpYes X0.here hx rfl (pc0 := 37) (pc' := 42) rfl (hb hby d2_37) rfl (tlt hc21).2.2.1 (by decide) (by decide) k) ?_
            show Go _ _ _ _ _ _ _ s₁ (mkF m 42 #[.val (.int p0)] [])
            refine Go.st (fun _ k => XS.iloadN X0.here hx rfl (hb hby d2_42) rfl k) ?_
            show Go _ _ _ _ _ _ _ s₁ (mkF m 43 #[.val (.int p0)] [(.int p0)])
            refine Go.st (fun _ k => XS.bipush X0.here hx rfl (hb hby d2_43) k) ?_
            show Go _ _ _ _ _ _ _ s₁ (mkF m 45 #[.val (.int p0)] [(.int (45 : Int32)), (.int p0)])
            by_cases hc22 : p0 = (45 : Int32)
            · refine Go.st (fun _ k => XS.icmpNo X0.here hx rfl (hb hby d2_45) rfl (teq hc22).2 k) ?_
              show Go _ _ _ _ _ _ _ s₁ (mkF m 48 #[.val (.int p0)] [])
              refine Go.st (fun _ k => XS.iconst X0.here hx rfl (hb hby d2_48) k) ?_
              show Go _ _ _ _ _ _ _ s₁ (mkF m 49 #[.val (.int p0)] [(.int (1 : Int32))])
              refine Go.ret X0 hlk (v := some (.int (1 : Int32))) (fun h => by rw [hret] at h; cases h) (fun fs hr => retN X0 hx (t := .boolean) hret (by simp) (hb hby d2_49) hr) ?_ (by decide) (by decide)
              show Q2 Z p0 h0 n0 (some (.int (1 : Int32))) s₁.heap _
              rw [e0]
              refine ⟨?_, N0, rfl⟩
              unfold val_2
              rw [if_neg hc1, if_pos hc16, if_pos hc17, if_neg hc18, if_pos hc21, if_pos hc22]
            · refine Go.st (fun _ k => XS.icmpYes X0.here hx rfl (pc0 := 45) (pc' := 50) rfl (hb hby d2_45) rfl (feq hc22).2 (by decide) (by decide) k) ?_
              show Go _ _ _ _ _ _ _ s₁ (mkF m 50 #[.val (.int p0)] [])
              refine Go.st (fun _ k => XS.iloadN X0.here hx rfl (hb hby d2_50) rfl k) ?_
              show Go _ _ _ _ _ _ _ s₁ (mkF m 51 #[.val (.int p0)] [(.int p0)])
              refine Go.st (fun _ k => XS.bipush X0.here hx rfl (hb hby d2_51) k) ?_
              show Go _ _ _ _ _ _ _ s₁ (mkF m 53 #[.val (.int p0)] [(.int (95 : Int32)), (.int p0)])
              by_cases hc23 : p0 = (95 : Int32)
              · refine Go.st (fun _ k => XS.icmpNo X0.here hx rfl (hb hby d2_53) rfl (teq hc23).2 k) ?_
                show Go _ _ _ _ _ _ _ s₁ (mkF m 56 #[.val (.int p0)] [])
                refine Go.st (fun _ k => XS.iconst X0.here hx rfl (hb hby d2_56) k) ?_
                show Go _ _ _ _ _ _ _ s₁ (mkF m 57 #[.val (.int p0)] [(.int (1 : Int32))])
                refine Go.ret X0 hlk (v := some (.int (1 : Int32))) (fun h => by rw [hret] at h; cases h) (fun fs hr => retN X0 hx (t := .boolean) hret (by simp) (hb hby d2_57) hr) ?_ (by decide) (by decide)
                show Q2 Z p0 h0 n0 (some (.int (1 : Int32))) s₁.heap _
                rw [e0]
                refine ⟨?_, N0, rfl⟩
                unfold val_2
                rw [if_neg hc1, if_pos hc16, if_pos hc17, if_neg hc18, if_pos hc21, if_neg hc22, if_pos hc23]
              · refine Go.st (fun _ k => XS.icmpYes X0.here hx rfl (pc0 := 53) (pc' := 58) rfl (hb hby d2_53) rfl (feq hc23).2 (by decide) (by decide) k) ?_
                show Go _ _ _ _ _ _ _ s₁ (mkF m 58 #[.val (.int p0)] [])
                refine Go.st (fun _ k => XS.iconst X0.here hx rfl (hb hby d2_58) k) ?_
                show Go _ _ _ _ _ _ _ s₁ (mkF m 59 #[.val (.int p0)] [(.int (0 : Int32))])
                refine Go.ret X0 hlk (v := some (.int (0 : Int32))) (fun h => by rw [hret] at h; cases h) (fun fs hr => retN X0 hx (t := .boolean) hret (by simp) (hb hby d2_59) hr) ?_ (by decide) (by decide)
                show Q2 Z p0 h0 n0 (some (.int (0 : Int32))) s₁.heap _
                rw [e0]
                refine ⟨?_, N0, rfl⟩
                unfold val_2
                rw [if_neg hc1, if_pos hc16, if_pos hc17, if_neg hc18, if_pos hc21, if_neg hc22, if_neg hc23]
          · refine Go.st (fun _ k => XS.icmpNo X0.here hx rfl (hb hby d2_37) rfl (flt hc21).2.2.1 k) ?_
            show Go _ _ _ _ _ _ _ s₁ (mkF m 40 #[.val (.int p0)] [])
            refine Go.st (fun _ k => XS.iconst X0.here hx rfl (hb hby d2_40) k) ?_
            show Go _ _ _ _ _ _ _ s₁ (mkF m 41 #[.val (.int p0)] [(.int (1 : Int32))])
            refine Go.ret X0 hlk (v := some (.int (1 : Int32))) (fun h => by rw [hret] at h; cases h) (fun fs hr => retN X0 hx (t := .boolean) hret (by simp) (hb hby d2_41) hr) ?_ (by decide) (by decide)
            show Q2 Z p0 h0 n0 (some (.int (1 : Int32))) s₁.heap _
            rw [e0]
            refine ⟨?_, N0, rfl⟩
            unfold val_2
            rw [if_neg hc1, if_pos hc16, if_pos hc17, if_neg hc18, if_neg hc21]
      · refine Go.st (fun _ k => XS.icmpNo X0.here hx rfl (hb hby d2_17) rfl (flt hc17).1 k) ?_
        show Go _ _ _ _ _ _ _ s₁ (mkF m 20 #[.val (.int p0)] [])
        refine Go.st (fun _ k => XS.iloadN X0.here hx rfl (hb hby d2_20) rfl k) ?_
        show Go _ _ _ _ _ _ _ s₁ (mkF m 21 #[.val (.int p0)] [(.int p0)])
        refine Go.st (fun _ k => XS.bipush X0.here hx rfl (hb hby d2_21) k) ?_
        show Go _ _ _ _ _ _ _ s₁ (mkF m 23 #[.val (.int p0)] [(.int (122 : Int32)), (.int p0)])
        by_cases hc24 : (122 : Int32) < p0
        · refine Go.st (fun _ k => XS.icmpYes X0.here hx rfl (pc0 := 23) (pc' := 28) rfl (hb hby d2_23) rfl (tlt hc24).2.2.1 (by decide) (by decide) k) ?_
          show Go _ _ _ _ _ _ _ s₁ (mkF m 28 #[.val (.int p0)] [])
          refine Go.st (fun _ k => XS.iloadN X0.here hx rfl (hb hby d2_28) rfl k) ?_
          show Go _ _ _ _ _ _ _ s₁ (mkF m 29 #[.val (.int p0)] [(.int p0)])
          refine Go.st (fun _ k => XS.bipush X0.here hx rfl (hb hby d2_29) k) ?_
          show Go _ _ _ _ _ _ _ s₁ (mkF m 31 #[.val (.int p0)] [(.int (48 : Int32)), (.int p0)])
          by_cases hc25 : p0 < (48 : Int32)
          · refine Go.st (fun _ k => XS.icmpYes X0.here hx rfl (pc0 := 31) (pc' := 42) rfl (hb hby d2_31) rfl (tlt hc25).1 (by decide) (by decide) k) ?_
            show Go _ _ _ _ _ _ _ s₁ (mkF m 42 #[.val (.int p0)] [])
            refine Go.st (fun _ k => XS.iloadN X0.here hx rfl (hb hby d2_42) rfl k) ?_
            show Go _ _ _ _ _ _ _ s₁ (mkF m 43 #[.val (.int p0)] [(.int p0)])
            refine Go.st (fun _ k => XS.bipush X0.here hx rfl (hb hby d2_43) k) ?_
            show Go _ _ _ _ _ _ _ s₁ (mkF m 45 #[.val (.int p0)] [(.int (45 : Int32)), (.int p0)])
            by_cases hc26 : p0 = (45 : Int32)
            · refine Go.st (fun _ k => XS.icmpNo X0.here hx rfl (hb hby d2_45) rfl (teq hc26).2 k) ?_
              show Go _ _ _ _ _ _ _ s₁ (mkF m 48 #[.val (.int p0)] [])
              refine Go.st (fun _ k => XS.iconst X0.here hx rfl (hb hby d2_48) k) ?_
              show Go _ _ _ _ _ _ _ s₁ (mkF m 49 #[.val (.int p0)] [(.int (1 : Int32))])
              refine Go.ret X0 hlk (v := some (.int (1 : Int32))) (fun h => by rw [hret] at h; cases h) (fun fs hr => retN X0 hx (t := .boolean) hret (by simp) (hb hby d2_49) hr) ?_ (by decide) (by decide)
              show Q2 Z p0 h0 n0 (some (.int (1 : Int32))) s₁.heap _
              rw [e0]
              refine ⟨?_, N0, rfl⟩
              unfold val_2
              rw [if_neg hc1, if_pos hc16, if_neg hc17, if_pos hc24, if_pos hc25, if_pos hc26]
            · refine Go.st (fun _ k => XS.icmpYes X0.here hx rfl (pc0 := 45) (pc' := 50) rfl (hb hby d2_45) rfl (feq hc26).2 (by decide) (by decide) k) ?_
              show Go _ _ _ _ _ _ _ s₁ (mkF m 50 #[.val (.int p0)] [])
              refine Go.st (fun _ k => XS.iloadN X0.here hx rfl (hb hby d2_50) rfl k) ?_
              show Go _ _ _ _ _ _ _ s₁ (mkF m 51 #[.val (.int p0)] [(.int p0)])
              refine Go.st (fun _ k => XS.bipush X0.here hx rfl (hb hby d2_51) k) ?_
              show Go _ _ _ _ _ _ _ s₁ (mkF m 53 #[.val (.int p0)] [(.int (95 : Int32)), (.int p0)])
              by_cases hc27 : p0 = (95 : Int32)
              · refine Go.st (fun _ k => XS.icmpNo X0.here hx rfl (hb hby d2_53) rfl (teq hc27).2 k) ?_
                show Go _ _ _ _ _ _ _ s₁ (mkF m 56 #[.val (.int p0)] [])
                refine Go.st (fun _ k => XS.iconst X0.here hx rfl (hb hby d2_56) k) ?_
                show Go _ _ _ _ _ _ _ s₁ (mkF m 57 #[.val (.int p0)] [(.int (1 : Int32))])
                refine Go.ret X0 hlk (v := some (.int (1 : Int32))) (fun h => by rw [hret] at h; cases h) (fun fs hr => retN X0 hx (t := .boolean) hret (by simp) (hb hby d2_57) hr) ?_ (by decide) (by decide)
                show Q2 Z p0 h0 n0 (some (.int (1 : Int32))) s₁.heap _
                rw [e0]
                refine ⟨?_, N0, rfl⟩
                unfold val_2
                rw [if_neg hc1, if_pos hc16, if_neg hc17, if_pos hc24, if_pos hc25, if_neg hc26, if_pos hc27]
              · refine Go.st (fun _ k => XS.icmpYes X0.here hx rfl (pc0 := 53) (pc' := 58) rfl (hb hby d2_53) rfl (feq hc27).2 (by decide) (by decide) k) ?_
                show Go _ _ _ _ _ _ _ s₁ (mkF m 58 #[.val (.int p0)] [])
                refine Go.st (fun _ k => XS.iconst X0.here hx rfl (hb hby d2_58) k) ?_
                show Go _ _ _ _ _ _ _ s₁ (mkF m 59 #[.val (.int p0)] [(.int (0 : Int32))])
                refine Go.ret X0 hlk (v := some (.int (0 : Int32))) (fun h => by rw [hret] at h; cases h) (fun fs hr => retN X0 hx (t := .boolean) hret (by simp) (hb hby d2_59) hr) ?_ (by decide) (by decide)
                show Q2 Z p0 h0 n0 (some (.int (0 : Int32))) s₁.heap _
                rw [e0]
                refine ⟨?_, N0, rfl⟩
                unfold val_2
                rw [if_neg hc1, if_pos hc16, if_neg hc17, if_pos hc24, if_pos hc25, if_neg hc26, if_neg hc27]
          · refine Go.st (fun _ k => XS.icmpNo X0.here hx rfl (hb hby d2_31) rfl (flt hc25).1 k) ?_
            show Go _ _ _ _ _ _ _ s₁ (mkF m 34 #[.val (.int p0)] [])
            refine Go.st (fun _ k => XS.iloadN X0.here hx rfl (hb hby d2_34) rfl k) ?_
            show Go _ _ _ _ _ _ _ s₁ (mkF m 35 #[.val (.int p0)] [(.int p0)])
            refine Go.st (fun _ k => XS.bipush X0.here hx rfl (hb hby d2_35) k) ?_
            show Go _ _ _ _ _ _ _ s₁ (mkF m 37 #[.val (.int p0)] [(.int (57 : Int32)), (.int p0)])
            by_cases hc28 : (57 : Int32) < p0
            · refine Go.st (fun _ k => XS.icmpYes X0.here hx rfl (pc0 := 37) (pc' := 42) rfl (hb hby d2_37) rfl (tlt hc28).2.2.1 (by decide) (by decide) k) ?_
              show Go _ _ _ _ _ _ _ s₁ (mkF m 42 #[.val (.int p0)] [])
              refine Go.st (fun _ k => XS.iloadN X0.here hx rfl (hb hby d2_42) rfl k) ?_
              show Go _ _ _ _ _ _ _ s₁ (mkF m 43 #[.val (.int p0)] [(.int p0)])
              refine Go.st (fun _ k => XS.bipush X0.here hx rfl (hb hby d2_43) k) ?_
              show Go _ _ _ _ _ _ _ s₁ (mkF m 45 #[.val (.int p0)] [(.int (45 : Int32)), (.int p0)])
              by_cases hc29 : p0 = (45 : Int32)
              · refine Go.st (fun _ k => XS.icmpNo X0.here hx rfl (hb hby d2_45) rfl (teq hc29).2 k) ?_
                show Go _ _ _ _ _ _ _ s₁ (mkF m 48 #[.val (.int p0)] [])
                refine Go.st (fun _ k => XS.iconst X0.here hx rfl (hb hby d2_48) k) ?_
                show Go _ _ _ _ _ _ _ s₁ (mkF m 49 #[.val (.int p0)] [(.int (1 : Int32))])
                refine Go.ret X0 hlk (v := some (.int (1 : Int32))) (fun h => by rw [hret] at h; cases h) (fun fs hr => retN X0 hx (t := .boolean) hret (by simp) (hb hby d2_49) hr) ?_ (by decide) (by decide)
                show Q2 Z p0 h0 n0 (some (.int (1 : Int32))) s₁.heap _
                rw [e0]
                refine ⟨?_, N0, rfl⟩
                unfold val_2
                rw [if_neg hc1, if_pos hc16, if_neg hc17, if_pos hc24, if_neg hc25, if_pos hc28, if_pos hc29]
              · refine Go.st (fun _ k => XS.icmpYes X0.here hx rfl (pc0 := 45) (pc' := 50) rfl (hb hby d2_45) rfl (feq hc29).2 (by decide) (by decide) k) ?_
                show Go _ _ _ _ _ _ _ s₁ (mkF m 50 #[.val (.int p0)] [])
                refine Go.st (fun _ k => XS.iloadN X0.here hx rfl (hb hby d2_50) rfl k) ?_
                show Go _ _ _ _ _ _ _ s₁ (mkF m 51 #[.val (.int p0)] [(.int p0)])
                refine Go.st (fun _ k => XS.bipush X0.here hx rfl (hb hby d2_51) k) ?_
                show Go _ _ _ _ _ _ _ s₁ (mkF m 53 #[.val (.int p0)] [(.int (95 : Int32)), (.int p0)])
                by_cases hc30 : p0 = (95 : Int32)
                · refine Go.st (fun _ k => XS.icmpNo X0.here hx rfl (hb hby d2_53) rfl (teq hc30).2 k) ?_
                  show Go _ _ _ _ _ _ _ s₁ (mkF m 56 #[.val (.int p0)] [])
                  refine Go.st (fun _ k => XS.iconst X0.here hx rfl (hb hby d2_56) k) ?_
                  show Go _ _ _ _ _ _ _ s₁ (mkF m 57 #[.val (.int p0)] [(.int (1 : Int32))])
                  refine Go.ret X0 hlk (v := some (.int (1 : Int32))) (fun h => by rw [hret] at h; cases h) (fun fs hr => retN X0 hx (t := .boolean) hret (by simp) (hb hby d2_57) hr) ?_ (by decide) (by decide)
                  show Q2 Z p0 h0 n0 (some (.int (1 : Int32))) s₁.heap _
                  rw [e0]
                  refine ⟨?_, N0, rfl⟩
                  unfold val_2
                  rw [if_neg hc1, if_pos hc16, if_neg hc17, if_pos hc24, if_neg hc25, if_pos hc28, if_neg hc29, if_pos hc30]
                · refine Go.st (fun _ k => XS.icmpYes X0.here hx rfl (pc0 := 53) (pc' := 58) rfl (hb hby d2_53) rfl (feq hc30).2 (by decide) (by decide) k) ?_
                  show Go _ _ _ _ _ _ _ s₁ (mkF m 58 #[.val (.int p0)] [])
                  refine Go.st (fun _ k => XS.iconst X0.here hx rfl (hb hby d2_58) k) ?_
                  show Go _ _ _ _ _ _ _ s₁ (mkF m 59 #[.val (.int p0)] [(.int (0 : Int32))])
                  refine Go.ret X0 hlk (v := some (.int (0 : Int32))) (fun h => by rw [hret] at h; cases h) (fun fs hr => retN X0 hx (t := .boolean) hret (by simp) (hb hby d2_59) hr) ?_ (by decide) (by decide)
                  show Q2 Z p0 h0 n0 (some (.int (0 : Int32))) s₁.heap _
                  rw [e0]
                  refine ⟨?_, N0, rfl⟩
                  unfold val_2
                  rw [if_neg hc1, if_pos hc16, if_neg hc17, if_pos hc24, if_neg hc25, if_pos hc28, if_neg hc29, if_neg hc30]
            · refine Go.st (fun _ k => XS.icmpNo X0.here hx rfl (hb hby d2_37) rfl (flt hc28).2.2.1 k) ?_
              show Go _ _ _ _ _ _ _ s₁ (mkF m 40 #[.val (.int p0)] [])
              refine Go.st (fun _ k => XS.iconst X0.here hx rfl (hb hby d2_40) k) ?_
              show Go _ _ _ _ _ _ _ s₁ (mkF m 41 #[.val (.int p0)] [(.int (1 : Int32))])
              refine Go.ret X0 hlk (v := some (.int (1 : Int32))) (fun h => by rw [hret] at h; cases h) (fun fs hr => retN X0 hx (t := .boolean) hret (by simp) (hb hby d2_41) hr) ?_ (by decide) (by decide)
              show Q2 Z p0 h0 n0 (some (.int (1 : Int32))) s₁.heap _
              rw [e0]
              refine ⟨?_, N0, rfl⟩
              unfold val_2
              rw [if_neg hc1, if_pos hc16, if_neg hc17, if_pos hc24, if_neg hc25, if_neg hc28]
        · refine Go.st (fun _ k => XS.icmpNo X0.here hx rfl (hb hby d2_23) rfl (flt hc24).2.2.1 k) ?_
          show Go _ _ _ _ _ _ _ s₁ (mkF m 26 #[.val (.int p0)] [])
          refine Go.st (fun _ k => XS.iconst X0.here hx rfl (hb hby d2_26) k) ?_
          show Go _ _ _ _ _ _ _ s₁ (mkF m 27 #[.val (.int p0)] [(.int (1 : Int32))])
          refine Go.ret X0 hlk (v := some (.int (1 : Int32))) (fun h => by rw [hret] at h; cases h) (fun fs hr => retN X0 hx (t := .boolean) hret (by simp) (hb hby d2_27) hr) ?_ (by decide) (by decide)
          show Q2 Z p0 h0 n0 (some (.int (1 : Int32))) s₁.heap _
          rw [e0]
          refine ⟨?_, N0, rfl⟩
          unfold val_2
          rw [if_neg hc1, if_pos hc16, if_neg hc17, if_neg hc24]
    · refine Go.st (fun _ k => XS.icmpNo X0.here hx rfl (hb hby d2_9) rfl (flt hc16).2.2.1 k) ?_
      show Go _ _ _ _ _ _ _ s₁ (mkF m 12 #[.val (.int p0)] [])
      refine Go.st (fun _ k => XS.iconst X0.here hx rfl (hb hby d2_12) k) ?_
      show Go _ _ _ _ _ _ _ s₁ (mkF m 13 #[.val (.int p0)] [(.int (1 : Int32))])
      refine Go.ret X0 hlk (v := some (.int (1 : Int32))) (fun h => by rw [hret] at h; cases h) (fun fs hr => retN X0 hx (t := .boolean) hret (by simp) (hb hby d2_13) hr) ?_ (by decide) (by decide)
      show Q2 Z p0 h0 n0 (some (.int (1 : Int32))) s₁.heap _
      rw [e0]
      refine ⟨?_, N0, rfl⟩
      unfold val_2
      rw [if_neg hc1, if_neg hc16]
theorem d1_0 : decode prog_9_method_2_code 0 = .ok (.iload_n 0, 1) := by decide +kernel
theorem d1_1 : decode prog_9_method_2_code 1 = .ok (.ifCond .lt 23, 3) := by decide +kernel
theorem d1_4 : decode prog_9_method_2_code 4 = .ok (.iload_n 0, 1) := by decide +kernel
theorem d1_5 : decode prog_9_method_2_code 5 = .ok (.getstatic 7, 3) := by decide +kernel
theorem d1_8 : decode prog_9_method_2_code 8 = .ok (.arraylength, 1) := by decide +kernel
theorem d1_9 : decode prog_9_method_2_code 9 = .ok (.if_icmp .ge 15, 3) := by decide +kernel
theorem d1_12 : decode prog_9_method_2_code 12 = .ok (.getstatic 7, 3) := by decide +kernel
theorem d1_15 : decode prog_9_method_2_code 15 = .ok (.iload_n 0, 1) := by decide +kernel
theorem d1_16 : decode prog_9_method_2_code 16 = .ok (.baload, 1) := by decide +kernel
theorem d1_17 : decode prog_9_method_2_code 17 = .ok (.ifCond .eq 7, 3) := by decide +kernel
theorem d1_20 : decode prog_9_method_2_code 20 = .ok (.iconst 1, 1) := by decide +kernel
theorem d1_21 : decode prog_9_method_2_code 21 = .ok (.goto 4, 3) := by decide +kernel
theorem d1_24 : decode prog_9_method_2_code 24 = .ok (.iconst 0, 1) := by decide +kernel
theorem d1_25 : decode prog_9_method_2_code 25 = .ok (.ireturn, 1) := by decide +kernel
def val_1 (p0 : Int32) (w_A : Addr) (cl : Cell) : Int32 := (if p0 < (0 : Int32) then (0 : Int32) else (if p0 < (128 : Int32) then (if (atv cl p0) = (0 : Int32) then (0 : Int32) else (1 : Int32)) else (0 : Int32)))
theorem ef_1 (m : MethodId) (p0 : Int32) : entryFrame m #[(.int p0)] 1 = mkF m 0 #[.val (.int p0)] [] := by first | (simp [entryFrame, mkF, argsToLocals, Value.category]; done) | rfl
def Q1 (Z : State) (p0 : Int32) (w_A : Addr) (cl : Cell) (h0 : Heap) (n0 : Nat) (v : Option Value) (h : Heap) (L : List Loc) : Prop := v = some (.int (val_1 p0 w_A cl)) ∧ Fr n0 L ∧ h = h0
set_option maxRecDepth 65536 in
set_option maxHeartbeats 40000000 in
theorem rm1 (l : Launch) (Z : State) (a0 : Array Value) (hw : ∀ d ∈ tables_1, d.before a0 Z = true) (ws : List Jvm.Cond) (p0 : Int32) (w_A : Addr) (cl : Cell) (h0 : Heap) (n0 : Nat) (Z0 : n0 ≤ h0.size) (S_A : Sta Z h0 "com/example/ledgerline/ledgerline/io/Base64Url" "ALPHABET" "[Z" (.ref w_A)) (TB : Tab Z h0 w_A cl .boolean (128 : Int32)) :
    MetFree l (⟨"com/example/ledgerline/ledgerline/io/Base64Url", "isAlphabet", "(I)Z"⟩ : MethodName) (head1 (Jvm.Cond.code (⟨"com/example/ledgerline/ledgerline/io/Base64Url", "isAlphabet", "(I)Z"⟩ : MethodName) prog_9_method_2_code 1 (some .boolean) :: ws) ({ frames := 0, cells := 0, slots := 0, locals := 0 } : Room)) (fun a U => a = #[(.int p0)] ∧ Z.Warmed39 U.vm ∧ U.heap = h0) (fun _ _ _ _ _ => True) (fun _ U o U' => ∃ v L, o = .returned v ∧ Q1 Z p0 w_A cl h0 n0 v U'.heap L ∧ FrameEnd U o U' L ({ frames := 0, cells := 0, slots := 0, locals := 0 } : Room).cells ({ frames := 0, cells := 0, slots := 0, locals := 0 } : Room).slots) := by
  refine MetFree.of_bodySF (plainFor_of_name pn_com_example_ledgerline_ledgerline_io_Base64Url) hisR ?_
  intro p e s m args below meth c s₁ Bd hml0 hP hK
  obtain ⟨rfl, hZ, hh⟩ := hP
  have hx := Bd.exec
  have hby := Bd.bytes
  have hlk : meth.locks = false := BodyLoose.notSynchronized Bd
  have hret := Bd.returns
  have hml : c.maxLocals = 1 := hml0
  have hown : s.vm.findClass "com/example/ledgerline/ledgerline/io/Base64Url" = some m.cls := findClass_of_methodNamed Bd.named
  have hnm := (name_of_methodNamed Bd.named Bd.method).1
  have X0 : Stand p l e ({ frames := 0, cells := 0, slots := 0, locals := 0 } : Room) s m #[(.int p0)] below meth c s₁ [] 0 0 := Stand.of_body Bd
  have e0 : s₁.heap = h0 := by rw [← hh, Bd.state]; rfl
  have N0 := Fr.nil n0
  refine Go.start (Q := Q1 Z p0 w_A cl h0 n0) (ef_1 m p0) ?_
  show Go _ _ _ _ _ _ _ s₁ (mkF m 0 #[.val (.int p0)] [])
  refine Go.st (fun _ k => XS.iloadN X0.here hx rfl (hb hby d1_0) rfl k) ?_
  show Go _ _ _ _ _ _ _ s₁ (mkF m 1 #[.val (.int p0)] [(.int p0)])
  by_cases hc1 : p0 < (0 : Int32)
  · refine Go.st (fun _ k => XS.ifYes X0.here hx rfl (pc0 := 1) (pc' := 24) rfl (hb hby d1_1) rfl ((if0 _ _).trans (tlt hc1).1) (by decide) (by decide) k) ?_
    show Go _ _ _ _ _ _ _ s₁ (mkF m 24 #[.val (.int p0)] [])
    refine Go.st (fun _ k => XS.iconst X0.here hx rfl (hb hby d1_24) k) ?_
    show Go _ _ _ _ _ _ _ s₁ (mkF m 25 #[.val (.int p0)] [(.int (0 : Int32))])
    refine Go.ret X0 hlk (v := some (.int (0 : Int32))) (fun h => by rw [hret] at h; cases h) (fun fs hr => retN X0 hx (t := .boolean) hret (by simp) (hb hby d1_25) hr) ?_ (by decide) (by decide)
    show Q1 Z p0 w_A cl h0 n0 (some (.int (0 : Int32))) s₁.heap _
    rw [e0]
    refine ⟨?_, N0, rfl⟩
    unfold val_1
    rw [if_pos hc1]
  · refine Go.st (fun _ k => XS.ifNo X0.here hx rfl (hb hby d1_1) rfl ((if0 _ _).trans (flt hc1).1) k) ?_
    show Go _ _ _ _ _ _ _ s₁ (mkF m 4 #[.val (.int p0)] [])
    refine Go.st (fun _ k => XS.iloadN X0.here hx rfl (hb hby d1_4) rfl k) ?_
    show Go _ _ _ _ _ _ _ s₁ (mkF m 5 #[.val (.int p0)] [(.int p0)])
    obtain ⟨T2, X2, e2, st2⟩ := getS2 X0 hx hZ hown (host := "") (Or.inl (hw _ (List.mem_of_getElem? (i := 4) rfl))) Via.refl e0 S_A (g := (mkF m 5 #[.val (.int p0)] [(.int p0)])) rfl (hb hby d1_5)
    refine Go.st st2 ?_
    show Go _ _ _ _ _ _ _ T2 (mkF m 8 #[.val (.int p0)] [(.ref w_A), (.int p0)])
    refine Go.st (fun _ k => X2.arraylength hx (by rw [e2]; exact TB.1.1) (State.isArrayOf_alike hZ.alike TB.1.2.1) (g := (mkF m 8 #[.val (.int p0)] [(.ref w_A), (.int p0)])) rfl rfl (hb hby d1_8) _ k) ?_
    rw [len_of TB.2.1 TB.2.2.1]
    show Go _ _ _ _ _ _ _ T2 (mkF m 9 #[.val (.int p0)] [(.int (128 : Int32)), (.int p0)])
    by_cases hc3 : p0 < (128 : Int32)
    · refine Go.st (fun _ k => XS.icmpNo X2.here hx rfl (hb hby d1_9) rfl (tlt hc3).2.1 k) ?_
      show Go _ _ _ _ _ _ _ T2 (mkF m 12 #[.val (.int p0)] [])
      obtain ⟨T4, X4, e4, st4⟩ := getS2 X2 hx hZ hown (host := "") (Or.inl (hw _ (List.mem_of_getElem? (i := 4) rfl))) Via.refl e2 S_A (g := (mkF m 12 #[.val (.int p0)] [])) rfl (hb hby d1_12)
      refine Go.st st4 ?_
      show Go _ _ _ _ _ _ _ T4 (mkF m 15 #[.val (.int p0)] [(.ref w_A)])
      refine Go.st (fun _ k => XS.iloadN X4.here hx rfl (hb hby d1_15) rfl k) ?_
      show Go _ _ _ _ _ _ _ T4 (mkF m 16 #[.val (.int p0)] [(.int p0), (.ref w_A)])
      have hin5 : ¬ (p0 < 0 ∨ cl.slots.size ≤ (p0).toNatClampNeg) := inb_of TB.2.1 ⟨hc1, hc3⟩
      refine Go.st (fun _ k => X4.baloadBooleans hx (j := p0) (v := (.int (atv cl p0))) (by rw [e4]; exact TB.1.1) (State.isArrayOf_alike hZ.alike TB.1.2.1) TB.1.2.2 hin5 (TB.2.2.2 _ hin5) (g := (mkF m 16 #[.val (.int p0)] [(.int p0), (.ref w_A)])) rfl rfl (hb hby d1_16) _ k) ?_
      show Go _ _ _ _ _ _ _ T4 (mkF m 17 #[.val (.int p0)] [(.int (atv cl p0))])
      by_cases hc6 : (atv cl p0) = (0 : Int32)
      · refine Go.st (fun _ k => XS.ifYes X4.here hx rfl (pc0 := 17) (pc' := 24) rfl (hb hby d1_17) rfl ((if0 _ _).trans (teq hc6).1) (by decide) (by decide) k) ?_
        show Go _ _ _ _ _ _ _ T4 (mkF m 24 #[.val (.int p0)] [])
        refine Go.st (fun _ k => XS.iconst X4.here hx rfl (hb hby d1_24) k) ?_
        show Go _ _ _ _ _ _ _ T4 (mkF m 25 #[.val (.int p0)] [(.int (0 : Int32))])
        refine Go.ret X4 hlk (v := some (.int (0 : Int32))) (fun h => by rw [hret] at h; cases h) (fun fs hr => retN X4 hx (t := .boolean) hret (by simp) (hb hby d1_25) hr) ?_ (by decide) (by decide)
        show Q1 Z p0 w_A cl h0 n0 (some (.int (0 : Int32))) T4.heap _
        rw [e4]
        refine ⟨?_, N0, rfl⟩
        unfold val_1
        rw [if_neg hc1, if_pos hc3, if_pos hc6]
      · refine Go.st (fun _ k => XS.ifNo X4.here hx rfl (hb hby d1_17) rfl ((if0 _ _).trans (feq hc6).1) k) ?_
        show Go _ _ _ _ _ _ _ T4 (mkF m 20 #[.val (.int p0)] [])
        refine Go.st (fun _ k => XS.iconst X4.here hx rfl (hb hby d1_20) k) ?_
        show Go _ _ _ _ _ _ _ T4 (mkF m 21 #[.val (.int p0)] [(.int (1 : Int32))])
        refine Go.st (fun _ k => XS.goto X4.here hx rfl (pc0 := 21) (pc' := 25) rfl (hb hby d1_21) (by decide) (by decide) k) ?_
        show Go _ _ _ _ _ _ _ T4 (mkF m 25 #[.val (.int p0)] [(.int (1 : Int32))])
        refine Go.ret X4 hlk (v := some (.int (1 : Int32))) (fun h => by rw [hret] at h; cases h) (fun fs hr => retN X4 hx (t := .boolean) hret (by simp) (hb hby d1_25) hr) ?_ (by decide) (by decide)
        show Q1 Z p0 w_A cl h0 n0 (some (.int (1 : Int32))) T4.heap _
        rw [e4]
        refine ⟨?_, N0, rfl⟩
        unfold val_1
        rw [if_neg hc1, if_pos hc3, if_neg hc6]
    · refine Go.st (fun _ k => XS.icmpYes X2.here hx rfl (pc0 := 9) (pc' := 24) rfl (hb hby d1_9) rfl (flt hc3).2.1 (by decide) (by decide) k) ?_
      show Go _ _ _ _ _ _ _ T2 (mkF m 24 #[.val (.int p0)] [])
      refine Go.st (fun _ k => XS.iconst X2.here hx rfl (hb hby d1_24) k) ?_
      show Go _ _ _ _ _ _ _ T2 (mkF m 25 #[.val (.int p0)] [(.int (0 : Int32))])
      refine Go.ret X2 hlk (v := some (.int (0 : Int32))) (fun h => by rw [hret] at h; cases h) (fun fs hr => retN X2 hx (t := .boolean) hret (by simp) (hb hby d1_25) hr) ?_ (by decide) (by decide)
      show Q1 Z p0 w_A cl h0 n0 (some (.int (0 : Int32))) T2.heap _
      rw [e2]
      refine ⟨?_, N0, rfl⟩
      unfold val_1
      rw [if_neg hc1, if_neg hc3]
theorem own_bit (y : Int32) : val_2 y = 0 ∨ val_2 y = 1 := by
  unfold val_2
  repeat' split
  all_goals first | exact Or.inl rfl | exact Or.inr rfl
theorem own_out (y : Int32) (h : y < 0 ∨ ¬ y < 128) : val_2 y = 0 := by
  unfold val_2
  simp only [Int32.lt_iff_toInt_lt, ← Int32.toInt_inj] at h ⊢
  simp only [(by decide : (0 : Int32).toInt = 0), (by decide : (1 : Int32).toInt = 1), (by decide : (45 : Int32).toInt = 45), (by decide : (48 : Int32).toInt = 48), (by decide : (57 : Int32).toInt = 57), (by decide : (65 : Int32).toInt = 65), (by decide : (90 : Int32).toInt = 90), (by decide : (95 : Int32).toInt = 95), (by decide : (97 : Int32).toInt = 97), (by decide : (122 : Int32).toInt = 122), (by decide : (128 : Int32).toInt = 128)] at h ⊢
  repeat' split
  all_goals first | rfl | (exfalso; omega)
theorem own_same {w_A : Addr} {cl : Cell} (hA : ∀ j : Int32, ¬ j < 0 → j < 128 → atv cl j = val_2 j) (y : Int32) : val_1 y w_A cl = val_2 y := by
  unfold val_1
  by_cases h1 : y < 0
  · rw [if_pos h1, own_out y (Or.inl h1)]
  · rw [if_neg h1]
    by_cases h2 : y < 128
    · rw [if_pos h2, hA y h1 h2]
      rcases own_bit y with h | h <;> rw [h] <;> rfl
    · rw [if_neg h2, own_out y (Or.inr h2)]
section Tabs
variable {args : Array Value} {s : State} {t : Term} {a : Addr} {cl : Cell}
theorem own_elem {j v : Int32} (ht : t.eval args s none [] s = some (.ref a)) (hat : s.arrayAt? a = some cl) (hj : ¬ j < 0) (h : (Jvm.Cond.eq (.elem t (.int j)) (.int v)).value args s none s [] = some true) : atv cl j = v := by
  have q : (Term.elem t (.int j)).eval args s none [] s = cl.slots[j.toNatClampNeg]? := elem_f ht rfl hat hj
  have q2 : (Term.elem t (.int j)).eval args s none [] s = some (.int v) := Cond.eq_int (Cond.before_iff.mpr h) rfl
  exact atv_of (q.symm.trans q2)
theorem own_at {j v : Int32} {k : Nat} (ht : t.eval args s none [k] s = some (.ref a)) (hat : s.arrayAt? a = some cl) (hj : ¬ j < 0) (hk : j.toNatClampNeg = k) (hc : cl.slots[k]? = some (.int (atv cl j))) : (Jvm.Cond.eq (.elem t (.index 0)) (.int v)).value args s none s [k] = some (decide (atv cl j = v)) := by
  have hi : (Term.index 0).eval args s none [k] s = some (.int j) := by rw [← hk]; exact idx_at hj
  have q : (Term.elem t (.index 0)).eval args s none [k] s = cl.slots[j.toNatClampNeg]? := elem_f ht hi hat hj
  rw [hk, hc] at q
  exact Cond.eq_ints q rfl
end Tabs
theorem own_table (j v : Int32) (h1 : ¬ j < 0) (h2 : j < 128) (f0 : (45 : Int32) ≤ j ∨ v = 0) (f1 : j.toInt = 45 → v = 1) (f2 : j.toInt = 46 → v = 0) (f3 : j.toInt = 47 → v = 0) (f4 : j < (48 : Int32) ∨ ¬ j < (58 : Int32) ∨ v = 1) (f5 : j < (58 : Int32) ∨ ¬ j < (65 : Int32) ∨ v = 0) (f6 : j < (65 : Int32) ∨ ¬ j < (91 : Int32) ∨ v = 1) (f7 : j < (91 : Int32) ∨ ¬ j < (95 : Int32) ∨ v = 0) (f8 : j.toInt = 95 → v = 1) (f9 : j.toInt = 96 → v = 0) (f10 : j < (97 : Int32) ∨ ¬ j < (123 : Int32) ∨ v = 1) (f11 : j < (123 : Int32) ∨ v = 0) : v = val_2 j := by
  unfold val_2
  simp only [Int32.lt_iff_toInt_lt, Int32.le_iff_toInt_le, ← Int32.toInt_inj] at *
  simp only [(by decide : (0 : Int32).toInt = 0), (by decide : (1 : Int32).toInt = 1), (by decide : (45 : Int32).toInt = 45), (by decide : (48 : Int32).toInt = 48), (by decide : (57 : Int32).toInt = 57), (by decide : (58 : Int32).toInt = 58), (by decide : (65 : Int32).toInt = 65), (by decide : (90 : Int32).toInt = 90), (by decide : (91 : Int32).toInt = 91), (by decide : (95 : Int32).toInt = 95), (by decide : (97 : Int32).toInt = 97), (by decide : (122 : Int32).toInt = 122), (by decide : (123 : Int32).toInt = 123), (by decide : (128 : Int32).toInt = 128)] at *
  repeat' split
  all_goals
    have e0 : (0 : Int32).toInt = 0 := by decide
    have e1 : (1 : Int32).toInt = 1 := by decide
    omega
theorem ef_0 (m : MethodId) (p0 : Int32) (p1 : Int32) : entryFrame m #[(.int p0), (.int p1)] maxLocals = mkF m 0 #[.val (.int p0), .val (.int p1), .unset, .unset, .unset] [] := by first | (simp [entryFrame, mkF, argsToLocals, Value.category, maxLocals]; done) | rfl
def Q0 (Z : State) (p0 : Int32) (p1 : Int32) (w_A : Addr) (cl : Cell) (h0 : Heap) (n0 : Nat) (v : Option Value) (h : Heap) (L : List Loc) : Prop := v = some (.int 1) ∧ Fr n0 L
set_option maxRecDepth 65536 in
set_option maxHeartbeats 40000000 in
theorem rm0 (l : Launch) (Z : State) (a0 : Array Value) (hw : ∀ d ∈ tables_1, d.before a0 Z = true) (ws : List Jvm.Cond) (p0 : Int32) (p1 : Int32) (w_A : Addr) (cl : Cell) (h0 : Heap) (n0 : Nat) (Z0 : n0 ≤ h0.size) (S_A : Sta Z h0 "com/example/ledgerline/ledgerline/io/Base64Url" "ALPHABET" "[Z" (.ref w_A)) (TB : Tab Z h0 w_A cl .boolean (128 : Int32)) (hA : ∀ j : Int32, ¬ j < 0 → j < 128 → atv cl j = val_2 j) :
    MetFree l x (head1 (Jvm.Cond.code x code maxLocals ret :: ws) room_1) (fun a U => a = #[(.int p0), (.int p1)] ∧ Z.Warmed39 U.vm ∧ U.heap = h0) (fun _ _ _ _ _ => True) (fun _ U o U' => ∃ v L, o = .returned v ∧ Q0 Z p0 p1 w_A cl h0 n0 v U'.heap L ∧ FrameEnd U o U' L room_1.cells room_1.slots) := by
  refine MetFree.of_bodySF (plainFor_of_name pn_com_example_ledgerline_ledgerline_io_Base64UrlIsAlphabetPinLaw) hisR ?_
  intro p e s m args below meth c s₁ Bd hml0 hP hK
  obtain ⟨rfl, hZ, hh⟩ := hP
  have hx := Bd.exec
  have hby := Bd.bytes
  have hlk : meth.locks = false := BodyLoose.notSynchronized Bd
  have hret := Bd.returns
  have hml : c.maxLocals = 5 := hml0
  have hown : s.vm.findClass "com/example/ledgerline/ledgerline/io/Base64UrlIsAlphabetPinLaw" = some m.cls := findClass_of_methodNamed Bd.named
  have hnm := (name_of_methodNamed Bd.named Bd.method).1
  have X0 : Stand p l e room_1 s m #[(.int p0), (.int p1)] below meth c s₁ [] 0 0 := Stand.of_body Bd
  have e0 : s₁.heap = h0 := by rw [← hh, Bd.state]; rfl
  have N0 := Fr.nil n0
  refine Go.start (Q := Q0 Z p0 p1 w_A cl h0 n0) (ef_0 m p0 p1) ?_
  have hv : ∀ y, val_1 y w_A cl = val_2 y := own_same hA
  show Go _ _ _ _ _ _ _ s₁ (mkF m 0 #[.val (.int p0), .val (.int p1), .unset, .unset, .unset] [])
  refine Go.st (fun _ k => XS.iloadN X0.here hx rfl (hb hby at_0) rfl k) ?_
  show Go _ _ _ _ _ _ _ s₁ (mkF m 1 #[.val (.int p0), .val (.int p1), .unset, .unset, .unset] [(.int p1)])
  refine Go.st (fun _ k => XS.sipush X0.here hx rfl (hb hby at_1) k) ?_
  show Go _ _ _ _ _ _ _ s₁ (mkF m 4 #[.val (.int p0), .val (.int p1), .unset, .unset, .unset] [(.int (255 : Int32)), (.int p1)])
  refine Go.st (fun _ k => XS.iand X0.here hx rfl (hb hby at_4) rfl k) ?_
  show Go _ _ _ _ _ _ _ s₁ (mkF m 5 #[.val (.int p0), .val (.int p1), .unset, .unset, .unset] [(.int (p1 &&& (255 : Int32)))])
  refine Go.st (fun _ k => XS.istoreN X0.here hx rfl (hb hby at_5) rfl (l' := #[.val (.int p0), .val (.int p1), .val (.int (p1 &&& (255 : Int32))), .unset, .unset]) rfl k) ?_
  show Go _ _ _ _ _ _ _ s₁ (mkF m 6 #[.val (.int p0), .val (.int p1), .val (.int (p1 &&& (255 : Int32))), .unset, .unset] [])
  refine Go.st (fun _ k => XS.iloadN X0.here hx rfl (hb hby at_6) rfl k) ?_
  show Go _ _ _ _ _ _ _ s₁ (mkF m 7 #[.val (.int p0), .val (.int p1), .val (.int (p1 &&& (255 : Int32))), .unset, .unset] [(.int p0)])
  obtain ⟨_, _, ⟨T1, L1, k1, n1⟩, -, X1, ⟨Lc1, hQ1, l1, y1, z1⟩, st1⟩ := Jvm.LawKit.callS X0 hx (y := (⟨"com/example/ledgerline/ledgerline/io/Base64Url", "isAlphabet", "(I)Z"⟩ : MethodName)) hown (mvT hZ (hw _ (List.mem_of_getElem? (i := 0) rfl))) (mvT hZ (hw _ (List.mem_of_getElem? (i := 1) rfl))) (mvT hZ (hw _ (List.mem_of_getElem? (i := 2) rfl))) (mvT hZ (hw _ (List.mem_of_getElem? (i := 3) rfl))) (by decide) (backOf (W := 0) (rm1 l Z a0 hw [] p0 w_A cl h0 n0 Z0 S_A TB) hZ (hw _ (List.mem_of_getElem? (i := 3) rfl)) (hw _ (List.mem_of_getElem? (i := 2) rfl)) (by decide) (by decide)) (g := (mkF m 7 #[.val (.int p0), .val (.int p1), .val (.int (p1 &&& (255 : Int32))), .unset, .unset] [(.int p0)])) rfl (by rw [hml]; rfl) (argsL := [(.int p0)]) (rest := []) (lenOf pd_0 rfl) rfl (by show 2 * 0 + _ ≤ _; exact Nat.le_of_eq rfl) (hb hby at_7) (fun _ _ => ⟨rfl, e0, (by decide : 0 + 0 ≤ _), (by decide : 0 + 0 ≤ _)⟩)
  dsimp only [Pt.U, Pt.locs, Pt.cells, Pt.slots] at X1 l1 y1 z1 st1 hQ1
  subst l1 y1 z1
  obtain ⟨rfl, N1q, e1⟩ := hQ1
  have N1 := Fr.app N0 N1q
  refine Go.st st1 ?_
  show Go _ _ _ _ _ _ _ T1 (mkF m 10 #[.val (.int p0), .val (.int p1), .val (.int (p1 &&& (255 : Int32))), .unset, .unset] [(.int (val_1 p0 w_A cl))])
  refine Go.st (fun _ k => XS.iloadN X1.here hx rfl (hb hby at_10) rfl k) ?_
  show Go _ _ _ _ _ _ _ T1 (mkF m 11 #[.val (.int p0), .val (.int p1), .val (.int (p1 &&& (255 : Int32))), .unset, .unset] [(.int p0), (.int (val_1 p0 w_A cl))])
  obtain ⟨_, _, ⟨T2, L2, k2, n2⟩, -, X2, ⟨Lc2, hQ2, l2, y2, z2⟩, st2⟩ := Jvm.LawKit.callS X1 hx (y := (⟨"com/example/ledgerline/ledgerline/io/Base64UrlIsAlphabetPinLaw", "reference", "(I)Z"⟩ : MethodName)) hown (mvT hZ (hw _ (List.mem_of_getElem? (i := 6) rfl))) (mvT hZ (hw _ (List.mem_of_getElem? (i := 7) rfl))) (mvT hZ (hw _ (List.mem_of_getElem? (i := 8) rfl))) (mvT hZ (hw _ (List.mem_of_getElem? (i := 9) rfl))) (by decide) (backOf (W := 1) (rm2 l Z a0 hw [] p0  h0 n0 Z0 ) hZ (hw _ (List.mem_of_getElem? (i := 9) rfl)) (hw _ (List.mem_of_getElem? (i := 8) rfl)) (by decide) (by decide)) (g := (mkF m 11 #[.val (.int p0), .val (.int p1), .val (.int (p1 &&& (255 : Int32))), .unset, .unset] [(.int p0), (.int (val_1 p0 w_A cl))])) rfl (by rw [hml]; rfl) (argsL := [(.int p0)]) (rest := [(.int (val_1 p0 w_A cl))]) (lenOf pd_0 rfl) rfl (by show 2 * 0 + _ ≤ _; exact Nat.le_of_eq rfl) (hb hby at_11) (fun _ _ => ⟨rfl, e1, (by decide : 0 + 0 ≤ _), (by decide : 0 + 0 ≤ _)⟩)
  dsimp only [Pt.U, Pt.locs, Pt.cells, Pt.slots] at X2 l2 y2 z2 st2 hQ2
  subst l2 y2 z2
  obtain ⟨rfl, N2q, e2⟩ := hQ2
  have N2 := Fr.app N1 N2q
  refine Go.st st2 ?_
  show Go _ _ _ _ _ _ _ T2 (mkF m 14 #[.val (.int p0), .val (.int p1), .val (.int (p1 &&& (255 : Int32))), .unset, .unset] [(.int (val_2 p0)), (.int (val_1 p0 w_A cl))])
  refine Go.st (fun _ k => XS.icmpNo X2.here hx rfl (hb hby at_14) rfl (teq (hv p0)).2 k) ?_
  show Go _ _ _ _ _ _ _ T2 (mkF m 17 #[.val (.int p0), .val (.int p1), .val (.int (p1 &&& (255 : Int32))), .unset, .unset] [])
  refine Go.st (fun _ k => XS.iconst X2.here hx rfl (hb hby at_17) k) ?_
  show Go _ _ _ _ _ _ _ T2 (mkF m 18 #[.val (.int p0), .val (.int p1), .val (.int (p1 &&& (255 : Int32))), .unset, .unset] [(.int (1 : Int32))])
  refine Go.st (fun _ k => XS.goto X2.here hx rfl (pc0 := 18) (pc' := 22) rfl (hb hby at_18) (by decide) (by decide) k) ?_
  show Go _ _ _ _ _ _ _ T2 (mkF m 22 #[.val (.int p0), .val (.int p1), .val (.int (p1 &&& (255 : Int32))), .unset, .unset] [(.int (1 : Int32))])
  refine Go.st (fun _ k => XS.istoreN X2.here hx rfl (hb hby at_22) rfl (l' := #[.val (.int p0), .val (.int p1), .val (.int (p1 &&& (255 : Int32))), .val (.int (1 : Int32)), .unset]) rfl k) ?_
  show Go _ _ _ _ _ _ _ T2 (mkF m 23 #[.val (.int p0), .val (.int p1), .val (.int (p1 &&& (255 : Int32))), .val (.int (1 : Int32)), .unset] [])
  refine Go.st (fun _ k => XS.iloadN X2.here hx rfl (hb hby at_23) rfl k) ?_
  show Go _ _ _ _ _ _ _ T2 (mkF m 24 #[.val (.int p0), .val (.int p1), .val (.int (p1 &&& (255 : Int32))), .val (.int (1 : Int32)), .unset] [(.int (p1 &&& (255 : Int32)))])
  obtain ⟨_, _, ⟨T3, L3, k3, n3⟩, -, X3, ⟨Lc3, hQ3, l3, y3, z3⟩, st3⟩ := Jvm.LawKit.callS X2 hx (y := (⟨"com/example/ledgerline/ledgerline/io/Base64Url", "isAlphabet", "(I)Z"⟩ : MethodName)) hown (mvT hZ (hw _ (List.mem_of_getElem? (i := 0) rfl))) (mvT hZ (hw _ (List.mem_of_getElem? (i := 1) rfl))) (mvT hZ (hw _ (List.mem_of_getElem? (i := 2) rfl))) (mvT hZ (hw _ (List.mem_of_getElem? (i := 3) rfl))) (by decide) (backOf (W := 0) (rm1 l Z a0 hw [] (p1 &&& (255 : Int32)) w_A cl h0 n0 Z0 S_A TB) hZ (hw _ (List.mem_of_getElem? (i := 3) rfl)) (hw _ (List.mem_of_getElem? (i := 2) rfl)) (by decide) (by decide)) (g := (mkF m 24 #[.val (.int p0), .val (.int p1), .val (.int (p1 &&& (255 : Int32))), .val (.int (1 : Int32)), .unset] [(.int (p1 &&& (255 : Int32)))])) rfl (by rw [hml]; rfl) (argsL := [(.int (p1 &&& (255 : Int32)))]) (rest := []) (lenOf pd_0 rfl) rfl (by show 2 * 0 + _ ≤ _; exact Nat.le_of_eq rfl) (hb hby at_24) (fun _ _ => ⟨rfl, e2, (by decide : 0 + 0 ≤ _), (by decide : 0 + 0 ≤ _)⟩)
  dsimp only [Pt.U, Pt.locs, Pt.cells, Pt.slots] at X3 l3 y3 z3 st3 hQ3
  subst l3 y3 z3
  obtain ⟨rfl, N3q, e3⟩ := hQ3
  have N3 := Fr.app N2 N3q
  refine Go.st st3 ?_
  show Go _ _ _ _ _ _ _ T3 (mkF m 27 #[.val (.int p0), .val (.int p1), .val (.int (p1 &&& (255 : Int32))), .val (.int (1 : Int32)), .unset] [(.int (val_1 (p1 &&& (255 : Int32)) w_A cl))])
  refine Go.st (fun _ k => XS.iloadN X3.here hx rfl (hb hby at_27) rfl k) ?_
  show Go _ _ _ _ _ _ _ T3 (mkF m 28 #[.val (.int p0), .val (.int p1), .val (.int (p1 &&& (255 : Int32))), .val (.int (1 : Int32)), .unset] [(.int (p1 &&& (255 : Int32))), (.int (val_1 (p1 &&& (255 : Int32)) w_A cl))])
  obtain ⟨_, _, ⟨T4, L4, k4, n4⟩, -, X4, ⟨Lc4, hQ4, l4, y4, z4⟩, st4⟩ := Jvm.LawKit.callS X3 hx (y := (⟨"com/example/ledgerline/ledgerline/io/Base64UrlIsAlphabetPinLaw", "reference", "(I)Z"⟩ : MethodName)) hown (mvT hZ (hw _ (List.mem_of_getElem? (i := 6) rfl))) (mvT hZ (hw _ (List.mem_of_getElem? (i := 7) rfl))) (mvT hZ (hw _ (List.mem_of_getElem? (i := 8) rfl))) (mvT hZ (hw _ (List.mem_of_getElem? (i := 9) rfl))) (by decide) (backOf (W := 1) (rm2 l Z a0 hw [] (p1 &&& (255 : Int32))  h0 n0 Z0 ) hZ (hw _ (List.mem_of_getElem? (i := 9) rfl)) (hw _ (List.mem_of_getElem? (i := 8) rfl)) (by decide) (by decide)) (g := (mkF m 28 #[.val (.int p0), .val (.int p1), .val (.int (p1 &&& (255 : Int32))), .val (.int (1 : Int32)), .unset] [(.int (p1 &&& (255 : Int32))), (.int (val_1 (p1 &&& (255 : Int32)) w_A cl))])) rfl (by rw [hml]; rfl) (argsL := [(.int (p1 &&& (255 : Int32)))]) (rest := [(.int (val_1 (p1 &&& (255 : Int32)) w_A cl))]) (lenOf pd_0 rfl) rfl (by show 2 * 0 + _ ≤ _; exact Nat.le_of_eq rfl) (hb hby at_28) (fun _ _ => ⟨rfl, e3, (by decide : 0 + 0 ≤ _), (by decide : 0 + 0 ≤ _)⟩)
  dsimp only [Pt.U, Pt.locs, Pt.cells, Pt.slots] at X4 l4 y4 z4 st4 hQ4
  subst l4 y4 z4
  obtain ⟨rfl, N4q, e4⟩ := hQ4
  have N4 := Fr.app N3 N4q
  refine Go.st st4 ?_
  show Go _ _ _ _ _ _ _ T4 (mkF m 31 #[.val (.int p0), .val (.int p1), .val (.int (p1 &&& (255 : Int32))), .val (.int (1 : Int32)), .unset] [(.int (val_2 (p1 &&& (255 : Int32)))), (.int (val_1 (p1 &&& (255 : Int32)) w_A cl))])
  refine Go.st (fun _ k => XS.icmpNo X4.here hx rfl (hb hby at_31) rfl (teq (hv (p1 &&& (255 : Int32)))).2 k) ?_
  show Go _ _ _ _ _ _ _ T4 (mkF m 34 #[.val (.int p0), .val (.int p1), .val (.int (p1 &&& (255 : Int32))), .val (.int (1 : Int32)), .unset] [])
  refine Go.st (fun _ k => XS.iconst X4.here hx rfl (hb hby at_34) k) ?_
  show Go _ _ _ _ _ _ _ T4 (mkF m 35 #[.val (.int p0), .val (.int p1), .val (.int (p1 &&& (255 : Int32))), .val (.int (1 : Int32)), .unset] [(.int (1 : Int32))])
  refine Go.st (fun _ k => XS.goto X4.here hx rfl (pc0 := 35) (pc' := 39) rfl (hb hby at_35) (by decide) (by decide) k) ?_
  show Go _ _ _ _ _ _ _ T4 (mkF m 39 #[.val (.int p0), .val (.int p1), .val (.int (p1 &&& (255 : Int32))), .val (.int (1 : Int32)), .unset] [(.int (1 : Int32))])
  refine Go.st (fun _ k => XS.istore X4.here hx rfl (hb hby at_39) rfl (l' := #[.val (.int p0), .val (.int p1), .val (.int (p1 &&& (255 : Int32))), .val (.int (1 : Int32)), .val (.int (1 : Int32))]) rfl k) ?_
  show Go _ _ _ _ _ _ _ T4 (mkF m 41 #[.val (.int p0), .val (.int p1), .val (.int (p1 &&& (255 : Int32))), .val (.int (1 : Int32)), .val (.int (1 : Int32))] [])
  refine Go.st (fun _ k => XS.iloadN X4.here hx rfl (hb hby at_41) rfl k) ?_
  show Go _ _ _ _ _ _ _ T4 (mkF m 42 #[.val (.int p0), .val (.int p1), .val (.int (p1 &&& (255 : Int32))), .val (.int (1 : Int32)), .val (.int (1 : Int32))] [(.int (1 : Int32))])
  refine Go.st (fun _ k => XS.ifNo X4.here hx rfl (hb hby at_42) rfl ((if0 _ _).trans (feq (by decide : ¬ ((1 : Int32) = (0 : Int32)))).1) k) ?_
  show Go _ _ _ _ _ _ _ T4 (mkF m 45 #[.val (.int p0), .val (.int p1), .val (.int (p1 &&& (255 : Int32))), .val (.int (1 : Int32)), .val (.int (1 : Int32))] [])
  refine Go.st (fun _ k => XS.iload X4.here hx rfl (hb hby at_45) rfl k) ?_
  show Go _ _ _ _ _ _ _ T4 (mkF m 47 #[.val (.int p0), .val (.int p1), .val (.int (p1 &&& (255 : Int32))), .val (.int (1 : Int32)), .val (.int (1 : Int32))] [(.int (1 : Int32))])
  refine Go.st (fun _ k => XS.ifNo X4.here hx rfl (hb hby at_47) rfl ((if0 _ _).trans (feq (by decide : ¬ ((1 : Int32) = (0 : Int32)))).1) k) ?_
  show Go _ _ _ _ _ _ _ T4 (mkF m 50 #[.val (.int p0), .val (.int p1), .val (.int (p1 &&& (255 : Int32))), .val (.int (1 : Int32)), .val (.int (1 : Int32))] [])
  refine Go.st (fun _ k => XS.iconst X4.here hx rfl (hb hby at_50) k) ?_
  show Go _ _ _ _ _ _ _ T4 (mkF m 51 #[.val (.int p0), .val (.int p1), .val (.int (p1 &&& (255 : Int32))), .val (.int (1 : Int32)), .val (.int (1 : Int32))] [(.int (1 : Int32))])
  refine Go.st (fun _ k => XS.goto X4.here hx rfl (pc0 := 51) (pc' := 55) rfl (hb hby at_51) (by decide) (by decide) k) ?_
  show Go _ _ _ _ _ _ _ T4 (mkF m 55 #[.val (.int p0), .val (.int p1), .val (.int (p1 &&& (255 : Int32))), .val (.int (1 : Int32)), .val (.int (1 : Int32))] [(.int (1 : Int32))])
  refine Go.ret X4 hlk (v := some (.int (1 : Int32))) (fun h => by rw [hret] at h; cases h) (fun fs hr => retN X4 hx (t := .boolean) hret (by simp) (hb hby at_55) hr) ?_ (by decide) (by decide)
  show Q0 Z p0 p1 w_A cl h0 n0 (some (.int (1 : Int32))) T4.heap _
  rw [e4]
  exact ⟨rfl, N4⟩
set_option maxRecDepth 65536 in
set_option maxHeartbeats 40000000 in
theorem comes_1 {Post : Tables → Env → Array Value → State → Outcome → State → Prop} (hpost : ∀ tb e args s v u, (limb_1_1.after args s (.returned v) u = true ∧ limb_1_2.after args s (.returned v) u = true ∧ True) → FrameEnd s (.returned v) u (Jvm.fieldLocs frame_1_writes args s ++ Jvm.arrayLocs frame_1_arrays args s ++ Jvm.staticLocs frame_1_statics s) 0 0 → Post tb e args s (.returned v) u) :
    ArmFor flags0 classFile x code maxLocals ret World_1 tables_1 room_1 Calls_1 rest_1 Pre_1 Post := by
  intro l hfl _ _ p e ha hc hk s m args below hf hA hF happ hP
  obtain ⟨hcalls, hrest, hpre⟩ := hP
  obtain ⟨-, -, -, hnamed, -, -, -, hat⟩ := (Spec.applies_iff hf).mp happ
  obtain ⟨hg, hn⟩ := and_e (Cond.before_iff.mp (show (Jvm.Cond.and given_1 narrow_1).before args s = true from hpre))
  obtain ⟨g1, g2⟩ := and_e hg
  obtain ⟨g3, g4⟩ := and_e g2
  obtain ⟨w0, w1, rfl⟩ : ∃ w0 w1 : Value, args = #[w0, w1] := by
    have hs : args.size = 2 := by simpa [Cond.value, given_1] using g1
    obtain ⟨L⟩ := args
    match L, hs with
    | [w0, w1], _ => exact ⟨w0, w1, rfl⟩
  have hw := fun d (hd : d ∈ tables_1) => atoms_spec (ws := Jvm.Cond.code x code maxLocals ret :: tables_1) hat d (List.mem_cons_of_mem _ hd)
  have hfit : Fit s := fun {y c} hc i hi => by
    obtain ⟨ha, rfl⟩ := Array.getElem?_eq_some_iff.mp hc
    have q := List.all_eq_true.mp ((Array.all_eq_true_iff_forall_mem.mp hF) _ (Array.getElem_mem ha)) i (List.mem_range.mpr hi)
    simpa [Array.getElem?_eq_getElem hi] using q
  obtain ⟨i0, ei0⟩ := is_v g3
  obtain rfl : w0 = (.int i0) := Option.some.inj ei0
  obtain ⟨i1, ei1⟩ := is_v g4
  obtain rfl : w1 = (.int i1) := Option.some.inj ei1
  obtain ⟨g5, g6⟩ := and_e hn
  obtain ⟨g7, g8⟩ := and_e g6
  obtain ⟨g9, g10⟩ := and_e g8
  obtain ⟨g11, g12⟩ := and_e g10
  obtain ⟨g13, g14⟩ := and_e g12
  obtain ⟨g15, g16⟩ := and_e g14
  obtain ⟨g17, g18⟩ := and_e g16
  obtain ⟨g19, g20⟩ := and_e g18
  obtain ⟨g21, g22⟩ := and_e g20
  obtain ⟨g23, g24⟩ := and_e g22
  obtain ⟨g25, g26⟩ := and_e g24
  obtain ⟨g27, g28⟩ := and_e g26
  obtain ⟨g29, g30⟩ := and_e g28
  obtain ⟨w_A, ev⟩ := arr_v g5
  obtain ⟨cl, A⟩ := Arr.start ev g5
  have S_A := Sta.start ev (Or.inr ⟨(hw _ (List.mem_of_getElem? (i := 2) rfl)), (hw _ (List.mem_of_getElem? (i := 5) rfl))⟩)
  obtain ⟨hz1, hz2⟩ := IntBox.length_fwd (Cond.before_iff.mpr g7) ev A.1 A.2.1 A.2.2
  have TB := Tab.start hfit A (Or.inr (Or.inl rfl)) hz1 hz2 (by decide)
  have hat1 := IntBox.arrayAt_of A.1 A.2.1 A.2.2
  have c1 : atv cl 45 = 1 := own_elem ev hat1 (by decide) g11
  have c2 : atv cl 46 = 0 := own_elem ev hat1 (by decide) g13
  have c3 : atv cl 47 = 0 := own_elem ev hat1 (by decide) g15
  have c8 : atv cl 95 = 1 := own_elem ev hat1 (by decide) g25
  have c9 : atv cl 96 = 0 := own_elem ev hat1 (by decide) g27
  have hA : ∀ j : Int32, ¬ j < 0 → j < 128 → atv cl j = val_2 j := by
    intro j h1 h2
    have hin : ¬ (j < 0 ∨ cl.slots.size ≤ j.toNatClampNeg) := inb_of TB.2.1 ⟨h1, h2⟩
    have hb : j.toNatClampNeg < cl.slots.size := Nat.lt_of_not_le fun q => hin (Or.inr q)
    have hs := TB.2.2.2 j hin
    have hi : (Term.index 0).eval #[.int i0, .int i1] s none [j.toNatClampNeg] s = some (.int j) := idx_at h1
    have evk : (Jvm.Term.static "com/example/ledgerline/ledgerline/io/Base64Url" "ALPHABET" "[Z").eval #[.int i0, .int i1] s none [j.toNatClampNeg] s = some (.ref w_A) := ev
    have d0 := Cond.all_elim ev hat1 g9 j.toNatClampNeg hb
    have f0 := or_e2 (Cond.le_ints rfl hi) (own_at (v := 0) evk hat1 h1 rfl hs) d0
    have d4 := Cond.all_elim ev hat1 g17 j.toNatClampNeg hb
    have f4 := or3 d4 (Cond.lt_ints hi rfl) (Cond.le_ints rfl hi) (own_at (v := 1) evk hat1 h1 rfl hs)
    have d5 := Cond.all_elim ev hat1 g19 j.toNatClampNeg hb
    have f5 := or3 d5 (Cond.lt_ints hi rfl) (Cond.le_ints rfl hi) (own_at (v := 0) evk hat1 h1 rfl hs)
    have d6 := Cond.all_elim ev hat1 g21 j.toNatClampNeg hb
    have f6 := or3 d6 (Cond.lt_ints hi rfl) (Cond.le_ints rfl hi) (own_at (v := 1) evk hat1 h1 rfl hs)
    have d7 := Cond.all_elim ev hat1 g23 j.toNatClampNeg hb
    have f7 := or3 d7 (Cond.lt_ints hi rfl) (Cond.le_ints rfl hi) (own_at (v := 0) evk hat1 h1 rfl hs)
    have d10 := Cond.all_elim ev hat1 g29 j.toNatClampNeg hb
    have f10 := or3 d10 (Cond.lt_ints hi rfl) (Cond.le_ints rfl hi) (own_at (v := 1) evk hat1 h1 rfl hs)
    have d11 := Cond.all_elim ev hat1 g30 j.toNatClampNeg hb
    have f11 := or_e2 (Cond.lt_ints hi rfl) (own_at (v := 0) evk hat1 h1 rfl hs) d11
    have f1 : j.toInt = 45 → atv cl j = 1 := fun q => by rw [own_i32 q 45 (by decide)]; exact c1
    have f2 : j.toInt = 46 → atv cl j = 0 := fun q => by rw [own_i32 q 46 (by decide)]; exact c2
    have f3 : j.toInt = 47 → atv cl j = 0 := fun q => by rw [own_i32 q 47 (by decide)]; exact c3
    have f8 : j.toInt = 95 → atv cl j = 1 := fun q => by rw [own_i32 q 95 (by decide)]; exact c8
    have f9 : j.toInt = 96 → atv cl j = 0 := fun q => by rw [own_i32 q 96 (by decide)]; exact c9
    clear d0 d4 d5 d6 d7 d10 d11
    exact own_table j (atv cl j) h1 h2 f0 f1 f2 f3 f4 f5 f6 f7 f8 f9 f10 f11
  obtain ⟨n, o, h1, h2, h3, _, L, rfl, ⟨rfl, N⟩, hq⟩ := rm0 l s _ hw tables_1 i0 i1 w_A cl s.heap s.heap.size (Nat.le_refl _) S_A TB hA p e ha hc hk s m _ below hf ((Spec.applies_iff_loose hf).mp happ).1 ⟨rfl, State.Warmed39.refl s, rfl⟩ trivial
  refine ⟨n, _, h1, h2, h3, hpost _ _ _ _ _ _ ⟨Cond.after_iff.mpr rfl, Cond.after_iff.mpr (eq_i res_at (Term.int_eval (1)) rfl), trivial⟩ ⟨hq.1, hq.2.1, (hq.2.2.sift fun y hy => Or.inr (N y hy)).mono (by decide) (by decide)⟩⟩
theorem main_1_1 : Claimed_1_1 := comes_1 fun _ _ _ _ _ _ h hF => ⟨h.1, hF⟩
theorem main_1_2 : Claimed_1_2 := comes_1 fun _ _ _ _ _ _ h hF => ⟨h.2.1, hF⟩
end Jvm.Pilot.@@N@@
namespace Jvm.Pilot.@@N@@
open Jvm Jvm.ClassFile Sem Op Lib Jvm.Free Jvm.Stand Jvm.Pilot.@@N@@.Jvm.D
/-! MADE BY PROGRAM (witnessworld.py) out of the Statement's table words and the real class files: 11 classes; the members and pool entries that the words name. The judged class is class 1, her method 2. -/
namespace start1
open Jvm.ClassFile
def u (s : String) : CpInfo := .utf8 (stringToUtf16 s)
/-- a pool by its gaps: so many unusable entries, then the entry; so many at the end -/
def gap : Nat → List CpInfo → List CpInfo
  | 0, r => r
  | n + 1, r => .unusable :: gap n r
def poolList (es : List (Nat × CpInfo)) (last : Nat) : List CpInfo := es.foldr (fun e r => gap e.1 (e.2 :: r)) (gap last [])
def pool (es : List (Nat × CpInfo)) (last : Nat) : Array CpInfo := ⟨poolList es last⟩
def fileOf (pool : Array CpInfo) (this : Nat) (attrs : Array Attribute := #[]) (ms : Array MethodInfo := #[]) (fl : Nat := 33) (sup : Nat := 0) (ifs : Array Nat := #[]) (fds : Array FieldInfo := #[]) : ClassFile where
  minorVersion := 0
  majorVersion := 65
  constantPool := pool
  accessFlags := fl
  thisClass := this
  superClass := sup
  interfaces := ifs
  fields := fds
  methods := ms
  attributes := attrs
def plain (name : String) (sup : Option ClassId) : Class where
  name := name
  kind := .ordinary
  loader := none
  accessFlags := 33
  super := sup
  interfaces := #[]
  cf := none
  fields := #[]
  methods := #[]
  instanceTypes := #[]
  staticTypes := #[]
  resolved := #[]
  callSites := []
  init := .initialized
  statics := none
  mirror := none

def pool0 : Array CpInfo := pool [(5, u "<init>"), (0, u "()V"), (1, .class_ 10), (1, u "java/lang/Object")] 113

def k0m0 : Method := { name := "<init>", desc := "()V", sig := { parameters := [], returnType := none }, accessFlags := 1, code := none }
/-- java/lang/Object -/
def k0 : Class := { plain "java/lang/Object" none with
  accessFlags := 33
  interfaces := #[]
  cf := some (fileOf pool0 8 #[] #[{ accessFlags := 1, nameIndex := 5, descriptorIndex := 6, attributes := #[] }] 33 0 #[] #[])
  fields := #[]
  methods := #[k0m0]
  instanceTypes := #[]
  staticTypes := #[]
  resolved := Array.replicate 124 none
  statics := none }

def pool1 : Array CpInfo := pool [(2, .class_ 4), (1, u "java/lang/Object"), (0, u "<init>"), (0, u "()V"), (0, .methodref 8 9), (0, .class_ 10), (0, .nameAndType 11 12), (0, u "com/example/ledgerline/ledgerline/io/Base64Url"), (0, u "isAlphabet"), (0, u "(I)Z"), (0, .methodref 14 15), (0, .class_ 16), (0, .nameAndType 17 12), (0, u "com/example/ledgerline/ledgerline/io/Base64UrlIsAlphabetPinLaw"), (0, u "reference"), (3, u "law"), (0, u "(II)Z")] 2

def k1m0 : Method := { name := "<init>", desc := "()V", sig := { parameters := [], returnType := none }, accessFlags := 2, code := none }
def k1c1 : Code := { maxStack := 2, maxLocals := 1, code := method_2_code, exceptionTable := #[], attributes := #[] }
def k1m1 : Method := { name := "reference", desc := "(I)Z", sig := { parameters := [.int], returnType := some .boolean }, accessFlags := 10, code := some k1c1 }
def k1c2 : Code := { maxStack := 2, maxLocals := 5, code := code, exceptionTable := #[], attributes := #[] }
def k1m2 : Method := { name := "law", desc := "(II)Z", sig := { parameters := [.int, .int], returnType := some .boolean }, accessFlags := 9, code := some k1c2 }
/-- com/example/ledgerline/ledgerline/io/Base64UrlIsAlphabetPinLaw -/
def k1 : Class := { plain "com/example/ledgerline/ledgerline/io/Base64UrlIsAlphabetPinLaw" (some 0) with
  accessFlags := 49
  interfaces := #[]
  cf := some (fileOf pool1 14 #[] #[{ accessFlags := 2, nameIndex := 5, descriptorIndex := 6, attributes := #[] }, { accessFlags := 10, nameIndex := 17, descriptorIndex := 12, attributes := #[] }, { accessFlags := 9, nameIndex := 21, descriptorIndex := 22, attributes := #[] }] 49 2 #[] #[])
  fields := #[]
  methods := #[k1m0, k1m1, k1m2]
  instanceTypes := #[]
  staticTypes := #[]
  resolved := Array.replicate 25 none
  statics := none }

def pool2 : Array CpInfo := pool [(2, .class_ 4), (1, u "java/lang/Object"), (0, u "<init>"), (0, u "()V"), (0, .fieldref 8 9), (0, .class_ 10), (0, .nameAndType 11 12), (0, u "com/example/ledgerline/ledgerline/io/Base64Url"), (0, u "ALPHABET"), (0, u "[Z"), (12, u "isAlphabet"), (0, u "(I)Z"), (15, u "DECODER"), (0, u "Ljava/util/Base64$Decoder;"), (15, .class_ 60), (0, u "com/example/ledgerline/ledgerline/io/Base64Url$Decoding"), (5, u "ENCODER"), (0, u "Ljava/util/Base64$Encoder;"), (6, .class_ 75), (0, u "com/example/ledgerline/ledgerline/io/Base64Url$Encoding")] 57

def k2m0 : Method := { name := "<init>", desc := "()V", sig := { parameters := [], returnType := none }, accessFlags := 2, code := none }
def k2c1 : Code := { maxStack := 2, maxLocals := 1, code := prog_9_method_2_code, exceptionTable := #[], attributes := #[] }
def k2m1 : Method := { name := "isAlphabet", desc := "(I)Z", sig := { parameters := [.int], returnType := some .boolean }, accessFlags := 8, code := some k2c1 }
/-- com/example/ledgerline/ledgerline/io/Base64Url -/
def k2 : Class := { plain "com/example/ledgerline/ledgerline/io/Base64Url" (some 0) with
  accessFlags := 48
  interfaces := #[]
  cf := some (fileOf pool2 8 #[.nestMembers #[74, 59]] #[{ accessFlags := 2, nameIndex := 5, descriptorIndex := 6, attributes := #[] }, { accessFlags := 8, nameIndex := 25, descriptorIndex := 26, attributes := #[] }] 48 2 #[] #[{ accessFlags := 26, nameIndex := 42, descriptorIndex := 43, attributes := #[] }, { accessFlags := 26, nameIndex := 66, descriptorIndex := 67, attributes := #[] }, { accessFlags := 26, nameIndex := 11, descriptorIndex := 12, attributes := #[] }])
  fields := #[{ name := "DECODER", type := (.object "java/util/Base64$Decoder"), accessFlags := 26, slot := 0, constantValue := 0 }, { name := "ENCODER", type := (.object "java/util/Base64$Encoder"), accessFlags := 26, slot := 1, constantValue := 0 }, { name := "ALPHABET", type := (.array .boolean), accessFlags := 26, slot := 2, constantValue := 0 }]
  methods := #[k2m0, k2m1]
  instanceTypes := #[]
  staticTypes := #[(.object "java/util/Base64$Decoder"), (.object "java/util/Base64$Encoder"), (.array .boolean)]
  resolved := Array.replicate 133 none
  statics := some 0 }

def pool3 : Array CpInfo := pool [(1, u "java/lang/Cloneable"), (0, .class_ 1), (0, u "java/lang/Object"), (0, .class_ 3)] 3

/-- java/lang/Cloneable -/
def k3 : Class := { plain "java/lang/Cloneable" (some 0) with
  accessFlags := 1537
  interfaces := #[]
  cf := some (fileOf pool3 2 #[] #[] 1537 4 #[] #[])
  fields := #[]
  methods := #[]
  instanceTypes := #[]
  staticTypes := #[]
  resolved := Array.replicate 8 none
  statics := none }

def pool4 : Array CpInfo := pool [(1, u "java/io/Serializable"), (0, .class_ 1), (0, u "java/lang/Object"), (0, .class_ 3)] 3

/-- java/io/Serializable -/
def k4 : Class := { plain "java/io/Serializable" (some 0) with
  accessFlags := 1537
  interfaces := #[]
  cf := some (fileOf pool4 2 #[] #[] 1537 4 #[] #[])
  fields := #[]
  methods := #[]
  instanceTypes := #[]
  staticTypes := #[]
  resolved := Array.replicate 8 none
  statics := none }

/-- the primitive boolean -/
def k5 : Class := { plain "boolean" none with kind := .primitive 'Z', accessFlags := 0x411 }
/-- [Z -/
def k6 : Class := { plain "[Z" (some 0) with kind := .array 5 .boolean, interfaces := #[3, 4], accessFlags := 1041 }

/-- the primitive byte -/
def k7 : Class := { plain "byte" none with kind := .primitive 'B', accessFlags := 0x411 }
/-- [B -/
def k8 : Class := { plain "[B" (some 0) with kind := .array 7 .byte, interfaces := #[3, 4], accessFlags := 1041 }

/-- the primitive int -/
def k9 : Class := { plain "int" none with kind := .primitive 'I', accessFlags := 0x411 }
/-- [I -/
def k10 : Class := { plain "[I" (some 0) with kind := .array 9 .int, interfaces := #[3, 4], accessFlags := 1041 }

def heap : Heap := #[{ cls := 2, slots := #[.null, .null, .ref 1], vm := .statics 2 },
  { cls := 6, slots := #[.int 0, .int 0, .int 0, .int 0, .int 0, .int 0, .int 0, .int 0, .int 0, .int 0, .int 0, .int 0, .int 0, .int 0, .int 0, .int 0, .int 0, .int 0, .int 0, .int 0, .int 0, .int 0, .int 0, .int 0, .int 0, .int 0, .int 0, .int 0, .int 0, .int 0, .int 0, .int 0, .int 0, .int 0, .int 0, .int 0, .int 0, .int 0, .int 0, .int 0, .int 0, .int 0, .int 0, .int 0, .int 0, .int 1, .int 0, .int 0, .int 1, .int 1, .int 1, .int 1, .int 1, .int 1, .int 1, .int 1, .int 1, .int 1, .int 0, .int 0, .int 0, .int 0, .int 0, .int 0, .int 0, .int 1, .int 1, .int 1, .int 1, .int 1, .int 1, .int 1, .int 1, .int 1, .int 1, .int 1, .int 1, .int 1, .int 1, .int 1, .int 1, .int 1, .int 1, .int 1, .int 1, .int 1, .int 1, .int 1, .int 1, .int 1, .int 1, .int 0, .int 0, .int 0, .int 0, .int 1, .int 0, .int 1, .int 1, .int 1, .int 1, .int 1, .int 1, .int 1, .int 1, .int 1, .int 1, .int 1, .int 1, .int 1, .int 1, .int 1, .int 1, .int 1, .int 1, .int 1, .int 1, .int 1, .int 1, .int 1, .int 1, .int 1, .int 1, .int 0, .int 0, .int 0, .int 0, .int 0], vm := .none }]
def classes : Array Class := #[k0, k1, k2, k3, k4, k5, k6, k7, k8, k9, k10]
def interned : List (Array UInt16 × Addr) := []
def slotsUsed : Nat := 131
def theMethod : MethodId := ⟨1, 2⟩
def args0 : Array Value := #[.int 5, .int 3]
def aboutOver (below : List Frame) : State where
  vm := { classes := classes, interned := interned.toArray }
  heap := heap
  slotsUsed := slotsUsed
  threads := #[{ frames := .invoking theMethod args0 :: below }]
def below0 : List Frame := [.native { method := ⟨0, 0⟩, args := #[] }]
def about1 : State := aboutOver below0
def p0 : Program := .bare "" "" ""
def e0 : Env := launch0.env 0 0 0
theorem w_frames : about1.frames = Frame.invoking theMethod args0 :: below0 := rfl
set_option maxRecDepth 65536 in
theorem w_args : argsFit about1.vm theMethod args0 = true := by decide +kernel
set_option maxRecDepth 65536 in
theorem w_heap : heapFits about1 = true := by decide +kernel
set_option maxRecDepth 65536 in
theorem w_runnable : about1.curStatus? = some .runnable := by decide +kernel
set_option maxRecDepth 65536 in
theorem w_alone : about1.alone = true := by decide +kernel
set_option maxRecDepth 65536 in
theorem w_named : about1.methodNamed? x = some theMethod := by decide +kernel
set_option maxRecDepth 65536 in
theorem w_hears : about1.hears theMethod below0 = true := by decide +kernel
set_option maxRecDepth 65536 in
theorem w_ripe : about1.ripe theMethod args0 below0 = true := by decide +kernel
theorem w_running : about1.status = .running := rfl
set_option maxRecDepth 65536 in
theorem w_room : about1.hasRoom e0.platform room_1 = true :=
  launch0.hasRoom_least _ room_1 (by decide +kernel) (by decide +kernel) (by decide +kernel) (by decide +kernel) (by decide +kernel) (by decide +kernel)
theorem allAtoms_all (ts : List Jvm.Cond) (a : Array Jvm.Value) (st : Jvm.State) : (allAtoms ts).before a st = ts.all (fun c => c.before a st) := by
  induction ts with
  | nil => rfl
  | cons c t ih =>
    show (Jvm.Cond.and c (allAtoms t)).before a st = _
    rw [Jvm.Cond.before_and, ih, List.all_cons]
def words1 : List Jvm.Cond := Jvm.Cond.code x code maxLocals ret :: tables_1
/-- a 'code' word, met by the world's own term for the bytes: nothing is compared byte by byte -/
theorem code_word {y : MethodName} {bytes : ByteArray} {mx : Nat} {rt : Option FieldType} {a : Array Value} {s : State} {m : MethodId} {meth : Method} {c : Code} (h1 : s.methodNamed? y = some m) (h2 : s.vm.method? m = some meth) (h3 : meth.code = some c) (h4 : c.code = bytes)
    (h5 : (c.maxLocals == mx && c.exceptionTable.isEmpty && decide (c.maxStack ≤ mostOperands) && decide (meth.sig.returnType = rt) && !meth.locks && decide (parseMethodDescriptor y.desc = some meth.sig)) = true) : (Jvm.Cond.code y bytes mx rt).before a s = true := by
  simp only [Bool.and_eq_true, beq_iff_eq, Bool.not_eq_true', decide_eq_true_eq] at h5
  obtain ⟨⟨⟨⟨⟨g1, g2⟩, g3⟩, g4⟩, g5⟩, g6⟩ := h5
  simp [Cond.before, Cond.holds, Cond.value, h1, h2, h3, h4, g1, g2, g3, g4, g5, g6]
def isCode : Jvm.Cond → Bool
  | .code _ _ _ _ => true
  | _ => false
theorem all_split {L : List Jvm.Cond} {P : Jvm.Cond → Bool} (h1 : L.all (fun c => isCode c || P c) = true) (h2 : ∀ c ∈ L.filter isCode, P c = true) : L.all P = true := by
  refine List.all_eq_true.mpr fun c hc => ?_
  have h := List.all_eq_true.mp h1 c hc
  rcases Bool.eq_false_or_eq_true (isCode c) with hi | hi
  · exact h2 c (List.mem_filter.mpr ⟨hc, hi⟩)
  · simpa [hi] using h
set_option maxRecDepth 65536 in
theorem w_c0 : (Jvm.Cond.code x code maxLocals ret).before args0 about1 = true := code_word (m := ⟨1, 2⟩) (meth := k1m2) (c := k1c2) (by decide +kernel) rfl rfl rfl (by decide +kernel)
set_option maxRecDepth 65536 in
theorem w_c1 : (Jvm.Cond.code ({ cls := "com/example/ledgerline/ledgerline/io/Base64Url", name := "isAlphabet", desc := "(I)Z" } : Jvm.MethodName) prog_9_method_2_code (1 : Nat) (Option.some Jvm.ClassFile.FieldType.boolean)).before args0 about1 = true := code_word (m := ⟨2, 1⟩) (meth := k2m1) (c := k2c1) (by decide +kernel) rfl rfl rfl (by decide +kernel)
set_option maxRecDepth 65536 in
theorem w_c2 : (Jvm.Cond.code ({ cls := "com/example/ledgerline/ledgerline/io/Base64UrlIsAlphabetPinLaw", name := "reference", desc := "(I)Z" } : Jvm.MethodName) method_2_code (1 : Nat) (Option.some Jvm.ClassFile.FieldType.boolean)).before args0 about1 = true := code_word (m := ⟨1, 1⟩) (meth := k1m1) (c := k1c1) (by decide +kernel) rfl rfl rfl (by decide +kernel)
def codes1 : List Jvm.Cond := [Jvm.Cond.code x code maxLocals ret, Jvm.Cond.code ({ cls := "com/example/ledgerline/ledgerline/io/Base64Url", name := "isAlphabet", desc := "(I)Z" } : Jvm.MethodName) prog_9_method_2_code (1 : Nat) (Option.some Jvm.ClassFile.FieldType.boolean), Jvm.Cond.code ({ cls := "com/example/ledgerline/ledgerline/io/Base64UrlIsAlphabetPinLaw", name := "reference", desc := "(I)Z" } : Jvm.MethodName) method_2_code (1 : Nat) (Option.some Jvm.ClassFile.FieldType.boolean)]
set_option maxRecDepth 65536 in
theorem codes_eq : words1.filter isCode = codes1 := rfl
theorem w_codes : ∀ c ∈ words1.filter isCode, c.before args0 about1 = true := by
  rw [codes_eq]
  intro c hc
  simp only [codes1, List.mem_cons, List.not_mem_nil, or_false] at hc
  rcases hc with rfl | rfl | rfl
  · exact w_c0
  · exact w_c1
  · exact w_c2
set_option maxRecDepth 65536 in
theorem w_t1 : words1.all (fun c => isCode c || c.before args0 about1) = true := by decide +kernel
theorem w_tables : (allAtoms (Jvm.Cond.code x code maxLocals ret :: tables_1)).before args0 about1 = true := by
  rw [allAtoms_all]
  show words1.all (fun c => c.before args0 about1) = true
  refine all_split ?_ w_codes
  rw [w_t1]
set_option maxRecDepth 65536 in
theorem w_case : (Jvm.Cond.and given_1 narrow_1).before args0 about1 = true := by decide +kernel
theorem w_applies : (headSpec (Jvm.Cond.code x code maxLocals ret :: tables_1) room_1).applies x e0.platform about1 = true :=
  (Spec.applies_iff w_frames).mpr ⟨w_running, w_runnable, w_alone, w_named, w_hears, w_ripe, w_room, w_tables⟩
theorem atStart : AtStart classFile x code maxLocals ret World_1 tables_1 room_1 Calls_1 rest_1 Pre_1 launch0 p0 e0 about1 theMethod args0 below0 :=
  ⟨lists_1, trivial, launch0.admits_env _ _ _, launch0.least_env, fairChoices_fair.cas, fairChoices_fair.clock, w_frames, w_args, w_heap, w_applies, trivial, trivial, w_case⟩
end start1
theorem witness_1 : WitnessClaimed_1 := ⟨start1.p0, start1.e0, start1.about1, start1.theMethod, start1.args0, start1.below0, start1.atStart⟩
end Jvm.Pilot.@@N@@
