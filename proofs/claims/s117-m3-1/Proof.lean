import JvmDerived
import JvmDerived.Pilot.@@N@@Statement
import JvmDerived.Pilot.@@N@@Code
set_option linter.unusedVariables false
set_option linter.unusedSimpArgs false
namespace Jvm.Pilot.@@N@@
open Jvm Jvm.ClassFile Sem Op Lib Jvm.Free Jvm.Stand Jvm.LawKit Jvm.RoadKit Bundle Jvm.Pilot.@@N@@.Jvm.D
section Own
variable {p : Program} {l : Launch} {e : Env} {R : Room} {s : State} {m : MethodId} {args : Array Value} {below : List Frame} {meth : Method} {c : Code} {T T' : State} {locs : List Loc} {cells slots : Nat}
/-- from the frame f on the run returns, and what it leaves is said by Q -/
def Go (p : Program) (e : Env) (below : List Frame) (s : State) (Q : Option Value → Heap → List Loc → Prop) (cs ss : Nat) (T : State) (f : JFrame) : Prop :=
  ∃ s₂ o, Steps p.tables e below (T.setTop f) s₂ ∧ s₂.status = .running ∧ Ended s₂ below o ∧ ∃ v L, o = .returned v ∧ Q v s₂.heap L ∧ FrameEnd s o s₂ L cs ss
theorem Go.st {Q : Option Value → Heap → List Loc → Prop} {cs ss : Nat} {f f' : JFrame} (k : ∀ t, Steps p.tables e below (T'.setTop f') t → Steps p.tables e below (T.setTop f) t) (h : Go p e below s Q cs ss T' f') : Go p e below s Q cs ss T f := by
  obtain ⟨s₂, o, h1, h2⟩ := h
  exact ⟨s₂, o, k _ h1, h2⟩
theorem Go.start {Q : Option Value → Heap → List Loc → Prop} {cs ss ml : Nat} {f : JFrame} (hf : entryFrame m args ml = f) (h : Go p e below s Q cs ss T f) :
    ∃ s₂ o, Steps p.tables e below (T.setTop (entryFrame m args ml)) s₂ ∧ s₂.status = .running ∧ Ended s₂ below o ∧ ∃ v L, o = .returned v ∧ Q v s₂.heap L ∧ FrameEnd s o s₂ L cs ss := by
  subst hf; exact h
theorem Go.fr {Q : Option Value → Heap → List Loc → Prop} {cs ss : Nat} {f f' : JFrame} (q : f = f') (h : Go p e below s Q cs ss T f') : Go p e below s Q cs ss T f := by
  subst q; exact h
theorem Go.ret {Q : Option Value → Heap → List Loc → Prop} {cs ss : Nat} {f : JFrame} (X : Stand p l e R s m args below meth c T locs cells slots) (hlk : meth.locks = false) {v : Option Value} (hv : meth.sig.returnType = none → v = none)
    (k : ∀ fs, (∀ (f : JFrame) (acts : List Action), f.method = m → f.locked = none → f.entered = [] → (doReturn e (T.setTop f) acts v).1 = T.setFrames fs) → Steps p.tables e below (T.setTop f) (T.setFrames fs))
    (hQ : Q v T.heap locs) (hc : cells ≤ cs) (hs : slots ≤ ss) : Go p e below s Q cs ss T f := by
  obtain ⟨fs, hr, hrun, hended, hW, hsame⟩ := X.leave (v := v) hv hlk
  exact ⟨_, _, k fs hr, hrun, hended, _, _, rfl, hQ, ⟨_, rfl⟩, hW, hsame.mono hc hs⟩
theorem own_fld {t : Term} {a : Addr} {C n d : String} {k : Int32} (ev : t.eval args s none [] s = some (.ref a)) (h : (Jvm.Cond.eq (.field t C n d) (.int k)).value args s none s [] = some true) : Fld s s.heap a C n d (.int k) := by
  have q : (Term.field t C n d).eval args s none [] s = s.fieldOf? a C n d := fld_at ev
  have q2 : (Term.field t C n d).eval args s none [] s = some (.int k) := Cond.eq_int (Cond.before_iff.mpr h) rfl
  exact Fld.start (q.symm.trans q2)
theorem own_sta {Z : State} {h h' : Heap} {C n d : String} {v : Value} {ws : List Addr} (F : Sta Z h C n d v) (K : Keep h h' ws) (q : ∀ x ∈ ws, ∃ c : Cell, h[x]? = some c ∧ ∀ q, c.vm ≠ .statics q) : Sta Z h' C n d v := by
  obtain ⟨cf, i, k, f, st, cell, h1, h2, h3, h4, h5, h6, h7⟩ := F
  refine ⟨cf, i, k, f, st, cell, h1, h2, h3, h4, K.2.1 st cell h5 fun hm => ?_, h6, h7⟩
  obtain ⟨c, hc, hn⟩ := q st hm
  cases hc.symm.trans h5
  cases hv : cell.vm <;> simp [hv, VmData.isStatics] at h6 hn
theorem own_nb (x : Int32) : nar .byte x.toInt8.toInt32 = x.toInt8.toInt32 := by
  show x.toInt8.toInt32.toInt8.toInt32 = x.toInt8.toInt32
  simp
theorem own_arvcell {Z : State} {h : Heap} {a : Addr} {k : ClassId} {ty : FieldType} {z : Int32} {vs : List Value} {dv : Value} (F : Arv Z h a k ty z vs dv) : ∃ c : Cell, h[a]? = some c ∧ ∀ q, c.vm ≠ .statics q := by
  obtain ⟨c, A, -⟩ := F
  exact ⟨c, A.1, fun q hq => by have := A.plain; simp [hq, VmData.isStatics] at this⟩
/-- a static that holds a reference or null -/
def StaR (Z : State) (h : Heap) (C n d : String) : Prop := Sta Z h C n d .null ∨ ∃ a, Sta Z h C n d (.ref a)
theorem StaR.ext {Z : State} {h h' : Heap} {C n d : String} (F : StaR Z h C n d) (E : Ext h h') : StaR Z h' C n d := F.imp (fun q => q.ext E) fun ⟨a, q⟩ => ⟨a, q.ext E⟩
theorem StaR.wr {Z : State} {h h' : Heap} {C n d : String} {a : Addr} {sl : Nat} {v : Value} (F : StaR Z h C n d) (W : Wr h h' a sl v) : StaR Z h' C n d := F.imp (fun q => q.wr W) fun ⟨a, q⟩ => ⟨a, q.wr W⟩
theorem own_staR {Z : State} {h h' : Heap} {C n d : String} {ws : List Addr} (F : StaR Z h C n d) (K : Keep h h' ws) (q : ∀ x ∈ ws, ∃ c : Cell, h[x]? = some c ∧ ∀ q, c.vm ≠ .statics q) : StaR Z h' C n d := F.imp (fun r => own_sta r K q) fun ⟨a, r⟩ => ⟨a, own_sta r K q⟩
end Own
theorem pn_java_lang_StringUTF16 : plainName "java/lang/StringUTF16" = true := by first | (simp [plainName, overriddenIn]; done) | decide +kernel
theorem pn_jdk_internal_util_Preconditions : plainName "jdk/internal/util/Preconditions" = true := by first | (simp [plainName, overriddenIn]; done) | decide +kernel
theorem pd_0 : parseMethodDescriptor "(IILjava/util/function/BiFunction;)I" = some ⟨[.int, .int, (.object "java/util/function/BiFunction")], some .int⟩ := by decide +kernel
theorem pn_java_lang_String : plainName "java/lang/String" = true := by first | (simp [plainName, overriddenIn]; done) | decide +kernel
theorem pd_1 : parseMethodDescriptor "([B)I" = some ⟨[(.array .byte)], some .int⟩ := by decide +kernel
theorem pd_2 : parseMethodDescriptor "(II)V" = some ⟨[.int, .int], none⟩ := by decide +kernel
theorem pd_3 : parseMethodDescriptor "(I[B)V" = some ⟨[.int, (.array .byte)], none⟩ := by decide +kernel
theorem pd_4 : parseMethodDescriptor "([BI)C" = some ⟨[(.array .byte), .int], some .char⟩ := by decide +kernel
theorem pn_java_lang_StringLatin1 : plainName "java/lang/StringLatin1" = true := by first | (simp [plainName, overriddenIn]; done) | decide +kernel
theorem pd_5 : parseMethodDescriptor "()B" = some ⟨[], some .byte⟩ := by decide +kernel
theorem pd_6 : parseMethodDescriptor "()Z" = some ⟨[], some .boolean⟩ := by decide +kernel
theorem pd_7 : parseMethodDescriptor "(I)I" = some ⟨[.int], some .int⟩ := by decide +kernel
theorem pd_8 : parseMethodDescriptor "(I)[B" = some ⟨[.int], some (.array .byte)⟩ := by decide +kernel
theorem pd_9 : parseMethodDescriptor "([BII)V" = some ⟨[(.array .byte), .int, .int], none⟩ := by decide +kernel
theorem pd_10 : parseMethodDescriptor "([CI[BII)I" = some ⟨[(.array .char), .int, (.array .byte), .int, .int], some .int⟩ := by decide +kernel
theorem pd_11 : parseMethodDescriptor "([CII)[B" = some ⟨[(.array .char), .int, .int], some (.array .byte)⟩ := by decide +kernel
theorem pd_12 : parseMethodDescriptor "([BI)B" = some ⟨[(.array .byte), .int], some .byte⟩ := by decide +kernel
theorem pd_13 : parseMethodDescriptor "([CIILjava/lang/Void;)V" = some ⟨[(.array .char), .int, .int, (.object "java/lang/Void")], none⟩ := by decide +kernel
theorem pn_com_example_grantd_grantd_policy_TextSpan : plainName "com/example/grantd/grantd/policy/TextSpan" = true := by first | (simp [plainName, overriddenIn]; done) | decide +kernel
theorem pd_14 : parseMethodDescriptor "(IIILjava/util/function/BiFunction;)I" = some ⟨[.int, .int, .int, (.object "java/util/function/BiFunction")], some .int⟩ := by decide +kernel
theorem pn_java_util_Objects : plainName "java/util/Objects" = true := by first | (simp [plainName, overriddenIn]; done) | decide +kernel
theorem pd_15 : parseMethodDescriptor "()I" = some ⟨[], some .int⟩ := by decide +kernel
theorem pd_16 : parseMethodDescriptor "(III)I" = some ⟨[.int, .int, .int], some .int⟩ := by decide +kernel
theorem pd_17 : parseMethodDescriptor "(I)C" = some ⟨[.int], some .char⟩ := by decide +kernel
theorem pn_com_example_grantd_grantd_policy_TextSpanTextHashPinLaw : plainName "com/example/grantd/grantd/policy/TextSpanTextHashPinLaw" = true := by first | (simp [plainName, overriddenIn]; done) | decide +kernel
theorem pd_18 : parseMethodDescriptor "()V" = some ⟨[], none⟩ := by decide +kernel
theorem pd_19 : parseMethodDescriptor "(Ljava/lang/String;II)V" = some ⟨[(.object "java/lang/String"), .int, .int], none⟩ := by decide +kernel
theorem pd_20 : parseMethodDescriptor "([CIII)I" = some ⟨[(.array .char), .int, .int, .int], some .int⟩ := by decide +kernel
theorem pd_21 : parseMethodDescriptor "([C)V" = some ⟨[(.array .char)], none⟩ := by decide +kernel
theorem own_rem (x k : Int32) (hk : 0 < k.toInt) : 0 ≤ ((x &&& 2147483647) % k).toInt ∧ ((x &&& 2147483647) % k).toInt < k.toInt := by
  have h := c_mask x 2147483647 31 (by decide) (by decide)
  have h0 : 0 ≤ (x &&& 2147483647).toInt := by rw [h]; omega
  have h2 := (c_iremV (x &&& 2147483647) k).1 h0 hk
  exact ⟨h2.1, h2.2.1⟩
theorem own_i32 {x : Int32} {k : Int} (h : x.toInt = k) (y : Int32) (hy : y.toInt = k) : x = y := Int32.toInt_inj.mp (h.trans hy.symm)
def Lat (k0 k1 k2 k3 k4 k5 : Int32) : Prop := ¬ (255 : Int32) < k0 ∧ ¬ (255 : Int32) < k1 ∧ ¬ (255 : Int32) < k2 ∧ ¬ (255 : Int32) < k3 ∧ ¬ (255 : Int32) < k4 ∧ ¬ (255 : Int32) < k5
def Wide16 (k0 k1 k2 k3 k4 k5 : Int32) : Prop := (¬ k0 < 0 ∧ ¬ (65535 : Int32) < k0) ∧ (¬ k1 < 0 ∧ ¬ (65535 : Int32) < k1) ∧ (¬ k2 < 0 ∧ ¬ (65535 : Int32) < k2) ∧ (¬ k3 < 0 ∧ ¬ (65535 : Int32) < k3) ∧ (¬ k4 < 0 ∧ ¬ (65535 : Int32) < k4) ∧ (¬ k5 < 0 ∧ ¬ (65535 : Int32) < k5)
/-- how the six signs are spelled in the bytes at t, by the coder of the String at x -/
def Enc (Z : State) (h : Heap) (x t : Addr) (kb : ClassId) (k0 k1 k2 k3 k4 k5 : Int32) : Prop :=
  (Fld Z h x "java/lang/String" "coder" "B" (.int (0 : Int32)) ∧ Arv Z h t kb .byte (6 : Int32) [(.int (k0.toInt8.toInt32)), (.int (k1.toInt8.toInt32)), (.int (k2.toInt8.toInt32)), (.int (k3.toInt8.toInt32)), (.int (k4.toInt8.toInt32)), (.int (k5.toInt8.toInt32))] (.int (0 : Int32)) ∧ Lat k0 k1 k2 k3 k4 k5) ∨ (Fld Z h x "java/lang/String" "coder" "B" (.int (1 : Int32)) ∧ Arv Z h t kb .byte (12 : Int32) [(.int ((k0 >>> ((0 : Int32) &&& 31)).toInt8.toInt32)), (.int ((k0 >>> ((8 : Int32) &&& 31)).toInt8.toInt32)), (.int ((k1 >>> ((0 : Int32) &&& 31)).toInt8.toInt32)), (.int ((k1 >>> ((8 : Int32) &&& 31)).toInt8.toInt32)), (.int ((k2 >>> ((0 : Int32) &&& 31)).toInt8.toInt32)), (.int ((k2 >>> ((8 : Int32) &&& 31)).toInt8.toInt32)), (.int ((k3 >>> ((0 : Int32) &&& 31)).toInt8.toInt32)), (.int ((k3 >>> ((8 : Int32) &&& 31)).toInt8.toInt32)), (.int ((k4 >>> ((0 : Int32) &&& 31)).toInt8.toInt32)), (.int ((k4 >>> ((8 : Int32) &&& 31)).toInt8.toInt32)), (.int ((k5 >>> ((0 : Int32) &&& 31)).toInt8.toInt32)), (.int ((k5 >>> ((8 : Int32) &&& 31)).toInt8.toInt32))] (.int (0 : Int32)))
section EncLaws
variable {Z : State} {h h' : Heap} {x t a : Addr} {kb : ClassId} {k0 k1 k2 k3 k4 k5 : Int32} {sl : Nat} {v : Value} {ws : List Addr}
theorem Enc.ext (F : Enc Z h x t kb k0 k1 k2 k3 k4 k5) (E : Ext h h') : Enc Z h' x t kb k0 k1 k2 k3 k4 k5 := F.imp (fun q => ⟨q.1.ext E, q.2.1.ext E, q.2.2⟩) fun q => ⟨q.1.ext E, q.2.ext E⟩
theorem Enc.other (F : Enc Z h x t kb k0 k1 k2 k3 k4 k5) (W : Wr h h' a sl v) (q1 : x ≠ a) (q2 : t ≠ a) : Enc Z h' x t kb k0 k1 k2 k3 k4 k5 := F.imp (fun q => ⟨q.1.other W (Or.inl q1), q.2.1.other W q2, q.2.2⟩) fun q => ⟨q.1.other W (Or.inl q1), q.2.other W q2⟩
theorem Enc.keep (F : Enc Z h x t kb k0 k1 k2 k3 k4 k5) (K : Keep h h' ws) (q1 : x ∉ ws) (q2 : t ∉ ws) : Enc Z h' x t kb k0 k1 k2 k3 k4 k5 := F.imp (fun q => ⟨q.1.keep K q1, q.2.1.keep K q2, q.2.2⟩) fun q => ⟨q.1.keep K q1, q.2.keep K q2⟩
theorem Enc.lt (F : Enc Z h x t kb k0 k1 k2 k3 k4 k5) : x < h.size := F.elim (fun q => q.1.lt) fun q => q.1.lt
theorem Enc.ltt (F : Enc Z h x t kb k0 k1 k2 k3 k4 k5) : t < h.size := F.elim (fun q => q.2.1.lt) fun q => q.2.lt
end EncLaws
theorem own_i2c {c : Int32} (h0 : ¬ c < 0) (h1 : ¬ (65535 : Int32) < c) : nar .char c = c := by
  have q := c_i2c c
  have e1 : (65535 : Int32).toInt = 65535 := by decide
  have e0 : (0 : Int32).toInt = 0 := by decide
  rw [Int32.lt_iff_toInt_lt] at h0 h1
  apply Int32.toInt_inj.mp
  show (c.toUInt32.toUInt16.toUInt32.toInt32).toInt = _
  omega
theorem own_lat {c : Int32} (h0 : ¬ c < 0) (h1 : ¬ (255 : Int32) < c) : nar .char (((c.toInt8.toInt32) &&& (255 : Int32)).toUInt32.toUInt16.toUInt32.toInt32) = c := by
  have q1 := c_i2b c
  have q2 := c_mask c.toInt8.toInt32 255 8 (by decide) (by decide)
  have q3 := c_i2c (c.toInt8.toInt32 &&& 255)
  have q4 := c_i2c ((c.toInt8.toInt32 &&& 255).toUInt32.toUInt16.toUInt32.toInt32)
  have e1 : (255 : Int32).toInt = 255 := by decide
  have e0 : (0 : Int32).toInt = 0 := by decide
  rw [Int32.lt_iff_toInt_lt] at h0 h1
  apply Int32.toInt_inj.mp
  show (((c.toInt8.toInt32) &&& (255 : Int32)).toUInt32.toUInt16.toUInt32.toInt32.toUInt32.toUInt16.toUInt32.toInt32).toInt = _
  omega
theorem own_utf {c : Int32} (h0 : ¬ c < 0) (h1 : ¬ (65535 : Int32) < c) : nar .char (((((((c >>> ((0 : Int32) &&& 31)).toInt8.toInt32) &&& (255 : Int32)) <<< ((0 : Int32) &&& 31)) ||| ((((c >>> ((8 : Int32) &&& 31)).toInt8.toInt32) &&& (255 : Int32)) <<< ((8 : Int32) &&& 31)))).toUInt32.toUInt16.toUInt32.toInt32) = c := by
  have r1 := c_ishr c 0 0 (by decide)
  have r2 := c_ishr c 8 8 (by decide)
  have e8 : ((2 ^ 8 : Nat) : Int) = 256 := rfl
  have e00 : ((2 ^ 0 : Nat) : Int) = 1 := rfl
  rw [e8] at r2
  rw [e00] at r1
  have b1 := c_i2b (c >>> ((0 : Int32) &&& 31))
  have b2 := c_i2b (c >>> ((8 : Int32) &&& 31))
  have m1 := c_mask ((c >>> ((0 : Int32) &&& 31)).toInt8.toInt32) 255 8 (by decide) (by decide)
  have m2 := c_mask ((c >>> ((8 : Int32) &&& 31)).toInt8.toInt32) 255 8 (by decide) (by decide)
  have e1 : (65535 : Int32).toInt = 65535 := by decide
  have e0 : (0 : Int32).toInt = 0 := by decide
  rw [e8] at m1 m2
  rw [Int32.lt_iff_toInt_lt] at h0 h1
  generalize ((c >>> ((0 : Int32) &&& 31)).toInt8.toInt32) &&& (255 : Int32) = y0 at *
  generalize ((c >>> ((8 : Int32) &&& 31)).toInt8.toInt32) &&& (255 : Int32) = y1 at *
  have s1 := c_ishl y0 0 0 (by decide)
  have s2 := c_ishl y1 8 8 (by decide)
  rw [e00] at s1
  rw [e8] at s2
  have g1 := rng32 (y0 <<< ((0 : Int32) &&& 31))
  have g2 := rng32 (y1 <<< ((8 : Int32) &&& 31))
  have rc := rng32 c
  generalize y0 <<< ((0 : Int32) &&& 31) = z0 at *
  generalize y1 <<< ((8 : Int32) &&& 31) = z1 at *
  have o1 := c_or' z0 z1 8 (by decide) 256 rfl (by omega) (by omega) (by omega)
  have g3 := rng32 (z0 ||| z1)
  have q3 := c_i2c (z0 ||| z1)
  have q4 := c_i2c ((z0 ||| z1).toUInt32.toUInt16.toUInt32.toInt32)
  apply Int32.toInt_inj.mp
  show ((z0 ||| z1).toUInt32.toUInt16.toUInt32.toInt32.toUInt32.toUInt16.toUInt32.toInt32).toInt = _
  omega
def kF (p k0 k1 k2 k3 k4 k5 : Int32) : Int32 := if p = 0 then k0 else if p = 1 then k1 else if p = 2 then k2 else if p = 3 then k3 else if p = 4 then k4 else k5
def pwF (p : Int32) : Int32 := if p = 0 then 1 else if p = 1 then 31 else if p = 2 then 961 else if p = 3 then 29791 else if p = 4 then 923521 else 28629151
theorem own_v6 {p : Int32} (V : p = 0 ∨ p = 1 ∨ p = 2 ∨ p = 3 ∨ p = 4 ∨ p = 5) : ¬ p < 0 ∧ p < 6 := by rcases V with rfl | rfl | rfl | rfl | rfl | rfl <;> decide
theorem own_six {p : Int32} (h0 : ¬ p < 0) (h1 : p < 6) : p = 0 ∨ p = 1 ∨ p = 2 ∨ p = 3 ∨ p = 4 ∨ p = 5 := by
  rw [Int32.lt_iff_toInt_lt] at h0 h1
  have e0 : (0 : Int32).toInt = 0 := by decide
  have e6 : (6 : Int32).toInt = 6 := by decide
  have : p.toInt = 0 ∨ p.toInt = 1 ∨ p.toInt = 2 ∨ p.toInt = 3 ∨ p.toInt = 4 ∨ p.toInt = 5 := by omega
  rcases this with h | h | h | h | h | h
  · exact Or.inl (own_i32 h 0 (by decide))
  · exact Or.inr (Or.inl (own_i32 h 1 (by decide)))
  · exact Or.inr (Or.inr (Or.inl (own_i32 h 2 (by decide))))
  · exact Or.inr (Or.inr (Or.inr (Or.inl (own_i32 h 3 (by decide)))))
  · exact Or.inr (Or.inr (Or.inr (Or.inr (Or.inl (own_i32 h 4 (by decide))))))
  · exact Or.inr (Or.inr (Or.inr (Or.inr (Or.inr ((own_i32 h 5 (by decide)))))))
theorem own_kf {k0 k1 k2 k3 k4 k5 : Int32} (p : Int32) (V : p = 0 ∨ p = 1 ∨ p = 2 ∨ p = 3 ∨ p = 4 ∨ p = 5) (hW : Wide16 k0 k1 k2 k3 k4 k5) : ¬ kF p k0 k1 k2 k3 k4 k5 < 0 ∧ ¬ (65535 : Int32) < kF p k0 k1 k2 k3 k4 k5 := by
  obtain ⟨w0, w1, w2, w3, w4, w5⟩ := hW
  rcases V with rfl | rfl | rfl | rfl | rfl | rfl
  · exact w0
  · exact w1
  · exact w2
  · exact w3
  · exact w4
  · exact w5
theorem own_kfn {k0 k1 k2 k3 k4 k5 : Int32} (p : Int32) (V : p = 0 ∨ p = 1 ∨ p = 2 ∨ p = 3 ∨ p = 4 ∨ p = 5) (hW : Wide16 k0 k1 k2 k3 k4 k5) : nar .char (kF p k0 k1 k2 k3 k4 k5) = kF p k0 k1 k2 k3 k4 k5 := own_i2c (own_kf p V hW).1 (own_kf p V hW).2
theorem own_getk {k0 k1 k2 k3 k4 k5 : Int32} (p : Int32) (V : p = 0 ∨ p = 1 ∨ p = 2 ∨ p = 3 ∨ p = 4 ∨ p = 5) : ([(.int k0), (.int k1), (.int k2), (.int k3), (.int k4), (.int k5)] : List Value).getD p.toNatClampNeg (.int (0 : Int32)) = .int (kF p k0 k1 k2 k3 k4 k5) := by
  rcases V with rfl | rfl | rfl | rfl | rfl | rfl <;> rfl
theorem own_getp (p : Int32) (V : p = 0 ∨ p = 1 ∨ p = 2 ∨ p = 3 ∨ p = 4 ∨ p = 5) : ([.int 1, .int 31, .int 961, .int 29791, .int 923521, .int 28629151] : List Value).getD p.toNatClampNeg (.int (0 : Int32)) = .int (pwF p) := by
  rcases V with rfl | rfl | rfl | rfl | rfl | rfl <;> rfl
theorem d27_0 : decode jdk_52_method_6_code 0 = .ok (.aload_n 0, 1) := by decide +kernel
theorem d27_1 : decode jdk_52_method_6_code 1 = .ok (.arraylength, 1) := by decide +kernel
theorem d27_2 : decode jdk_52_method_6_code 2 = .ok (.iconst 1, 1) := by decide +kernel
theorem d27_3 : decode jdk_52_method_6_code 3 = .ok (.ishr, 1) := by decide +kernel
theorem d27_4 : decode jdk_52_method_6_code 4 = .ok (.ireturn, 1) := by decide +kernel
def val_27 (o0 : Addr) (kb : ClassId) (z : Int32) (vs : List Value) (dv : Value) : Int32 := (z >>> ((1 : Int32) &&& 31))
theorem ef_27 (m : MethodId) (o0 : Addr) : entryFrame m #[(.ref o0)] 1 = mkF m 0 #[.val (.ref o0)] [] := by first | (simp [entryFrame, mkF, argsToLocals, Value.category]; done) | rfl
def Q27 (Z : State) (o0 : Addr) (kb : ClassId) (z : Int32) (vs : List Value) (dv : Value) (h0 : Heap) (n0 : Nat) (v : Option Value) (h : Heap) (L : List Loc) : Prop := v = some (.int (val_27 o0 kb z vs dv)) ∧ Fr n0 L ∧ h = h0
set_option maxRecDepth 65536 in
set_option maxHeartbeats 40000000 in
theorem rm27 (l : Launch) (Z : State) (a0 : Array Value) (hw : ∀ d ∈ tables_1, d.before a0 Z = true) (ws : List Jvm.Cond) (o0 : Addr) (kb : ClassId) (z : Int32) (vs : List Value) (dv : Value) (h0 : Heap) (n0 : Nat) (Z0 : n0 ≤ h0.size) (V_o0 : Arv Z h0 o0 kb .byte z vs dv) :
    MetFree l (⟨"java/lang/StringUTF16", "length", "([B)I"⟩ : MethodName) (head1 (Jvm.Cond.code (⟨"java/lang/StringUTF16", "length", "([B)I"⟩ : MethodName) jdk_52_method_6_code 1 (some .int) :: ws) ({ frames := 0, cells := 0, slots := 0, locals := 0 } : Room)) (fun a U => a = #[(.ref o0)] ∧ Z.Warmed39 U.vm ∧ U.heap = h0) (fun _ _ _ _ _ => True) (fun _ U o U' => ∃ v L, o = .returned v ∧ Q27 Z o0 kb z vs dv h0 n0 v U'.heap L ∧ FrameEnd U o U' L ({ frames := 0, cells := 0, slots := 0, locals := 0 } : Room).cells ({ frames := 0, cells := 0, slots := 0, locals := 0 } : Room).slots) := by
  refine MetFree.of_bodySF (plainFor_of_name pn_java_lang_StringUTF16) hisR ?_
  intro p e s m args below meth c s₁ Bd hml0 hP hK
  obtain ⟨rfl, hZ, hh⟩ := hP
  have hx := Bd.exec
  have hby := Bd.bytes
  have hlk : meth.locks = false := BodyLoose.notSynchronized Bd
  have hret := Bd.returns
  have hml : c.maxLocals = 1 := hml0
  have hown : s.vm.findClass "java/lang/StringUTF16" = some m.cls := findClass_of_methodNamed Bd.named
  have hnm := (name_of_methodNamed Bd.named Bd.method).1
  have X0 : Stand p l e ({ frames := 0, cells := 0, slots := 0, locals := 0 } : Room) s m #[(.ref o0)] below meth c s₁ [] 0 0 := Stand.of_body Bd
  have e0 : s₁.heap = h0 := by rw [← hh, Bd.state]; rfl
  have N0 := Fr.nil n0
  refine Go.start (Q := Q27 Z o0 kb z vs dv h0 n0) (ef_27 m o0) ?_
  show Go _ _ _ _ _ _ _ s₁ (mkF m 0 #[.val (.ref o0)] [])
  refine Go.st (fun _ k => XS.aloadN X0.here hx rfl (hb hby d27_0) rfl rfl k) ?_
  show Go _ _ _ _ _ _ _ s₁ (mkF m 1 #[.val (.ref o0)] [(.ref o0)])
  obtain ⟨cl1, Ar1, qq1, SS1, NN1, HH1, GG1⟩ := id V_o0
  refine Go.st (fun _ k => X0.arraylength hx (by rw [e0]; exact Ar1.1) (State.isArrayOf_alike hZ.alike Ar1.2.1) (g := (mkF m 1 #[.val (.ref o0)] [(.ref o0)])) rfl rfl (hb hby d27_1) _ k) ?_
  rw [len_of SS1 NN1]
  show Go _ _ _ _ _ _ _ s₁ (mkF m 2 #[.val (.ref o0)] [(.int z)])
  refine Go.st (fun _ k => XS.iconst X0.here hx rfl (hb hby d27_2) k) ?_
  show Go _ _ _ _ _ _ _ s₁ (mkF m 3 #[.val (.ref o0)] [(.int (1 : Int32)), (.int z)])
  refine Go.st (fun _ k => XS.ishr X0.here hx rfl (hb hby d27_3) rfl k) ?_
  show Go _ _ _ _ _ _ _ s₁ (mkF m 4 #[.val (.ref o0)] [(.int (z >>> ((1 : Int32) &&& 31)))])
  refine Go.ret X0 hlk (v := some (.int (z >>> ((1 : Int32) &&& 31)))) (fun h => by rw [hret] at h; cases h) (fun fs hr => retOut X0 hx (t := .int) (i := .ireturn) hret rfl (Or.inl ⟨rfl, Or.inl rfl, _, rfl⟩) (hb hby d27_4) hr) ?_ (by decide) (by decide)
  show Q27 Z o0 kb z vs dv h0 n0 (some (.int (z >>> ((1 : Int32) &&& 31)))) s₁.heap _
  rw [e0]
  refine ⟨?_, N0, rfl⟩
  unfold val_27
  rfl
theorem d19_0 : decode jdk_41_method_11_code 0 = .ok (.iload_n 0, 1) := by decide +kernel
theorem d19_1 : decode jdk_41_method_11_code 1 = .ok (.ifCond .lt 8, 3) := by decide +kernel
theorem d19_4 : decode jdk_41_method_11_code 4 = .ok (.iload_n 0, 1) := by decide +kernel
theorem d19_5 : decode jdk_41_method_11_code 5 = .ok (.iload_n 1, 1) := by decide +kernel
theorem d19_6 : decode jdk_41_method_11_code 6 = .ok (.if_icmp .lt 10, 3) := by decide +kernel
theorem d19_16 : decode jdk_41_method_11_code 16 = .ok (.iload_n 0, 1) := by decide +kernel
theorem d19_17 : decode jdk_41_method_11_code 17 = .ok (.ireturn, 1) := by decide +kernel
def val_19n (p0 : Int32) (p1 : Int32) : Int32 := p0
theorem ef_19n (m : MethodId) (p0 : Int32) (p1 : Int32) : entryFrame m #[(.int p0), (.int p1), .null] 3 = mkF m 0 #[.val (.int p0), .val (.int p1), .val .null] [] := by first | (simp [entryFrame, mkF, argsToLocals, Value.category]; done) | rfl
def Q19n (Z : State) (p0 : Int32) (p1 : Int32) (h0 : Heap) (n0 : Nat) (v : Option Value) (h : Heap) (L : List Loc) : Prop := v = some (.int (val_19n p0 p1)) ∧ Fr n0 L ∧ h = h0
set_option maxRecDepth 65536 in
set_option maxHeartbeats 40000000 in
theorem rm19n (l : Launch) (Z : State) (a0 : Array Value) (hw : ∀ d ∈ tables_1, d.before a0 Z = true) (ws : List Jvm.Cond) (p0 : Int32) (p1 : Int32) (h0 : Heap) (n0 : Nat) (Z0 : n0 ≤ h0.size) (h1 : ¬ p0 < (0 : Int32)) (h2 : p0 < p1) :
    MetFree l (⟨"jdk/internal/util/Preconditions", "checkIndex", "(IILjava/util/function/BiFunction;)I"⟩ : MethodName) (head1 (Jvm.Cond.code (⟨"jdk/internal/util/Preconditions", "checkIndex", "(IILjava/util/function/BiFunction;)I"⟩ : MethodName) jdk_41_method_11_code 3 (some .int) :: ws) ({ frames := 0, cells := 0, slots := 0, locals := 0 } : Room)) (fun a U => a = #[(.int p0), (.int p1), .null] ∧ Z.Warmed39 U.vm ∧ U.heap = h0) (fun _ _ _ _ _ => True) (fun _ U o U' => ∃ v L, o = .returned v ∧ Q19n Z p0 p1 h0 n0 v U'.heap L ∧ FrameEnd U o U' L ({ frames := 0, cells := 0, slots := 0, locals := 0 } : Room).cells ({ frames := 0, cells := 0, slots := 0, locals := 0 } : Room).slots) := by
  refine MetFree.of_bodySF (plainFor_of_name pn_jdk_internal_util_Preconditions) hisR ?_
  intro p e s m args below meth c s₁ Bd hml0 hP hK
  obtain ⟨rfl, hZ, hh⟩ := hP
  have hx := Bd.exec
  have hby := Bd.bytes
  have hlk : meth.locks = false := BodyLoose.notSynchronized Bd
  have hret := Bd.returns
  have hml : c.maxLocals = 3 := hml0
  have hown : s.vm.findClass "jdk/internal/util/Preconditions" = some m.cls := findClass_of_methodNamed Bd.named
  have hnm := (name_of_methodNamed Bd.named Bd.method).1
  have X0 : Stand p l e ({ frames := 0, cells := 0, slots := 0, locals := 0 } : Room) s m #[(.int p0), (.int p1), .null] below meth c s₁ [] 0 0 := Stand.of_body Bd
  have e0 : s₁.heap = h0 := by rw [← hh, Bd.state]; rfl
  have N0 := Fr.nil n0
  refine Go.start (Q := Q19n Z p0 p1 h0 n0) (ef_19n m p0 p1) ?_
  show Go _ _ _ _ _ _ _ s₁ (mkF m 0 #[.val (.int p0), .val (.int p1), .val .null] [])
  refine Go.st (fun _ k => XS.iloadN X0.here hx rfl (hb hby d19_0) rfl k) ?_
  show Go _ _ _ _ _ _ _ s₁ (mkF m 1 #[.val (.int p0), .val (.int p1), .val .null] [(.int p0)])
  refine Go.st (fun _ k => XS.ifNo X0.here hx rfl (hb hby d19_1) rfl ((if0 _ _).trans (flt h1).1) k) ?_
  show Go _ _ _ _ _ _ _ s₁ (mkF m 4 #[.val (.int p0), .val (.int p1), .val .null] [])
  refine Go.st (fun _ k => XS.iloadN X0.here hx rfl (hb hby d19_4) rfl k) ?_
  show Go _ _ _ _ _ _ _ s₁ (mkF m 5 #[.val (.int p0), .val (.int p1), .val .null] [(.int p0)])
  refine Go.st (fun _ k => XS.iloadN X0.here hx rfl (hb hby d19_5) rfl k) ?_
  show Go _ _ _ _ _ _ _ s₁ (mkF m 6 #[.val (.int p0), .val (.int p1), .val .null] [(.int p1), (.int p0)])
  refine Go.st (fun _ k => XS.icmpYes X0.here hx rfl (pc0 := 6) (pc' := 16) rfl (hb hby d19_6) rfl (tlt h2).1 (by decide) (by decide) k) ?_
  show Go _ _ _ _ _ _ _ s₁ (mkF m 16 #[.val (.int p0), .val (.int p1), .val .null] [])
  refine Go.st (fun _ k => XS.iloadN X0.here hx rfl (hb hby d19_16) rfl k) ?_
  show Go _ _ _ _ _ _ _ s₁ (mkF m 17 #[.val (.int p0), .val (.int p1), .val .null] [(.int p0)])
  refine Go.ret X0 hlk (v := some (.int p0)) (fun h => by rw [hret] at h; cases h) (fun fs hr => retOut X0 hx (t := .int) (i := .ireturn) hret rfl (Or.inl ⟨rfl, Or.inl rfl, _, rfl⟩) (hb hby d19_17) hr) ?_ (by decide) (by decide)
  show Q19n Z p0 p1 h0 n0 (some (.int p0)) s₁.heap _
  rw [e0]
  refine ⟨?_, N0, rfl⟩
  unfold val_19n
  rfl
def val_19r (p0 : Int32) (p1 : Int32) (o2 : Addr) : Int32 := p0
theorem ef_19r (m : MethodId) (p0 : Int32) (p1 : Int32) (o2 : Addr) : entryFrame m #[(.int p0), (.int p1), (.ref o2)] 3 = mkF m 0 #[.val (.int p0), .val (.int p1), .val (.ref o2)] [] := by first | (simp [entryFrame, mkF, argsToLocals, Value.category]; done) | rfl
def Q19r (Z : State) (p0 : Int32) (p1 : Int32) (o2 : Addr) (h0 : Heap) (n0 : Nat) (v : Option Value) (h : Heap) (L : List Loc) : Prop := v = some (.int (val_19r p0 p1 o2)) ∧ Fr n0 L ∧ h = h0
set_option maxRecDepth 65536 in
set_option maxHeartbeats 40000000 in
theorem rm19r (l : Launch) (Z : State) (a0 : Array Value) (hw : ∀ d ∈ tables_1, d.before a0 Z = true) (ws : List Jvm.Cond) (p0 : Int32) (p1 : Int32) (o2 : Addr) (h0 : Heap) (n0 : Nat) (Z0 : n0 ≤ h0.size) (h1 : ¬ p0 < (0 : Int32)) (h2 : p0 < p1) :
    MetFree l (⟨"jdk/internal/util/Preconditions", "checkIndex", "(IILjava/util/function/BiFunction;)I"⟩ : MethodName) (head1 (Jvm.Cond.code (⟨"jdk/internal/util/Preconditions", "checkIndex", "(IILjava/util/function/BiFunction;)I"⟩ : MethodName) jdk_41_method_11_code 3 (some .int) :: ws) ({ frames := 0, cells := 0, slots := 0, locals := 0 } : Room)) (fun a U => a = #[(.int p0), (.int p1), (.ref o2)] ∧ Z.Warmed39 U.vm ∧ U.heap = h0) (fun _ _ _ _ _ => True) (fun _ U o U' => ∃ v L, o = .returned v ∧ Q19r Z p0 p1 o2 h0 n0 v U'.heap L ∧ FrameEnd U o U' L ({ frames := 0, cells := 0, slots := 0, locals := 0 } : Room).cells ({ frames := 0, cells := 0, slots := 0, locals := 0 } : Room).slots) := by
  refine MetFree.of_bodySF (plainFor_of_name pn_jdk_internal_util_Preconditions) hisR ?_
  intro p e s m args below meth c s₁ Bd hml0 hP hK
  obtain ⟨rfl, hZ, hh⟩ := hP
  have hx := Bd.exec
  have hby := Bd.bytes
  have hlk : meth.locks = false := BodyLoose.notSynchronized Bd
  have hret := Bd.returns
  have hml : c.maxLocals = 3 := hml0
  have hown : s.vm.findClass "jdk/internal/util/Preconditions" = some m.cls := findClass_of_methodNamed Bd.named
  have hnm := (name_of_methodNamed Bd.named Bd.method).1
  have X0 : Stand p l e ({ frames := 0, cells := 0, slots := 0, locals := 0 } : Room) s m #[(.int p0), (.int p1), (.ref o2)] below meth c s₁ [] 0 0 := Stand.of_body Bd
  have e0 : s₁.heap = h0 := by rw [← hh, Bd.state]; rfl
  have N0 := Fr.nil n0
  refine Go.start (Q := Q19r Z p0 p1 o2 h0 n0) (ef_19r m p0 p1 o2) ?_
  show Go _ _ _ _ _ _ _ s₁ (mkF m 0 #[.val (.int p0), .val (.int p1), .val (.ref o2)] [])
  refine Go.st (fun _ k => XS.iloadN X0.here hx rfl (hb hby d19_0) rfl k) ?_
  show Go _ _ _ _ _ _ _ s₁ (mkF m 1 #[.val (.int p0), .val (.int p1), .val (.ref o2)] [(.int p0)])
  refine Go.st (fun _ k => XS.ifNo X0.here hx rfl (hb hby d19_1) rfl ((if0 _ _).trans (flt h1).1) k) ?_
  show Go _ _ _ _ _ _ _ s₁ (mkF m 4 #[.val (.int p0), .val (.int p1), .val (.ref o2)] [])
  refine Go.st (fun _ k => XS.iloadN X0.here hx rfl (hb hby d19_4) rfl k) ?_
  show Go _ _ _ _ _ _ _ s₁ (mkF m 5 #[.val (.int p0), .val (.int p1), .val (.ref o2)] [(.int p0)])
  refine Go.st (fun _ k => XS.iloadN X0.here hx rfl (hb hby d19_5) rfl k) ?_
  show Go _ _ _ _ _ _ _ s₁ (mkF m 6 #[.val (.int p0), .val (.int p1), .val (.ref o2)] [(.int p1), (.int p0)])
  refine Go.st (fun _ k => XS.icmpYes X0.here hx rfl (pc0 := 6) (pc' := 16) rfl (hb hby d19_6) rfl (tlt h2).1 (by decide) (by decide) k) ?_
  show Go _ _ _ _ _ _ _ s₁ (mkF m 16 #[.val (.int p0), .val (.int p1), .val (.ref o2)] [])
  refine Go.st (fun _ k => XS.iloadN X0.here hx rfl (hb hby d19_16) rfl k) ?_
  show Go _ _ _ _ _ _ _ s₁ (mkF m 17 #[.val (.int p0), .val (.int p1), .val (.ref o2)] [(.int p0)])
  refine Go.ret X0 hlk (v := some (.int p0)) (fun h => by rw [hret] at h; cases h) (fun fs hr => retOut X0 hx (t := .int) (i := .ireturn) hret rfl (Or.inl ⟨rfl, Or.inl rfl, _, rfl⟩) (hb hby d19_17) hr) ?_ (by decide) (by decide)
  show Q19r Z p0 p1 o2 h0 n0 (some (.int p0)) s₁.heap _
  rw [e0]
  refine ⟨?_, N0, rfl⟩
  unfold val_19r
  rfl
theorem d18_0 : decode jdk_42_method_155_code 0 = .ok (.iload_n 0, 1) := by decide +kernel
theorem d18_1 : decode jdk_42_method_155_code 1 = .ok (.iload_n 1, 1) := by decide +kernel
theorem d18_2 : decode jdk_42_method_155_code 2 = .ok (.getstatic 1053, 3) := by decide +kernel
theorem d18_5 : decode jdk_42_method_155_code 5 = .ok (.invokestatic 1059, 3) := by decide +kernel
theorem d18_8 : decode jdk_42_method_155_code 8 = .ok (.pop, 1) := by decide +kernel
theorem d18_9 : decode jdk_42_method_155_code 9 = .ok (.return_, 1) := by decide +kernel
theorem ef_18 (m : MethodId) (p0 : Int32) (p1 : Int32) : entryFrame m #[(.int p0), (.int p1)] 2 = mkF m 0 #[.val (.int p0), .val (.int p1)] [] := by first | (simp [entryFrame, mkF, argsToLocals, Value.category]; done) | rfl
def Q18 (Z : State) (p0 : Int32) (p1 : Int32) (h0 : Heap) (n0 : Nat) (v : Option Value) (h : Heap) (L : List Loc) : Prop := v = none ∧ Fr n0 L ∧ h = h0
set_option maxRecDepth 65536 in
set_option maxHeartbeats 40000000 in
theorem rm18 (l : Launch) (Z : State) (a0 : Array Value) (hw : ∀ d ∈ tables_1, d.before a0 Z = true) (ws : List Jvm.Cond) (p0 : Int32) (p1 : Int32) (h0 : Heap) (n0 : Nat) (Z0 : n0 ≤ h0.size) (h1 : ¬ p0 < (0 : Int32)) (h2 : p0 < p1) (S_SI : StaR Z h0 "jdk/internal/util/Preconditions" "SIOOBE_FORMATTER" "Ljava/util/function/BiFunction;") :
    MetFree l (⟨"java/lang/String", "checkIndex", "(II)V"⟩ : MethodName) (head1 (Jvm.Cond.code (⟨"java/lang/String", "checkIndex", "(II)V"⟩ : MethodName) jdk_42_method_155_code 2 none :: ws) ({ frames := 1, cells := 0, slots := 0, locals := 14 } : Room)) (fun a U => a = #[(.int p0), (.int p1)] ∧ Z.Warmed39 U.vm ∧ U.heap = h0) (fun _ _ _ _ _ => True) (fun _ U o U' => ∃ v L, o = .returned v ∧ Q18 Z p0 p1 h0 n0 v U'.heap L ∧ FrameEnd U o U' L ({ frames := 1, cells := 0, slots := 0, locals := 14 } : Room).cells ({ frames := 1, cells := 0, slots := 0, locals := 14 } : Room).slots) := by
  refine MetFree.of_bodySF (plainFor_of_name pn_java_lang_String) hisR ?_
  intro p e s m args below meth c s₁ Bd hml0 hP hK
  obtain ⟨rfl, hZ, hh⟩ := hP
  have hx := Bd.exec
  have hby := Bd.bytes
  have hlk : meth.locks = false := BodyLoose.notSynchronized Bd
  have hret := Bd.returns
  have hml : c.maxLocals = 2 := hml0
  have hown : s.vm.findClass "java/lang/String" = some m.cls := findClass_of_methodNamed Bd.named
  have hnm := (name_of_methodNamed Bd.named Bd.method).1
  have X0 : Stand p l e ({ frames := 1, cells := 0, slots := 0, locals := 14 } : Room) s m #[(.int p0), (.int p1)] below meth c s₁ [] 0 0 := Stand.of_body Bd
  have e0 : s₁.heap = h0 := by rw [← hh, Bd.state]; rfl
  have N0 := Fr.nil n0
  refine Go.start (Q := Q18 Z p0 p1 h0 n0) (ef_18 m p0 p1) ?_
  rcases S_SI with S_f | ⟨w_f, S_f⟩
  · show Go _ _ _ _ _ _ _ s₁ (mkF m 0 #[.val (.int p0), .val (.int p1)] [])
    refine Go.st (fun _ k => XS.iloadN X0.here hx rfl (hb hby d18_0) rfl k) ?_
    show Go _ _ _ _ _ _ _ s₁ (mkF m 1 #[.val (.int p0), .val (.int p1)] [(.int p0)])
    refine Go.st (fun _ k => XS.iloadN X0.here hx rfl (hb hby d18_1) rfl k) ?_
    show Go _ _ _ _ _ _ _ s₁ (mkF m 2 #[.val (.int p0), .val (.int p1)] [(.int p1), (.int p0)])
    obtain ⟨T1, X1, e1, st1⟩ := getS2 X0 hx hZ hown (host := "") (Or.inl (hw _ (List.mem_of_getElem? (i := 97) rfl))) Via.refl e0 S_f (g := (mkF m 2 #[.val (.int p0), .val (.int p1)] [(.int p1), (.int p0)])) rfl (hb hby d18_2)
    refine Go.st st1 ?_
    show Go _ _ _ _ _ _ _ T1 (mkF m 5 #[.val (.int p0), .val (.int p1)] [.null, (.int p1), (.int p0)])
    obtain ⟨_, _, ⟨T2, L2, ck2, cn2⟩, -, X2, ⟨Lc2, hQ2, l2, y2, z2⟩, st2⟩ := Jvm.LawKit.callS X1 hx (y := (⟨"jdk/internal/util/Preconditions", "checkIndex", "(IILjava/util/function/BiFunction;)I"⟩ : MethodName)) hown (mvT hZ (hw _ (List.mem_of_getElem? (i := 98) rfl))) (mvT hZ (hw _ (List.mem_of_getElem? (i := 99) rfl))) (mvT hZ (hw _ (List.mem_of_getElem? (i := 60) rfl))) (mvT hZ (hw _ (List.mem_of_getElem? (i := 100) rfl))) (by decide) (backOf (W := 0) (rm19n l Z a0 hw [] p0 p1  h0 n0 Z0 h1 h2) hZ (hw _ (List.mem_of_getElem? (i := 100) rfl)) (hw _ (List.mem_of_getElem? (i := 60) rfl)) (by decide) (by decide)) (g := (mkF m 5 #[.val (.int p0), .val (.int p1)] [.null, (.int p1), (.int p0)])) rfl (by rw [hml]; rfl) (argsL := [(.int p0), (.int p1), .null]) (rest := []) (lenOf pd_0 rfl) rfl (by show 2 * 0 + _ ≤ _; exact Nat.le_of_eq rfl) (hb hby d18_5) (fun _ _ => ⟨rfl, e1, (by decide : 0 + 0 ≤ _), (by decide : 0 + 0 ≤ _)⟩)
    dsimp only [Pt.U, Pt.locs, Pt.cells, Pt.slots] at X2 l2 y2 z2 st2 hQ2
    subst l2 y2 z2
    obtain ⟨rfl, N2q, e2⟩ := hQ2
    have N2 := Fr.app N0 N2q
    refine Go.st st2 ?_
    show Go _ _ _ _ _ _ _ T2 (mkF m 8 #[.val (.int p0), .val (.int p1)] [(.int (val_19n p0 p1))])
    rw [show (val_19n p0 p1) = p0 from by unfold val_19n; rfl]
    show Go _ _ _ _ _ _ _ T2 (mkF m 8 #[.val (.int p0), .val (.int p1)] [(.int p0)])
    refine Go.st (fun _ k => XS.pop X2.here hx rfl (hb hby d18_8) rfl rfl k) ?_
    show Go _ _ _ _ _ _ _ T2 (mkF m 9 #[.val (.int p0), .val (.int p1)] [])
    refine Go.ret X2 hlk (v := none) (fun _ => rfl) (fun fs hr => X2.returnOut hx hret (hb hby d18_9) hr) ?_ (by decide) (by decide)
    show Q18 Z p0 p1 h0 n0 (none) T2.heap _
    rw [e2]
    exact ⟨rfl, N2, rfl⟩
  · show Go _ _ _ _ _ _ _ s₁ (mkF m 0 #[.val (.int p0), .val (.int p1)] [])
    refine Go.st (fun _ k => XS.iloadN X0.here hx rfl (hb hby d18_0) rfl k) ?_
    show Go _ _ _ _ _ _ _ s₁ (mkF m 1 #[.val (.int p0), .val (.int p1)] [(.int p0)])
    refine Go.st (fun _ k => XS.iloadN X0.here hx rfl (hb hby d18_1) rfl k) ?_
    show Go _ _ _ _ _ _ _ s₁ (mkF m 2 #[.val (.int p0), .val (.int p1)] [(.int p1), (.int p0)])
    obtain ⟨T3, X3, e3, st3⟩ := getS2 X0 hx hZ hown (host := "") (Or.inl (hw _ (List.mem_of_getElem? (i := 97) rfl))) Via.refl e0 S_f (g := (mkF m 2 #[.val (.int p0), .val (.int p1)] [(.int p1), (.int p0)])) rfl (hb hby d18_2)
    refine Go.st st3 ?_
    show Go _ _ _ _ _ _ _ T3 (mkF m 5 #[.val (.int p0), .val (.int p1)] [(.ref w_f), (.int p1), (.int p0)])
    obtain ⟨_, _, ⟨T4, L4, ck4, cn4⟩, -, X4, ⟨Lc4, hQ4, l4, y4, z4⟩, st4⟩ := Jvm.LawKit.callS X3 hx (y := (⟨"jdk/internal/util/Preconditions", "checkIndex", "(IILjava/util/function/BiFunction;)I"⟩ : MethodName)) hown (mvT hZ (hw _ (List.mem_of_getElem? (i := 98) rfl))) (mvT hZ (hw _ (List.mem_of_getElem? (i := 99) rfl))) (mvT hZ (hw _ (List.mem_of_getElem? (i := 60) rfl))) (mvT hZ (hw _ (List.mem_of_getElem? (i := 100) rfl))) (by decide) (backOf (W := 0) (rm19r l Z a0 hw [] p0 p1 w_f  h0 n0 Z0 h1 h2) hZ (hw _ (List.mem_of_getElem? (i := 100) rfl)) (hw _ (List.mem_of_getElem? (i := 60) rfl)) (by decide) (by decide)) (g := (mkF m 5 #[.val (.int p0), .val (.int p1)] [(.ref w_f), (.int p1), (.int p0)])) rfl (by rw [hml]; rfl) (argsL := [(.int p0), (.int p1), (.ref w_f)]) (rest := []) (lenOf pd_0 rfl) rfl (by show 2 * 0 + _ ≤ _; exact Nat.le_of_eq rfl) (hb hby d18_5) (fun _ _ => ⟨rfl, e3, (by decide : 0 + 0 ≤ _), (by decide : 0 + 0 ≤ _)⟩)
    dsimp only [Pt.U, Pt.locs, Pt.cells, Pt.slots] at X4 l4 y4 z4 st4 hQ4
    subst l4 y4 z4
    obtain ⟨rfl, N4q, e4⟩ := hQ4
    have N4 := Fr.app N0 N4q
    refine Go.st st4 ?_
    show Go _ _ _ _ _ _ _ T4 (mkF m 8 #[.val (.int p0), .val (.int p1)] [(.int (val_19r p0 p1 w_f))])
    rw [show (val_19r p0 p1 w_f) = p0 from by unfold val_19r; rfl]
    show Go _ _ _ _ _ _ _ T4 (mkF m 8 #[.val (.int p0), .val (.int p1)] [(.int p0)])
    refine Go.st (fun _ k => XS.pop X4.here hx rfl (hb hby d18_8) rfl rfl k) ?_
    show Go _ _ _ _ _ _ _ T4 (mkF m 9 #[.val (.int p0), .val (.int p1)] [])
    refine Go.ret X4 hlk (v := none) (fun _ => rfl) (fun fs hr => X4.returnOut hx hret (hb hby d18_9) hr) ?_ (by decide) (by decide)
    show Q18 Z p0 p1 h0 n0 (none) T4.heap _
    rw [e4]
    exact ⟨rfl, N4, rfl⟩
theorem d26_0 : decode jdk_52_method_91_code 0 = .ok (.iload_n 0, 1) := by decide +kernel
theorem d26_1 : decode jdk_52_method_91_code 1 = .ok (.aload_n 1, 1) := by decide +kernel
theorem d26_2 : decode jdk_52_method_91_code 2 = .ok (.invokestatic 48, 3) := by decide +kernel
theorem d26_5 : decode jdk_52_method_91_code 5 = .ok (.invokestatic 414, 3) := by decide +kernel
theorem d26_8 : decode jdk_52_method_91_code 8 = .ok (.return_, 1) := by decide +kernel
theorem ef_26 (m : MethodId) (p0 : Int32) (o1 : Addr) : entryFrame m #[(.int p0), (.ref o1)] 2 = mkF m 0 #[.val (.int p0), .val (.ref o1)] [] := by first | (simp [entryFrame, mkF, argsToLocals, Value.category]; done) | rfl
def Q26 (Z : State) (p0 : Int32) (o1 : Addr) (kb : ClassId) (vs : List Value) (dv : Value) (h0 : Heap) (n0 : Nat) (v : Option Value) (h : Heap) (L : List Loc) : Prop := v = none ∧ Fr n0 L ∧ h = h0
set_option maxRecDepth 65536 in
set_option maxHeartbeats 40000000 in
theorem rm26 (l : Launch) (Z : State) (a0 : Array Value) (hw : ∀ d ∈ tables_1, d.before a0 Z = true) (ws : List Jvm.Cond) (p0 : Int32) (o1 : Addr) (kb : ClassId) (vs : List Value) (dv : Value) (h0 : Heap) (n0 : Nat) (Z0 : n0 ≤ h0.size) (V_o1 : Arv Z h0 o1 kb .byte (12 : Int32) vs dv) (h1 : ¬ p0 < (0 : Int32)) (h2 : p0 < (6 : Int32)) (S_SI : StaR Z h0 "jdk/internal/util/Preconditions" "SIOOBE_FORMATTER" "Ljava/util/function/BiFunction;") :
    MetFree l (⟨"java/lang/StringUTF16", "checkIndex", "(I[B)V"⟩ : MethodName) (head1 (Jvm.Cond.code (⟨"java/lang/StringUTF16", "checkIndex", "(I[B)V"⟩ : MethodName) jdk_52_method_91_code 2 none :: ws) ({ frames := 2, cells := 0, slots := 0, locals := 27 } : Room)) (fun a U => a = #[(.int p0), (.ref o1)] ∧ Z.Warmed39 U.vm ∧ U.heap = h0) (fun _ _ _ _ _ => True) (fun _ U o U' => ∃ v L, o = .returned v ∧ Q26 Z p0 o1 kb vs dv h0 n0 v U'.heap L ∧ FrameEnd U o U' L ({ frames := 2, cells := 0, slots := 0, locals := 27 } : Room).cells ({ frames := 2, cells := 0, slots := 0, locals := 27 } : Room).slots) := by
  refine MetFree.of_bodySF (plainFor_of_name pn_java_lang_StringUTF16) hisR ?_
  intro p e s m args below meth c s₁ Bd hml0 hP hK
  obtain ⟨rfl, hZ, hh⟩ := hP
  have hx := Bd.exec
  have hby := Bd.bytes
  have hlk : meth.locks = false := BodyLoose.notSynchronized Bd
  have hret := Bd.returns
  have hml : c.maxLocals = 2 := hml0
  have hown : s.vm.findClass "java/lang/StringUTF16" = some m.cls := findClass_of_methodNamed Bd.named
  have hnm := (name_of_methodNamed Bd.named Bd.method).1
  have X0 : Stand p l e ({ frames := 2, cells := 0, slots := 0, locals := 27 } : Room) s m #[(.int p0), (.ref o1)] below meth c s₁ [] 0 0 := Stand.of_body Bd
  have e0 : s₁.heap = h0 := by rw [← hh, Bd.state]; rfl
  have N0 := Fr.nil n0
  refine Go.start (Q := Q26 Z p0 o1 kb vs dv h0 n0) (ef_26 m p0 o1) ?_
  show Go _ _ _ _ _ _ _ s₁ (mkF m 0 #[.val (.int p0), .val (.ref o1)] [])
  refine Go.st (fun _ k => XS.iloadN X0.here hx rfl (hb hby d26_0) rfl k) ?_
  show Go _ _ _ _ _ _ _ s₁ (mkF m 1 #[.val (.int p0), .val (.ref o1)] [(.int p0)])
  refine Go.st (fun _ k => XS.aloadN X0.here hx rfl (hb hby d26_1) rfl rfl k) ?_
  show Go _ _ _ _ _ _ _ s₁ (mkF m 2 #[.val (.int p0), .val (.ref o1)] [(.ref o1), (.int p0)])
  obtain ⟨_, _, ⟨T1, L1, ck1, cn1⟩, -, X1, ⟨Lc1, hQ1, l1, y1, z1⟩, st1⟩ := Jvm.LawKit.callS X0 hx (y := (⟨"java/lang/StringUTF16", "length", "([B)I"⟩ : MethodName)) hown (mvT hZ (hw _ (List.mem_of_getElem? (i := 126) rfl))) (mvT hZ (hw _ (List.mem_of_getElem? (i := 127) rfl))) (mvT hZ (hw _ (List.mem_of_getElem? (i := 18) rfl))) (mvT hZ (hw _ (List.mem_of_getElem? (i := 128) rfl))) (by decide) (backOf (W := 1) (rm27 l Z a0 hw [] o1 kb (12 : Int32) vs dv h0 n0 Z0 V_o1) hZ (hw _ (List.mem_of_getElem? (i := 128) rfl)) (hw _ (List.mem_of_getElem? (i := 18) rfl)) (by decide) (by decide)) (g := (mkF m 2 #[.val (.int p0), .val (.ref o1)] [(.ref o1), (.int p0)])) rfl (by rw [hml]; rfl) (argsL := [(.ref o1)]) (rest := [(.int p0)]) (lenOf pd_1 rfl) rfl (by show 2 * 0 + _ ≤ _; exact Nat.le_of_eq rfl) (hb hby d26_2) (fun _ _ => ⟨rfl, e0, (by decide : 0 + 0 ≤ _), (by decide : 0 + 0 ≤ _)⟩)
  dsimp only [Pt.U, Pt.locs, Pt.cells, Pt.slots] at X1 l1 y1 z1 st1 hQ1
  subst l1 y1 z1
  obtain ⟨rfl, N1q, e1⟩ := hQ1
  have N1 := Fr.app N0 N1q
  refine Go.st st1 ?_
  show Go _ _ _ _ _ _ _ T1 (mkF m 5 #[.val (.int p0), .val (.ref o1)] [(.int (val_27 o1 kb (12 : Int32) vs dv)), (.int p0)])
  rw [show (val_27 o1 kb (12 : Int32) vs dv) = (6 : Int32) from by unfold val_27; decide +kernel]
  show Go _ _ _ _ _ _ _ T1 (mkF m 5 #[.val (.int p0), .val (.ref o1)] [(.int (6 : Int32)), (.int p0)])
  obtain ⟨_, _, ⟨T2, L2, ck2, cn2⟩, -, X2, ⟨Lc2, hQ2, l2, y2, z2⟩, st2⟩ := Jvm.LawKit.callS X1 hx (y := (⟨"java/lang/String", "checkIndex", "(II)V"⟩ : MethodName)) hown (mvT hZ (hw _ (List.mem_of_getElem? (i := 129) rfl))) (mvT hZ (hw _ (List.mem_of_getElem? (i := 95) rfl))) (mvT hZ (hw _ (List.mem_of_getElem? (i := 4) rfl))) (mvT hZ (hw _ (List.mem_of_getElem? (i := 96) rfl))) (by decide) (backOf (W := 0) (rm18 l Z a0 hw [] p0 (6 : Int32)  h0 n0 Z0 h1 h2 S_SI) hZ (hw _ (List.mem_of_getElem? (i := 96) rfl)) (hw _ (List.mem_of_getElem? (i := 4) rfl)) (by decide) (by decide)) (g := (mkF m 5 #[.val (.int p0), .val (.ref o1)] [(.int (6 : Int32)), (.int p0)])) rfl (by rw [hml]; rfl) (argsL := [(.int p0), (.int (6 : Int32))]) (rest := []) (lenOf pd_2 rfl) rfl (by show 2 * 0 + _ ≤ _; exact Nat.le_of_eq rfl) (hb hby d26_5) (fun _ _ => ⟨rfl, e1, (by decide : 0 + 0 ≤ _), (by decide : 0 + 0 ≤ _)⟩)
  dsimp only [Pt.U, Pt.locs, Pt.cells, Pt.slots] at X2 l2 y2 z2 st2 hQ2
  subst l2 y2 z2
  obtain ⟨rfl, N2q, e2⟩ := hQ2
  have N2 := Fr.app N1 N2q
  refine Go.st st2 ?_
  show Go _ _ _ _ _ _ _ T2 (mkF m 8 #[.val (.int p0), .val (.ref o1)] [])
  refine Go.ret X2 hlk (v := none) (fun _ => rfl) (fun fs hr => X2.returnOut hx hret (hb hby d26_8) hr) ?_ (by decide) (by decide)
  show Q26 Z p0 o1 kb vs dv h0 n0 (none) T2.heap _
  rw [e2]
  exact ⟨rfl, N2, rfl⟩
theorem d24_0 : decode jdk_52_method_5_code 0 = .ok (.getstatic 44, 3) := by decide +kernel
theorem d24_3 : decode jdk_52_method_5_code 3 = .ok (.ifCond .ne 25, 3) := by decide +kernel
theorem d24_28 : decode jdk_52_method_5_code 28 = .ok (.iload_n 1, 1) := by decide +kernel
theorem d24_29 : decode jdk_52_method_5_code 29 = .ok (.iconst 1, 1) := by decide +kernel
theorem d24_30 : decode jdk_52_method_5_code 30 = .ok (.ishl, 1) := by decide +kernel
theorem d24_31 : decode jdk_52_method_5_code 31 = .ok (.istore_n 1, 1) := by decide +kernel
theorem d24_32 : decode jdk_52_method_5_code 32 = .ok (.aload_n 0, 1) := by decide +kernel
theorem d24_33 : decode jdk_52_method_5_code 33 = .ok (.iload_n 1, 1) := by decide +kernel
theorem d24_34 : decode jdk_52_method_5_code 34 = .ok (.iinc 1 1, 3) := by decide +kernel
theorem d24_37 : decode jdk_52_method_5_code 37 = .ok (.baload, 1) := by decide +kernel
theorem d24_38 : decode jdk_52_method_5_code 38 = .ok (.sipush 255, 3) := by decide +kernel
theorem d24_41 : decode jdk_52_method_5_code 41 = .ok (.iand, 1) := by decide +kernel
theorem d24_42 : decode jdk_52_method_5_code 42 = .ok (.getstatic 59, 3) := by decide +kernel
theorem d24_45 : decode jdk_52_method_5_code 45 = .ok (.ishl, 1) := by decide +kernel
theorem d24_46 : decode jdk_52_method_5_code 46 = .ok (.aload_n 0, 1) := by decide +kernel
theorem d24_47 : decode jdk_52_method_5_code 47 = .ok (.iload_n 1, 1) := by decide +kernel
theorem d24_48 : decode jdk_52_method_5_code 48 = .ok (.baload, 1) := by decide +kernel
theorem d24_49 : decode jdk_52_method_5_code 49 = .ok (.sipush 255, 3) := by decide +kernel
theorem d24_52 : decode jdk_52_method_5_code 52 = .ok (.iand, 1) := by decide +kernel
theorem d24_53 : decode jdk_52_method_5_code 53 = .ok (.getstatic 63, 3) := by decide +kernel
theorem d24_56 : decode jdk_52_method_5_code 56 = .ok (.ishl, 1) := by decide +kernel
theorem d24_57 : decode jdk_52_method_5_code 57 = .ok (.ior, 1) := by decide +kernel
theorem d24_58 : decode jdk_52_method_5_code 58 = .ok (.i2c, 1) := by decide +kernel
theorem d24_59 : decode jdk_52_method_5_code 59 = .ok (.ireturn, 1) := by decide +kernel
def val_24 (o0 : Addr) (p1 : Int32) (kb : ClassId) (y0 : Int32) (y1 : Int32) (y2 : Int32) (y3 : Int32) (y4 : Int32) (y5 : Int32) (y6 : Int32) (y7 : Int32) (y8 : Int32) (y9 : Int32) (y10 : Int32) (y11 : Int32) : Int32 := (if p1 = (0 : Int32) then (nar .char ((((y0 &&& (255 : Int32)) <<< ((0 : Int32) &&& 31)) ||| ((y1 &&& (255 : Int32)) <<< ((8 : Int32) &&& 31))).toUInt32.toUInt16.toUInt32.toInt32)) else (if p1 = (1 : Int32) then (nar .char ((((y2 &&& (255 : Int32)) <<< ((0 : Int32) &&& 31)) ||| ((y3 &&& (255 : Int32)) <<< ((8 : Int32) &&& 31))).toUInt32.toUInt16.toUInt32.toInt32)) else (if p1 = (2 : Int32) then (nar .char ((((y4 &&& (255 : Int32)) <<< ((0 : Int32) &&& 31)) ||| ((y5 &&& (255 : Int32)) <<< ((8 : Int32) &&& 31))).toUInt32.toUInt16.toUInt32.toInt32)) else (if p1 = (3 : Int32) then (nar .char ((((y6 &&& (255 : Int32)) <<< ((0 : Int32) &&& 31)) ||| ((y7 &&& (255 : Int32)) <<< ((8 : Int32) &&& 31))).toUInt32.toUInt16.toUInt32.toInt32)) else (if p1 = (4 : Int32) then (nar .char ((((y8 &&& (255 : Int32)) <<< ((0 : Int32) &&& 31)) ||| ((y9 &&& (255 : Int32)) <<< ((8 : Int32) &&& 31))).toUInt32.toUInt16.toUInt32.toInt32)) else (nar .char ((((y10 &&& (255 : Int32)) <<< ((0 : Int32) &&& 31)) ||| ((y11 &&& (255 : Int32)) <<< ((8 : Int32) &&& 31))).toUInt32.toUInt16.toUInt32.toInt32)))))))
theorem ef_24 (m : MethodId) (o0 : Addr) (p1 : Int32) : entryFrame m #[(.ref o0), (.int p1)] 2 = mkF m 0 #[.val (.ref o0), .val (.int p1)] [] := by first | (simp [entryFrame, mkF, argsToLocals, Value.category]; done) | rfl
def Q24 (Z : State) (o0 : Addr) (p1 : Int32) (kb : ClassId) (y0 : Int32) (y1 : Int32) (y2 : Int32) (y3 : Int32) (y4 : Int32) (y5 : Int32) (y6 : Int32) (y7 : Int32) (y8 : Int32) (y9 : Int32) (y10 : Int32) (y11 : Int32) (h0 : Heap) (n0 : Nat) (v : Option Value) (h : Heap) (L : List Loc) : Prop := v = some (.int (val_24 o0 p1 kb y0 y1 y2 y3 y4 y5 y6 y7 y8 y9 y10 y11)) ∧ Fr n0 L ∧ h = h0
set_option maxRecDepth 65536 in
set_option maxHeartbeats 40000000 in
theorem rm24 (l : Launch) (Z : State) (a0 : Array Value) (hw : ∀ d ∈ tables_1, d.before a0 Z = true) (ws : List Jvm.Cond) (o0 : Addr) (p1 : Int32) (kb : ClassId) (y0 : Int32) (y1 : Int32) (y2 : Int32) (y3 : Int32) (y4 : Int32) (y5 : Int32) (y6 : Int32) (y7 : Int32) (y8 : Int32) (y9 : Int32) (y10 : Int32) (y11 : Int32) (h0 : Heap) (n0 : Nat) (Z0 : n0 ≤ h0.size) (V_o0 : Arv Z h0 o0 kb .byte (12 : Int32) [(.int y0), (.int y1), (.int y2), (.int y3), (.int y4), (.int y5), (.int y6), (.int y7), (.int y8), (.int y9), (.int y10), (.int y11)] (.int (0 : Int32))) (S_AD : Sta Z h0 "java/lang/StringUTF16" "$assertionsDisabled" "Z" (.int (1 : Int32))) (S_HI : Sta Z h0 "java/lang/StringUTF16" "HI_BYTE_SHIFT" "I" (.int (0 : Int32))) (S_LO : Sta Z h0 "java/lang/StringUTF16" "LO_BYTE_SHIFT" "I" (.int (8 : Int32))) (V_p1 : p1 = 0 ∨ p1 = 1 ∨ p1 = 2 ∨ p1 = 3 ∨ p1 = 4 ∨ p1 = 5) :
    MetFree l (⟨"java/lang/StringUTF16", "getChar", "([BI)C"⟩ : MethodName) (head1 (Jvm.Cond.code (⟨"java/lang/StringUTF16", "getChar", "([BI)C"⟩ : MethodName) jdk_52_method_5_code 2 (some .char) :: ws) ({ frames := 0, cells := 0, slots := 0, locals := 0 } : Room)) (fun a U => a = #[(.ref o0), (.int p1)] ∧ Z.Warmed39 U.vm ∧ U.heap = h0) (fun _ _ _ _ _ => True) (fun _ U o U' => ∃ v L, o = .returned v ∧ Q24 Z o0 p1 kb y0 y1 y2 y3 y4 y5 y6 y7 y8 y9 y10 y11 h0 n0 v U'.heap L ∧ FrameEnd U o U' L ({ frames := 0, cells := 0, slots := 0, locals := 0 } : Room).cells ({ frames := 0, cells := 0, slots := 0, locals := 0 } : Room).slots) := by
  refine MetFree.of_bodySF (plainFor_of_name pn_java_lang_StringUTF16) hisR ?_
  intro p e s m args below meth c s₁ Bd hml0 hP hK
  obtain ⟨rfl, hZ, hh⟩ := hP
  have hx := Bd.exec
  have hby := Bd.bytes
  have hlk : meth.locks = false := BodyLoose.notSynchronized Bd
  have hret := Bd.returns
  have hml : c.maxLocals = 2 := hml0
  have hown : s.vm.findClass "java/lang/StringUTF16" = some m.cls := findClass_of_methodNamed Bd.named
  have hnm := (name_of_methodNamed Bd.named Bd.method).1
  have X0 : Stand p l e ({ frames := 0, cells := 0, slots := 0, locals := 0 } : Room) s m #[(.ref o0), (.int p1)] below meth c s₁ [] 0 0 := Stand.of_body Bd
  have e0 : s₁.heap = h0 := by rw [← hh, Bd.state]; rfl
  have N0 := Fr.nil n0
  refine Go.start (Q := Q24 Z o0 p1 kb y0 y1 y2 y3 y4 y5 y6 y7 y8 y9 y10 y11 h0 n0) (ef_24 m o0 p1) ?_
  rcases id V_p1 with hv1 | hv1 | hv1 | hv1 | hv1 | hv1
  · show Go _ _ _ _ _ _ _ s₁ (mkF m 0 #[.val (.ref o0), .val (.int p1)] [])
    refine Go.fr (f' := (mkF m 0 #[.val (.ref o0), .val (.int (0 : Int32))] [])) (by rw [hv1]) ?_
    show Go _ _ _ _ _ _ _ s₁ (mkF m 0 #[.val (.ref o0), .val (.int (0 : Int32))] [])
    obtain ⟨T2, X2, e2, st2⟩ := getS2 X0 hx hZ hown (host := "") (Or.inl (hw _ (List.mem_of_getElem? (i := 114) rfl))) Via.refl e0 S_AD (g := (mkF m 0 #[.val (.ref o0), .val (.int (0 : Int32))] [])) rfl (hb hby d24_0)
    refine Go.st st2 ?_
    show Go _ _ _ _ _ _ _ T2 (mkF m 3 #[.val (.ref o0), .val (.int (0 : Int32))] [(.int (1 : Int32))])
    refine Go.st (fun _ k => XS.ifYes X2.here hx rfl (pc0 := 3) (pc' := 28) rfl (hb hby d24_3) rfl ((if0 _ _).trans (feq (by decide : ¬ ((1 : Int32) = (0 : Int32)))).2) (by decide) (by decide) k) ?_
    show Go _ _ _ _ _ _ _ T2 (mkF m 28 #[.val (.ref o0), .val (.int (0 : Int32))] [])
    refine Go.st (fun _ k => XS.iloadN X2.here hx rfl (hb hby d24_28) rfl k) ?_
    show Go _ _ _ _ _ _ _ T2 (mkF m 29 #[.val (.ref o0), .val (.int (0 : Int32))] [(.int (0 : Int32))])
    refine Go.st (fun _ k => XS.iconst X2.here hx rfl (hb hby d24_29) k) ?_
    show Go _ _ _ _ _ _ _ T2 (mkF m 30 #[.val (.ref o0), .val (.int (0 : Int32))] [(.int (1 : Int32)), (.int (0 : Int32))])
    refine Go.st (fun _ k => XS.ishl X2.here hx rfl (hb hby d24_30) rfl k) ?_
    show Go _ _ _ _ _ _ _ T2 (mkF m 31 #[.val (.ref o0), .val (.int (0 : Int32))] [(.int ((0 : Int32) <<< ((1 : Int32) &&& 31)))])
    refine Go.fr (f' := (mkF m 31 #[.val (.ref o0), .val (.int (0 : Int32))] [(.int (0 : Int32))])) (by rw [show ((0 : Int32) <<< ((1 : Int32) &&& 31)) = (0 : Int32) from by decide +kernel]) ?_
    show Go _ _ _ _ _ _ _ T2 (mkF m 31 #[.val (.ref o0), .val (.int (0 : Int32))] [(.int (0 : Int32))])
    refine Go.st (fun _ k => XS.istoreN X2.here hx rfl (hb hby d24_31) rfl (l' := #[.val (.ref o0), .val (.int (0 : Int32))]) rfl k) ?_
    show Go _ _ _ _ _ _ _ T2 (mkF m 32 #[.val (.ref o0), .val (.int (0 : Int32))] [])
    refine Go.st (fun _ k => XS.aloadN X2.here hx rfl (hb hby d24_32) rfl rfl k) ?_
    show Go _ _ _ _ _ _ _ T2 (mkF m 33 #[.val (.ref o0), .val (.int (0 : Int32))] [(.ref o0)])
    refine Go.st (fun _ k => XS.iloadN X2.here hx rfl (hb hby d24_33) rfl k) ?_
    show Go _ _ _ _ _ _ _ T2 (mkF m 34 #[.val (.ref o0), .val (.int (0 : Int32))] [(.int (0 : Int32)), (.ref o0)])
    refine Go.st (fun _ k => XS.iinc X2.here hx rfl (hb hby d24_34) rfl (l' := #[.val (.ref o0), .val (.int ((0 : Int32) + (1 : Int32)))]) rfl k) ?_
    show Go _ _ _ _ _ _ _ T2 (mkF m 37 #[.val (.ref o0), .val (.int ((0 : Int32) + (1 : Int32)))] [(.int (0 : Int32)), (.ref o0)])
    refine Go.fr (f' := (mkF m 37 #[.val (.ref o0), .val (.int (1 : Int32))] [(.int (0 : Int32)), (.ref o0)])) (by rw [show ((0 : Int32) + (1 : Int32)) = (1 : Int32) from by decide +kernel]) ?_
    show Go _ _ _ _ _ _ _ T2 (mkF m 37 #[.val (.ref o0), .val (.int (1 : Int32))] [(.int (0 : Int32)), (.ref o0)])
    obtain ⟨cl3, Ar3, qq3, SS3, NN3, HH3, GG3⟩ := id V_o0
    have hin4 : ¬ ((0 : Int32) < 0 ∨ cl3.slots.size ≤ ((0 : Int32)).toNatClampNeg) := inb_of SS3 ⟨by decide, by decide⟩
    refine Go.st (fun _ k => X2.baloadBytes hx (j := (0 : Int32)) (v := (.int y0)) (by rw [e2]; exact Ar3.1) (State.isArrayOf_alike hZ.alike Ar3.2.1) Ar3.2.2 hin4 (HH3.at hin4 rfl) (g := (mkF m 37 #[.val (.ref o0), .val (.int (1 : Int32))] [(.int (0 : Int32)), (.ref o0)])) rfl rfl (hb hby d24_37) _ k) ?_
    show Go _ _ _ _ _ _ _ T2 (mkF m 38 #[.val (.ref o0), .val (.int (1 : Int32))] [(.int y0)])
    refine Go.st (fun _ k => XS.sipush X2.here hx rfl (hb hby d24_38) k) ?_
    show Go _ _ _ _ _ _ _ T2 (mkF m 41 #[.val (.ref o0), .val (.int (1 : Int32))] [(.int (255 : Int32)), (.int y0)])
    refine Go.st (fun _ k => XS.iand X2.here hx rfl (hb hby d24_41) rfl k) ?_
    show Go _ _ _ _ _ _ _ T2 (mkF m 42 #[.val (.ref o0), .val (.int (1 : Int32))] [(.int (y0 &&& (255 : Int32)))])
    obtain ⟨T5, X5, e5, st5⟩ := getS2 X2 hx hZ hown (host := "") (Or.inl (hw _ (List.mem_of_getElem? (i := 115) rfl))) Via.refl e2 S_HI (g := (mkF m 42 #[.val (.ref o0), .val (.int (1 : Int32))] [(.int (y0 &&& (255 : Int32)))])) rfl (hb hby d24_42)
    refine Go.st st5 ?_
    show Go _ _ _ _ _ _ _ T5 (mkF m 45 #[.val (.ref o0), .val (.int (1 : Int32))] [(.int (0 : Int32)), (.int (y0 &&& (255 : Int32)))])
    refine Go.st (fun _ k => XS.ishl X5.here hx rfl (hb hby d24_45) rfl k) ?_
    show Go _ _ _ _ _ _ _ T5 (mkF m 46 #[.val (.ref o0), .val (.int (1 : Int32))] [(.int ((y0 &&& (255 : Int32)) <<< ((0 : Int32) &&& 31)))])
    refine Go.st (fun _ k => XS.aloadN X5.here hx rfl (hb hby d24_46) rfl rfl k) ?_
    show Go _ _ _ _ _ _ _ T5 (mkF m 47 #[.val (.ref o0), .val (.int (1 : Int32))] [(.ref o0), (.int ((y0 &&& (255 : Int32)) <<< ((0 : Int32) &&& 31)))])
    refine Go.st (fun _ k => XS.iloadN X5.here hx rfl (hb hby d24_47) rfl k) ?_
    show Go _ _ _ _ _ _ _ T5 (mkF m 48 #[.val (.ref o0), .val (.int (1 : Int32))] [(.int (1 : Int32)), (.ref o0), (.int ((y0 &&& (255 : Int32)) <<< ((0 : Int32) &&& 31)))])
    obtain ⟨cl6, Ar6, qq6, SS6, NN6, HH6, GG6⟩ := id V_o0
    have hin7 : ¬ ((1 : Int32) < 0 ∨ cl6.slots.size ≤ ((1 : Int32)).toNatClampNeg) := inb_of SS6 ⟨by decide, by decide⟩
    refine Go.st (fun _ k => X5.baloadBytes hx (j := (1 : Int32)) (v := (.int y1)) (by rw [e5]; exact Ar6.1) (State.isArrayOf_alike hZ.alike Ar6.2.1) Ar6.2.2 hin7 (HH6.at hin7 rfl) (g := (mkF m 48 #[.val (.ref o0), .val (.int (1 : Int32))] [(.int (1 : Int32)), (.ref o0), (.int ((y0 &&& (255 : Int32)) <<< ((0 : Int32) &&& 31)))])) rfl rfl (hb hby d24_48) _ k) ?_
    show Go _ _ _ _ _ _ _ T5 (mkF m 49 #[.val (.ref o0), .val (.int (1 : Int32))] [(.int y1), (.int ((y0 &&& (255 : Int32)) <<< ((0 : Int32) &&& 31)))])
    refine Go.st (fun _ k => XS.sipush X5.here hx rfl (hb hby d24_49) k) ?_
    show Go _ _ _ _ _ _ _ T5 (mkF m 52 #[.val (.ref o0), .val (.int (1 : Int32))] [(.int (255 : Int32)), (.int y1), (.int ((y0 &&& (255 : Int32)) <<< ((0 : Int32) &&& 31)))])
    refine Go.st (fun _ k => XS.iand X5.here hx rfl (hb hby d24_52) rfl k) ?_
    show Go _ _ _ _ _ _ _ T5 (mkF m 53 #[.val (.ref o0), .val (.int (1 : Int32))] [(.int (y1 &&& (255 : Int32))), (.int ((y0 &&& (255 : Int32)) <<< ((0 : Int32) &&& 31)))])
    obtain ⟨T8, X8, e8, st8⟩ := getS2 X5 hx hZ hown (host := "") (Or.inl (hw _ (List.mem_of_getElem? (i := 116) rfl))) Via.refl e5 S_LO (g := (mkF m 53 #[.val (.ref o0), .val (.int (1 : Int32))] [(.int (y1 &&& (255 : Int32))), (.int ((y0 &&& (255 : Int32)) <<< ((0 : Int32) &&& 31)))])) rfl (hb hby d24_53)
    refine Go.st st8 ?_
    show Go _ _ _ _ _ _ _ T8 (mkF m 56 #[.val (.ref o0), .val (.int (1 : Int32))] [(.int (8 : Int32)), (.int (y1 &&& (255 : Int32))), (.int ((y0 &&& (255 : Int32)) <<< ((0 : Int32) &&& 31)))])
    refine Go.st (fun _ k => XS.ishl X8.here hx rfl (hb hby d24_56) rfl k) ?_
    show Go _ _ _ _ _ _ _ T8 (mkF m 57 #[.val (.ref o0), .val (.int (1 : Int32))] [(.int ((y1 &&& (255 : Int32)) <<< ((8 : Int32) &&& 31))), (.int ((y0 &&& (255 : Int32)) <<< ((0 : Int32) &&& 31)))])
    refine Go.st (fun _ k => XS.ior X8.here hx rfl (hb hby d24_57) rfl k) ?_
    show Go _ _ _ _ _ _ _ T8 (mkF m 58 #[.val (.ref o0), .val (.int (1 : Int32))] [(.int (((y0 &&& (255 : Int32)) <<< ((0 : Int32) &&& 31)) ||| ((y1 &&& (255 : Int32)) <<< ((8 : Int32) &&& 31))))])
    refine Go.st (fun _ k => XS.i2c X8.here hx rfl (hb hby d24_58) rfl k) ?_
    show Go _ _ _ _ _ _ _ T8 (mkF m 59 #[.val (.ref o0), .val (.int (1 : Int32))] [(.int ((((y0 &&& (255 : Int32)) <<< ((0 : Int32) &&& 31)) ||| ((y1 &&& (255 : Int32)) <<< ((8 : Int32) &&& 31))).toUInt32.toUInt16.toUInt32.toInt32))])
    refine Go.ret X8 hlk (v := some (.int (nar .char ((((y0 &&& (255 : Int32)) <<< ((0 : Int32) &&& 31)) ||| ((y1 &&& (255 : Int32)) <<< ((8 : Int32) &&& 31))).toUInt32.toUInt16.toUInt32.toInt32)))) (fun h => by rw [hret] at h; cases h) (fun fs hr => retN X8 hx (t := .char) hret (by simp) (hb hby d24_59) hr) ?_ (by decide) (by decide)
    show Q24 Z o0 p1 kb y0 y1 y2 y3 y4 y5 y6 y7 y8 y9 y10 y11 h0 n0 (some (.int (nar .char ((((y0 &&& (255 : Int32)) <<< ((0 : Int32) &&& 31)) ||| ((y1 &&& (255 : Int32)) <<< ((8 : Int32) &&& 31))).toUInt32.toUInt16.toUInt32.toInt32)))) T8.heap _
    rw [e8]
    refine ⟨?_, N0, rfl⟩
    unfold val_24
    rw [if_pos hv1]
  · show Go _ _ _ _ _ _ _ s₁ (mkF m 0 #[.val (.ref o0), .val (.int p1)] [])
    refine Go.fr (f' := (mkF m 0 #[.val (.ref o0), .val (.int (1 : Int32))] [])) (by rw [hv1]) ?_
    show Go _ _ _ _ _ _ _ s₁ (mkF m 0 #[.val (.ref o0), .val (.int (1 : Int32))] [])
    obtain ⟨T9, X9, e9, st9⟩ := getS2 X0 hx hZ hown (host := "") (Or.inl (hw _ (List.mem_of_getElem? (i := 114) rfl))) Via.refl e0 S_AD (g := (mkF m 0 #[.val (.ref o0), .val (.int (1 : Int32))] [])) rfl (hb hby d24_0)
    refine Go.st st9 ?_
    show Go _ _ _ _ _ _ _ T9 (mkF m 3 #[.val (.ref o0), .val (.int (1 : Int32))] [(.int (1 : Int32))])
    refine Go.st (fun _ k => XS.ifYes X9.here hx rfl (pc0 := 3) (pc' := 28) rfl (hb hby d24_3) rfl ((if0 _ _).trans (feq (by decide : ¬ ((1 : Int32) = (0 : Int32)))).2) (by decide) (by decide) k) ?_
    show Go _ _ _ _ _ _ _ T9 (mkF m 28 #[.val (.ref o0), .val (.int (1 : Int32))] [])
    refine Go.st (fun _ k => XS.iloadN X9.here hx rfl (hb hby d24_28) rfl k) ?_
    show Go _ _ _ _ _ _ _ T9 (mkF m 29 #[.val (.ref o0), .val (.int (1 : Int32))] [(.int (1 : Int32))])
    refine Go.st (fun _ k => XS.iconst X9.here hx rfl (hb hby d24_29) k) ?_
    show Go _ _ _ _ _ _ _ T9 (mkF m 30 #[.val (.ref o0), .val (.int (1 : Int32))] [(.int (1 : Int32)), (.int (1 : Int32))])
    refine Go.st (fun _ k => XS.ishl X9.here hx rfl (hb hby d24_30) rfl k) ?_
    show Go _ _ _ _ _ _ _ T9 (mkF m 31 #[.val (.ref o0), .val (.int (1 : Int32))] [(.int ((1 : Int32) <<< ((1 : Int32) &&& 31)))])
    refine Go.fr (f' := (mkF m 31 #[.val (.ref o0), .val (.int (1 : Int32))] [(.int (2 : Int32))])) (by rw [show ((1 : Int32) <<< ((1 : Int32) &&& 31)) = (2 : Int32) from by decide +kernel]) ?_
    show Go _ _ _ _ _ _ _ T9 (mkF m 31 #[.val (.ref o0), .val (.int (1 : Int32))] [(.int (2 : Int32))])
    refine Go.st (fun _ k => XS.istoreN X9.here hx rfl (hb hby d24_31) rfl (l' := #[.val (.ref o0), .val (.int (2 : Int32))]) rfl k) ?_
    show Go _ _ _ _ _ _ _ T9 (mkF m 32 #[.val (.ref o0), .val (.int (2 : Int32))] [])
    refine Go.st (fun _ k => XS.aloadN X9.here hx rfl (hb hby d24_32) rfl rfl k) ?_
    show Go _ _ _ _ _ _ _ T9 (mkF m 33 #[.val (.ref o0), .val (.int (2 : Int32))] [(.ref o0)])
    refine Go.st (fun _ k => XS.iloadN X9.here hx rfl (hb hby d24_33) rfl k) ?_
    show Go _ _ _ _ _ _ _ T9 (mkF m 34 #[.val (.ref o0), .val (.int (2 : Int32))] [(.int (2 : Int32)), (.ref o0)])
    refine Go.st (fun _ k => XS.iinc X9.here hx rfl (hb hby d24_34) rfl (l' := #[.val (.ref o0), .val (.int ((2 : Int32) + (1 : Int32)))]) rfl k) ?_
    show Go _ _ _ _ _ _ _ T9 (mkF m 37 #[.val (.ref o0), .val (.int ((2 : Int32) + (1 : Int32)))] [(.int (2 : Int32)), (.ref o0)])
    refine Go.fr (f' := (mkF m 37 #[.val (.ref o0), .val (.int (3 : Int32))] [(.int (2 : Int32)), (.ref o0)])) (by rw [show ((2 : Int32) + (1 : Int32)) = (3 : Int32) from by decide +kernel]) ?_
    show Go _ _ _ _ _ _ _ T9 (mkF m 37 #[.val (.ref o0), .val (.int (3 : Int32))] [(.int (2 : Int32)), (.ref o0)])
    obtain ⟨cl10, Ar10, qq10, SS10, NN10, HH10, GG10⟩ := id V_o0
    have hin11 : ¬ ((2 : Int32) < 0 ∨ cl10.slots.size ≤ ((2 : Int32)).toNatClampNeg) := inb_of SS10 ⟨by decide, by decide⟩
    refine Go.st (fun _ k => X9.baloadBytes hx (j := (2 : Int32)) (v := (.int y2)) (by rw [e9]; exact Ar10.1) (State.isArrayOf_alike hZ.alike Ar10.2.1) Ar10.2.2 hin11 (HH10.at hin11 rfl) (g := (mkF m 37 #[.val (.ref o0), .val (.int (3 : Int32))] [(.int (2 : Int32)), (.ref o0)])) rfl rfl (hb hby d24_37) _ k) ?_
    show Go _ _ _ _ _ _ _ T9 (mkF m 38 #[.val (.ref o0), .val (.int (3 : Int32))] [(.int y2)])
    refine Go.st (fun _ k => XS.sipush X9.here hx rfl (hb hby d24_38) k) ?_
    show Go _ _ _ _ _ _ _ T9 (mkF m 41 #[.val (.ref o0), .val (.int (3 : Int32))] [(.int (255 : Int32)), (.int y2)])
    refine Go.st (fun _ k => XS.iand X9.here hx rfl (hb hby d24_41) rfl k) ?_
    show Go _ _ _ _ _ _ _ T9 (mkF m 42 #[.val (.ref o0), .val (.int (3 : Int32))] [(.int (y2 &&& (255 : Int32)))])
    obtain ⟨T12, X12, e12, st12⟩ := getS2 X9 hx hZ hown (host := "") (Or.inl (hw _ (List.mem_of_getElem? (i := 115) rfl))) Via.refl e9 S_HI (g := (mkF m 42 #[.val (.ref o0), .val (.int (3 : Int32))] [(.int (y2 &&& (255 : Int32)))])) rfl (hb hby d24_42)
    refine Go.st st12 ?_
    show Go _ _ _ _ _ _ _ T12 (mkF m 45 #[.val (.ref o0), .val (.int (3 : Int32))] [(.int (0 : Int32)), (.int (y2 &&& (255 : Int32)))])
    refine Go.st (fun _ k => XS.ishl X12.here hx rfl (hb hby d24_45) rfl k) ?_
    show Go _ _ _ _ _ _ _ T12 (mkF m 46 #[.val (.ref o0), .val (.int (3 : Int32))] [(.int ((y2 &&& (255 : Int32)) <<< ((0 : Int32) &&& 31)))])
    refine Go.st (fun _ k => XS.aloadN X12.here hx rfl (hb hby d24_46) rfl rfl k) ?_
    show Go _ _ _ _ _ _ _ T12 (mkF m 47 #[.val (.ref o0), .val (.int (3 : Int32))] [(.ref o0), (.int ((y2 &&& (255 : Int32)) <<< ((0 : Int32) &&& 31)))])
    refine Go.st (fun _ k => XS.iloadN X12.here hx rfl (hb hby d24_47) rfl k) ?_
    show Go _ _ _ _ _ _ _ T12 (mkF m 48 #[.val (.ref o0), .val (.int (3 : Int32))] [(.int (3 : Int32)), (.ref o0), (.int ((y2 &&& (255 : Int32)) <<< ((0 : Int32) &&& 31)))])
    obtain ⟨cl13, Ar13, qq13, SS13, NN13, HH13, GG13⟩ := id V_o0
    have hin14 : ¬ ((3 : Int32) < 0 ∨ cl13.slots.size ≤ ((3 : Int32)).toNatClampNeg) := inb_of SS13 ⟨by decide, by decide⟩
    refine Go.st (fun _ k => X12.baloadBytes hx (j := (3 : Int32)) (v := (.int y3)) (by rw [e12]; exact Ar13.1) (State.isArrayOf_alike hZ.alike Ar13.2.1) Ar13.2.2 hin14 (HH13.at hin14 rfl) (g := (mkF m 48 #[.val (.ref o0), .val (.int (3 : Int32))] [(.int (3 : Int32)), (.ref o0), (.int ((y2 &&& (255 : Int32)) <<< ((0 : Int32) &&& 31)))])) rfl rfl (hb hby d24_48) _ k) ?_
    show Go _ _ _ _ _ _ _ T12 (mkF m 49 #[.val (.ref o0), .val (.int (3 : Int32))] [(.int y3), (.int ((y2 &&& (255 : Int32)) <<< ((0 : Int32) &&& 31)))])
    refine Go.st (fun _ k => XS.sipush X12.here hx rfl (hb hby d24_49) k) ?_
    show Go _ _ _ _ _ _ _ T12 (mkF m 52 #[.val (.ref o0), .val (.int (3 : Int32))] [(.int (255 : Int32)), (.int y3), (.int ((y2 &&& (255 : Int32)) <<< ((0 : Int32) &&& 31)))])
    refine Go.st (fun _ k => XS.iand X12.here hx rfl (hb hby d24_52) rfl k) ?_
    show Go _ _ _ _ _ _ _ T12 (mkF m 53 #[.val (.ref o0), .val (.int (3 : Int32))] [(.int (y3 &&& (255 : Int32))), (.int ((y2 &&& (255 : Int32)) <<< ((0 : Int32) &&& 31)))])
    obtain ⟨T15, X15, e15, st15⟩ := getS2 X12 hx hZ hown (host := "") (Or.inl (hw _ (List.mem_of_getElem? (i := 116) rfl))) Via.refl e12 S_LO (g := (mkF m 53 #[.val (.ref o0), .val (.int (3 : Int32))] [(.int (y3 &&& (255 : Int32))), (.int ((y2 &&& (255 : Int32)) <<< ((0 : Int32) &&& 31)))])) rfl (hb hby d24_53)
    refine Go.st st15 ?_
    show Go _ _ _ _ _ _ _ T15 (mkF m 56 #[.val (.ref o0), .val (.int (3 : Int32))] [(.int (8 : Int32)), (.int (y3 &&& (255 : Int32))), (.int ((y2 &&& (255 : Int32)) <<< ((0 : Int32) &&& 31)))])
    refine Go.st (fun _ k => XS.ishl X15.here hx rfl (hb hby d24_56) rfl k) ?_
    show Go _ _ _ _ _ _ _ T15 (mkF m 57 #[.val (.ref o0), .val (.int (3 : Int32))] [(.int ((y3 &&& (255 : Int32)) <<< ((8 : Int32) &&& 31))), (.int ((y2 &&& (255 : Int32)) <<< ((0 : Int32) &&& 31)))])
    refine Go.st (fun _ k => XS.ior X15.here hx rfl (hb hby d24_57) rfl k) ?_
    show Go _ _ _ _ _ _ _ T15 (mkF m 58 #[.val (.ref o0), .val (.int (3 : Int32))] [(.int (((y2 &&& (255 : Int32)) <<< ((0 : Int32) &&& 31)) ||| ((y3 &&& (255 : Int32)) <<< ((8 : Int32) &&& 31))))])
    refine Go.st (fun _ k => XS.i2c X15.here hx rfl (hb hby d24_58) rfl k) ?_
    show Go _ _ _ _ _ _ _ T15 (mkF m 59 #[.val (.ref o0), .val (.int (3 : Int32))] [(.int ((((y2 &&& (255 : Int32)) <<< ((0 : Int32) &&& 31)) ||| ((y3 &&& (255 : Int32)) <<< ((8 : Int32) &&& 31))).toUInt32.toUInt16.toUInt32.toInt32))])
    refine Go.ret X15 hlk (v := some (.int (nar .char ((((y2 &&& (255 : Int32)) <<< ((0 : Int32) &&& 31)) ||| ((y3 &&& (255 : Int32)) <<< ((8 : Int32) &&& 31))).toUInt32.toUInt16.toUInt32.toInt32)))) (fun h => by rw [hret] at h; cases h) (fun fs hr => retN X15 hx (t := .char) hret (by simp) (hb hby d24_59) hr) ?_ (by decide) (by decide)
    show Q24 Z o0 p1 kb y0 y1 y2 y3 y4 y5 y6 y7 y8 y9 y10 y11 h0 n0 (some (.int (nar .char ((((y2 &&& (255 : Int32)) <<< ((0 : Int32) &&& 31)) ||| ((y3 &&& (255 : Int32)) <<< ((8 : Int32) &&& 31))).toUInt32.toUInt16.toUInt32.toInt32)))) T15.heap _
    rw [e15]
    refine ⟨?_, N0, rfl⟩
    unfold val_24
    rw [if_neg (by rw [hv1]; decide : ¬ (p1 = (0 : Int32))), if_pos hv1]
  · show Go _ _ _ _ _ _ _ s₁ (mkF m 0 #[.val (.ref o0), .val (.int p1)] [])
    refine Go.fr (f' := (mkF m 0 #[.val (.ref o0), .val (.int (2 : Int32))] [])) (by rw [hv1]) ?_
    show Go _ _ _ _ _ _ _ s₁ (mkF m 0 #[.val (.ref o0), .val (.int (2 : Int32))] [])
    obtain ⟨T16, X16, e16, st16⟩ := getS2 X0 hx hZ hown (host := "") (Or.inl (hw _ (List.mem_of_getElem? (i := 114) rfl))) Via.refl e0 S_AD (g := (mkF m 0 #[.val (.ref o0), .val (.int (2 : Int32))] [])) rfl (hb hby d24_0)
    refine Go.st st16 ?_
    show Go _ _ _ _ _ _ _ T16 (mkF m 3 #[.val (.ref o0), .val (.int (2 : Int32))] [(.int (1 : Int32))])
    refine Go.st (fun _ k => XS.ifYes X16.here hx rfl (pc0 := 3) (pc' := 28) rfl (hb hby d24_3) rfl ((if0 _ _).trans (feq (by decide : ¬ ((1 : Int32) = (0 : Int32)))).2) (by decide) (by decide) k) ?_
    show Go _ _ _ _ _ _ _ T16 (mkF m 28 #[.val (.ref o0), .val (.int (2 : Int32))] [])
    refine Go.st (fun _ k => XS.iloadN X16.here hx rfl (hb hby d24_28) rfl k) ?_
    show Go _ _ _ _ _ _ _ T16 (mkF m 29 #[.val (.ref o0), .val (.int (2 : Int32))] [(.int (2 : Int32))])
    refine Go.st (fun _ k => XS.iconst X16.here hx rfl (hb hby d24_29) k) ?_
    show Go _ _ _ _ _ _ _ T16 (mkF m 30 #[.val (.ref o0), .val (.int (2 : Int32))] [(.int (1 : Int32)), (.int (2 : Int32))])
    refine Go.st (fun _ k => XS.ishl X16.here hx rfl (hb hby d24_30) rfl k) ?_
    show Go _ _ _ _ _ _ _ T16 (mkF m 31 #[.val (.ref o0), .val (.int (2 : Int32))] [(.int ((2 : Int32) <<< ((1 : Int32) &&& 31)))])
    refine Go.fr (f' := (mkF m 31 #[.val (.ref o0), .val (.int (2 : Int32))] [(.int (4 : Int32))])) (by rw [show ((2 : Int32) <<< ((1 : Int32) &&& 31)) = (4 : Int32) from by decide +kernel]) ?_
    show Go _ _ _ _ _ _ _ T16 (mkF m 31 #[.val (.ref o0), .val (.int (2 : Int32))] [(.int (4 : Int32))])
    refine Go.st (fun _ k => XS.istoreN X16.here hx rfl (hb hby d24_31) rfl (l' := #[.val (.ref o0), .val (.int (4 : Int32))]) rfl k) ?_
    show Go _ _ _ _ _ _ _ T16 (mkF m 32 #[.val (.ref o0), .val (.int (4 : Int32))] [])
    refine Go.st (fun _ k => XS.aloadN X16.here hx rfl (hb hby d24_32) rfl rfl k) ?_
    show Go _ _ _ _ _ _ _ T16 (mkF m 33 #[.val (.ref o0), .val (.int (4 : Int32))] [(.ref o0)])
    refine Go.st (fun _ k => XS.iloadN X16.here hx rfl (hb hby d24_33) rfl k) ?_
    show Go _ _ _ _ _ _ _ T16 (mkF m 34 #[.val (.ref o0), .val (.int (4 : Int32))] [(.int (4 : Int32)), (.ref o0)])
    refine Go.st (fun _ k => XS.iinc X16.here hx rfl (hb hby d24_34) rfl (l' := #[.val (.ref o0), .val (.int ((4 : Int32) + (1 : Int32)))]) rfl k) ?_
    show Go _ _ _ _ _ _ _ T16 (mkF m 37 #[.val (.ref o0), .val (.int ((4 : Int32) + (1 : Int32)))] [(.int (4 : Int32)), (.ref o0)])
    refine Go.fr (f' := (mkF m 37 #[.val (.ref o0), .val (.int (5 : Int32))] [(.int (4 : Int32)), (.ref o0)])) (by rw [show ((4 : Int32) + (1 : Int32)) = (5 : Int32) from by decide +kernel]) ?_
    show Go _ _ _ _ _ _ _ T16 (mkF m 37 #[.val (.ref o0), .val (.int (5 : Int32))] [(.int (4 : Int32)), (.ref o0)])
    obtain ⟨cl17, Ar17, qq17, SS17, NN17, HH17, GG17⟩ := id V_o0
    have hin18 : ¬ ((4 : Int32) < 0 ∨ cl17.slots.size ≤ ((4 : Int32)).toNatClampNeg) := inb_of SS17 ⟨by decide, by decide⟩
    refine Go.st (fun _ k => X16.baloadBytes hx (j := (4 : Int32)) (v := (.int y4)) (by rw [e16]; exact Ar17.1) (State.isArrayOf_alike hZ.alike Ar17.2.1) Ar17.2.2 hin18 (HH17.at hin18 rfl) (g := (mkF m 37 #[.val (.ref o0), .val (.int (5 : Int32))] [(.int (4 : Int32)), (.ref o0)])) rfl rfl (hb hby d24_37) _ k) ?_
    show Go _ _ _ _ _ _ _ T16 (mkF m 38 #[.val (.ref o0), .val (.int (5 : Int32))] [(.int y4)])
    refine Go.st (fun _ k => XS.sipush X16.here hx rfl (hb hby d24_38) k) ?_
    show Go _ _ _ _ _ _ _ T16 (mkF m 41 #[.val (.ref o0), .val (.int (5 : Int32))] [(.int (255 : Int32)), (.int y4)])
    refine Go.st (fun _ k => XS.iand X16.here hx rfl (hb hby d24_41) rfl k) ?_
    show Go _ _ _ _ _ _ _ T16 (mkF m 42 #[.val (.ref o0), .val (.int (5 : Int32))] [(.int (y4 &&& (255 : Int32)))])
    obtain ⟨T19, X19, e19, st19⟩ := getS2 X16 hx hZ hown (host := "") (Or.inl (hw _ (List.mem_of_getElem? (i := 115) rfl))) Via.refl e16 S_HI (g := (mkF m 42 #[.val (.ref o0), .val (.int (5 : Int32))] [(.int (y4 &&& (255 : Int32)))])) rfl (hb hby d24_42)
    refine Go.st st19 ?_
    show Go _ _ _ _ _ _ _ T19 (mkF m 45 #[.val (.ref o0), .val (.int (5 : Int32))] [(.int (0 : Int32)), (.int (y4 &&& (255 : Int32)))])
    refine Go.st (fun _ k => XS.ishl X19.here hx rfl (hb hby d24_45) rfl k) ?_
    show Go _ _ _ _ _ _ _ T19 (mkF m 46 #[.val (.ref o0), .val (.int (5 : Int32))] [(.int ((y4 &&& (255 : Int32)) <<< ((0 : Int32) &&& 31)))])
    refine Go.st (fun _ k => XS.aloadN X19.here hx rfl (hb hby d24_46) rfl rfl k) ?_
    show Go _ _ _ _ _ _ _ T19 (mkF m 47 #[.val (.ref o0), .val (.int (5 : Int32))] [(.ref o0), (.int ((y4 &&& (255 : Int32)) <<< ((0 : Int32) &&& 31)))])
    refine Go.st (fun _ k => XS.iloadN X19.here hx rfl (hb hby d24_47) rfl k) ?_
    show Go _ _ _ _ _ _ _ T19 (mkF m 48 #[.val (.ref o0), .val (.int (5 : Int32))] [(.int (5 : Int32)), (.ref o0), (.int ((y4 &&& (255 : Int32)) <<< ((0 : Int32) &&& 31)))])
    obtain ⟨cl20, Ar20, qq20, SS20, NN20, HH20, GG20⟩ := id V_o0
    have hin21 : ¬ ((5 : Int32) < 0 ∨ cl20.slots.size ≤ ((5 : Int32)).toNatClampNeg) := inb_of SS20 ⟨by decide, by decide⟩
    refine Go.st (fun _ k => X19.baloadBytes hx (j := (5 : Int32)) (v := (.int y5)) (by rw [e19]; exact Ar20.1) (State.isArrayOf_alike hZ.alike Ar20.2.1) Ar20.2.2 hin21 (HH20.at hin21 rfl) (g := (mkF m 48 #[.val (.ref o0), .val (.int (5 : Int32))] [(.int (5 : Int32)), (.ref o0), (.int ((y4 &&& (255 : Int32)) <<< ((0 : Int32) &&& 31)))])) rfl rfl (hb hby d24_48) _ k) ?_
    show Go _ _ _ _ _ _ _ T19 (mkF m 49 #[.val (.ref o0), .val (.int (5 : Int32))] [(.int y5), (.int ((y4 &&& (255 : Int32)) <<< ((0 : Int32) &&& 31)))])
    refine Go.st (fun _ k => XS.sipush X19.here hx rfl (hb hby d24_49) k) ?_
    show Go _ _ _ _ _ _ _ T19 (mkF m 52 #[.val (.ref o0), .val (.int (5 : Int32))] [(.int (255 : Int32)), (.int y5), (.int ((y4 &&& (255 : Int32)) <<< ((0 : Int32) &&& 31)))])
    refine Go.st (fun _ k => XS.iand X19.here hx rfl (hb hby d24_52) rfl k) ?_
    show Go _ _ _ _ _ _ _ T19 (mkF m 53 #[.val (.ref o0), .val (.int (5 : Int32))] [(.int (y5 &&& (255 : Int32))), (.int ((y4 &&& (255 : Int32)) <<< ((0 : Int32) &&& 31)))])
    obtain ⟨T22, X22, e22, st22⟩ := getS2 X19 hx hZ hown (host := "") (Or.inl (hw _ (List.mem_of_getElem? (i := 116) rfl))) Via.refl e19 S_LO (g := (mkF m 53 #[.val (.ref o0), .val (.int (5 : Int32))] [(.int (y5 &&& (255 : Int32))), (.int ((y4 &&& (255 : Int32)) <<< ((0 : Int32) &&& 31)))])) rfl (hb hby d24_53)
    refine Go.st st22 ?_
    show Go _ _ _ _ _ _ _ T22 (mkF m 56 #[.val (.ref o0), .val (.int (5 : Int32))] [(.int (8 : Int32)), (.int (y5 &&& (255 : Int32))), (.int ((y4 &&& (255 : Int32)) <<< ((0 : Int32) &&& 31)))])
    refine Go.st (fun _ k => XS.ishl X22.here hx rfl (hb hby d24_56) rfl k) ?_
    show Go _ _ _ _ _ _ _ T22 (mkF m 57 #[.val (.ref o0), .val (.int (5 : Int32))] [(.int ((y5 &&& (255 : Int32)) <<< ((8 : Int32) &&& 31))), (.int ((y4 &&& (255 : Int32)) <<< ((0 : Int32) &&& 31)))])
    refine Go.st (fun _ k => XS.ior X22.here hx rfl (hb hby d24_57) rfl k) ?_
    show Go _ _ _ _ _ _ _ T22 (mkF m 58 #[.val (.ref o0), .val (.int (5 : Int32))] [(.int (((y4 &&& (255 : Int32)) <<< ((0 : Int32) &&& 31)) ||| ((y5 &&& (255 : Int32)) <<< ((8 : Int32) &&& 31))))])
    refine Go.st (fun _ k => XS.i2c X22.here hx rfl (hb hby d24_58) rfl k) ?_
    show Go _ _ _ _ _ _ _ T22 (mkF m 59 #[.val (.ref o0), .val (.int (5 : Int32))] [(.int ((((y4 &&& (255 : Int32)) <<< ((0 : Int32) &&& 31)) ||| ((y5 &&& (255 : Int32)) <<< ((8 : Int32) &&& 31))).toUInt32.toUInt16.toUInt32.toInt32))])
    refine Go.ret X22 hlk (v := some (.int (nar .char ((((y4 &&& (255 : Int32)) <<< ((0 : Int32) &&& 31)) ||| ((y5 &&& (255 : Int32)) <<< ((8 : Int32) &&& 31))).toUInt32.toUInt16.toUInt32.toInt32)))) (fun h => by rw [hret] at h; cases h) (fun fs hr => retN X22 hx (t := .char) hret (by simp) (hb hby d24_59) hr) ?_ (by decide) (by decide)
    show Q24 Z o0 p1 kb y0 y1 y2 y3 y4 y5 y6 y7 y8 y9 y10 y11 h0 n0 (some (.int (nar .char ((((y4 &&& (255 : Int32)) <<< ((0 : Int32) &&& 31)) ||| ((y5 &&& (255 : Int32)) <<< ((8 : Int32) &&& 31))).toUInt32.toUInt16.toUInt32.toInt32)))) T22.heap _
    rw [e22]
    refine ⟨?_, N0, rfl⟩
    unfold val_24
    rw [if_neg (by rw [hv1]; decide : ¬ (p1 = (0 : Int32))), if_neg (by rw [hv1]; decide : ¬ (p1 = (1 : Int32))), if_pos hv1]
  · show Go _ _ _ _ _ _ _ s₁ (mkF m 0 #[.val (.ref o0), .val (.int p1)] [])
    refine Go.fr (f' := (mkF m 0 #[.val (.ref o0), .val (.int (3 : Int32))] [])) (by rw [hv1]) ?_
    show Go _ _ _ _ _ _ _ s₁ (mkF m 0 #[.val (.ref o0), .val (.int (3 : Int32))] [])
    obtain ⟨T23, X23, e23, st23⟩ := getS2 X0 hx hZ hown (host := "") (Or.inl (hw _ (List.mem_of_getElem? (i := 114) rfl))) Via.refl e0 S_AD (g := (mkF m 0 #[.val (.ref o0), .val (.int (3 : Int32))] [])) rfl (hb hby d24_0)
    refine Go.st st23 ?_
    show Go _ _ _ _ _ _ _ T23 (mkF m 3 #[.val (.ref o0), .val (.int (3 : Int32))] [(.int (1 : Int32))])
    refine Go.st (fun _ k => XS.ifYes X23.here hx rfl (pc0 := 3) (pc' := 28) rfl (hb hby d24_3) rfl ((if0 _ _).trans (feq (by decide : ¬ ((1 : Int32) = (0 : Int32)))).2) (by decide) (by decide) k) ?_
    show Go _ _ _ _ _ _ _ T23 (mkF m 28 #[.val (.ref o0), .val (.int (3 : Int32))] [])
    refine Go.st (fun _ k => XS.iloadN X23.here hx rfl (hb hby d24_28) rfl k) ?_
    show Go _ _ _ _ _ _ _ T23 (mkF m 29 #[.val (.ref o0), .val (.int (3 : Int32))] [(.int (3 : Int32))])
    refine Go.st (fun _ k => XS.iconst X23.here hx rfl (hb hby d24_29) k) ?_
    show Go _ _ _ _ _ _ _ T23 (mkF m 30 #[.val (.ref o0), .val (.int (3 : Int32))] [(.int (1 : Int32)), (.int (3 : Int32))])
    refine Go.st (fun _ k => XS.ishl X23.here hx rfl (hb hby d24_30) rfl k) ?_
    show Go _ _ _ _ _ _ _ T23 (mkF m 31 #[.val (.ref o0), .val (.int (3 : Int32))] [(.int ((3 : Int32) <<< ((1 : Int32) &&& 31)))])
    refine Go.fr (f' := (mkF m 31 #[.val (.ref o0), .val (.int (3 : Int32))] [(.int (6 : Int32))])) (by rw [show ((3 : Int32) <<< ((1 : Int32) &&& 31)) = (6 : Int32) from by decide +kernel]) ?_
    show Go _ _ _ _ _ _ _ T23 (mkF m 31 #[.val (.ref o0), .val (.int (3 : Int32))] [(.int (6 : Int32))])
    refine Go.st (fun _ k => XS.istoreN X23.here hx rfl (hb hby d24_31) rfl (l' := #[.val (.ref o0), .val (.int (6 : Int32))]) rfl k) ?_
    show Go _ _ _ _ _ _ _ T23 (mkF m 32 #[.val (.ref o0), .val (.int (6 : Int32))] [])
    refine Go.st (fun _ k => XS.aloadN X23.here hx rfl (hb hby d24_32) rfl rfl k) ?_
    show Go _ _ _ _ _ _ _ T23 (mkF m 33 #[.val (.ref o0), .val (.int (6 : Int32))] [(.ref o0)])
    refine Go.st (fun _ k => XS.iloadN X23.here hx rfl (hb hby d24_33) rfl k) ?_
    show Go _ _ _ _ _ _ _ T23 (mkF m 34 #[.val (.ref o0), .val (.int (6 : Int32))] [(.int (6 : Int32)), (.ref o0)])
    refine Go.st (fun _ k => XS.iinc X23.here hx rfl (hb hby d24_34) rfl (l' := #[.val (.ref o0), .val (.int ((6 : Int32) + (1 : Int32)))]) rfl k) ?_
    show Go _ _ _ _ _ _ _ T23 (mkF m 37 #[.val (.ref o0), .val (.int ((6 : Int32) + (1 : Int32)))] [(.int (6 : Int32)), (.ref o0)])
    refine Go.fr (f' := (mkF m 37 #[.val (.ref o0), .val (.int (7 : Int32))] [(.int (6 : Int32)), (.ref o0)])) (by rw [show ((6 : Int32) + (1 : Int32)) = (7 : Int32) from by decide +kernel]) ?_
    show Go _ _ _ _ _ _ _ T23 (mkF m 37 #[.val (.ref o0), .val (.int (7 : Int32))] [(.int (6 : Int32)), (.ref o0)])
    obtain ⟨cl24, Ar24, qq24, SS24, NN24, HH24, GG24⟩ := id V_o0
    have hin25 : ¬ ((6 : Int32) < 0 ∨ cl24.slots.size ≤ ((6 : Int32)).toNatClampNeg) := inb_of SS24 ⟨by decide, by decide⟩
    refine Go.st (fun _ k => X23.baloadBytes hx (j := (6 : Int32)) (v := (.int y6)) (by rw [e23]; exact Ar24.1) (State.isArrayOf_alike hZ.alike Ar24.2.1) Ar24.2.2 hin25 (HH24.at hin25 rfl) (g := (mkF m 37 #[.val (.ref o0), .val (.int (7 : Int32))] [(.int (6 : Int32)), (.ref o0)])) rfl rfl (hb hby d24_37) _ k) ?_
    show Go _ _ _ _ _ _ _ T23 (mkF m 38 #[.val (.ref o0), .val (.int (7 : Int32))] [(.int y6)])
    refine Go.st (fun _ k => XS.sipush X23.here hx rfl (hb hby d24_38) k) ?_
    show Go _ _ _ _ _ _ _ T23 (mkF m 41 #[.val (.ref o0), .val (.int (7 : Int32))] [(.int (255 : Int32)), (.int y6)])
    refine Go.st (fun _ k => XS.iand X23.here hx rfl (hb hby d24_41) rfl k) ?_
    show Go _ _ _ _ _ _ _ T23 (mkF m 42 #[.val (.ref o0), .val (.int (7 : Int32))] [(.int (y6 &&& (255 : Int32)))])
    obtain ⟨T26, X26, e26, st26⟩ := getS2 X23 hx hZ hown (host := "") (Or.inl (hw _ (List.mem_of_getElem? (i := 115) rfl))) Via.refl e23 S_HI (g := (mkF m 42 #[.val (.ref o0), .val (.int (7 : Int32))] [(.int (y6 &&& (255 : Int32)))])) rfl (hb hby d24_42)
    refine Go.st st26 ?_
    show Go _ _ _ _ _ _ _ T26 (mkF m 45 #[.val (.ref o0), .val (.int (7 : Int32))] [(.int (0 : Int32)), (.int (y6 &&& (255 : Int32)))])
    refine Go.st (fun _ k => XS.ishl X26.here hx rfl (hb hby d24_45) rfl k) ?_
    show Go _ _ _ _ _ _ _ T26 (mkF m 46 #[.val (.ref o0), .val (.int (7 : Int32))] [(.int ((y6 &&& (255 : Int32)) <<< ((0 : Int32) &&& 31)))])
    refine Go.st (fun _ k => XS.aloadN X26.here hx rfl (hb hby d24_46) rfl rfl k) ?_
    show Go _ _ _ _ _ _ _ T26 (mkF m 47 #[.val (.ref o0), .val (.int (7 : Int32))] [(.ref o0), (.int ((y6 &&& (255 : Int32)) <<< ((0 : Int32) &&& 31)))])
    refine Go.st (fun _ k => XS.iloadN X26.here hx rfl (hb hby d24_47) rfl k) ?_
    show Go _ _ _ _ _ _ _ T26 (mkF m 48 #[.val (.ref o0), .val (.int (7 : Int32))] [(.int (7 : Int32)), (.ref o0), (.int ((y6 &&& (255 : Int32)) <<< ((0 : Int32) &&& 31)))])
    obtain ⟨cl27, Ar27, qq27, SS27, NN27, HH27, GG27⟩ := id V_o0
    have hin28 : ¬ ((7 : Int32) < 0 ∨ cl27.slots.size ≤ ((7 : Int32)).toNatClampNeg) := inb_of SS27 ⟨by decide, by decide⟩
    refine Go.st (fun _ k => X26.baloadBytes hx (j := (7 : Int32)) (v := (.int y7)) (by rw [e26]; exact Ar27.1) (State.isArrayOf_alike hZ.alike Ar27.2.1) Ar27.2.2 hin28 (HH27.at hin28 rfl) (g := (mkF m 48 #[.val (.ref o0), .val (.int (7 : Int32))] [(.int (7 : Int32)), (.ref o0), (.int ((y6 &&& (255 : Int32)) <<< ((0 : Int32) &&& 31)))])) rfl rfl (hb hby d24_48) _ k) ?_
    show Go _ _ _ _ _ _ _ T26 (mkF m 49 #[.val (.ref o0), .val (.int (7 : Int32))] [(.int y7), (.int ((y6 &&& (255 : Int32)) <<< ((0 : Int32) &&& 31)))])
    refine Go.st (fun _ k => XS.sipush X26.here hx rfl (hb hby d24_49) k) ?_
    show Go _ _ _ _ _ _ _ T26 (mkF m 52 #[.val (.ref o0), .val (.int (7 : Int32))] [(.int (255 : Int32)), (.int y7), (.int ((y6 &&& (255 : Int32)) <<< ((0 : Int32) &&& 31)))])
    refine Go.st (fun _ k => XS.iand X26.here hx rfl (hb hby d24_52) rfl k) ?_
    show Go _ _ _ _ _ _ _ T26 (mkF m 53 #[.val (.ref o0), .val (.int (7 : Int32))] [(.int (y7 &&& (255 : Int32))), (.int ((y6 &&& (255 : Int32)) <<< ((0 : Int32) &&& 31)))])
    obtain ⟨T29, X29, e29, st29⟩ := getS2 X26 hx hZ hown (host := "") (Or.inl (hw _ (List.mem_of_getElem? (i := 116) rfl))) Via.refl e26 S_LO (g := (mkF m 53 #[.val (.ref o0), .val (.int (7 : Int32))] [(.int (y7 &&& (255 : Int32))), (.int ((y6 &&& (255 : Int32)) <<< ((0 : Int32) &&& 31)))])) rfl (hb hby d24_53)
    refine Go.st st29 ?_
    show Go _ _ _ _ _ _ _ T29 (mkF m 56 #[.val (.ref o0), .val (.int (7 : Int32))] [(.int (8 : Int32)), (.int (y7 &&& (255 : Int32))), (.int ((y6 &&& (255 : Int32)) <<< ((0 : Int32) &&& 31)))])
    refine Go.st (fun _ k => XS.ishl X29.here hx rfl (hb hby d24_56) rfl k) ?_
    show Go _ _ _ _ _ _ _ T29 (mkF m 57 #[.val (.ref o0), .val (.int (7 : Int32))] [(.int ((y7 &&& (255 : Int32)) <<< ((8 : Int32) &&& 31))), (.int ((y6 &&& (255 : Int32)) <<< ((0 : Int32) &&& 31)))])
    refine Go.st (fun _ k => XS.ior X29.here hx rfl (hb hby d24_57) rfl k) ?_
    show Go _ _ _ _ _ _ _ T29 (mkF m 58 #[.val (.ref o0), .val (.int (7 : Int32))] [(.int (((y6 &&& (255 : Int32)) <<< ((0 : Int32) &&& 31)) ||| ((y7 &&& (255 : Int32)) <<< ((8 : Int32) &&& 31))))])
    refine Go.st (fun _ k => XS.i2c X29.here hx rfl (hb hby d24_58) rfl k) ?_
    show Go _ _ _ _ _ _ _ T29 (mkF m 59 #[.val (.ref o0), .val (.int (7 : Int32))] [(.int ((((y6 &&& (255 : Int32)) <<< ((0 : Int32) &&& 31)) ||| ((y7 &&& (255 : Int32)) <<< ((8 : Int32) &&& 31))).toUInt32.toUInt16.toUInt32.toInt32))])
    refine Go.ret X29 hlk (v := some (.int (nar .char ((((y6 &&& (255 : Int32)) <<< ((0 : Int32) &&& 31)) ||| ((y7 &&& (255 : Int32)) <<< ((8 : Int32) &&& 31))).toUInt32.toUInt16.toUInt32.toInt32)))) (fun h => by rw [hret] at h; cases h) (fun fs hr => retN X29 hx (t := .char) hret (by simp) (hb hby d24_59) hr) ?_ (by decide) (by decide)
    show Q24 Z o0 p1 kb y0 y1 y2 y3 y4 y5 y6 y7 y8 y9 y10 y11 h0 n0 (some (.int (nar .char ((((y6 &&& (255 : Int32)) <<< ((0 : Int32) &&& 31)) ||| ((y7 &&& (255 : Int32)) <<< ((8 : Int32) &&& 31))).toUInt32.toUInt16.toUInt32.toInt32)))) T29.heap _
    rw [e29]
    refine ⟨?_, N0, rfl⟩
    unfold val_24
    rw [if_neg (by rw [hv1]; decide : ¬ (p1 = (0 : Int32))), if_neg (by rw [hv1]; decide : ¬ (p1 = (1 : Int32))), if_neg (by rw [hv1]; decide : ¬ (p1 = (2 : Int32))), if_pos hv1]
  · show Go _ _ _ _ _ _ _ s₁ (mkF m 0 #[.val (.ref o0), .val (.int p1)] [])
    refine Go.fr (f' := (mkF m 0 #[.val (.ref o0), .val (.int (4 : Int32))] [])) (by rw [hv1]) ?_
    show Go _ _ _ _ _ _ _ s₁ (mkF m 0 #[.val (.ref o0), .val (.int (4 : Int32))] [])
    obtain ⟨T30, X30, e30, st30⟩ := getS2 X0 hx hZ hown (host := "") (Or.inl (hw _ (List.mem_of_getElem? (i := 114) rfl))) Via.refl e0 S_AD (g := (mkF m 0 #[.val (.ref o0), .val (.int (4 : Int32))] [])) rfl (hb hby d24_0)
    refine Go.st st30 ?_
    show Go _ _ _ _ _ _ _ T30 (mkF m 3 #[.val (.ref o0), .val (.int (4 : Int32))] [(.int (1 : Int32))])
    refine Go.st (fun _ k => XS.ifYes X30.here hx rfl (pc0 := 3) (pc' := 28) rfl (hb hby d24_3) rfl ((if0 _ _).trans (feq (by decide : ¬ ((1 : Int32) = (0 : Int32)))).2) (by decide) (by decide) k) ?_
    show Go _ _ _ _ _ _ _ T30 (mkF m 28 #[.val (.ref o0), .val (.int (4 : Int32))] [])
    refine Go.st (fun _ k => XS.iloadN X30.here hx rfl (hb hby d24_28) rfl k) ?_
    show Go _ _ _ _ _ _ _ T30 (mkF m 29 #[.val (.ref o0), .val (.int (4 : Int32))] [(.int (4 : Int32))])
    refine Go.st (fun _ k => XS.iconst X30.here hx rfl (hb hby d24_29) k) ?_
    show Go _ _ _ _ _ _ _ T30 (mkF m 30 #[.val (.ref o0), .val (.int (4 : Int32))] [(.int (1 : Int32)), (.int (4 : Int32))])
    refine Go.st (fun _ k => XS.ishl X30.here hx rfl (hb hby d24_30) rfl k) ?_
    show Go _ _ _ _ _ _ _ T30 (mkF m 31 #[.val (.ref o0), .val (.int (4 : Int32))] [(.int ((4 : Int32) <<< ((1 : Int32) &&& 31)))])
    refine Go.fr (f' := (mkF m 31 #[.val (.ref o0), .val (.int (4 : Int32))] [(.int (8 : Int32))])) (by rw [show ((4 : Int32) <<< ((1 : Int32) &&& 31)) = (8 : Int32) from by decide +kernel]) ?_
    show Go _ _ _ _ _ _ _ T30 (mkF m 31 #[.val (.ref o0), .val (.int (4 : Int32))] [(.int (8 : Int32))])
    refine Go.st (fun _ k => XS.istoreN X30.here hx rfl (hb hby d24_31) rfl (l' := #[.val (.ref o0), .val (.int (8 : Int32))]) rfl k) ?_
    show Go _ _ _ _ _ _ _ T30 (mkF m 32 #[.val (.ref o0), .val (.int (8 : Int32))] [])
    refine Go.st (fun _ k => XS.aloadN X30.here hx rfl (hb hby d24_32) rfl rfl k) ?_
    show Go _ _ _ _ _ _ _ T30 (mkF m 33 #[.val (.ref o0), .val (.int (8 : Int32))] [(.ref o0)])
    refine Go.st (fun _ k => XS.iloadN X30.here hx rfl (hb hby d24_33) rfl k) ?_
    show Go _ _ _ _ _ _ _ T30 (mkF m 34 #[.val (.ref o0), .val (.int (8 : Int32))] [(.int (8 : Int32)), (.ref o0)])
    refine Go.st (fun _ k => XS.iinc X30.here hx rfl (hb hby d24_34) rfl (l' := #[.val (.ref o0), .val (.int ((8 : Int32) + (1 : Int32)))]) rfl k) ?_
    show Go _ _ _ _ _ _ _ T30 (mkF m 37 #[.val (.ref o0), .val (.int ((8 : Int32) + (1 : Int32)))] [(.int (8 : Int32)), (.ref o0)])
    refine Go.fr (f' := (mkF m 37 #[.val (.ref o0), .val (.int (9 : Int32))] [(.int (8 : Int32)), (.ref o0)])) (by rw [show ((8 : Int32) + (1 : Int32)) = (9 : Int32) from by decide +kernel]) ?_
    show Go _ _ _ _ _ _ _ T30 (mkF m 37 #[.val (.ref o0), .val (.int (9 : Int32))] [(.int (8 : Int32)), (.ref o0)])
    obtain ⟨cl31, Ar31, qq31, SS31, NN31, HH31, GG31⟩ := id V_o0
    have hin32 : ¬ ((8 : Int32) < 0 ∨ cl31.slots.size ≤ ((8 : Int32)).toNatClampNeg) := inb_of SS31 ⟨by decide, by decide⟩
    refine Go.st (fun _ k => X30.baloadBytes hx (j := (8 : Int32)) (v := (.int y8)) (by rw [e30]; exact Ar31.1) (State.isArrayOf_alike hZ.alike Ar31.2.1) Ar31.2.2 hin32 (HH31.at hin32 rfl) (g := (mkF m 37 #[.val (.ref o0), .val (.int (9 : Int32))] [(.int (8 : Int32)), (.ref o0)])) rfl rfl (hb hby d24_37) _ k) ?_
    show Go _ _ _ _ _ _ _ T30 (mkF m 38 #[.val (.ref o0), .val (.int (9 : Int32))] [(.int y8)])
    refine Go.st (fun _ k => XS.sipush X30.here hx rfl (hb hby d24_38) k) ?_
    show Go _ _ _ _ _ _ _ T30 (mkF m 41 #[.val (.ref o0), .val (.int (9 : Int32))] [(.int (255 : Int32)), (.int y8)])
    refine Go.st (fun _ k => XS.iand X30.here hx rfl (hb hby d24_41) rfl k) ?_
    show Go _ _ _ _ _ _ _ T30 (mkF m 42 #[.val (.ref o0), .val (.int (9 : Int32))] [(.int (y8 &&& (255 : Int32)))])
    obtain ⟨T33, X33, e33, st33⟩ := getS2 X30 hx hZ hown (host := "") (Or.inl (hw _ (List.mem_of_getElem? (i := 115) rfl))) Via.refl e30 S_HI (g := (mkF m 42 #[.val (.ref o0), .val (.int (9 : Int32))] [(.int (y8 &&& (255 : Int32)))])) rfl (hb hby d24_42)
    refine Go.st st33 ?_
    show Go _ _ _ _ _ _ _ T33 (mkF m 45 #[.val (.ref o0), .val (.int (9 : Int32))] [(.int (0 : Int32)), (.int (y8 &&& (255 : Int32)))])
    refine Go.st (fun _ k => XS.ishl X33.here hx rfl (hb hby d24_45) rfl k) ?_
    show Go _ _ _ _ _ _ _ T33 (mkF m 46 #[.val (.ref o0), .val (.int (9 : Int32))] [(.int ((y8 &&& (255 : Int32)) <<< ((0 : Int32) &&& 31)))])
    refine Go.st (fun _ k => XS.aloadN X33.here hx rfl (hb hby d24_46) rfl rfl k) ?_
    show Go _ _ _ _ _ _ _ T33 (mkF m 47 #[.val (.ref o0), .val (.int (9 : Int32))] [(.ref o0), (.int ((y8 &&& (255 : Int32)) <<< ((0 : Int32) &&& 31)))])
    refine Go.st (fun _ k => XS.iloadN X33.here hx rfl (hb hby d24_47) rfl k) ?_
    show Go _ _ _ _ _ _ _ T33 (mkF m 48 #[.val (.ref o0), .val (.int (9 : Int32))] [(.int (9 : Int32)), (.ref o0), (.int ((y8 &&& (255 : Int32)) <<< ((0 : Int32) &&& 31)))])
    obtain ⟨cl34, Ar34, qq34, SS34, NN34, HH34, GG34⟩ := id V_o0
    have hin35 : ¬ ((9 : Int32) < 0 ∨ cl34.slots.size ≤ ((9 : Int32)).toNatClampNeg) := inb_of SS34 ⟨by decide, by decide⟩
    refine Go.st (fun _ k => X33.baloadBytes hx (j := (9 : Int32)) (v := (.int y9)) (by rw [e33]; exact Ar34.1) (State.isArrayOf_alike hZ.alike Ar34.2.1) Ar34.2.2 hin35 (HH34.at hin35 rfl) (g := (mkF m 48 #[.val (.ref o0), .val (.int (9 : Int32))] [(.int (9 : Int32)), (.ref o0), (.int ((y8 &&& (255 : Int32)) <<< ((0 : Int32) &&& 31)))])) rfl rfl (hb hby d24_48) _ k) ?_
    show Go _ _ _ _ _ _ _ T33 (mkF m 49 #[.val (.ref o0), .val (.int (9 : Int32))] [(.int y9), (.int ((y8 &&& (255 : Int32)) <<< ((0 : Int32) &&& 31)))])
    refine Go.st (fun _ k => XS.sipush X33.here hx rfl (hb hby d24_49) k) ?_
    show Go _ _ _ _ _ _ _ T33 (mkF m 52 #[.val (.ref o0), .val (.int (9 : Int32))] [(.int (255 : Int32)), (.int y9), (.int ((y8 &&& (255 : Int32)) <<< ((0 : Int32) &&& 31)))])
    refine Go.st (fun _ k => XS.iand X33.here hx rfl (hb hby d24_52) rfl k) ?_
    show Go _ _ _ _ _ _ _ T33 (mkF m 53 #[.val (.ref o0), .val (.int (9 : Int32))] [(.int (y9 &&& (255 : Int32))), (.int ((y8 &&& (255 : Int32)) <<< ((0 : Int32) &&& 31)))])
    obtain ⟨T36, X36, e36, st36⟩ := getS2 X33 hx hZ hown (host := "") (Or.inl (hw _ (List.mem_of_getElem? (i := 116) rfl))) Via.refl e33 S_LO (g := (mkF m 53 #[.val (.ref o0), .val (.int (9 : Int32))] [(.int (y9 &&& (255 : Int32))), (.int ((y8 &&& (255 : Int32)) <<< ((0 : Int32) &&& 31)))])) rfl (hb hby d24_53)
    refine Go.st st36 ?_
    show Go _ _ _ _ _ _ _ T36 (mkF m 56 #[.val (.ref o0), .val (.int (9 : Int32))] [(.int (8 : Int32)), (.int (y9 &&& (255 : Int32))), (.int ((y8 &&& (255 : Int32)) <<< ((0 : Int32) &&& 31)))])
    refine Go.st (fun _ k => XS.ishl X36.here hx rfl (hb hby d24_56) rfl k) ?_
    show Go _ _ _ _ _ _ _ T36 (mkF m 57 #[.val (.ref o0), .val (.int (9 : Int32))] [(.int ((y9 &&& (255 : Int32)) <<< ((8 : Int32) &&& 31))), (.int ((y8 &&& (255 : Int32)) <<< ((0 : Int32) &&& 31)))])
    refine Go.st (fun _ k => XS.ior X36.here hx rfl (hb hby d24_57) rfl k) ?_
    show Go _ _ _ _ _ _ _ T36 (mkF m 58 #[.val (.ref o0), .val (.int (9 : Int32))] [(.int (((y8 &&& (255 : Int32)) <<< ((0 : Int32) &&& 31)) ||| ((y9 &&& (255 : Int32)) <<< ((8 : Int32) &&& 31))))])
    refine Go.st (fun _ k => XS.i2c X36.here hx rfl (hb hby d24_58) rfl k) ?_
    show Go _ _ _ _ _ _ _ T36 (mkF m 59 #[.val (.ref o0), .val (.int (9 : Int32))] [(.int ((((y8 &&& (255 : Int32)) <<< ((0 : Int32) &&& 31)) ||| ((y9 &&& (255 : Int32)) <<< ((8 : Int32) &&& 31))).toUInt32.toUInt16.toUInt32.toInt32))])
    refine Go.ret X36 hlk (v := some (.int (nar .char ((((y8 &&& (255 : Int32)) <<< ((0 : Int32) &&& 31)) ||| ((y9 &&& (255 : Int32)) <<< ((8 : Int32) &&& 31))).toUInt32.toUInt16.toUInt32.toInt32)))) (fun h => by rw [hret] at h; cases h) (fun fs hr => retN X36 hx (t := .char) hret (by simp) (hb hby d24_59) hr) ?_ (by decide) (by decide)
    show Q24 Z o0 p1 kb y0 y1 y2 y3 y4 y5 y6 y7 y8 y9 y10 y11 h0 n0 (some (.int (nar .char ((((y8 &&& (255 : Int32)) <<< ((0 : Int32) &&& 31)) ||| ((y9 &&& (255 : Int32)) <<< ((8 : Int32) &&& 31))).toUInt32.toUInt16.toUInt32.toInt32)))) T36.heap _
    rw [e36]
    refine ⟨?_, N0, rfl⟩
    unfold val_24
    rw [if_neg (by rw [hv1]; decide : ¬ (p1 = (0 : Int32))), if_neg (by rw [hv1]; decide : ¬ (p1 = (1 : Int32))), if_neg (by rw [hv1]; decide : ¬ (p1 = (2 : Int32))), if_neg (by rw [hv1]; decide : ¬ (p1 = (3 : Int32))), if_pos hv1]
  · show Go _ _ _ _ _ _ _ s₁ (mkF m 0 #[.val (.ref o0), .val (.int p1)] [])
    refine Go.fr (f' := (mkF m 0 #[.val (.ref o0), .val (.int (5 : Int32))] [])) (by rw [hv1]) ?_
    show Go _ _ _ _ _ _ _ s₁ (mkF m 0 #[.val (.ref o0), .val (.int (5 : Int32))] [])
    obtain ⟨T37, X37, e37, st37⟩ := getS2 X0 hx hZ hown (host := "") (Or.inl (hw _ (List.mem_of_getElem? (i := 114) rfl))) Via.refl e0 S_AD (g := (mkF m 0 #[.val (.ref o0), .val (.int (5 : Int32))] [])) rfl (hb hby d24_0)
    refine Go.st st37 ?_
    show Go _ _ _ _ _ _ _ T37 (mkF m 3 #[.val (.ref o0), .val (.int (5 : Int32))] [(.int (1 : Int32))])
    refine Go.st (fun _ k => XS.ifYes X37.here hx rfl (pc0 := 3) (pc' := 28) rfl (hb hby d24_3) rfl ((if0 _ _).trans (feq (by decide : ¬ ((1 : Int32) = (0 : Int32)))).2) (by decide) (by decide) k) ?_
    show Go _ _ _ _ _ _ _ T37 (mkF m 28 #[.val (.ref o0), .val (.int (5 : Int32))] [])
    refine Go.st (fun _ k => XS.iloadN X37.here hx rfl (hb hby d24_28) rfl k) ?_
    show Go _ _ _ _ _ _ _ T37 (mkF m 29 #[.val (.ref o0), .val (.int (5 : Int32))] [(.int (5 : Int32))])
    refine Go.st (fun _ k => XS.iconst X37.here hx rfl (hb hby d24_29) k) ?_
    show Go _ _ _ _ _ _ _ T37 (mkF m 30 #[.val (.ref o0), .val (.int (5 : Int32))] [(.int (1 : Int32)), (.int (5 : Int32))])
    refine Go.st (fun _ k => XS.ishl X37.here hx rfl (hb hby d24_30) rfl k) ?_
    show Go _ _ _ _ _ _ _ T37 (mkF m 31 #[.val (.ref o0), .val (.int (5 : Int32))] [(.int ((5 : Int32) <<< ((1 : Int32) &&& 31)))])
    refine Go.fr (f' := (mkF m 31 #[.val (.ref o0), .val (.int (5 : Int32))] [(.int (10 : Int32))])) (by rw [show ((5 : Int32) <<< ((1 : Int32) &&& 31)) = (10 : Int32) from by decide +kernel]) ?_
    show Go _ _ _ _ _ _ _ T37 (mkF m 31 #[.val (.ref o0), .val (.int (5 : Int32))] [(.int (10 : Int32))])
    refine Go.st (fun _ k => XS.istoreN X37.here hx rfl (hb hby d24_31) rfl (l' := #[.val (.ref o0), .val (.int (10 : Int32))]) rfl k) ?_
    show Go _ _ _ _ _ _ _ T37 (mkF m 32 #[.val (.ref o0), .val (.int (10 : Int32))] [])
    refine Go.st (fun _ k => XS.aloadN X37.here hx rfl (hb hby d24_32) rfl rfl k) ?_
    show Go _ _ _ _ _ _ _ T37 (mkF m 33 #[.val (.ref o0), .val (.int (10 : Int32))] [(.ref o0)])
    refine Go.st (fun _ k => XS.iloadN X37.here hx rfl (hb hby d24_33) rfl k) ?_
    show Go _ _ _ _ _ _ _ T37 (mkF m 34 #[.val (.ref o0), .val (.int (10 : Int32))] [(.int (10 : Int32)), (.ref o0)])
    refine Go.st (fun _ k => XS.iinc X37.here hx rfl (hb hby d24_34) rfl (l' := #[.val (.ref o0), .val (.int ((10 : Int32) + (1 : Int32)))]) rfl k) ?_
    show Go _ _ _ _ _ _ _ T37 (mkF m 37 #[.val (.ref o0), .val (.int ((10 : Int32) + (1 : Int32)))] [(.int (10 : Int32)), (.ref o0)])
    refine Go.fr (f' := (mkF m 37 #[.val (.ref o0), .val (.int (11 : Int32))] [(.int (10 : Int32)), (.ref o0)])) (by rw [show ((10 : Int32) + (1 : Int32)) = (11 : Int32) from by decide +kernel]) ?_
    show Go _ _ _ _ _ _ _ T37 (mkF m 37 #[.val (.ref o0), .val (.int (11 : Int32))] [(.int (10 : Int32)), (.ref o0)])
    obtain ⟨cl38, Ar38, qq38, SS38, NN38, HH38, GG38⟩ := id V_o0
    have hin39 : ¬ ((10 : Int32) < 0 ∨ cl38.slots.size ≤ ((10 : Int32)).toNatClampNeg) := inb_of SS38 ⟨by decide, by decide⟩
    refine Go.st (fun _ k => X37.baloadBytes hx (j := (10 : Int32)) (v := (.int y10)) (by rw [e37]; exact Ar38.1) (State.isArrayOf_alike hZ.alike Ar38.2.1) Ar38.2.2 hin39 (HH38.at hin39 rfl) (g := (mkF m 37 #[.val (.ref o0), .val (.int (11 : Int32))] [(.int (10 : Int32)), (.ref o0)])) rfl rfl (hb hby d24_37) _ k) ?_
    show Go _ _ _ _ _ _ _ T37 (mkF m 38 #[.val (.ref o0), .val (.int (11 : Int32))] [(.int y10)])
    refine Go.st (fun _ k => XS.sipush X37.here hx rfl (hb hby d24_38) k) ?_
    show Go _ _ _ _ _ _ _ T37 (mkF m 41 #[.val (.ref o0), .val (.int (11 : Int32))] [(.int (255 : Int32)), (.int y10)])
    refine Go.st (fun _ k => XS.iand X37.here hx rfl (hb hby d24_41) rfl k) ?_
    show Go _ _ _ _ _ _ _ T37 (mkF m 42 #[.val (.ref o0), .val (.int (11 : Int32))] [(.int (y10 &&& (255 : Int32)))])
    obtain ⟨T40, X40, e40, st40⟩ := getS2 X37 hx hZ hown (host := "") (Or.inl (hw _ (List.mem_of_getElem? (i := 115) rfl))) Via.refl e37 S_HI (g := (mkF m 42 #[.val (.ref o0), .val (.int (11 : Int32))] [(.int (y10 &&& (255 : Int32)))])) rfl (hb hby d24_42)
    refine Go.st st40 ?_
    show Go _ _ _ _ _ _ _ T40 (mkF m 45 #[.val (.ref o0), .val (.int (11 : Int32))] [(.int (0 : Int32)), (.int (y10 &&& (255 : Int32)))])
    refine Go.st (fun _ k => XS.ishl X40.here hx rfl (hb hby d24_45) rfl k) ?_
    show Go _ _ _ _ _ _ _ T40 (mkF m 46 #[.val (.ref o0), .val (.int (11 : Int32))] [(.int ((y10 &&& (255 : Int32)) <<< ((0 : Int32) &&& 31)))])
    refine Go.st (fun _ k => XS.aloadN X40.here hx rfl (hb hby d24_46) rfl rfl k) ?_
    show Go _ _ _ _ _ _ _ T40 (mkF m 47 #[.val (.ref o0), .val (.int (11 : Int32))] [(.ref o0), (.int ((y10 &&& (255 : Int32)) <<< ((0 : Int32) &&& 31)))])
    refine Go.st (fun _ k => XS.iloadN X40.here hx rfl (hb hby d24_47) rfl k) ?_
    show Go _ _ _ _ _ _ _ T40 (mkF m 48 #[.val (.ref o0), .val (.int (11 : Int32))] [(.int (11 : Int32)), (.ref o0), (.int ((y10 &&& (255 : Int32)) <<< ((0 : Int32) &&& 31)))])
    obtain ⟨cl41, Ar41, qq41, SS41, NN41, HH41, GG41⟩ := id V_o0
    have hin42 : ¬ ((11 : Int32) < 0 ∨ cl41.slots.size ≤ ((11 : Int32)).toNatClampNeg) := inb_of SS41 ⟨by decide, by decide⟩
    refine Go.st (fun _ k => X40.baloadBytes hx (j := (11 : Int32)) (v := (.int y11)) (by rw [e40]; exact Ar41.1) (State.isArrayOf_alike hZ.alike Ar41.2.1) Ar41.2.2 hin42 (HH41.at hin42 rfl) (g := (mkF m 48 #[.val (.ref o0), .val (.int (11 : Int32))] [(.int (11 : Int32)), (.ref o0), (.int ((y10 &&& (255 : Int32)) <<< ((0 : Int32) &&& 31)))])) rfl rfl (hb hby d24_48) _ k) ?_
    show Go _ _ _ _ _ _ _ T40 (mkF m 49 #[.val (.ref o0), .val (.int (11 : Int32))] [(.int y11), (.int ((y10 &&& (255 : Int32)) <<< ((0 : Int32) &&& 31)))])
    refine Go.st (fun _ k => XS.sipush X40.here hx rfl (hb hby d24_49) k) ?_
    show Go _ _ _ _ _ _ _ T40 (mkF m 52 #[.val (.ref o0), .val (.int (11 : Int32))] [(.int (255 : Int32)), (.int y11), (.int ((y10 &&& (255 : Int32)) <<< ((0 : Int32) &&& 31)))])
    refine Go.st (fun _ k => XS.iand X40.here hx rfl (hb hby d24_52) rfl k) ?_
    show Go _ _ _ _ _ _ _ T40 (mkF m 53 #[.val (.ref o0), .val (.int (11 : Int32))] [(.int (y11 &&& (255 : Int32))), (.int ((y10 &&& (255 : Int32)) <<< ((0 : Int32) &&& 31)))])
    obtain ⟨T43, X43, e43, st43⟩ := getS2 X40 hx hZ hown (host := "") (Or.inl (hw _ (List.mem_of_getElem? (i := 116) rfl))) Via.refl e40 S_LO (g := (mkF m 53 #[.val (.ref o0), .val (.int (11 : Int32))] [(.int (y11 &&& (255 : Int32))), (.int ((y10 &&& (255 : Int32)) <<< ((0 : Int32) &&& 31)))])) rfl (hb hby d24_53)
    refine Go.st st43 ?_
    show Go _ _ _ _ _ _ _ T43 (mkF m 56 #[.val (.ref o0), .val (.int (11 : Int32))] [(.int (8 : Int32)), (.int (y11 &&& (255 : Int32))), (.int ((y10 &&& (255 : Int32)) <<< ((0 : Int32) &&& 31)))])
    refine Go.st (fun _ k => XS.ishl X43.here hx rfl (hb hby d24_56) rfl k) ?_
    show Go _ _ _ _ _ _ _ T43 (mkF m 57 #[.val (.ref o0), .val (.int (11 : Int32))] [(.int ((y11 &&& (255 : Int32)) <<< ((8 : Int32) &&& 31))), (.int ((y10 &&& (255 : Int32)) <<< ((0 : Int32) &&& 31)))])
    refine Go.st (fun _ k => XS.ior X43.here hx rfl (hb hby d24_57) rfl k) ?_
    show Go _ _ _ _ _ _ _ T43 (mkF m 58 #[.val (.ref o0), .val (.int (11 : Int32))] [(.int (((y10 &&& (255 : Int32)) <<< ((0 : Int32) &&& 31)) ||| ((y11 &&& (255 : Int32)) <<< ((8 : Int32) &&& 31))))])
    refine Go.st (fun _ k => XS.i2c X43.here hx rfl (hb hby d24_58) rfl k) ?_
    show Go _ _ _ _ _ _ _ T43 (mkF m 59 #[.val (.ref o0), .val (.int (11 : Int32))] [(.int ((((y10 &&& (255 : Int32)) <<< ((0 : Int32) &&& 31)) ||| ((y11 &&& (255 : Int32)) <<< ((8 : Int32) &&& 31))).toUInt32.toUInt16.toUInt32.toInt32))])
    refine Go.ret X43 hlk (v := some (.int (nar .char ((((y10 &&& (255 : Int32)) <<< ((0 : Int32) &&& 31)) ||| ((y11 &&& (255 : Int32)) <<< ((8 : Int32) &&& 31))).toUInt32.toUInt16.toUInt32.toInt32)))) (fun h => by rw [hret] at h; cases h) (fun fs hr => retN X43 hx (t := .char) hret (by simp) (hb hby d24_59) hr) ?_ (by decide) (by decide)
    show Q24 Z o0 p1 kb y0 y1 y2 y3 y4 y5 y6 y7 y8 y9 y10 y11 h0 n0 (some (.int (nar .char ((((y10 &&& (255 : Int32)) <<< ((0 : Int32) &&& 31)) ||| ((y11 &&& (255 : Int32)) <<< ((8 : Int32) &&& 31))).toUInt32.toUInt16.toUInt32.toInt32)))) T43.heap _
    rw [e43]
    refine ⟨?_, N0, rfl⟩
    unfold val_24
    rw [if_neg (by rw [hv1]; decide : ¬ (p1 = (0 : Int32))), if_neg (by rw [hv1]; decide : ¬ (p1 = (1 : Int32))), if_neg (by rw [hv1]; decide : ¬ (p1 = (2 : Int32))), if_neg (by rw [hv1]; decide : ¬ (p1 = (3 : Int32))), if_neg (by rw [hv1]; decide : ¬ (p1 = (4 : Int32)))]
theorem own_gc {k0 k1 k2 k3 k4 k5 : Int32} (o : Addr) (p : Int32) (kb : ClassId) (V : p = 0 ∨ p = 1 ∨ p = 2 ∨ p = 3 ∨ p = 4 ∨ p = 5) (hW : Wide16 k0 k1 k2 k3 k4 k5) : val_24 o p kb ((k0 >>> ((0 : Int32) &&& 31)).toInt8.toInt32) ((k0 >>> ((8 : Int32) &&& 31)).toInt8.toInt32) ((k1 >>> ((0 : Int32) &&& 31)).toInt8.toInt32) ((k1 >>> ((8 : Int32) &&& 31)).toInt8.toInt32) ((k2 >>> ((0 : Int32) &&& 31)).toInt8.toInt32) ((k2 >>> ((8 : Int32) &&& 31)).toInt8.toInt32) ((k3 >>> ((0 : Int32) &&& 31)).toInt8.toInt32) ((k3 >>> ((8 : Int32) &&& 31)).toInt8.toInt32) ((k4 >>> ((0 : Int32) &&& 31)).toInt8.toInt32) ((k4 >>> ((8 : Int32) &&& 31)).toInt8.toInt32) ((k5 >>> ((0 : Int32) &&& 31)).toInt8.toInt32) ((k5 >>> ((8 : Int32) &&& 31)).toInt8.toInt32) = kF p k0 k1 k2 k3 k4 k5 := by
  obtain ⟨w0, w1, w2, w3, w4, w5⟩ := hW
  rcases V with rfl | rfl | rfl | rfl | rfl | rfl
  · exact own_utf w0.1 w0.2
  · exact own_utf w1.1 w1.2
  · exact own_utf w2.1 w2.2
  · exact own_utf w3.1 w3.2
  · exact own_utf w4.1 w4.2
  · exact own_utf w5.1 w5.2
theorem d25_0 : decode jdk_52_method_83_code 0 = .ok (.iload_n 1, 1) := by decide +kernel
theorem d25_1 : decode jdk_52_method_83_code 1 = .ok (.aload_n 0, 1) := by decide +kernel
theorem d25_2 : decode jdk_52_method_83_code 2 = .ok (.invokestatic 67, 3) := by decide +kernel
theorem d25_5 : decode jdk_52_method_83_code 5 = .ok (.aload_n 0, 1) := by decide +kernel
theorem d25_6 : decode jdk_52_method_83_code 6 = .ok (.iload_n 1, 1) := by decide +kernel
theorem d25_7 : decode jdk_52_method_83_code 7 = .ok (.invokestatic 71, 3) := by decide +kernel
theorem d25_10 : decode jdk_52_method_83_code 10 = .ok (.ireturn, 1) := by decide +kernel
theorem ef_25 (m : MethodId) (o0 : Addr) (p1 : Int32) : entryFrame m #[(.ref o0), (.int p1)] 2 = mkF m 0 #[.val (.ref o0), .val (.int p1)] [] := by first | (simp [entryFrame, mkF, argsToLocals, Value.category]; done) | rfl
def Q25 (Z : State) (o0 : Addr) (p1 : Int32) (kb : ClassId) (k0 : Int32) (k1 : Int32) (k2 : Int32) (k3 : Int32) (k4 : Int32) (k5 : Int32) (h0 : Heap) (n0 : Nat) (v : Option Value) (h : Heap) (L : List Loc) : Prop := v = some (.int (kF p1 k0 k1 k2 k3 k4 k5)) ∧ Fr n0 L ∧ h = h0
set_option maxRecDepth 65536 in
set_option maxHeartbeats 40000000 in
theorem rm25 (l : Launch) (Z : State) (a0 : Array Value) (hw : ∀ d ∈ tables_1, d.before a0 Z = true) (ws : List Jvm.Cond) (o0 : Addr) (p1 : Int32) (kb : ClassId) (k0 : Int32) (k1 : Int32) (k2 : Int32) (k3 : Int32) (k4 : Int32) (k5 : Int32) (h0 : Heap) (n0 : Nat) (Z0 : n0 ≤ h0.size) (V_o0 : Arv Z h0 o0 kb .byte (12 : Int32) [(.int ((k0 >>> ((0 : Int32) &&& 31)).toInt8.toInt32)), (.int ((k0 >>> ((8 : Int32) &&& 31)).toInt8.toInt32)), (.int ((k1 >>> ((0 : Int32) &&& 31)).toInt8.toInt32)), (.int ((k1 >>> ((8 : Int32) &&& 31)).toInt8.toInt32)), (.int ((k2 >>> ((0 : Int32) &&& 31)).toInt8.toInt32)), (.int ((k2 >>> ((8 : Int32) &&& 31)).toInt8.toInt32)), (.int ((k3 >>> ((0 : Int32) &&& 31)).toInt8.toInt32)), (.int ((k3 >>> ((8 : Int32) &&& 31)).toInt8.toInt32)), (.int ((k4 >>> ((0 : Int32) &&& 31)).toInt8.toInt32)), (.int ((k4 >>> ((8 : Int32) &&& 31)).toInt8.toInt32)), (.int ((k5 >>> ((0 : Int32) &&& 31)).toInt8.toInt32)), (.int ((k5 >>> ((8 : Int32) &&& 31)).toInt8.toInt32))] (.int (0 : Int32))) (V_p1 : p1 = 0 ∨ p1 = 1 ∨ p1 = 2 ∨ p1 = 3 ∨ p1 = 4 ∨ p1 = 5) (hW : Wide16 k0 k1 k2 k3 k4 k5) (S_AD : Sta Z h0 "java/lang/StringUTF16" "$assertionsDisabled" "Z" (.int (1 : Int32))) (S_HI : Sta Z h0 "java/lang/StringUTF16" "HI_BYTE_SHIFT" "I" (.int (0 : Int32))) (S_LO : Sta Z h0 "java/lang/StringUTF16" "LO_BYTE_SHIFT" "I" (.int (8 : Int32))) (S_SI : StaR Z h0 "jdk/internal/util/Preconditions" "SIOOBE_FORMATTER" "Ljava/util/function/BiFunction;") :
    MetFree l (⟨"java/lang/StringUTF16", "charAt", "([BI)C"⟩ : MethodName) (head1 (Jvm.Cond.code (⟨"java/lang/StringUTF16", "charAt", "([BI)C"⟩ : MethodName) jdk_52_method_83_code 2 (some .char) :: ws) ({ frames := 3, cells := 0, slots := 0, locals := 40 } : Room)) (fun a U => a = #[(.ref o0), (.int p1)] ∧ Z.Warmed39 U.vm ∧ U.heap = h0) (fun _ _ _ _ _ => True) (fun _ U o U' => ∃ v L, o = .returned v ∧ Q25 Z o0 p1 kb k0 k1 k2 k3 k4 k5 h0 n0 v U'.heap L ∧ FrameEnd U o U' L ({ frames := 3, cells := 0, slots := 0, locals := 40 } : Room).cells ({ frames := 3, cells := 0, slots := 0, locals := 40 } : Room).slots) := by
  refine MetFree.of_bodySF (plainFor_of_name pn_java_lang_StringUTF16) hisR ?_
  intro p e s m args below meth c s₁ Bd hml0 hP hK
  obtain ⟨rfl, hZ, hh⟩ := hP
  have hx := Bd.exec
  have hby := Bd.bytes
  have hlk : meth.locks = false := BodyLoose.notSynchronized Bd
  have hret := Bd.returns
  have hml : c.maxLocals = 2 := hml0
  have hown : s.vm.findClass "java/lang/StringUTF16" = some m.cls := findClass_of_methodNamed Bd.named
  have hnm := (name_of_methodNamed Bd.named Bd.method).1
  have X0 : Stand p l e ({ frames := 3, cells := 0, slots := 0, locals := 40 } : Room) s m #[(.ref o0), (.int p1)] below meth c s₁ [] 0 0 := Stand.of_body Bd
  have e0 : s₁.heap = h0 := by rw [← hh, Bd.state]; rfl
  have N0 := Fr.nil n0
  refine Go.start (Q := Q25 Z o0 p1 kb k0 k1 k2 k3 k4 k5 h0 n0) (ef_25 m o0 p1) ?_
  show Go _ _ _ _ _ _ _ s₁ (mkF m 0 #[.val (.ref o0), .val (.int p1)] [])
  refine Go.st (fun _ k => XS.iloadN X0.here hx rfl (hb hby d25_0) rfl k) ?_
  show Go _ _ _ _ _ _ _ s₁ (mkF m 1 #[.val (.ref o0), .val (.int p1)] [(.int p1)])
  refine Go.st (fun _ k => XS.aloadN X0.here hx rfl (hb hby d25_1) rfl rfl k) ?_
  show Go _ _ _ _ _ _ _ s₁ (mkF m 2 #[.val (.ref o0), .val (.int p1)] [(.ref o0), (.int p1)])
  obtain ⟨_, _, ⟨T1, L1, ck1, cn1⟩, -, X1, ⟨Lc1, hQ1, l1, y1, z1⟩, st1⟩ := Jvm.LawKit.callS X0 hx (y := (⟨"java/lang/StringUTF16", "checkIndex", "(I[B)V"⟩ : MethodName)) hown (mvT hZ (hw _ (List.mem_of_getElem? (i := 123) rfl))) (mvT hZ (hw _ (List.mem_of_getElem? (i := 124) rfl))) (mvT hZ (hw _ (List.mem_of_getElem? (i := 18) rfl))) (mvT hZ (hw _ (List.mem_of_getElem? (i := 125) rfl))) (by decide) (backOf (W := 0) (rm26 l Z a0 hw [] p1 o0 kb [(.int ((k0 >>> ((0 : Int32) &&& 31)).toInt8.toInt32)), (.int ((k0 >>> ((8 : Int32) &&& 31)).toInt8.toInt32)), (.int ((k1 >>> ((0 : Int32) &&& 31)).toInt8.toInt32)), (.int ((k1 >>> ((8 : Int32) &&& 31)).toInt8.toInt32)), (.int ((k2 >>> ((0 : Int32) &&& 31)).toInt8.toInt32)), (.int ((k2 >>> ((8 : Int32) &&& 31)).toInt8.toInt32)), (.int ((k3 >>> ((0 : Int32) &&& 31)).toInt8.toInt32)), (.int ((k3 >>> ((8 : Int32) &&& 31)).toInt8.toInt32)), (.int ((k4 >>> ((0 : Int32) &&& 31)).toInt8.toInt32)), (.int ((k4 >>> ((8 : Int32) &&& 31)).toInt8.toInt32)), (.int ((k5 >>> ((0 : Int32) &&& 31)).toInt8.toInt32)), (.int ((k5 >>> ((8 : Int32) &&& 31)).toInt8.toInt32))] (.int (0 : Int32)) h0 n0 Z0 V_o0 (own_v6 V_p1).1 (own_v6 V_p1).2 S_SI) hZ (hw _ (List.mem_of_getElem? (i := 125) rfl)) (hw _ (List.mem_of_getElem? (i := 18) rfl)) (by decide) (by decide)) (g := (mkF m 2 #[.val (.ref o0), .val (.int p1)] [(.ref o0), (.int p1)])) rfl (by rw [hml]; rfl) (argsL := [(.int p1), (.ref o0)]) (rest := []) (lenOf pd_3 rfl) rfl (by show 2 * 0 + _ ≤ _; exact Nat.le_of_eq rfl) (hb hby d25_2) (fun _ _ => ⟨rfl, e0, (by decide : 0 + 0 ≤ _), (by decide : 0 + 0 ≤ _)⟩)
  dsimp only [Pt.U, Pt.locs, Pt.cells, Pt.slots] at X1 l1 y1 z1 st1 hQ1
  subst l1 y1 z1
  obtain ⟨rfl, N1q, e1⟩ := hQ1
  have N1 := Fr.app N0 N1q
  refine Go.st st1 ?_
  show Go _ _ _ _ _ _ _ T1 (mkF m 5 #[.val (.ref o0), .val (.int p1)] [])
  refine Go.st (fun _ k => XS.aloadN X1.here hx rfl (hb hby d25_5) rfl rfl k) ?_
  show Go _ _ _ _ _ _ _ T1 (mkF m 6 #[.val (.ref o0), .val (.int p1)] [(.ref o0)])
  refine Go.st (fun _ k => XS.iloadN X1.here hx rfl (hb hby d25_6) rfl k) ?_
  show Go _ _ _ _ _ _ _ T1 (mkF m 7 #[.val (.ref o0), .val (.int p1)] [(.int p1), (.ref o0)])
  obtain ⟨_, _, ⟨T2, L2, ck2, cn2⟩, -, X2, ⟨Lc2, hQ2, l2, y2, z2⟩, st2⟩ := Jvm.LawKit.callS X1 hx (y := (⟨"java/lang/StringUTF16", "getChar", "([BI)C"⟩ : MethodName)) hown (mvT hZ (hw _ (List.mem_of_getElem? (i := 117) rfl))) (mvT hZ (hw _ (List.mem_of_getElem? (i := 118) rfl))) (mvT hZ (hw _ (List.mem_of_getElem? (i := 18) rfl))) (mvT hZ (hw _ (List.mem_of_getElem? (i := 119) rfl))) (by decide) (backOf (W := 0) (rm24 l Z a0 hw [] o0 p1 kb ((k0 >>> ((0 : Int32) &&& 31)).toInt8.toInt32) ((k0 >>> ((8 : Int32) &&& 31)).toInt8.toInt32) ((k1 >>> ((0 : Int32) &&& 31)).toInt8.toInt32) ((k1 >>> ((8 : Int32) &&& 31)).toInt8.toInt32) ((k2 >>> ((0 : Int32) &&& 31)).toInt8.toInt32) ((k2 >>> ((8 : Int32) &&& 31)).toInt8.toInt32) ((k3 >>> ((0 : Int32) &&& 31)).toInt8.toInt32) ((k3 >>> ((8 : Int32) &&& 31)).toInt8.toInt32) ((k4 >>> ((0 : Int32) &&& 31)).toInt8.toInt32) ((k4 >>> ((8 : Int32) &&& 31)).toInt8.toInt32) ((k5 >>> ((0 : Int32) &&& 31)).toInt8.toInt32) ((k5 >>> ((8 : Int32) &&& 31)).toInt8.toInt32) h0 n0 Z0 V_o0 S_AD S_HI S_LO V_p1) hZ (hw _ (List.mem_of_getElem? (i := 119) rfl)) (hw _ (List.mem_of_getElem? (i := 18) rfl)) (by decide) (by decide)) (g := (mkF m 7 #[.val (.ref o0), .val (.int p1)] [(.int p1), (.ref o0)])) rfl (by rw [hml]; rfl) (argsL := [(.ref o0), (.int p1)]) (rest := []) (lenOf pd_4 rfl) rfl (by show 2 * 0 + _ ≤ _; exact Nat.le_of_eq rfl) (hb hby d25_7) (fun _ _ => ⟨rfl, e1, (by decide : 0 + 0 ≤ _), (by decide : 0 + 0 ≤ _)⟩)
  dsimp only [Pt.U, Pt.locs, Pt.cells, Pt.slots] at X2 l2 y2 z2 st2 hQ2
  subst l2 y2 z2
  obtain ⟨rfl, N2q, e2⟩ := hQ2
  have N2 := Fr.app N1 N2q
  refine Go.st st2 ?_
  show Go _ _ _ _ _ _ _ T2 (mkF m 10 #[.val (.ref o0), .val (.int p1)] [(.int (val_24 o0 p1 kb ((k0 >>> ((0 : Int32) &&& 31)).toInt8.toInt32) ((k0 >>> ((8 : Int32) &&& 31)).toInt8.toInt32) ((k1 >>> ((0 : Int32) &&& 31)).toInt8.toInt32) ((k1 >>> ((8 : Int32) &&& 31)).toInt8.toInt32) ((k2 >>> ((0 : Int32) &&& 31)).toInt8.toInt32) ((k2 >>> ((8 : Int32) &&& 31)).toInt8.toInt32) ((k3 >>> ((0 : Int32) &&& 31)).toInt8.toInt32) ((k3 >>> ((8 : Int32) &&& 31)).toInt8.toInt32) ((k4 >>> ((0 : Int32) &&& 31)).toInt8.toInt32) ((k4 >>> ((8 : Int32) &&& 31)).toInt8.toInt32) ((k5 >>> ((0 : Int32) &&& 31)).toInt8.toInt32) ((k5 >>> ((8 : Int32) &&& 31)).toInt8.toInt32)))])
  refine Go.ret X2 hlk (v := some (.int (nar .char (val_24 o0 p1 kb ((k0 >>> ((0 : Int32) &&& 31)).toInt8.toInt32) ((k0 >>> ((8 : Int32) &&& 31)).toInt8.toInt32) ((k1 >>> ((0 : Int32) &&& 31)).toInt8.toInt32) ((k1 >>> ((8 : Int32) &&& 31)).toInt8.toInt32) ((k2 >>> ((0 : Int32) &&& 31)).toInt8.toInt32) ((k2 >>> ((8 : Int32) &&& 31)).toInt8.toInt32) ((k3 >>> ((0 : Int32) &&& 31)).toInt8.toInt32) ((k3 >>> ((8 : Int32) &&& 31)).toInt8.toInt32) ((k4 >>> ((0 : Int32) &&& 31)).toInt8.toInt32) ((k4 >>> ((8 : Int32) &&& 31)).toInt8.toInt32) ((k5 >>> ((0 : Int32) &&& 31)).toInt8.toInt32) ((k5 >>> ((8 : Int32) &&& 31)).toInt8.toInt32))))) (fun h => by rw [hret] at h; cases h) (fun fs hr => retN X2 hx (t := .char) hret (by simp) (hb hby d25_10) hr) ?_ (by decide) (by decide)
  show Q25 Z o0 p1 kb k0 k1 k2 k3 k4 k5 h0 n0 (some (.int (nar .char (val_24 o0 p1 kb ((k0 >>> ((0 : Int32) &&& 31)).toInt8.toInt32) ((k0 >>> ((8 : Int32) &&& 31)).toInt8.toInt32) ((k1 >>> ((0 : Int32) &&& 31)).toInt8.toInt32) ((k1 >>> ((8 : Int32) &&& 31)).toInt8.toInt32) ((k2 >>> ((0 : Int32) &&& 31)).toInt8.toInt32) ((k2 >>> ((8 : Int32) &&& 31)).toInt8.toInt32) ((k3 >>> ((0 : Int32) &&& 31)).toInt8.toInt32) ((k3 >>> ((8 : Int32) &&& 31)).toInt8.toInt32) ((k4 >>> ((0 : Int32) &&& 31)).toInt8.toInt32) ((k4 >>> ((8 : Int32) &&& 31)).toInt8.toInt32) ((k5 >>> ((0 : Int32) &&& 31)).toInt8.toInt32) ((k5 >>> ((8 : Int32) &&& 31)).toInt8.toInt32))))) T2.heap _
  rw [e2]
  refine ⟨?_, N2, rfl⟩
  rw [own_gc o0 p1 kb V_p1 hW, own_kfn p1 V_p1 hW]
theorem d17_0 : decode jdk_43_method_2_code 0 = .ok (.iload_n 1, 1) := by decide +kernel
theorem d17_1 : decode jdk_43_method_2_code 1 = .ok (.aload_n 0, 1) := by decide +kernel
theorem d17_2 : decode jdk_43_method_2_code 2 = .ok (.arraylength, 1) := by decide +kernel
theorem d17_3 : decode jdk_43_method_2_code 3 = .ok (.invokestatic 9, 3) := by decide +kernel
theorem d17_6 : decode jdk_43_method_2_code 6 = .ok (.aload_n 0, 1) := by decide +kernel
theorem d17_7 : decode jdk_43_method_2_code 7 = .ok (.iload_n 1, 1) := by decide +kernel
theorem d17_8 : decode jdk_43_method_2_code 8 = .ok (.baload, 1) := by decide +kernel
theorem d17_9 : decode jdk_43_method_2_code 9 = .ok (.sipush 255, 3) := by decide +kernel
theorem d17_12 : decode jdk_43_method_2_code 12 = .ok (.iand, 1) := by decide +kernel
theorem d17_13 : decode jdk_43_method_2_code 13 = .ok (.i2c, 1) := by decide +kernel
theorem d17_14 : decode jdk_43_method_2_code 14 = .ok (.ireturn, 1) := by decide +kernel
def val_17 (o0 : Addr) (p1 : Int32) (kb : ClassId) (y0 : Int32) (y1 : Int32) (y2 : Int32) (y3 : Int32) (y4 : Int32) (y5 : Int32) : Int32 := (if p1 = (0 : Int32) then (nar .char ((y0 &&& (255 : Int32)).toUInt32.toUInt16.toUInt32.toInt32)) else (if p1 = (1 : Int32) then (nar .char ((y1 &&& (255 : Int32)).toUInt32.toUInt16.toUInt32.toInt32)) else (if p1 = (2 : Int32) then (nar .char ((y2 &&& (255 : Int32)).toUInt32.toUInt16.toUInt32.toInt32)) else (if p1 = (3 : Int32) then (nar .char ((y3 &&& (255 : Int32)).toUInt32.toUInt16.toUInt32.toInt32)) else (if p1 = (4 : Int32) then (nar .char ((y4 &&& (255 : Int32)).toUInt32.toUInt16.toUInt32.toInt32)) else (nar .char ((y5 &&& (255 : Int32)).toUInt32.toUInt16.toUInt32.toInt32)))))))
theorem ef_17 (m : MethodId) (o0 : Addr) (p1 : Int32) : entryFrame m #[(.ref o0), (.int p1)] 2 = mkF m 0 #[.val (.ref o0), .val (.int p1)] [] := by first | (simp [entryFrame, mkF, argsToLocals, Value.category]; done) | rfl
def Q17 (Z : State) (o0 : Addr) (p1 : Int32) (kb : ClassId) (y0 : Int32) (y1 : Int32) (y2 : Int32) (y3 : Int32) (y4 : Int32) (y5 : Int32) (h0 : Heap) (n0 : Nat) (v : Option Value) (h : Heap) (L : List Loc) : Prop := v = some (.int (val_17 o0 p1 kb y0 y1 y2 y3 y4 y5)) ∧ Fr n0 L ∧ h = h0
set_option maxRecDepth 65536 in
set_option maxHeartbeats 40000000 in
theorem rm17 (l : Launch) (Z : State) (a0 : Array Value) (hw : ∀ d ∈ tables_1, d.before a0 Z = true) (ws : List Jvm.Cond) (o0 : Addr) (p1 : Int32) (kb : ClassId) (y0 : Int32) (y1 : Int32) (y2 : Int32) (y3 : Int32) (y4 : Int32) (y5 : Int32) (h0 : Heap) (n0 : Nat) (Z0 : n0 ≤ h0.size) (V_o0 : Arv Z h0 o0 kb .byte (6 : Int32) [(.int y0), (.int y1), (.int y2), (.int y3), (.int y4), (.int y5)] (.int (0 : Int32))) (S_SI : StaR Z h0 "jdk/internal/util/Preconditions" "SIOOBE_FORMATTER" "Ljava/util/function/BiFunction;") (V_p1 : p1 = 0 ∨ p1 = 1 ∨ p1 = 2 ∨ p1 = 3 ∨ p1 = 4 ∨ p1 = 5) :
    MetFree l (⟨"java/lang/StringLatin1", "charAt", "([BI)C"⟩ : MethodName) (head1 (Jvm.Cond.code (⟨"java/lang/StringLatin1", "charAt", "([BI)C"⟩ : MethodName) jdk_43_method_2_code 2 (some .char) :: ws) ({ frames := 2, cells := 0, slots := 0, locals := 27 } : Room)) (fun a U => a = #[(.ref o0), (.int p1)] ∧ Z.Warmed39 U.vm ∧ U.heap = h0) (fun _ _ _ _ _ => True) (fun _ U o U' => ∃ v L, o = .returned v ∧ Q17 Z o0 p1 kb y0 y1 y2 y3 y4 y5 h0 n0 v U'.heap L ∧ FrameEnd U o U' L ({ frames := 2, cells := 0, slots := 0, locals := 27 } : Room).cells ({ frames := 2, cells := 0, slots := 0, locals := 27 } : Room).slots) := by
  refine MetFree.of_bodySF (plainFor_of_name pn_java_lang_StringLatin1) hisR ?_
  intro p e s m args below meth c s₁ Bd hml0 hP hK
  obtain ⟨rfl, hZ, hh⟩ := hP
  have hx := Bd.exec
  have hby := Bd.bytes
  have hlk : meth.locks = false := BodyLoose.notSynchronized Bd
  have hret := Bd.returns
  have hml : c.maxLocals = 2 := hml0
  have hown : s.vm.findClass "java/lang/StringLatin1" = some m.cls := findClass_of_methodNamed Bd.named
  have hnm := (name_of_methodNamed Bd.named Bd.method).1
  have X0 : Stand p l e ({ frames := 2, cells := 0, slots := 0, locals := 27 } : Room) s m #[(.ref o0), (.int p1)] below meth c s₁ [] 0 0 := Stand.of_body Bd
  have e0 : s₁.heap = h0 := by rw [← hh, Bd.state]; rfl
  have N0 := Fr.nil n0
  refine Go.start (Q := Q17 Z o0 p1 kb y0 y1 y2 y3 y4 y5 h0 n0) (ef_17 m o0 p1) ?_
  rcases id V_p1 with hv1 | hv1 | hv1 | hv1 | hv1 | hv1
  · show Go _ _ _ _ _ _ _ s₁ (mkF m 0 #[.val (.ref o0), .val (.int p1)] [])
    refine Go.fr (f' := (mkF m 0 #[.val (.ref o0), .val (.int (0 : Int32))] [])) (by rw [hv1]) ?_
    show Go _ _ _ _ _ _ _ s₁ (mkF m 0 #[.val (.ref o0), .val (.int (0 : Int32))] [])
    refine Go.st (fun _ k => XS.iloadN X0.here hx rfl (hb hby d17_0) rfl k) ?_
    show Go _ _ _ _ _ _ _ s₁ (mkF m 1 #[.val (.ref o0), .val (.int (0 : Int32))] [(.int (0 : Int32))])
    refine Go.st (fun _ k => XS.aloadN X0.here hx rfl (hb hby d17_1) rfl rfl k) ?_
    show Go _ _ _ _ _ _ _ s₁ (mkF m 2 #[.val (.ref o0), .val (.int (0 : Int32))] [(.ref o0), (.int (0 : Int32))])
    obtain ⟨cl2, Ar2, qq2, SS2, NN2, HH2, GG2⟩ := id V_o0
    refine Go.st (fun _ k => X0.arraylength hx (by rw [e0]; exact Ar2.1) (State.isArrayOf_alike hZ.alike Ar2.2.1) (g := (mkF m 2 #[.val (.ref o0), .val (.int (0 : Int32))] [(.ref o0), (.int (0 : Int32))])) rfl rfl (hb hby d17_2) _ k) ?_
    rw [len_of SS2 NN2]
    show Go _ _ _ _ _ _ _ s₁ (mkF m 3 #[.val (.ref o0), .val (.int (0 : Int32))] [(.int (6 : Int32)), (.int (0 : Int32))])
    obtain ⟨_, _, ⟨T3, L3, ck3, cn3⟩, -, X3, ⟨Lc3, hQ3, l3, y3, z3⟩, st3⟩ := Jvm.LawKit.callS X0 hx (y := (⟨"java/lang/String", "checkIndex", "(II)V"⟩ : MethodName)) hown (mvT hZ (hw _ (List.mem_of_getElem? (i := 94) rfl))) (mvT hZ (hw _ (List.mem_of_getElem? (i := 95) rfl))) (mvT hZ (hw _ (List.mem_of_getElem? (i := 4) rfl))) (mvT hZ (hw _ (List.mem_of_getElem? (i := 96) rfl))) (by decide) (backOf (W := 0) (rm18 l Z a0 hw [] (0 : Int32) (6 : Int32)  h0 n0 Z0 (by decide) (by decide) S_SI) hZ (hw _ (List.mem_of_getElem? (i := 96) rfl)) (hw _ (List.mem_of_getElem? (i := 4) rfl)) (by decide) (by decide)) (g := (mkF m 3 #[.val (.ref o0), .val (.int (0 : Int32))] [(.int (6 : Int32)), (.int (0 : Int32))])) rfl (by rw [hml]; rfl) (argsL := [(.int (0 : Int32)), (.int (6 : Int32))]) (rest := []) (lenOf pd_2 rfl) rfl (by show 2 * 0 + _ ≤ _; exact Nat.le_of_eq rfl) (hb hby d17_3) (fun _ _ => ⟨rfl, e0, (by decide : 0 + 0 ≤ _), (by decide : 0 + 0 ≤ _)⟩)
    dsimp only [Pt.U, Pt.locs, Pt.cells, Pt.slots] at X3 l3 y3 z3 st3 hQ3
    subst l3 y3 z3
    obtain ⟨rfl, N3q, e3⟩ := hQ3
    have N3 := Fr.app N0 N3q
    refine Go.st st3 ?_
    show Go _ _ _ _ _ _ _ T3 (mkF m 6 #[.val (.ref o0), .val (.int (0 : Int32))] [])
    refine Go.st (fun _ k => XS.aloadN X3.here hx rfl (hb hby d17_6) rfl rfl k) ?_
    show Go _ _ _ _ _ _ _ T3 (mkF m 7 #[.val (.ref o0), .val (.int (0 : Int32))] [(.ref o0)])
    refine Go.st (fun _ k => XS.iloadN X3.here hx rfl (hb hby d17_7) rfl k) ?_
    show Go _ _ _ _ _ _ _ T3 (mkF m 8 #[.val (.ref o0), .val (.int (0 : Int32))] [(.int (0 : Int32)), (.ref o0)])
    obtain ⟨cl4, Ar4, qq4, SS4, NN4, HH4, GG4⟩ := id V_o0
    have hin5 : ¬ ((0 : Int32) < 0 ∨ cl4.slots.size ≤ ((0 : Int32)).toNatClampNeg) := inb_of SS4 ⟨by decide, by decide⟩
    refine Go.st (fun _ k => X3.baloadBytes hx (j := (0 : Int32)) (v := (.int y0)) (by rw [e3]; exact Ar4.1) (State.isArrayOf_alike hZ.alike Ar4.2.1) Ar4.2.2 hin5 (HH4.at hin5 rfl) (g := (mkF m 8 #[.val (.ref o0), .val (.int (0 : Int32))] [(.int (0 : Int32)), (.ref o0)])) rfl rfl (hb hby d17_8) _ k) ?_
    show Go _ _ _ _ _ _ _ T3 (mkF m 9 #[.val (.ref o0), .val (.int (0 : Int32))] [(.int y0)])
    refine Go.st (fun _ k => XS.sipush X3.here hx rfl (hb hby d17_9) k) ?_
    show Go _ _ _ _ _ _ _ T3 (mkF m 12 #[.val (.ref o0), .val (.int (0 : Int32))] [(.int (255 : Int32)), (.int y0)])
    refine Go.st (fun _ k => XS.iand X3.here hx rfl (hb hby d17_12) rfl k) ?_
    show Go _ _ _ _ _ _ _ T3 (mkF m 13 #[.val (.ref o0), .val (.int (0 : Int32))] [(.int (y0 &&& (255 : Int32)))])
    refine Go.st (fun _ k => XS.i2c X3.here hx rfl (hb hby d17_13) rfl k) ?_
    show Go _ _ _ _ _ _ _ T3 (mkF m 14 #[.val (.ref o0), .val (.int (0 : Int32))] [(.int ((y0 &&& (255 : Int32)).toUInt32.toUInt16.toUInt32.toInt32))])
    refine Go.ret X3 hlk (v := some (.int (nar .char ((y0 &&& (255 : Int32)).toUInt32.toUInt16.toUInt32.toInt32)))) (fun h => by rw [hret] at h; cases h) (fun fs hr => retN X3 hx (t := .char) hret (by simp) (hb hby d17_14) hr) ?_ (by decide) (by decide)
    show Q17 Z o0 p1 kb y0 y1 y2 y3 y4 y5 h0 n0 (some (.int (nar .char ((y0 &&& (255 : Int32)).toUInt32.toUInt16.toUInt32.toInt32)))) T3.heap _
    rw [e3]
    refine ⟨?_, N3, rfl⟩
    unfold val_17
    rw [if_pos hv1]
  · show Go _ _ _ _ _ _ _ s₁ (mkF m 0 #[.val (.ref o0), .val (.int p1)] [])
    refine Go.fr (f' := (mkF m 0 #[.val (.ref o0), .val (.int (1 : Int32))] [])) (by rw [hv1]) ?_
    show Go _ _ _ _ _ _ _ s₁ (mkF m 0 #[.val (.ref o0), .val (.int (1 : Int32))] [])
    refine Go.st (fun _ k => XS.iloadN X0.here hx rfl (hb hby d17_0) rfl k) ?_
    show Go _ _ _ _ _ _ _ s₁ (mkF m 1 #[.val (.ref o0), .val (.int (1 : Int32))] [(.int (1 : Int32))])
    refine Go.st (fun _ k => XS.aloadN X0.here hx rfl (hb hby d17_1) rfl rfl k) ?_
    show Go _ _ _ _ _ _ _ s₁ (mkF m 2 #[.val (.ref o0), .val (.int (1 : Int32))] [(.ref o0), (.int (1 : Int32))])
    obtain ⟨cl6, Ar6, qq6, SS6, NN6, HH6, GG6⟩ := id V_o0
    refine Go.st (fun _ k => X0.arraylength hx (by rw [e0]; exact Ar6.1) (State.isArrayOf_alike hZ.alike Ar6.2.1) (g := (mkF m 2 #[.val (.ref o0), .val (.int (1 : Int32))] [(.ref o0), (.int (1 : Int32))])) rfl rfl (hb hby d17_2) _ k) ?_
    rw [len_of SS6 NN6]
    show Go _ _ _ _ _ _ _ s₁ (mkF m 3 #[.val (.ref o0), .val (.int (1 : Int32))] [(.int (6 : Int32)), (.int (1 : Int32))])
    obtain ⟨_, _, ⟨T7, L7, ck7, cn7⟩, -, X7, ⟨Lc7, hQ7, l7, y7, z7⟩, st7⟩ := Jvm.LawKit.callS X0 hx (y := (⟨"java/lang/String", "checkIndex", "(II)V"⟩ : MethodName)) hown (mvT hZ (hw _ (List.mem_of_getElem? (i := 94) rfl))) (mvT hZ (hw _ (List.mem_of_getElem? (i := 95) rfl))) (mvT hZ (hw _ (List.mem_of_getElem? (i := 4) rfl))) (mvT hZ (hw _ (List.mem_of_getElem? (i := 96) rfl))) (by decide) (backOf (W := 0) (rm18 l Z a0 hw [] (1 : Int32) (6 : Int32)  h0 n0 Z0 (by decide) (by decide) S_SI) hZ (hw _ (List.mem_of_getElem? (i := 96) rfl)) (hw _ (List.mem_of_getElem? (i := 4) rfl)) (by decide) (by decide)) (g := (mkF m 3 #[.val (.ref o0), .val (.int (1 : Int32))] [(.int (6 : Int32)), (.int (1 : Int32))])) rfl (by rw [hml]; rfl) (argsL := [(.int (1 : Int32)), (.int (6 : Int32))]) (rest := []) (lenOf pd_2 rfl) rfl (by show 2 * 0 + _ ≤ _; exact Nat.le_of_eq rfl) (hb hby d17_3) (fun _ _ => ⟨rfl, e0, (by decide : 0 + 0 ≤ _), (by decide : 0 + 0 ≤ _)⟩)
    dsimp only [Pt.U, Pt.locs, Pt.cells, Pt.slots] at X7 l7 y7 z7 st7 hQ7
    subst l7 y7 z7
    obtain ⟨rfl, N7q, e7⟩ := hQ7
    have N7 := Fr.app N0 N7q
    refine Go.st st7 ?_
    show Go _ _ _ _ _ _ _ T7 (mkF m 6 #[.val (.ref o0), .val (.int (1 : Int32))] [])
    refine Go.st (fun _ k => XS.aloadN X7.here hx rfl (hb hby d17_6) rfl rfl k) ?_
    show Go _ _ _ _ _ _ _ T7 (mkF m 7 #[.val (.ref o0), .val (.int (1 : Int32))] [(.ref o0)])
    refine Go.st (fun _ k => XS.iloadN X7.here hx rfl (hb hby d17_7) rfl k) ?_
    show Go _ _ _ _ _ _ _ T7 (mkF m 8 #[.val (.ref o0), .val (.int (1 : Int32))] [(.int (1 : Int32)), (.ref o0)])
    obtain ⟨cl8, Ar8, qq8, SS8, NN8, HH8, GG8⟩ := id V_o0
    have hin9 : ¬ ((1 : Int32) < 0 ∨ cl8.slots.size ≤ ((1 : Int32)).toNatClampNeg) := inb_of SS8 ⟨by decide, by decide⟩
    refine Go.st (fun _ k => X7.baloadBytes hx (j := (1 : Int32)) (v := (.int y1)) (by rw [e7]; exact Ar8.1) (State.isArrayOf_alike hZ.alike Ar8.2.1) Ar8.2.2 hin9 (HH8.at hin9 rfl) (g := (mkF m 8 #[.val (.ref o0), .val (.int (1 : Int32))] [(.int (1 : Int32)), (.ref o0)])) rfl rfl (hb hby d17_8) _ k) ?_
    show Go _ _ _ _ _ _ _ T7 (mkF m 9 #[.val (.ref o0), .val (.int (1 : Int32))] [(.int y1)])
    refine Go.st (fun _ k => XS.sipush X7.here hx rfl (hb hby d17_9) k) ?_
    show Go _ _ _ _ _ _ _ T7 (mkF m 12 #[.val (.ref o0), .val (.int (1 : Int32))] [(.int (255 : Int32)), (.int y1)])
    refine Go.st (fun _ k => XS.iand X7.here hx rfl (hb hby d17_12) rfl k) ?_
    show Go _ _ _ _ _ _ _ T7 (mkF m 13 #[.val (.ref o0), .val (.int (1 : Int32))] [(.int (y1 &&& (255 : Int32)))])
    refine Go.st (fun _ k => XS.i2c X7.here hx rfl (hb hby d17_13) rfl k) ?_
    show Go _ _ _ _ _ _ _ T7 (mkF m 14 #[.val (.ref o0), .val (.int (1 : Int32))] [(.int ((y1 &&& (255 : Int32)).toUInt32.toUInt16.toUInt32.toInt32))])
    refine Go.ret X7 hlk (v := some (.int (nar .char ((y1 &&& (255 : Int32)).toUInt32.toUInt16.toUInt32.toInt32)))) (fun h => by rw [hret] at h; cases h) (fun fs hr => retN X7 hx (t := .char) hret (by simp) (hb hby d17_14) hr) ?_ (by decide) (by decide)
    show Q17 Z o0 p1 kb y0 y1 y2 y3 y4 y5 h0 n0 (some (.int (nar .char ((y1 &&& (255 : Int32)).toUInt32.toUInt16.toUInt32.toInt32)))) T7.heap _
    rw [e7]
    refine ⟨?_, N7, rfl⟩
    unfold val_17
    rw [if_neg (by rw [hv1]; decide : ¬ (p1 = (0 : Int32))), if_pos hv1]
  · show Go _ _ _ _ _ _ _ s₁ (mkF m 0 #[.val (.ref o0), .val (.int p1)] [])
    refine Go.fr (f' := (mkF m 0 #[.val (.ref o0), .val (.int (2 : Int32))] [])) (by rw [hv1]) ?_
    show Go _ _ _ _ _ _ _ s₁ (mkF m 0 #[.val (.ref o0), .val (.int (2 : Int32))] [])
    refine Go.st (fun _ k => XS.iloadN X0.here hx rfl (hb hby d17_0) rfl k) ?_
    show Go _ _ _ _ _ _ _ s₁ (mkF m 1 #[.val (.ref o0), .val (.int (2 : Int32))] [(.int (2 : Int32))])
    refine Go.st (fun _ k => XS.aloadN X0.here hx rfl (hb hby d17_1) rfl rfl k) ?_
    show Go _ _ _ _ _ _ _ s₁ (mkF m 2 #[.val (.ref o0), .val (.int (2 : Int32))] [(.ref o0), (.int (2 : Int32))])
    obtain ⟨cl10, Ar10, qq10, SS10, NN10, HH10, GG10⟩ := id V_o0
    refine Go.st (fun _ k => X0.arraylength hx (by rw [e0]; exact Ar10.1) (State.isArrayOf_alike hZ.alike Ar10.2.1) (g := (mkF m 2 #[.val (.ref o0), .val (.int (2 : Int32))] [(.ref o0), (.int (2 : Int32))])) rfl rfl (hb hby d17_2) _ k) ?_
    rw [len_of SS10 NN10]
    show Go _ _ _ _ _ _ _ s₁ (mkF m 3 #[.val (.ref o0), .val (.int (2 : Int32))] [(.int (6 : Int32)), (.int (2 : Int32))])
    obtain ⟨_, _, ⟨T11, L11, ck11, cn11⟩, -, X11, ⟨Lc11, hQ11, l11, y11, z11⟩, st11⟩ := Jvm.LawKit.callS X0 hx (y := (⟨"java/lang/String", "checkIndex", "(II)V"⟩ : MethodName)) hown (mvT hZ (hw _ (List.mem_of_getElem? (i := 94) rfl))) (mvT hZ (hw _ (List.mem_of_getElem? (i := 95) rfl))) (mvT hZ (hw _ (List.mem_of_getElem? (i := 4) rfl))) (mvT hZ (hw _ (List.mem_of_getElem? (i := 96) rfl))) (by decide) (backOf (W := 0) (rm18 l Z a0 hw [] (2 : Int32) (6 : Int32)  h0 n0 Z0 (by decide) (by decide) S_SI) hZ (hw _ (List.mem_of_getElem? (i := 96) rfl)) (hw _ (List.mem_of_getElem? (i := 4) rfl)) (by decide) (by decide)) (g := (mkF m 3 #[.val (.ref o0), .val (.int (2 : Int32))] [(.int (6 : Int32)), (.int (2 : Int32))])) rfl (by rw [hml]; rfl) (argsL := [(.int (2 : Int32)), (.int (6 : Int32))]) (rest := []) (lenOf pd_2 rfl) rfl (by show 2 * 0 + _ ≤ _; exact Nat.le_of_eq rfl) (hb hby d17_3) (fun _ _ => ⟨rfl, e0, (by decide : 0 + 0 ≤ _), (by decide : 0 + 0 ≤ _)⟩)
    dsimp only [Pt.U, Pt.locs, Pt.cells, Pt.slots] at X11 l11 y11 z11 st11 hQ11
    subst l11 y11 z11
    obtain ⟨rfl, N11q, e11⟩ := hQ11
    have N11 := Fr.app N0 N11q
    refine Go.st st11 ?_
    show Go _ _ _ _ _ _ _ T11 (mkF m 6 #[.val (.ref o0), .val (.int (2 : Int32))] [])
    refine Go.st (fun _ k => XS.aloadN X11.here hx rfl (hb hby d17_6) rfl rfl k) ?_
    show Go _ _ _ _ _ _ _ T11 (mkF m 7 #[.val (.ref o0), .val (.int (2 : Int32))] [(.ref o0)])
    refine Go.st (fun _ k => XS.iloadN X11.here hx rfl (hb hby d17_7) rfl k) ?_
    show Go _ _ _ _ _ _ _ T11 (mkF m 8 #[.val (.ref o0), .val (.int (2 : Int32))] [(.int (2 : Int32)), (.ref o0)])
    obtain ⟨cl12, Ar12, qq12, SS12, NN12, HH12, GG12⟩ := id V_o0
    have hin13 : ¬ ((2 : Int32) < 0 ∨ cl12.slots.size ≤ ((2 : Int32)).toNatClampNeg) := inb_of SS12 ⟨by decide, by decide⟩
    refine Go.st (fun _ k => X11.baloadBytes hx (j := (2 : Int32)) (v := (.int y2)) (by rw [e11]; exact Ar12.1) (State.isArrayOf_alike hZ.alike Ar12.2.1) Ar12.2.2 hin13 (HH12.at hin13 rfl) (g := (mkF m 8 #[.val (.ref o0), .val (.int (2 : Int32))] [(.int (2 : Int32)), (.ref o0)])) rfl rfl (hb hby d17_8) _ k) ?_
    show Go _ _ _ _ _ _ _ T11 (mkF m 9 #[.val (.ref o0), .val (.int (2 : Int32))] [(.int y2)])
    refine Go.st (fun _ k => XS.sipush X11.here hx rfl (hb hby d17_9) k) ?_
    show Go _ _ _ _ _ _ _ T11 (mkF m 12 #[.val (.ref o0), .val (.int (2 : Int32))] [(.int (255 : Int32)), (.int y2)])
    refine Go.st (fun _ k => XS.iand X11.here hx rfl (hb hby d17_12) rfl k) ?_
    show Go _ _ _ _ _ _ _ T11 (mkF m 13 #[.val (.ref o0), .val (.int (2 : Int32))] [(.int (y2 &&& (255 : Int32)))])
    refine Go.st (fun _ k => XS.i2c X11.here hx rfl (hb hby d17_13) rfl k) ?_
    show Go _ _ _ _ _ _ _ T11 (mkF m 14 #[.val (.ref o0), .val (.int (2 : Int32))] [(.int ((y2 &&& (255 : Int32)).toUInt32.toUInt16.toUInt32.toInt32))])
    refine Go.ret X11 hlk (v := some (.int (nar .char ((y2 &&& (255 : Int32)).toUInt32.toUInt16.toUInt32.toInt32)))) (fun h => by rw [hret] at h; cases h) (fun fs hr => retN X11 hx (t := .char) hret (by simp) (hb hby d17_14) hr) ?_ (by decide) (by decide)
    show Q17 Z o0 p1 kb y0 y1 y2 y3 y4 y5 h0 n0 (some (.int (nar .char ((y2 &&& (255 : Int32)).toUInt32.toUInt16.toUInt32.toInt32)))) T11.heap _
    rw [e11]
    refine ⟨?_, N11, rfl⟩
    unfold val_17
    rw [if_neg (by rw [hv1]; decide : ¬ (p1 = (0 : Int32))), if_neg (by rw [hv1]; decide : ¬ (p1 = (1 : Int32))), if_pos hv1]
  · show Go _ _ _ _ _ _ _ s₁ (mkF m 0 #[.val (.ref o0), .val (.int p1)] [])
    refine Go.fr (f' := (mkF m 0 #[.val (.ref o0), .val (.int (3 : Int32))] [])) (by rw [hv1]) ?_
    show Go _ _ _ _ _ _ _ s₁ (mkF m 0 #[.val (.ref o0), .val (.int (3 : Int32))] [])
    refine Go.st (fun _ k => XS.iloadN X0.here hx rfl (hb hby d17_0) rfl k) ?_
    show Go _ _ _ _ _ _ _ s₁ (mkF m 1 #[.val (.ref o0), .val (.int (3 : Int32))] [(.int (3 : Int32))])
    refine Go.st (fun _ k => XS.aloadN X0.here hx rfl (hb hby d17_1) rfl rfl k) ?_
    show Go _ _ _ _ _ _ _ s₁ (mkF m 2 #[.val (.ref o0), .val (.int (3 : Int32))] [(.ref o0), (.int (3 : Int32))])
    obtain ⟨cl14, Ar14, qq14, SS14, NN14, HH14, GG14⟩ := id V_o0
    refine Go.st (fun _ k => X0.arraylength hx (by rw [e0]; exact Ar14.1) (State.isArrayOf_alike hZ.alike Ar14.2.1) (g := (mkF m 2 #[.val (.ref o0), .val (.int (3 : Int32))] [(.ref o0), (.int (3 : Int32))])) rfl rfl (hb hby d17_2) _ k) ?_
    rw [len_of SS14 NN14]
    show Go _ _ _ _ _ _ _ s₁ (mkF m 3 #[.val (.ref o0), .val (.int (3 : Int32))] [(.int (6 : Int32)), (.int (3 : Int32))])
    obtain ⟨_, _, ⟨T15, L15, ck15, cn15⟩, -, X15, ⟨Lc15, hQ15, l15, y15, z15⟩, st15⟩ := Jvm.LawKit.callS X0 hx (y := (⟨"java/lang/String", "checkIndex", "(II)V"⟩ : MethodName)) hown (mvT hZ (hw _ (List.mem_of_getElem? (i := 94) rfl))) (mvT hZ (hw _ (List.mem_of_getElem? (i := 95) rfl))) (mvT hZ (hw _ (List.mem_of_getElem? (i := 4) rfl))) (mvT hZ (hw _ (List.mem_of_getElem? (i := 96) rfl))) (by decide) (backOf (W := 0) (rm18 l Z a0 hw [] (3 : Int32) (6 : Int32)  h0 n0 Z0 (by decide) (by decide) S_SI) hZ (hw _ (List.mem_of_getElem? (i := 96) rfl)) (hw _ (List.mem_of_getElem? (i := 4) rfl)) (by decide) (by decide)) (g := (mkF m 3 #[.val (.ref o0), .val (.int (3 : Int32))] [(.int (6 : Int32)), (.int (3 : Int32))])) rfl (by rw [hml]; rfl) (argsL := [(.int (3 : Int32)), (.int (6 : Int32))]) (rest := []) (lenOf pd_2 rfl) rfl (by show 2 * 0 + _ ≤ _; exact Nat.le_of_eq rfl) (hb hby d17_3) (fun _ _ => ⟨rfl, e0, (by decide : 0 + 0 ≤ _), (by decide : 0 + 0 ≤ _)⟩)
    dsimp only [Pt.U, Pt.locs, Pt.cells, Pt.slots] at X15 l15 y15 z15 st15 hQ15
    subst l15 y15 z15
    obtain ⟨rfl, N15q, e15⟩ := hQ15
    have N15 := Fr.app N0 N15q
    refine Go.st st15 ?_
    show Go _ _ _ _ _ _ _ T15 (mkF m 6 #[.val (.ref o0), .val (.int (3 : Int32))] [])
    refine Go.st (fun _ k => XS.aloadN X15.here hx rfl (hb hby d17_6) rfl rfl k) ?_
    show Go _ _ _ _ _ _ _ T15 (mkF m 7 #[.val (.ref o0), .val (.int (3 : Int32))] [(.ref o0)])
    refine Go.st (fun _ k => XS.iloadN X15.here hx rfl (hb hby d17_7) rfl k) ?_
    show Go _ _ _ _ _ _ _ T15 (mkF m 8 #[.val (.ref o0), .val (.int (3 : Int32))] [(.int (3 : Int32)), (.ref o0)])
    obtain ⟨cl16, Ar16, qq16, SS16, NN16, HH16, GG16⟩ := id V_o0
    have hin17 : ¬ ((3 : Int32) < 0 ∨ cl16.slots.size ≤ ((3 : Int32)).toNatClampNeg) := inb_of SS16 ⟨by decide, by decide⟩
    refine Go.st (fun _ k => X15.baloadBytes hx (j := (3 : Int32)) (v := (.int y3)) (by rw [e15]; exact Ar16.1) (State.isArrayOf_alike hZ.alike Ar16.2.1) Ar16.2.2 hin17 (HH16.at hin17 rfl) (g := (mkF m 8 #[.val (.ref o0), .val (.int (3 : Int32))] [(.int (3 : Int32)), (.ref o0)])) rfl rfl (hb hby d17_8) _ k) ?_
    show Go _ _ _ _ _ _ _ T15 (mkF m 9 #[.val (.ref o0), .val (.int (3 : Int32))] [(.int y3)])
    refine Go.st (fun _ k => XS.sipush X15.here hx rfl (hb hby d17_9) k) ?_
    show Go _ _ _ _ _ _ _ T15 (mkF m 12 #[.val (.ref o0), .val (.int (3 : Int32))] [(.int (255 : Int32)), (.int y3)])
    refine Go.st (fun _ k => XS.iand X15.here hx rfl (hb hby d17_12) rfl k) ?_
    show Go _ _ _ _ _ _ _ T15 (mkF m 13 #[.val (.ref o0), .val (.int (3 : Int32))] [(.int (y3 &&& (255 : Int32)))])
    refine Go.st (fun _ k => XS.i2c X15.here hx rfl (hb hby d17_13) rfl k) ?_
    show Go _ _ _ _ _ _ _ T15 (mkF m 14 #[.val (.ref o0), .val (.int (3 : Int32))] [(.int ((y3 &&& (255 : Int32)).toUInt32.toUInt16.toUInt32.toInt32))])
    refine Go.ret X15 hlk (v := some (.int (nar .char ((y3 &&& (255 : Int32)).toUInt32.toUInt16.toUInt32.toInt32)))) (fun h => by rw [hret] at h; cases h) (fun fs hr => retN X15 hx (t := .char) hret (by simp) (hb hby d17_14) hr) ?_ (by decide) (by decide)
    show Q17 Z o0 p1 kb y0 y1 y2 y3 y4 y5 h0 n0 (some (.int (nar .char ((y3 &&& (255 : Int32)).toUInt32.toUInt16.toUInt32.toInt32)))) T15.heap _
    rw [e15]
    refine ⟨?_, N15, rfl⟩
    unfold val_17
    rw [if_neg (by rw [hv1]; decide : ¬ (p1 = (0 : Int32))), if_neg (by rw [hv1]; decide : ¬ (p1 = (1 : Int32))), if_neg (by rw [hv1]; decide : ¬ (p1 = (2 : Int32))), if_pos hv1]
  · show Go _ _ _ _ _ _ _ s₁ (mkF m 0 #[.val (.ref o0), .val (.int p1)] [])
    refine Go.fr (f' := (mkF m 0 #[.val (.ref o0), .val (.int (4 : Int32))] [])) (by rw [hv1]) ?_
    show Go _ _ _ _ _ _ _ s₁ (mkF m 0 #[.val (.ref o0), .val (.int (4 : Int32))] [])
    refine Go.st (fun _ k => XS.iloadN X0.here hx rfl (hb hby d17_0) rfl k) ?_
    show Go _ _ _ _ _ _ _ s₁ (mkF m 1 #[.val (.ref o0), .val (.int (4 : Int32))] [(.int (4 : Int32))])
    refine Go.st (fun _ k => XS.aloadN X0.here hx rfl (hb hby d17_1) rfl rfl k) ?_
    show Go _ _ _ _ _ _ _ s₁ (mkF m 2 #[.val (.ref o0), .val (.int (4 : Int32))] [(.ref o0), (.int (4 : Int32))])
    obtain ⟨cl18, Ar18, qq18, SS18, NN18, HH18, GG18⟩ := id V_o0
    refine Go.st (fun _ k => X0.arraylength hx (by rw [e0]; exact Ar18.1) (State.isArrayOf_alike hZ.alike Ar18.2.1) (g := (mkF m 2 #[.val (.ref o0), .val (.int (4 : Int32))] [(.ref o0), (.int (4 : Int32))])) rfl rfl (hb hby d17_2) _ k) ?_
    rw [len_of SS18 NN18]
    show Go _ _ _ _ _ _ _ s₁ (mkF m 3 #[.val (.ref o0), .val (.int (4 : Int32))] [(.int (6 : Int32)), (.int (4 : Int32))])
    obtain ⟨_, _, ⟨T19, L19, ck19, cn19⟩, -, X19, ⟨Lc19, hQ19, l19, y19, z19⟩, st19⟩ := Jvm.LawKit.callS X0 hx (y := (⟨"java/lang/String", "checkIndex", "(II)V"⟩ : MethodName)) hown (mvT hZ (hw _ (List.mem_of_getElem? (i := 94) rfl))) (mvT hZ (hw _ (List.mem_of_getElem? (i := 95) rfl))) (mvT hZ (hw _ (List.mem_of_getElem? (i := 4) rfl))) (mvT hZ (hw _ (List.mem_of_getElem? (i := 96) rfl))) (by decide) (backOf (W := 0) (rm18 l Z a0 hw [] (4 : Int32) (6 : Int32)  h0 n0 Z0 (by decide) (by decide) S_SI) hZ (hw _ (List.mem_of_getElem? (i := 96) rfl)) (hw _ (List.mem_of_getElem? (i := 4) rfl)) (by decide) (by decide)) (g := (mkF m 3 #[.val (.ref o0), .val (.int (4 : Int32))] [(.int (6 : Int32)), (.int (4 : Int32))])) rfl (by rw [hml]; rfl) (argsL := [(.int (4 : Int32)), (.int (6 : Int32))]) (rest := []) (lenOf pd_2 rfl) rfl (by show 2 * 0 + _ ≤ _; exact Nat.le_of_eq rfl) (hb hby d17_3) (fun _ _ => ⟨rfl, e0, (by decide : 0 + 0 ≤ _), (by decide : 0 + 0 ≤ _)⟩)
    dsimp only [Pt.U, Pt.locs, Pt.cells, Pt.slots] at X19 l19 y19 z19 st19 hQ19
    subst l19 y19 z19
    obtain ⟨rfl, N19q, e19⟩ := hQ19
    have N19 := Fr.app N0 N19q
    refine Go.st st19 ?_
    show Go _ _ _ _ _ _ _ T19 (mkF m 6 #[.val (.ref o0), .val (.int (4 : Int32))] [])
    refine Go.st (fun _ k => XS.aloadN X19.here hx rfl (hb hby d17_6) rfl rfl k) ?_
    show Go _ _ _ _ _ _ _ T19 (mkF m 7 #[.val (.ref o0), .val (.int (4 : Int32))] [(.ref o0)])
    refine Go.st (fun _ k => XS.iloadN X19.here hx rfl (hb hby d17_7) rfl k) ?_
    show Go _ _ _ _ _ _ _ T19 (mkF m 8 #[.val (.ref o0), .val (.int (4 : Int32))] [(.int (4 : Int32)), (.ref o0)])
    obtain ⟨cl20, Ar20, qq20, SS20, NN20, HH20, GG20⟩ := id V_o0
    have hin21 : ¬ ((4 : Int32) < 0 ∨ cl20.slots.size ≤ ((4 : Int32)).toNatClampNeg) := inb_of SS20 ⟨by decide, by decide⟩
    refine Go.st (fun _ k => X19.baloadBytes hx (j := (4 : Int32)) (v := (.int y4)) (by rw [e19]; exact Ar20.1) (State.isArrayOf_alike hZ.alike Ar20.2.1) Ar20.2.2 hin21 (HH20.at hin21 rfl) (g := (mkF m 8 #[.val (.ref o0), .val (.int (4 : Int32))] [(.int (4 : Int32)), (.ref o0)])) rfl rfl (hb hby d17_8) _ k) ?_
    show Go _ _ _ _ _ _ _ T19 (mkF m 9 #[.val (.ref o0), .val (.int (4 : Int32))] [(.int y4)])
    refine Go.st (fun _ k => XS.sipush X19.here hx rfl (hb hby d17_9) k) ?_
    show Go _ _ _ _ _ _ _ T19 (mkF m 12 #[.val (.ref o0), .val (.int (4 : Int32))] [(.int (255 : Int32)), (.int y4)])
    refine Go.st (fun _ k => XS.iand X19.here hx rfl (hb hby d17_12) rfl k) ?_
    show Go _ _ _ _ _ _ _ T19 (mkF m 13 #[.val (.ref o0), .val (.int (4 : Int32))] [(.int (y4 &&& (255 : Int32)))])
    refine Go.st (fun _ k => XS.i2c X19.here hx rfl (hb hby d17_13) rfl k) ?_
    show Go _ _ _ _ _ _ _ T19 (mkF m 14 #[.val (.ref o0), .val (.int (4 : Int32))] [(.int ((y4 &&& (255 : Int32)).toUInt32.toUInt16.toUInt32.toInt32))])
    refine Go.ret X19 hlk (v := some (.int (nar .char ((y4 &&& (255 : Int32)).toUInt32.toUInt16.toUInt32.toInt32)))) (fun h => by rw [hret] at h; cases h) (fun fs hr => retN X19 hx (t := .char) hret (by simp) (hb hby d17_14) hr) ?_ (by decide) (by decide)
    show Q17 Z o0 p1 kb y0 y1 y2 y3 y4 y5 h0 n0 (some (.int (nar .char ((y4 &&& (255 : Int32)).toUInt32.toUInt16.toUInt32.toInt32)))) T19.heap _
    rw [e19]
    refine ⟨?_, N19, rfl⟩
    unfold val_17
    rw [if_neg (by rw [hv1]; decide : ¬ (p1 = (0 : Int32))), if_neg (by rw [hv1]; decide : ¬ (p1 = (1 : Int32))), if_neg (by rw [hv1]; decide : ¬ (p1 = (2 : Int32))), if_neg (by rw [hv1]; decide : ¬ (p1 = (3 : Int32))), if_pos hv1]
  · show Go _ _ _ _ _ _ _ s₁ (mkF m 0 #[.val (.ref o0), .val (.int p1)] [])
    refine Go.fr (f' := (mkF m 0 #[.val (.ref o0), .val (.int (5 : Int32))] [])) (by rw [hv1]) ?_
    show Go _ _ _ _ _ _ _ s₁ (mkF m 0 #[.val (.ref o0), .val (.int (5 : Int32))] [])
    refine Go.st (fun _ k => XS.iloadN X0.here hx rfl (hb hby d17_0) rfl k) ?_
    show Go _ _ _ _ _ _ _ s₁ (mkF m 1 #[.val (.ref o0), .val (.int (5 : Int32))] [(.int (5 : Int32))])
    refine Go.st (fun _ k => XS.aloadN X0.here hx rfl (hb hby d17_1) rfl rfl k) ?_
    show Go _ _ _ _ _ _ _ s₁ (mkF m 2 #[.val (.ref o0), .val (.int (5 : Int32))] [(.ref o0), (.int (5 : Int32))])
    obtain ⟨cl22, Ar22, qq22, SS22, NN22, HH22, GG22⟩ := id V_o0
    refine Go.st (fun _ k => X0.arraylength hx (by rw [e0]; exact Ar22.1) (State.isArrayOf_alike hZ.alike Ar22.2.1) (g := (mkF m 2 #[.val (.ref o0), .val (.int (5 : Int32))] [(.ref o0), (.int (5 : Int32))])) rfl rfl (hb hby d17_2) _ k) ?_
    rw [len_of SS22 NN22]
    show Go _ _ _ _ _ _ _ s₁ (mkF m 3 #[.val (.ref o0), .val (.int (5 : Int32))] [(.int (6 : Int32)), (.int (5 : Int32))])
    obtain ⟨_, _, ⟨T23, L23, ck23, cn23⟩, -, X23, ⟨Lc23, hQ23, l23, y23, z23⟩, st23⟩ := Jvm.LawKit.callS X0 hx (y := (⟨"java/lang/String", "checkIndex", "(II)V"⟩ : MethodName)) hown (mvT hZ (hw _ (List.mem_of_getElem? (i := 94) rfl))) (mvT hZ (hw _ (List.mem_of_getElem? (i := 95) rfl))) (mvT hZ (hw _ (List.mem_of_getElem? (i := 4) rfl))) (mvT hZ (hw _ (List.mem_of_getElem? (i := 96) rfl))) (by decide) (backOf (W := 0) (rm18 l Z a0 hw [] (5 : Int32) (6 : Int32)  h0 n0 Z0 (by decide) (by decide) S_SI) hZ (hw _ (List.mem_of_getElem? (i := 96) rfl)) (hw _ (List.mem_of_getElem? (i := 4) rfl)) (by decide) (by decide)) (g := (mkF m 3 #[.val (.ref o0), .val (.int (5 : Int32))] [(.int (6 : Int32)), (.int (5 : Int32))])) rfl (by rw [hml]; rfl) (argsL := [(.int (5 : Int32)), (.int (6 : Int32))]) (rest := []) (lenOf pd_2 rfl) rfl (by show 2 * 0 + _ ≤ _; exact Nat.le_of_eq rfl) (hb hby d17_3) (fun _ _ => ⟨rfl, e0, (by decide : 0 + 0 ≤ _), (by decide : 0 + 0 ≤ _)⟩)
    dsimp only [Pt.U, Pt.locs, Pt.cells, Pt.slots] at X23 l23 y23 z23 st23 hQ23
    subst l23 y23 z23
    obtain ⟨rfl, N23q, e23⟩ := hQ23
    have N23 := Fr.app N0 N23q
    refine Go.st st23 ?_
    show Go _ _ _ _ _ _ _ T23 (mkF m 6 #[.val (.ref o0), .val (.int (5 : Int32))] [])
    refine Go.st (fun _ k => XS.aloadN X23.here hx rfl (hb hby d17_6) rfl rfl k) ?_
    show Go _ _ _ _ _ _ _ T23 (mkF m 7 #[.val (.ref o0), .val (.int (5 : Int32))] [(.ref o0)])
    refine Go.st (fun _ k => XS.iloadN X23.here hx rfl (hb hby d17_7) rfl k) ?_
    show Go _ _ _ _ _ _ _ T23 (mkF m 8 #[.val (.ref o0), .val (.int (5 : Int32))] [(.int (5 : Int32)), (.ref o0)])
    obtain ⟨cl24, Ar24, qq24, SS24, NN24, HH24, GG24⟩ := id V_o0
    have hin25 : ¬ ((5 : Int32) < 0 ∨ cl24.slots.size ≤ ((5 : Int32)).toNatClampNeg) := inb_of SS24 ⟨by decide, by decide⟩
    refine Go.st (fun _ k => X23.baloadBytes hx (j := (5 : Int32)) (v := (.int y5)) (by rw [e23]; exact Ar24.1) (State.isArrayOf_alike hZ.alike Ar24.2.1) Ar24.2.2 hin25 (HH24.at hin25 rfl) (g := (mkF m 8 #[.val (.ref o0), .val (.int (5 : Int32))] [(.int (5 : Int32)), (.ref o0)])) rfl rfl (hb hby d17_8) _ k) ?_
    show Go _ _ _ _ _ _ _ T23 (mkF m 9 #[.val (.ref o0), .val (.int (5 : Int32))] [(.int y5)])
    refine Go.st (fun _ k => XS.sipush X23.here hx rfl (hb hby d17_9) k) ?_
    show Go _ _ _ _ _ _ _ T23 (mkF m 12 #[.val (.ref o0), .val (.int (5 : Int32))] [(.int (255 : Int32)), (.int y5)])
    refine Go.st (fun _ k => XS.iand X23.here hx rfl (hb hby d17_12) rfl k) ?_
    show Go _ _ _ _ _ _ _ T23 (mkF m 13 #[.val (.ref o0), .val (.int (5 : Int32))] [(.int (y5 &&& (255 : Int32)))])
    refine Go.st (fun _ k => XS.i2c X23.here hx rfl (hb hby d17_13) rfl k) ?_
    show Go _ _ _ _ _ _ _ T23 (mkF m 14 #[.val (.ref o0), .val (.int (5 : Int32))] [(.int ((y5 &&& (255 : Int32)).toUInt32.toUInt16.toUInt32.toInt32))])
    refine Go.ret X23 hlk (v := some (.int (nar .char ((y5 &&& (255 : Int32)).toUInt32.toUInt16.toUInt32.toInt32)))) (fun h => by rw [hret] at h; cases h) (fun fs hr => retN X23 hx (t := .char) hret (by simp) (hb hby d17_14) hr) ?_ (by decide) (by decide)
    show Q17 Z o0 p1 kb y0 y1 y2 y3 y4 y5 h0 n0 (some (.int (nar .char ((y5 &&& (255 : Int32)).toUInt32.toUInt16.toUInt32.toInt32)))) T23.heap _
    rw [e23]
    refine ⟨?_, N23, rfl⟩
    unfold val_17
    rw [if_neg (by rw [hv1]; decide : ¬ (p1 = (0 : Int32))), if_neg (by rw [hv1]; decide : ¬ (p1 = (1 : Int32))), if_neg (by rw [hv1]; decide : ¬ (p1 = (2 : Int32))), if_neg (by rw [hv1]; decide : ¬ (p1 = (3 : Int32))), if_neg (by rw [hv1]; decide : ¬ (p1 = (4 : Int32)))]
theorem own_l1 {k0 k1 k2 k3 k4 k5 : Int32} (o : Addr) (p : Int32) (kb : ClassId) (V : p = 0 ∨ p = 1 ∨ p = 2 ∨ p = 3 ∨ p = 4 ∨ p = 5) (hW : Wide16 k0 k1 k2 k3 k4 k5) (hl : Lat k0 k1 k2 k3 k4 k5) : val_17 o p kb (k0.toInt8.toInt32) (k1.toInt8.toInt32) (k2.toInt8.toInt32) (k3.toInt8.toInt32) (k4.toInt8.toInt32) (k5.toInt8.toInt32) = kF p k0 k1 k2 k3 k4 k5 := by
  obtain ⟨w0, w1, w2, w3, w4, w5⟩ := hW
  obtain ⟨l0, l1, l2, l3, l4, l5⟩ := hl
  rcases V with rfl | rfl | rfl | rfl | rfl | rfl
  · exact own_lat w0.1 l0
  · exact own_lat w1.1 l1
  · exact own_lat w2.1 l2
  · exact own_lat w3.1 l3
  · exact own_lat w4.1 l4
  · exact own_lat w5.1 l5
theorem d16_0 : decode jdk_42_method_154_code 0 = .ok (.getstatic 38, 3) := by decide +kernel
theorem d16_3 : decode jdk_42_method_154_code 3 = .ok (.ifCond .eq 14, 3) := by decide +kernel
theorem d16_6 : decode jdk_42_method_154_code 6 = .ok (.aload_n 0, 1) := by decide +kernel
theorem d16_7 : decode jdk_42_method_154_code 7 = .ok (.getfield 15, 3) := by decide +kernel
theorem d16_10 : decode jdk_42_method_154_code 10 = .ok (.ifCond .ne 7, 3) := by decide +kernel
theorem d16_13 : decode jdk_42_method_154_code 13 = .ok (.iconst 1, 1) := by decide +kernel
theorem d16_14 : decode jdk_42_method_154_code 14 = .ok (.goto 4, 3) := by decide +kernel
theorem d16_17 : decode jdk_42_method_154_code 17 = .ok (.iconst 0, 1) := by decide +kernel
theorem d16_18 : decode jdk_42_method_154_code 18 = .ok (.ireturn, 1) := by decide +kernel
def val_16 (o0 : Addr) (cd : Int32) (G1 : Int32) : Int32 := (if cd = (0 : Int32) then (1 : Int32) else (0 : Int32))
theorem ef_16 (m : MethodId) (o0 : Addr) : entryFrame m #[(.ref o0)] 1 = mkF m 0 #[.val (.ref o0)] [] := by first | (simp [entryFrame, mkF, argsToLocals, Value.category]; done) | rfl
def Q16 (Z : State) (o0 : Addr) (cd : Int32) (G1 : Int32) (h0 : Heap) (n0 : Nat) (v : Option Value) (h : Heap) (L : List Loc) : Prop := v = some (.int (val_16 o0 cd G1)) ∧ Fr n0 L ∧ h = h0
set_option maxRecDepth 65536 in
set_option maxHeartbeats 40000000 in
theorem rm16 (l : Launch) (Z : State) (a0 : Array Value) (hw : ∀ d ∈ tables_1, d.before a0 Z = true) (ws : List Jvm.Cond) (o0 : Addr) (cd : Int32) (G1 : Int32) (h0 : Heap) (n0 : Nat) (Z0 : n0 ≤ h0.size) (F_coder_o0 : Fld Z h0 o0 "java/lang/String" "coder" "B" (.int cd)) (S_CS : Sta Z h0 "java/lang/String" "COMPACT_STRINGS" "Z" (.int G1)) (P_CS : ¬ G1 = (0 : Int32)) :
    MetFree l (⟨"java/lang/String", "isLatin1", "()Z"⟩ : MethodName) (head1 (Jvm.Cond.code (⟨"java/lang/String", "isLatin1", "()Z"⟩ : MethodName) jdk_42_method_154_code 1 (some .boolean) :: ws) ({ frames := 0, cells := 0, slots := 0, locals := 0 } : Room)) (fun a U => a = #[(.ref o0)] ∧ Z.Warmed39 U.vm ∧ U.heap = h0) (fun _ _ _ _ _ => True) (fun _ U o U' => ∃ v L, o = .returned v ∧ Q16 Z o0 cd G1 h0 n0 v U'.heap L ∧ FrameEnd U o U' L ({ frames := 0, cells := 0, slots := 0, locals := 0 } : Room).cells ({ frames := 0, cells := 0, slots := 0, locals := 0 } : Room).slots) := by
  refine MetFree.of_bodySF (plainFor_of_name pn_java_lang_String) hisR ?_
  intro p e s m args below meth c s₁ Bd hml0 hP hK
  obtain ⟨rfl, hZ, hh⟩ := hP
  have hx := Bd.exec
  have hby := Bd.bytes
  have hlk : meth.locks = false := BodyLoose.notSynchronized Bd
  have hret := Bd.returns
  have hml : c.maxLocals = 1 := hml0
  have hown : s.vm.findClass "java/lang/String" = some m.cls := findClass_of_methodNamed Bd.named
  have hnm := (name_of_methodNamed Bd.named Bd.method).1
  have X0 : Stand p l e ({ frames := 0, cells := 0, slots := 0, locals := 0 } : Room) s m #[(.ref o0)] below meth c s₁ [] 0 0 := Stand.of_body Bd
  have e0 : s₁.heap = h0 := by rw [← hh, Bd.state]; rfl
  have N0 := Fr.nil n0
  refine Go.start (Q := Q16 Z o0 cd G1 h0 n0) (ef_16 m o0) ?_
  show Go _ _ _ _ _ _ _ s₁ (mkF m 0 #[.val (.ref o0)] [])
  obtain ⟨T1, X1, e1, st1⟩ := getS2 X0 hx hZ hown (host := "") (Or.inl (hw _ (List.mem_of_getElem? (i := 15) rfl))) Via.refl e0 S_CS (g := (mkF m 0 #[.val (.ref o0)] [])) rfl (hb hby d16_0)
  refine Go.st st1 ?_
  show Go _ _ _ _ _ _ _ T1 (mkF m 3 #[.val (.ref o0)] [(.int G1)])
  refine Go.st (fun _ k => XS.ifNo X1.here hx rfl (hb hby d16_3) rfl ((if0 _ _).trans (feq P_CS).1) k) ?_
  show Go _ _ _ _ _ _ _ T1 (mkF m 6 #[.val (.ref o0)] [])
  refine Go.st (fun _ k => XS.aloadN X1.here hx rfl (hb hby d16_6) rfl rfl k) ?_
  show Go _ _ _ _ _ _ _ T1 (mkF m 7 #[.val (.ref o0)] [(.ref o0)])
  obtain ⟨T2, X2, e2, st2⟩ := getF X1 hx hZ hown (host := "") (Or.inl (hw _ (List.mem_of_getElem? (i := 27) rfl))) Via.refl e1 F_coder_o0 (g := (mkF m 7 #[.val (.ref o0)] [(.ref o0)])) rfl rfl (hb hby d16_7)
  refine Go.st st2 ?_
  show Go _ _ _ _ _ _ _ T2 (mkF m 10 #[.val (.ref o0)] [(.int cd)])
  by_cases hc3 : cd = (0 : Int32)
  · refine Go.st (fun _ k => XS.ifNo X2.here hx rfl (hb hby d16_10) rfl ((if0 _ _).trans (teq hc3).2) k) ?_
    show Go _ _ _ _ _ _ _ T2 (mkF m 13 #[.val (.ref o0)] [])
    refine Go.st (fun _ k => XS.iconst X2.here hx rfl (hb hby d16_13) k) ?_
    show Go _ _ _ _ _ _ _ T2 (mkF m 14 #[.val (.ref o0)] [(.int (1 : Int32))])
    refine Go.st (fun _ k => XS.goto X2.here hx rfl (pc0 := 14) (pc' := 18) rfl (hb hby d16_14) (by decide) (by decide) k) ?_
    show Go _ _ _ _ _ _ _ T2 (mkF m 18 #[.val (.ref o0)] [(.int (1 : Int32))])
    refine Go.ret X2 hlk (v := some (.int (1 : Int32))) (fun h => by rw [hret] at h; cases h) (fun fs hr => retN X2 hx (t := .boolean) hret (by simp) (hb hby d16_18) hr) ?_ (by decide) (by decide)
    show Q16 Z o0 cd G1 h0 n0 (some (.int (1 : Int32))) T2.heap _
    rw [e2]
    refine ⟨?_, N0, rfl⟩
    unfold val_16
    rw [if_pos hc3]
  · refine Go.st (fun _ k => XS.ifYes X2.here hx rfl (pc0 := 10) (pc' := 17) rfl (hb hby d16_10) rfl ((if0 _ _).trans (feq hc3).2) (by decide) (by decide) k) ?_
    show Go _ _ _ _ _ _ _ T2 (mkF m 17 #[.val (.ref o0)] [])
    refine Go.st (fun _ k => XS.iconst X2.here hx rfl (hb hby d16_17) k) ?_
    show Go _ _ _ _ _ _ _ T2 (mkF m 18 #[.val (.ref o0)] [(.int (0 : Int32))])
    refine Go.ret X2 hlk (v := some (.int (0 : Int32))) (fun h => by rw [hret] at h; cases h) (fun fs hr => retN X2 hx (t := .boolean) hret (by simp) (hb hby d16_18) hr) ?_ (by decide) (by decide)
    show Q16 Z o0 cd G1 h0 n0 (some (.int (0 : Int32))) T2.heap _
    rw [e2]
    refine ⟨?_, N0, rfl⟩
    unfold val_16
    rw [if_neg hc3]
theorem d10_0 : decode jdk_42_method_152_code 0 = .ok (.getstatic 38, 3) := by decide +kernel
theorem d10_3 : decode jdk_42_method_152_code 3 = .ok (.ifCond .eq 10, 3) := by decide +kernel
theorem d10_6 : decode jdk_42_method_152_code 6 = .ok (.aload_n 0, 1) := by decide +kernel
theorem d10_7 : decode jdk_42_method_152_code 7 = .ok (.getfield 15, 3) := by decide +kernel
theorem d10_10 : decode jdk_42_method_152_code 10 = .ok (.goto 4, 3) := by decide +kernel
theorem d10_14 : decode jdk_42_method_152_code 14 = .ok (.ireturn, 1) := by decide +kernel
def val_10 (o0 : Addr) (cd : Int32) (G1 : Int32) : Int32 := (nar .byte cd)
theorem ef_10 (m : MethodId) (o0 : Addr) : entryFrame m #[(.ref o0)] 1 = mkF m 0 #[.val (.ref o0)] [] := by first | (simp [entryFrame, mkF, argsToLocals, Value.category]; done) | rfl
def Q10 (Z : State) (o0 : Addr) (cd : Int32) (G1 : Int32) (h0 : Heap) (n0 : Nat) (v : Option Value) (h : Heap) (L : List Loc) : Prop := v = some (.int (val_10 o0 cd G1)) ∧ Fr n0 L ∧ h = h0
set_option maxRecDepth 65536 in
set_option maxHeartbeats 40000000 in
theorem rm10 (l : Launch) (Z : State) (a0 : Array Value) (hw : ∀ d ∈ tables_1, d.before a0 Z = true) (ws : List Jvm.Cond) (o0 : Addr) (cd : Int32) (G1 : Int32) (h0 : Heap) (n0 : Nat) (Z0 : n0 ≤ h0.size) (F_coder_o0 : Fld Z h0 o0 "java/lang/String" "coder" "B" (.int cd)) (S_CS : Sta Z h0 "java/lang/String" "COMPACT_STRINGS" "Z" (.int G1)) (P_CS : ¬ G1 = (0 : Int32)) :
    MetFree l (⟨"java/lang/String", "coder", "()B"⟩ : MethodName) (head1 (Jvm.Cond.code (⟨"java/lang/String", "coder", "()B"⟩ : MethodName) jdk_42_method_152_code 1 (some .byte) :: ws) ({ frames := 0, cells := 0, slots := 0, locals := 0 } : Room)) (fun a U => a = #[(.ref o0)] ∧ Z.Warmed39 U.vm ∧ U.heap = h0) (fun _ _ _ _ _ => True) (fun _ U o U' => ∃ v L, o = .returned v ∧ Q10 Z o0 cd G1 h0 n0 v U'.heap L ∧ FrameEnd U o U' L ({ frames := 0, cells := 0, slots := 0, locals := 0 } : Room).cells ({ frames := 0, cells := 0, slots := 0, locals := 0 } : Room).slots) := by
  refine MetFree.of_bodySF (plainFor_of_name pn_java_lang_String) hisR ?_
  intro p e s m args below meth c s₁ Bd hml0 hP hK
  obtain ⟨rfl, hZ, hh⟩ := hP
  have hx := Bd.exec
  have hby := Bd.bytes
  have hlk : meth.locks = false := BodyLoose.notSynchronized Bd
  have hret := Bd.returns
  have hml : c.maxLocals = 1 := hml0
  have hown : s.vm.findClass "java/lang/String" = some m.cls := findClass_of_methodNamed Bd.named
  have hnm := (name_of_methodNamed Bd.named Bd.method).1
  have X0 : Stand p l e ({ frames := 0, cells := 0, slots := 0, locals := 0 } : Room) s m #[(.ref o0)] below meth c s₁ [] 0 0 := Stand.of_body Bd
  have e0 : s₁.heap = h0 := by rw [← hh, Bd.state]; rfl
  have N0 := Fr.nil n0
  refine Go.start (Q := Q10 Z o0 cd G1 h0 n0) (ef_10 m o0) ?_
  show Go _ _ _ _ _ _ _ s₁ (mkF m 0 #[.val (.ref o0)] [])
  obtain ⟨T1, X1, e1, st1⟩ := getS2 X0 hx hZ hown (host := "") (Or.inl (hw _ (List.mem_of_getElem? (i := 15) rfl))) Via.refl e0 S_CS (g := (mkF m 0 #[.val (.ref o0)] [])) rfl (hb hby d10_0)
  refine Go.st st1 ?_
  show Go _ _ _ _ _ _ _ T1 (mkF m 3 #[.val (.ref o0)] [(.int G1)])
  refine Go.st (fun _ k => XS.ifNo X1.here hx rfl (hb hby d10_3) rfl ((if0 _ _).trans (feq P_CS).1) k) ?_
  show Go _ _ _ _ _ _ _ T1 (mkF m 6 #[.val (.ref o0)] [])
  refine Go.st (fun _ k => XS.aloadN X1.here hx rfl (hb hby d10_6) rfl rfl k) ?_
  show Go _ _ _ _ _ _ _ T1 (mkF m 7 #[.val (.ref o0)] [(.ref o0)])
  obtain ⟨T2, X2, e2, st2⟩ := getF X1 hx hZ hown (host := "") (Or.inl (hw _ (List.mem_of_getElem? (i := 27) rfl))) Via.refl e1 F_coder_o0 (g := (mkF m 7 #[.val (.ref o0)] [(.ref o0)])) rfl rfl (hb hby d10_7)
  refine Go.st st2 ?_
  show Go _ _ _ _ _ _ _ T2 (mkF m 10 #[.val (.ref o0)] [(.int cd)])
  refine Go.st (fun _ k => XS.goto X2.here hx rfl (pc0 := 10) (pc' := 14) rfl (hb hby d10_10) (by decide) (by decide) k) ?_
  show Go _ _ _ _ _ _ _ T2 (mkF m 14 #[.val (.ref o0)] [(.int cd)])
  refine Go.ret X2 hlk (v := some (.int (nar .byte cd))) (fun h => by rw [hret] at h; cases h) (fun fs hr => retN X2 hx (t := .byte) hret (by simp) (hb hby d10_14) hr) ?_ (by decide) (by decide)
  show Q10 Z o0 cd G1 h0 n0 (some (.int (nar .byte cd))) T2.heap _
  rw [e2]
  refine ⟨?_, N0, rfl⟩
  unfold val_10
  rfl
theorem d9_0 : decode jdk_42_method_54_code 0 = .ok (.aload_n 0, 1) := by decide +kernel
theorem d9_1 : decode jdk_42_method_54_code 1 = .ok (.getfield 9, 3) := by decide +kernel
theorem d9_4 : decode jdk_42_method_54_code 4 = .ok (.arraylength, 1) := by decide +kernel
theorem d9_5 : decode jdk_42_method_54_code 5 = .ok (.aload_n 0, 1) := by decide +kernel
theorem d9_6 : decode jdk_42_method_54_code 6 = .ok (.invokevirtual 335, 3) := by decide +kernel
theorem d9_9 : decode jdk_42_method_54_code 9 = .ok (.ishr, 1) := by decide +kernel
theorem d9_10 : decode jdk_42_method_54_code 10 = .ok (.ireturn, 1) := by decide +kernel
theorem ef_9 (m : MethodId) (o0 : Addr) : entryFrame m #[(.ref o0)] 1 = mkF m 0 #[.val (.ref o0)] [] := by first | (simp [entryFrame, mkF, argsToLocals, Value.category]; done) | rfl
def Q9 (Z : State) (o0 : Addr) (t : Addr) (kb : ClassId) (k0 : Int32) (k1 : Int32) (k2 : Int32) (k3 : Int32) (k4 : Int32) (k5 : Int32) (G1 : Int32) (h0 : Heap) (n0 : Nat) (v : Option Value) (h : Heap) (L : List Loc) : Prop := v = some (.int (6 : Int32)) ∧ Fr n0 L ∧ h = h0
set_option maxRecDepth 65536 in
set_option maxHeartbeats 40000000 in
theorem rm9 (l : Launch) (Z : State) (a0 : Array Value) (hw : ∀ d ∈ tables_1, d.before a0 Z = true) (ws : List Jvm.Cond) (o0 : Addr) (t : Addr) (kb : ClassId) (k0 : Int32) (k1 : Int32) (k2 : Int32) (k3 : Int32) (k4 : Int32) (k5 : Int32) (G1 : Int32) (h0 : Heap) (n0 : Nat) (Z0 : n0 ≤ h0.size) (E_o0 : Exa Z h0 o0 "java/lang/String") (F_value_o0 : Fld Z h0 o0 "java/lang/String" "value" "[B" (.ref t)) (N_o0 : Enc Z h0 o0 t kb k0 k1 k2 k3 k4 k5) (S_CS : Sta Z h0 "java/lang/String" "COMPACT_STRINGS" "Z" (.int G1)) (P_CS : ¬ G1 = (0 : Int32)) :
    MetFree l (⟨"java/lang/String", "length", "()I"⟩ : MethodName) (head1 (Jvm.Cond.code (⟨"java/lang/String", "length", "()I"⟩ : MethodName) jdk_42_method_54_code 1 (some .int) :: ws) ({ frames := 1, cells := 0, slots := 0, locals := 13 } : Room)) (fun a U => a = #[(.ref o0)] ∧ Z.Warmed39 U.vm ∧ U.heap = h0) (fun _ _ _ _ _ => True) (fun _ U o U' => ∃ v L, o = .returned v ∧ Q9 Z o0 t kb k0 k1 k2 k3 k4 k5 G1 h0 n0 v U'.heap L ∧ FrameEnd U o U' L ({ frames := 1, cells := 0, slots := 0, locals := 13 } : Room).cells ({ frames := 1, cells := 0, slots := 0, locals := 13 } : Room).slots) := by
  refine MetFree.of_bodySF (plainFor_of_name pn_java_lang_String) hisR ?_
  intro p e s m args below meth c s₁ Bd hml0 hP hK
  obtain ⟨rfl, hZ, hh⟩ := hP
  have hx := Bd.exec
  have hby := Bd.bytes
  have hlk : meth.locks = false := BodyLoose.notSynchronized Bd
  have hret := Bd.returns
  have hml : c.maxLocals = 1 := hml0
  have hown : s.vm.findClass "java/lang/String" = some m.cls := findClass_of_methodNamed Bd.named
  have hnm := (name_of_methodNamed Bd.named Bd.method).1
  have X0 : Stand p l e ({ frames := 1, cells := 0, slots := 0, locals := 13 } : Room) s m #[(.ref o0)] below meth c s₁ [] 0 0 := Stand.of_body Bd
  have e0 : s₁.heap = h0 := by rw [← hh, Bd.state]; rfl
  have N0 := Fr.nil n0
  refine Go.start (Q := Q9 Z o0 t kb k0 k1 k2 k3 k4 k5 G1 h0 n0) (ef_9 m o0) ?_
  rcases N_o0 with ⟨F_c, V_t, hl⟩ | ⟨F_c, V_t⟩
  · show Go _ _ _ _ _ _ _ s₁ (mkF m 0 #[.val (.ref o0)] [])
    refine Go.st (fun _ k => XS.aloadN X0.here hx rfl (hb hby d9_0) rfl rfl k) ?_
    show Go _ _ _ _ _ _ _ s₁ (mkF m 1 #[.val (.ref o0)] [(.ref o0)])
    obtain ⟨T1, X1, e1, st1⟩ := getF X0 hx hZ hown (host := "") (Or.inl (hw _ (List.mem_of_getElem? (i := 29) rfl))) Via.refl e0 F_value_o0 (g := (mkF m 1 #[.val (.ref o0)] [(.ref o0)])) rfl rfl (hb hby d9_1)
    refine Go.st st1 ?_
    show Go _ _ _ _ _ _ _ T1 (mkF m 4 #[.val (.ref o0)] [(.ref t)])
    obtain ⟨cl2, Ar2, qq2, SS2, NN2, HH2, GG2⟩ := id V_t
    refine Go.st (fun _ k => X1.arraylength hx (by rw [e1]; exact Ar2.1) (State.isArrayOf_alike hZ.alike Ar2.2.1) (g := (mkF m 4 #[.val (.ref o0)] [(.ref t)])) rfl rfl (hb hby d9_4) _ k) ?_
    rw [len_of SS2 NN2]
    show Go _ _ _ _ _ _ _ T1 (mkF m 5 #[.val (.ref o0)] [(.int (6 : Int32))])
    refine Go.st (fun _ k => XS.aloadN X1.here hx rfl (hb hby d9_5) rfl rfl k) ?_
    show Go _ _ _ _ _ _ _ T1 (mkF m 6 #[.val (.ref o0)] [(.ref o0), (.int (6 : Int32))])
    obtain ⟨cq3, kq3, q3a, q3b, q3c⟩ := isOf hZ e1 E_o0
    obtain ⟨_, _, ⟨T3, L3, ck3, cn3⟩, -, X3, ⟨Lc3, hQ3, l3, y3, z3⟩, st3⟩ := X1.virtualBack hx (y := (⟨"java/lang/String", "coder", "()B"⟩ : MethodName)) (z := (⟨"java/lang/String", "coder", "()B"⟩ : MethodName)) hown (mvT hZ (hw _ (List.mem_of_getElem? (i := 49) rfl))) (mvT hZ (hw _ (List.mem_of_getElem? (i := 50) rfl))) (notFace_of_selects (args := #[]) (mvT hZ (hw _ (List.mem_of_getElem? (i := 52) rfl)))) (mvT hZ (hw _ (List.mem_of_getElem? (i := 52) rfl))) (mvT hZ (hw _ (List.mem_of_getElem? (i := 51) rfl))) (by decide) (backOf (W := 1) (rm10 l Z a0 hw [] o0 (0 : Int32) G1 h0 n0 Z0 F_c S_CS P_CS) hZ (hw _ (List.mem_of_getElem? (i := 53) rfl)) (hw _ (List.mem_of_getElem? (i := 4) rfl)) (by decide) (by decide)) q3a q3c (g := (mkF m 6 #[.val (.ref o0)] [(.ref o0), (.int (6 : Int32))])) rfl (by rw [hml]; rfl) (Steps.refl _) (argsL := []) (rest := [(.int (6 : Int32))]) (lenOf pd_5 rfl) rfl (by show 2 * 0 + _ ≤ _; exact Nat.le_of_eq rfl) (hb hby d9_6) (fun _ _ => ⟨rfl, e1, (by decide : 0 + 0 ≤ _), (by decide : 0 + 0 ≤ _)⟩)
    dsimp only [Pt.U, Pt.locs, Pt.cells, Pt.slots] at X3 l3 y3 z3 st3 hQ3
    subst l3 y3 z3
    obtain ⟨rfl, N3q, e3⟩ := hQ3
    have N3 := Fr.app N0 N3q
    refine Go.st (fun _ k => st3.trans k) ?_
    show Go _ _ _ _ _ _ _ T3 (mkF m 9 #[.val (.ref o0)] [(.int (val_10 o0 (0 : Int32) G1)), (.int (6 : Int32))])
    rw [show (val_10 o0 (0 : Int32) G1) = (0 : Int32) from by unfold val_10; decide +kernel]
    show Go _ _ _ _ _ _ _ T3 (mkF m 9 #[.val (.ref o0)] [(.int (0 : Int32)), (.int (6 : Int32))])
    refine Go.st (fun _ k => XS.ishr X3.here hx rfl (hb hby d9_9) rfl k) ?_
    show Go _ _ _ _ _ _ _ T3 (mkF m 10 #[.val (.ref o0)] [(.int ((6 : Int32) >>> ((0 : Int32) &&& 31)))])
    refine Go.fr (f' := (mkF m 10 #[.val (.ref o0)] [(.int (6 : Int32))])) (by rw [show ((6 : Int32) >>> ((0 : Int32) &&& 31)) = (6 : Int32) from by decide +kernel]) ?_
    show Go _ _ _ _ _ _ _ T3 (mkF m 10 #[.val (.ref o0)] [(.int (6 : Int32))])
    refine Go.ret X3 hlk (v := some (.int (6 : Int32))) (fun h => by rw [hret] at h; cases h) (fun fs hr => retOut X3 hx (t := .int) (i := .ireturn) hret rfl (Or.inl ⟨rfl, Or.inl rfl, _, rfl⟩) (hb hby d9_10) hr) ?_ (by decide) (by decide)
    show Q9 Z o0 t kb k0 k1 k2 k3 k4 k5 G1 h0 n0 (some (.int (6 : Int32))) T3.heap _
    rw [e3]
    exact ⟨rfl, N3, rfl⟩
  · show Go _ _ _ _ _ _ _ s₁ (mkF m 0 #[.val (.ref o0)] [])
    refine Go.st (fun _ k => XS.aloadN X0.here hx rfl (hb hby d9_0) rfl rfl k) ?_
    show Go _ _ _ _ _ _ _ s₁ (mkF m 1 #[.val (.ref o0)] [(.ref o0)])
    obtain ⟨T4, X4, e4, st4⟩ := getF X0 hx hZ hown (host := "") (Or.inl (hw _ (List.mem_of_getElem? (i := 29) rfl))) Via.refl e0 F_value_o0 (g := (mkF m 1 #[.val (.ref o0)] [(.ref o0)])) rfl rfl (hb hby d9_1)
    refine Go.st st4 ?_
    show Go _ _ _ _ _ _ _ T4 (mkF m 4 #[.val (.ref o0)] [(.ref t)])
    obtain ⟨cl5, Ar5, qq5, SS5, NN5, HH5, GG5⟩ := id V_t
    refine Go.st (fun _ k => X4.arraylength hx (by rw [e4]; exact Ar5.1) (State.isArrayOf_alike hZ.alike Ar5.2.1) (g := (mkF m 4 #[.val (.ref o0)] [(.ref t)])) rfl rfl (hb hby d9_4) _ k) ?_
    rw [len_of SS5 NN5]
    show Go _ _ _ _ _ _ _ T4 (mkF m 5 #[.val (.ref o0)] [(.int (12 : Int32))])
    refine Go.st (fun _ k => XS.aloadN X4.here hx rfl (hb hby d9_5) rfl rfl k) ?_
    show Go _ _ _ _ _ _ _ T4 (mkF m 6 #[.val (.ref o0)] [(.ref o0), (.int (12 : Int32))])
    obtain ⟨cq6, kq6, q6a, q6b, q6c⟩ := isOf hZ e4 E_o0
    obtain ⟨_, _, ⟨T6, L6, ck6, cn6⟩, -, X6, ⟨Lc6, hQ6, l6, y6, z6⟩, st6⟩ := X4.virtualBack hx (y := (⟨"java/lang/String", "coder", "()B"⟩ : MethodName)) (z := (⟨"java/lang/String", "coder", "()B"⟩ : MethodName)) hown (mvT hZ (hw _ (List.mem_of_getElem? (i := 49) rfl))) (mvT hZ (hw _ (List.mem_of_getElem? (i := 50) rfl))) (notFace_of_selects (args := #[]) (mvT hZ (hw _ (List.mem_of_getElem? (i := 52) rfl)))) (mvT hZ (hw _ (List.mem_of_getElem? (i := 52) rfl))) (mvT hZ (hw _ (List.mem_of_getElem? (i := 51) rfl))) (by decide) (backOf (W := 1) (rm10 l Z a0 hw [] o0 (1 : Int32) G1 h0 n0 Z0 F_c S_CS P_CS) hZ (hw _ (List.mem_of_getElem? (i := 53) rfl)) (hw _ (List.mem_of_getElem? (i := 4) rfl)) (by decide) (by decide)) q6a q6c (g := (mkF m 6 #[.val (.ref o0)] [(.ref o0), (.int (12 : Int32))])) rfl (by rw [hml]; rfl) (Steps.refl _) (argsL := []) (rest := [(.int (12 : Int32))]) (lenOf pd_5 rfl) rfl (by show 2 * 0 + _ ≤ _; exact Nat.le_of_eq rfl) (hb hby d9_6) (fun _ _ => ⟨rfl, e4, (by decide : 0 + 0 ≤ _), (by decide : 0 + 0 ≤ _)⟩)
    dsimp only [Pt.U, Pt.locs, Pt.cells, Pt.slots] at X6 l6 y6 z6 st6 hQ6
    subst l6 y6 z6
    obtain ⟨rfl, N6q, e6⟩ := hQ6
    have N6 := Fr.app N0 N6q
    refine Go.st (fun _ k => st6.trans k) ?_
    show Go _ _ _ _ _ _ _ T6 (mkF m 9 #[.val (.ref o0)] [(.int (val_10 o0 (1 : Int32) G1)), (.int (12 : Int32))])
    rw [show (val_10 o0 (1 : Int32) G1) = (1 : Int32) from by unfold val_10; decide +kernel]
    show Go _ _ _ _ _ _ _ T6 (mkF m 9 #[.val (.ref o0)] [(.int (1 : Int32)), (.int (12 : Int32))])
    refine Go.st (fun _ k => XS.ishr X6.here hx rfl (hb hby d9_9) rfl k) ?_
    show Go _ _ _ _ _ _ _ T6 (mkF m 10 #[.val (.ref o0)] [(.int ((12 : Int32) >>> ((1 : Int32) &&& 31)))])
    refine Go.fr (f' := (mkF m 10 #[.val (.ref o0)] [(.int (6 : Int32))])) (by rw [show ((12 : Int32) >>> ((1 : Int32) &&& 31)) = (6 : Int32) from by decide +kernel]) ?_
    show Go _ _ _ _ _ _ _ T6 (mkF m 10 #[.val (.ref o0)] [(.int (6 : Int32))])
    refine Go.ret X6 hlk (v := some (.int (6 : Int32))) (fun h => by rw [hret] at h; cases h) (fun fs hr => retOut X6 hx (t := .int) (i := .ireturn) hret rfl (Or.inl ⟨rfl, Or.inl rfl, _, rfl⟩) (hb hby d9_10) hr) ?_ (by decide) (by decide)
    show Q9 Z o0 t kb k0 k1 k2 k3 k4 k5 G1 h0 n0 (some (.int (6 : Int32))) T6.heap _
    rw [e6]
    exact ⟨rfl, N6, rfl⟩
theorem d15_0 : decode jdk_42_method_56_code 0 = .ok (.aload_n 0, 1) := by decide +kernel
theorem d15_1 : decode jdk_42_method_56_code 1 = .ok (.invokevirtual 492, 3) := by decide +kernel
theorem d15_4 : decode jdk_42_method_56_code 4 = .ok (.ifCond .eq 12, 3) := by decide +kernel
theorem d15_7 : decode jdk_42_method_56_code 7 = .ok (.aload_n 0, 1) := by decide +kernel
theorem d15_8 : decode jdk_42_method_56_code 8 = .ok (.getfield 9, 3) := by decide +kernel
theorem d15_11 : decode jdk_42_method_56_code 11 = .ok (.iload_n 1, 1) := by decide +kernel
theorem d15_12 : decode jdk_42_method_56_code 12 = .ok (.invokestatic 495, 3) := by decide +kernel
theorem d15_15 : decode jdk_42_method_56_code 15 = .ok (.ireturn, 1) := by decide +kernel
theorem d15_16 : decode jdk_42_method_56_code 16 = .ok (.aload_n 0, 1) := by decide +kernel
theorem d15_17 : decode jdk_42_method_56_code 17 = .ok (.getfield 9, 3) := by decide +kernel
theorem d15_20 : decode jdk_42_method_56_code 20 = .ok (.iload_n 1, 1) := by decide +kernel
theorem d15_21 : decode jdk_42_method_56_code 21 = .ok (.invokestatic 498, 3) := by decide +kernel
theorem d15_24 : decode jdk_42_method_56_code 24 = .ok (.ireturn, 1) := by decide +kernel
theorem ef_15 (m : MethodId) (o0 : Addr) (p1 : Int32) : entryFrame m #[(.ref o0), (.int p1)] 2 = mkF m 0 #[.val (.ref o0), .val (.int p1)] [] := by first | (simp [entryFrame, mkF, argsToLocals, Value.category]; done) | rfl
def Q15 (Z : State) (o0 : Addr) (p1 : Int32) (t : Addr) (kb : ClassId) (k0 : Int32) (k1 : Int32) (k2 : Int32) (k3 : Int32) (k4 : Int32) (k5 : Int32) (G1 : Int32) (h0 : Heap) (n0 : Nat) (v : Option Value) (h : Heap) (L : List Loc) : Prop := v = some (.int (kF p1 k0 k1 k2 k3 k4 k5)) ∧ Fr n0 L ∧ h = h0
set_option maxRecDepth 65536 in
set_option maxHeartbeats 40000000 in
theorem rm15 (l : Launch) (Z : State) (a0 : Array Value) (hw : ∀ d ∈ tables_1, d.before a0 Z = true) (ws : List Jvm.Cond) (o0 : Addr) (p1 : Int32) (t : Addr) (kb : ClassId) (k0 : Int32) (k1 : Int32) (k2 : Int32) (k3 : Int32) (k4 : Int32) (k5 : Int32) (G1 : Int32) (h0 : Heap) (n0 : Nat) (Z0 : n0 ≤ h0.size) (E_o0 : Exa Z h0 o0 "java/lang/String") (F_value_o0 : Fld Z h0 o0 "java/lang/String" "value" "[B" (.ref t)) (N_o0 : Enc Z h0 o0 t kb k0 k1 k2 k3 k4 k5) (V_p1 : p1 = 0 ∨ p1 = 1 ∨ p1 = 2 ∨ p1 = 3 ∨ p1 = 4 ∨ p1 = 5) (hW : Wide16 k0 k1 k2 k3 k4 k5) (S_CS : Sta Z h0 "java/lang/String" "COMPACT_STRINGS" "Z" (.int G1)) (P_CS : ¬ G1 = (0 : Int32)) (S_AD : Sta Z h0 "java/lang/StringUTF16" "$assertionsDisabled" "Z" (.int (1 : Int32))) (S_HI : Sta Z h0 "java/lang/StringUTF16" "HI_BYTE_SHIFT" "I" (.int (0 : Int32))) (S_LO : Sta Z h0 "java/lang/StringUTF16" "LO_BYTE_SHIFT" "I" (.int (8 : Int32))) (S_SI : StaR Z h0 "jdk/internal/util/Preconditions" "SIOOBE_FORMATTER" "Ljava/util/function/BiFunction;") :
    MetFree l (⟨"java/lang/String", "charAt", "(I)C"⟩ : MethodName) (head1 (Jvm.Cond.code (⟨"java/lang/String", "charAt", "(I)C"⟩ : MethodName) jdk_42_method_56_code 2 (some .char) :: ws) ({ frames := 4, cells := 0, slots := 0, locals := 53 } : Room)) (fun a U => a = #[(.ref o0), (.int p1)] ∧ Z.Warmed39 U.vm ∧ U.heap = h0) (fun _ _ _ _ _ => True) (fun _ U o U' => ∃ v L, o = .returned v ∧ Q15 Z o0 p1 t kb k0 k1 k2 k3 k4 k5 G1 h0 n0 v U'.heap L ∧ FrameEnd U o U' L ({ frames := 4, cells := 0, slots := 0, locals := 53 } : Room).cells ({ frames := 4, cells := 0, slots := 0, locals := 53 } : Room).slots) := by
  refine MetFree.of_bodySF (plainFor_of_name pn_java_lang_String) hisR ?_
  intro p e s m args below meth c s₁ Bd hml0 hP hK
  obtain ⟨rfl, hZ, hh⟩ := hP
  have hx := Bd.exec
  have hby := Bd.bytes
  have hlk : meth.locks = false := BodyLoose.notSynchronized Bd
  have hret := Bd.returns
  have hml : c.maxLocals = 2 := hml0
  have hown : s.vm.findClass "java/lang/String" = some m.cls := findClass_of_methodNamed Bd.named
  have hnm := (name_of_methodNamed Bd.named Bd.method).1
  have X0 : Stand p l e ({ frames := 4, cells := 0, slots := 0, locals := 53 } : Room) s m #[(.ref o0), (.int p1)] below meth c s₁ [] 0 0 := Stand.of_body Bd
  have e0 : s₁.heap = h0 := by rw [← hh, Bd.state]; rfl
  have N0 := Fr.nil n0
  refine Go.start (Q := Q15 Z o0 p1 t kb k0 k1 k2 k3 k4 k5 G1 h0 n0) (ef_15 m o0 p1) ?_
  rcases N_o0 with ⟨F_c, V_t, hl⟩ | ⟨F_c, V_t⟩
  · show Go _ _ _ _ _ _ _ s₁ (mkF m 0 #[.val (.ref o0), .val (.int p1)] [])
    refine Go.st (fun _ k => XS.aloadN X0.here hx rfl (hb hby d15_0) rfl rfl k) ?_
    show Go _ _ _ _ _ _ _ s₁ (mkF m 1 #[.val (.ref o0), .val (.int p1)] [(.ref o0)])
    obtain ⟨cq1, kq1, q1a, q1b, q1c⟩ := isOf hZ e0 E_o0
    obtain ⟨_, _, ⟨T1, L1, ck1, cn1⟩, -, X1, ⟨Lc1, hQ1, l1, y1, z1⟩, st1⟩ := X0.virtualBack hx (y := (⟨"java/lang/String", "isLatin1", "()Z"⟩ : MethodName)) (z := (⟨"java/lang/String", "isLatin1", "()Z"⟩ : MethodName)) hown (mvT hZ (hw _ (List.mem_of_getElem? (i := 85) rfl))) (mvT hZ (hw _ (List.mem_of_getElem? (i := 86) rfl))) (notFace_of_selects (args := #[]) (mvT hZ (hw _ (List.mem_of_getElem? (i := 88) rfl)))) (mvT hZ (hw _ (List.mem_of_getElem? (i := 88) rfl))) (mvT hZ (hw _ (List.mem_of_getElem? (i := 87) rfl))) (by decide) (backOf (W := 0) (rm16 l Z a0 hw [] o0 (0 : Int32) G1 h0 n0 Z0 F_c S_CS P_CS) hZ (hw _ (List.mem_of_getElem? (i := 89) rfl)) (hw _ (List.mem_of_getElem? (i := 4) rfl)) (by decide) (by decide)) q1a q1c (g := (mkF m 1 #[.val (.ref o0), .val (.int p1)] [(.ref o0)])) rfl (by rw [hml]; rfl) (Steps.refl _) (argsL := []) (rest := []) (lenOf pd_6 rfl) rfl (by show 2 * 0 + _ ≤ _; exact Nat.le_of_eq rfl) (hb hby d15_1) (fun _ _ => ⟨rfl, e0, (by decide : 0 + 0 ≤ _), (by decide : 0 + 0 ≤ _)⟩)
    dsimp only [Pt.U, Pt.locs, Pt.cells, Pt.slots] at X1 l1 y1 z1 st1 hQ1
    subst l1 y1 z1
    obtain ⟨rfl, N1q, e1⟩ := hQ1
    have N1 := Fr.app N0 N1q
    refine Go.st (fun _ k => st1.trans k) ?_
    show Go _ _ _ _ _ _ _ T1 (mkF m 4 #[.val (.ref o0), .val (.int p1)] [(.int (val_16 o0 (0 : Int32) G1))])
    rw [show (val_16 o0 (0 : Int32) G1) = (1 : Int32) from by unfold val_16; rw [if_pos (by decide +kernel : (0 : Int32) = (0 : Int32))]]
    show Go _ _ _ _ _ _ _ T1 (mkF m 4 #[.val (.ref o0), .val (.int p1)] [(.int (1 : Int32))])
    refine Go.st (fun _ k => XS.ifNo X1.here hx rfl (hb hby d15_4) rfl ((if0 _ _).trans (feq (by decide : ¬ ((1 : Int32) = (0 : Int32)))).1) k) ?_
    show Go _ _ _ _ _ _ _ T1 (mkF m 7 #[.val (.ref o0), .val (.int p1)] [])
    refine Go.st (fun _ k => XS.aloadN X1.here hx rfl (hb hby d15_7) rfl rfl k) ?_
    show Go _ _ _ _ _ _ _ T1 (mkF m 8 #[.val (.ref o0), .val (.int p1)] [(.ref o0)])
    obtain ⟨T2, X2, e2, st2⟩ := getF X1 hx hZ hown (host := "") (Or.inl (hw _ (List.mem_of_getElem? (i := 29) rfl))) Via.refl e1 F_value_o0 (g := (mkF m 8 #[.val (.ref o0), .val (.int p1)] [(.ref o0)])) rfl rfl (hb hby d15_8)
    refine Go.st st2 ?_
    show Go _ _ _ _ _ _ _ T2 (mkF m 11 #[.val (.ref o0), .val (.int p1)] [(.ref t)])
    refine Go.st (fun _ k => XS.iloadN X2.here hx rfl (hb hby d15_11) rfl k) ?_
    show Go _ _ _ _ _ _ _ T2 (mkF m 12 #[.val (.ref o0), .val (.int p1)] [(.int p1), (.ref t)])
    obtain ⟨_, _, ⟨T3, L3, ck3, cn3⟩, -, X3, ⟨Lc3, hQ3, l3, y3, z3⟩, st3⟩ := Jvm.LawKit.callS X2 hx (y := (⟨"java/lang/StringLatin1", "charAt", "([BI)C"⟩ : MethodName)) hown (mvT hZ (hw _ (List.mem_of_getElem? (i := 90) rfl))) (mvT hZ (hw _ (List.mem_of_getElem? (i := 91) rfl))) (mvT hZ (hw _ (List.mem_of_getElem? (i := 92) rfl))) (mvT hZ (hw _ (List.mem_of_getElem? (i := 93) rfl))) (by decide) (backOf (W := 0) (rm17 l Z a0 hw [] t p1 kb (k0.toInt8.toInt32) (k1.toInt8.toInt32) (k2.toInt8.toInt32) (k3.toInt8.toInt32) (k4.toInt8.toInt32) (k5.toInt8.toInt32) h0 n0 Z0 V_t S_SI V_p1) hZ (hw _ (List.mem_of_getElem? (i := 93) rfl)) (hw _ (List.mem_of_getElem? (i := 92) rfl)) (by decide) (by decide)) (g := (mkF m 12 #[.val (.ref o0), .val (.int p1)] [(.int p1), (.ref t)])) rfl (by rw [hml]; rfl) (argsL := [(.ref t), (.int p1)]) (rest := []) (lenOf pd_4 rfl) rfl (by show 2 * 0 + _ ≤ _; exact Nat.le_of_eq rfl) (hb hby d15_12) (fun _ _ => ⟨rfl, e2, (by decide : 0 + 0 ≤ _), (by decide : 0 + 0 ≤ _)⟩)
    dsimp only [Pt.U, Pt.locs, Pt.cells, Pt.slots] at X3 l3 y3 z3 st3 hQ3
    subst l3 y3 z3
    obtain ⟨rfl, N3q, e3⟩ := hQ3
    have N3 := Fr.app N1 N3q
    refine Go.st st3 ?_
    show Go _ _ _ _ _ _ _ T3 (mkF m 15 #[.val (.ref o0), .val (.int p1)] [(.int (val_17 t p1 kb (k0.toInt8.toInt32) (k1.toInt8.toInt32) (k2.toInt8.toInt32) (k3.toInt8.toInt32) (k4.toInt8.toInt32) (k5.toInt8.toInt32)))])
    refine Go.ret X3 hlk (v := some (.int (nar .char (val_17 t p1 kb (k0.toInt8.toInt32) (k1.toInt8.toInt32) (k2.toInt8.toInt32) (k3.toInt8.toInt32) (k4.toInt8.toInt32) (k5.toInt8.toInt32))))) (fun h => by rw [hret] at h; cases h) (fun fs hr => retN X3 hx (t := .char) hret (by simp) (hb hby d15_15) hr) ?_ (by decide) (by decide)
    show Q15 Z o0 p1 t kb k0 k1 k2 k3 k4 k5 G1 h0 n0 (some (.int (nar .char (val_17 t p1 kb (k0.toInt8.toInt32) (k1.toInt8.toInt32) (k2.toInt8.toInt32) (k3.toInt8.toInt32) (k4.toInt8.toInt32) (k5.toInt8.toInt32))))) T3.heap _
    rw [e3]
    refine ⟨?_, N3, rfl⟩
    rw [own_l1 t p1 kb V_p1 hW hl, own_kfn p1 V_p1 hW]
  · show Go _ _ _ _ _ _ _ s₁ (mkF m 0 #[.val (.ref o0), .val (.int p1)] [])
    refine Go.st (fun _ k => XS.aloadN X0.here hx rfl (hb hby d15_0) rfl rfl k) ?_
    show Go _ _ _ _ _ _ _ s₁ (mkF m 1 #[.val (.ref o0), .val (.int p1)] [(.ref o0)])
    obtain ⟨cq4, kq4, q4a, q4b, q4c⟩ := isOf hZ e0 E_o0
    obtain ⟨_, _, ⟨T4, L4, ck4, cn4⟩, -, X4, ⟨Lc4, hQ4, l4, y4, z4⟩, st4⟩ := X0.virtualBack hx (y := (⟨"java/lang/String", "isLatin1", "()Z"⟩ : MethodName)) (z := (⟨"java/lang/String", "isLatin1", "()Z"⟩ : MethodName)) hown (mvT hZ (hw _ (List.mem_of_getElem? (i := 85) rfl))) (mvT hZ (hw _ (List.mem_of_getElem? (i := 86) rfl))) (notFace_of_selects (args := #[]) (mvT hZ (hw _ (List.mem_of_getElem? (i := 88) rfl)))) (mvT hZ (hw _ (List.mem_of_getElem? (i := 88) rfl))) (mvT hZ (hw _ (List.mem_of_getElem? (i := 87) rfl))) (by decide) (backOf (W := 0) (rm16 l Z a0 hw [] o0 (1 : Int32) G1 h0 n0 Z0 F_c S_CS P_CS) hZ (hw _ (List.mem_of_getElem? (i := 89) rfl)) (hw _ (List.mem_of_getElem? (i := 4) rfl)) (by decide) (by decide)) q4a q4c (g := (mkF m 1 #[.val (.ref o0), .val (.int p1)] [(.ref o0)])) rfl (by rw [hml]; rfl) (Steps.refl _) (argsL := []) (rest := []) (lenOf pd_6 rfl) rfl (by show 2 * 0 + _ ≤ _; exact Nat.le_of_eq rfl) (hb hby d15_1) (fun _ _ => ⟨rfl, e0, (by decide : 0 + 0 ≤ _), (by decide : 0 + 0 ≤ _)⟩)
    dsimp only [Pt.U, Pt.locs, Pt.cells, Pt.slots] at X4 l4 y4 z4 st4 hQ4
    subst l4 y4 z4
    obtain ⟨rfl, N4q, e4⟩ := hQ4
    have N4 := Fr.app N0 N4q
    refine Go.st (fun _ k => st4.trans k) ?_
    show Go _ _ _ _ _ _ _ T4 (mkF m 4 #[.val (.ref o0), .val (.int p1)] [(.int (val_16 o0 (1 : Int32) G1))])
    rw [show (val_16 o0 (1 : Int32) G1) = (0 : Int32) from by unfold val_16; rw [if_neg (by decide +kernel : ¬ ((1 : Int32) = (0 : Int32)))]]
    show Go _ _ _ _ _ _ _ T4 (mkF m 4 #[.val (.ref o0), .val (.int p1)] [(.int (0 : Int32))])
    refine Go.st (fun _ k => XS.ifYes X4.here hx rfl (pc0 := 4) (pc' := 16) rfl (hb hby d15_4) rfl ((if0 _ _).trans (teq (by decide : (0 : Int32) = (0 : Int32))).1) (by decide) (by decide) k) ?_
    show Go _ _ _ _ _ _ _ T4 (mkF m 16 #[.val (.ref o0), .val (.int p1)] [])
    refine Go.st (fun _ k => XS.aloadN X4.here hx rfl (hb hby d15_16) rfl rfl k) ?_
    show Go _ _ _ _ _ _ _ T4 (mkF m 17 #[.val (.ref o0), .val (.int p1)] [(.ref o0)])
    obtain ⟨T5, X5, e5, st5⟩ := getF X4 hx hZ hown (host := "") (Or.inl (hw _ (List.mem_of_getElem? (i := 29) rfl))) Via.refl e4 F_value_o0 (g := (mkF m 17 #[.val (.ref o0), .val (.int p1)] [(.ref o0)])) rfl rfl (hb hby d15_17)
    refine Go.st st5 ?_
    show Go _ _ _ _ _ _ _ T5 (mkF m 20 #[.val (.ref o0), .val (.int p1)] [(.ref t)])
    refine Go.st (fun _ k => XS.iloadN X5.here hx rfl (hb hby d15_20) rfl k) ?_
    show Go _ _ _ _ _ _ _ T5 (mkF m 21 #[.val (.ref o0), .val (.int p1)] [(.int p1), (.ref t)])
    obtain ⟨_, _, ⟨T6, L6, ck6, cn6⟩, -, X6, ⟨Lc6, hQ6, l6, y6, z6⟩, st6⟩ := Jvm.LawKit.callS X5 hx (y := (⟨"java/lang/StringUTF16", "charAt", "([BI)C"⟩ : MethodName)) hown (mvT hZ (hw _ (List.mem_of_getElem? (i := 120) rfl))) (mvT hZ (hw _ (List.mem_of_getElem? (i := 121) rfl))) (mvT hZ (hw _ (List.mem_of_getElem? (i := 18) rfl))) (mvT hZ (hw _ (List.mem_of_getElem? (i := 122) rfl))) (by decide) (backOf (W := 0) (rm25 l Z a0 hw [] t p1 kb k0 k1 k2 k3 k4 k5 h0 n0 Z0 V_t V_p1 hW S_AD S_HI S_LO S_SI) hZ (hw _ (List.mem_of_getElem? (i := 122) rfl)) (hw _ (List.mem_of_getElem? (i := 18) rfl)) (by decide) (by decide)) (g := (mkF m 21 #[.val (.ref o0), .val (.int p1)] [(.int p1), (.ref t)])) rfl (by rw [hml]; rfl) (argsL := [(.ref t), (.int p1)]) (rest := []) (lenOf pd_4 rfl) rfl (by show 2 * 0 + _ ≤ _; exact Nat.le_of_eq rfl) (hb hby d15_21) (fun _ _ => ⟨rfl, e5, (by decide : 0 + 0 ≤ _), (by decide : 0 + 0 ≤ _)⟩)
    dsimp only [Pt.U, Pt.locs, Pt.cells, Pt.slots] at X6 l6 y6 z6 st6 hQ6
    subst l6 y6 z6
    obtain ⟨rfl, N6q, e6⟩ := hQ6
    have N6 := Fr.app N4 N6q
    refine Go.st st6 ?_
    show Go _ _ _ _ _ _ _ T6 (mkF m 24 #[.val (.ref o0), .val (.int p1)] [(.int (kF p1 k0 k1 k2 k3 k4 k5))])
    refine Go.ret X6 hlk (v := some (.int (nar .char (kF p1 k0 k1 k2 k3 k4 k5)))) (fun h => by rw [hret] at h; cases h) (fun fs hr => retN X6 hx (t := .char) hret (by simp) (hb hby d15_24) hr) ?_ (by decide) (by decide)
    show Q15 Z o0 p1 t kb k0 k1 k2 k3 k4 k5 G1 h0 n0 (some (.int (nar .char (kF p1 k0 k1 k2 k3 k4 k5)))) T6.heap _
    rw [e6]
    refine ⟨?_, N6, rfl⟩
    rw [own_kfn p1 V_p1 hW]
theorem d23_0 : decode jdk_52_method_4_code 0 = .ok (.getstatic 44, 3) := by decide +kernel
theorem d23_3 : decode jdk_52_method_4_code 3 = .ok (.ifCond .ne 25, 3) := by decide +kernel
theorem d23_28 : decode jdk_52_method_4_code 28 = .ok (.iload_n 1, 1) := by decide +kernel
theorem d23_29 : decode jdk_52_method_4_code 29 = .ok (.iconst 1, 1) := by decide +kernel
theorem d23_30 : decode jdk_52_method_4_code 30 = .ok (.ishl, 1) := by decide +kernel
theorem d23_31 : decode jdk_52_method_4_code 31 = .ok (.istore_n 1, 1) := by decide +kernel
theorem d23_32 : decode jdk_52_method_4_code 32 = .ok (.aload_n 0, 1) := by decide +kernel
theorem d23_33 : decode jdk_52_method_4_code 33 = .ok (.iload_n 1, 1) := by decide +kernel
theorem d23_34 : decode jdk_52_method_4_code 34 = .ok (.iinc 1 1, 3) := by decide +kernel
theorem d23_37 : decode jdk_52_method_4_code 37 = .ok (.iload_n 2, 1) := by decide +kernel
theorem d23_38 : decode jdk_52_method_4_code 38 = .ok (.getstatic 59, 3) := by decide +kernel
theorem d23_41 : decode jdk_52_method_4_code 41 = .ok (.ishr, 1) := by decide +kernel
theorem d23_42 : decode jdk_52_method_4_code 42 = .ok (.i2b, 1) := by decide +kernel
theorem d23_43 : decode jdk_52_method_4_code 43 = .ok (.bastore, 1) := by decide +kernel
theorem d23_44 : decode jdk_52_method_4_code 44 = .ok (.aload_n 0, 1) := by decide +kernel
theorem d23_45 : decode jdk_52_method_4_code 45 = .ok (.iload_n 1, 1) := by decide +kernel
theorem d23_46 : decode jdk_52_method_4_code 46 = .ok (.iload_n 2, 1) := by decide +kernel
theorem d23_47 : decode jdk_52_method_4_code 47 = .ok (.getstatic 63, 3) := by decide +kernel
theorem d23_50 : decode jdk_52_method_4_code 50 = .ok (.ishr, 1) := by decide +kernel
theorem d23_51 : decode jdk_52_method_4_code 51 = .ok (.i2b, 1) := by decide +kernel
theorem d23_52 : decode jdk_52_method_4_code 52 = .ok (.bastore, 1) := by decide +kernel
theorem d23_53 : decode jdk_52_method_4_code 53 = .ok (.return_, 1) := by decide +kernel
theorem ef_23_0 (m : MethodId) (o0 : Addr) (p2 : Int32) : entryFrame m #[(.ref o0), (.int (0 : Int32)), (.int p2)] 3 = mkF m 0 #[.val (.ref o0), .val (.int (0 : Int32)), .val (.int p2)] [] := by first | (simp [entryFrame, mkF, argsToLocals, Value.category]; done) | rfl
def Q23_0 (Z : State) (o0 : Addr) (p2 : Int32) (kb : ClassId) (v0 : Value) (v1 : Value) (v2 : Value) (v3 : Value) (v4 : Value) (v5 : Value) (v6 : Value) (v7 : Value) (v8 : Value) (v9 : Value) (v10 : Value) (v11 : Value) (h0 : Heap) (n0 : Nat) (v : Option Value) (h : Heap) (L : List Loc) : Prop := v = none ∧ Fr n0 L ∧ Keep h0 h [o0] ∧ Arv Z h o0 kb .byte (12 : Int32) [(.int ((p2 >>> ((0 : Int32) &&& 31)).toInt8.toInt32)), (.int ((p2 >>> ((8 : Int32) &&& 31)).toInt8.toInt32)), v2, v3, v4, v5, v6, v7, v8, v9, v10, v11] (.int (0 : Int32))
set_option maxRecDepth 65536 in
set_option maxHeartbeats 40000000 in
theorem rm23_0 (l : Launch) (Z : State) (a0 : Array Value) (hw : ∀ d ∈ tables_1, d.before a0 Z = true) (ws : List Jvm.Cond) (o0 : Addr) (p2 : Int32) (kb : ClassId) (v0 : Value) (v1 : Value) (v2 : Value) (v3 : Value) (v4 : Value) (v5 : Value) (v6 : Value) (v7 : Value) (v8 : Value) (v9 : Value) (v10 : Value) (v11 : Value) (h0 : Heap) (n0 : Nat) (Z0 : n0 ≤ h0.size) (V_o0 : Arv Z h0 o0 kb .byte (12 : Int32) [v0, v1, v2, v3, v4, v5, v6, v7, v8, v9, v10, v11] (.int (0 : Int32))) (g_o0 : n0 ≤ o0) (S_AD : Sta Z h0 "java/lang/StringUTF16" "$assertionsDisabled" "Z" (.int (1 : Int32))) (S_HI : Sta Z h0 "java/lang/StringUTF16" "HI_BYTE_SHIFT" "I" (.int (0 : Int32))) (S_LO : Sta Z h0 "java/lang/StringUTF16" "LO_BYTE_SHIFT" "I" (.int (8 : Int32))) :
    MetFree l (⟨"java/lang/StringUTF16", "putChar", "([BII)V"⟩ : MethodName) (head1 (Jvm.Cond.code (⟨"java/lang/StringUTF16", "putChar", "([BII)V"⟩ : MethodName) jdk_52_method_4_code 3 none :: ws) ({ frames := 0, cells := 0, slots := 0, locals := 0 } : Room)) (fun a U => a = #[(.ref o0), (.int (0 : Int32)), (.int p2)] ∧ Z.Warmed39 U.vm ∧ U.heap = h0) (fun _ _ _ _ _ => True) (fun _ U o U' => ∃ v L, o = .returned v ∧ Q23_0 Z o0 p2 kb v0 v1 v2 v3 v4 v5 v6 v7 v8 v9 v10 v11 h0 n0 v U'.heap L ∧ FrameEnd U o U' L ({ frames := 0, cells := 0, slots := 0, locals := 0 } : Room).cells ({ frames := 0, cells := 0, slots := 0, locals := 0 } : Room).slots) := by
  refine MetFree.of_bodySF (plainFor_of_name pn_java_lang_StringUTF16) hisR ?_
  intro p e s m args below meth c s₁ Bd hml0 hP hK
  obtain ⟨rfl, hZ, hh⟩ := hP
  have hx := Bd.exec
  have hby := Bd.bytes
  have hlk : meth.locks = false := BodyLoose.notSynchronized Bd
  have hret := Bd.returns
  have hml : c.maxLocals = 3 := hml0
  have hown : s.vm.findClass "java/lang/StringUTF16" = some m.cls := findClass_of_methodNamed Bd.named
  have hnm := (name_of_methodNamed Bd.named Bd.method).1
  have X0 : Stand p l e ({ frames := 0, cells := 0, slots := 0, locals := 0 } : Room) s m #[(.ref o0), (.int (0 : Int32)), (.int p2)] below meth c s₁ [] 0 0 := Stand.of_body Bd
  have e0 : s₁.heap = h0 := by rw [← hh, Bd.state]; rfl
  have N0 := Fr.nil n0
  refine Go.start (Q := Q23_0 Z o0 p2 kb v0 v1 v2 v3 v4 v5 v6 v7 v8 v9 v10 v11 h0 n0) (ef_23_0 m o0 p2) ?_
  show Go _ _ _ _ _ _ _ s₁ (mkF m 0 #[.val (.ref o0), .val (.int (0 : Int32)), .val (.int p2)] [])
  obtain ⟨T1, X1, e1, st1⟩ := getS2 X0 hx hZ hown (host := "") (Or.inl (hw _ (List.mem_of_getElem? (i := 114) rfl))) Via.refl e0 S_AD (g := (mkF m 0 #[.val (.ref o0), .val (.int (0 : Int32)), .val (.int p2)] [])) rfl (hb hby d23_0)
  refine Go.st st1 ?_
  show Go _ _ _ _ _ _ _ T1 (mkF m 3 #[.val (.ref o0), .val (.int (0 : Int32)), .val (.int p2)] [(.int (1 : Int32))])
  refine Go.st (fun _ k => XS.ifYes X1.here hx rfl (pc0 := 3) (pc' := 28) rfl (hb hby d23_3) rfl ((if0 _ _).trans (feq (by decide : ¬ ((1 : Int32) = (0 : Int32)))).2) (by decide) (by decide) k) ?_
  show Go _ _ _ _ _ _ _ T1 (mkF m 28 #[.val (.ref o0), .val (.int (0 : Int32)), .val (.int p2)] [])
  refine Go.st (fun _ k => XS.iloadN X1.here hx rfl (hb hby d23_28) rfl k) ?_
  show Go _ _ _ _ _ _ _ T1 (mkF m 29 #[.val (.ref o0), .val (.int (0 : Int32)), .val (.int p2)] [(.int (0 : Int32))])
  refine Go.st (fun _ k => XS.iconst X1.here hx rfl (hb hby d23_29) k) ?_
  show Go _ _ _ _ _ _ _ T1 (mkF m 30 #[.val (.ref o0), .val (.int (0 : Int32)), .val (.int p2)] [(.int (1 : Int32)), (.int (0 : Int32))])
  refine Go.st (fun _ k => XS.ishl X1.here hx rfl (hb hby d23_30) rfl k) ?_
  show Go _ _ _ _ _ _ _ T1 (mkF m 31 #[.val (.ref o0), .val (.int (0 : Int32)), .val (.int p2)] [(.int ((0 : Int32) <<< ((1 : Int32) &&& 31)))])
  refine Go.fr (f' := (mkF m 31 #[.val (.ref o0), .val (.int (0 : Int32)), .val (.int p2)] [(.int (0 : Int32))])) (by rw [show ((0 : Int32) <<< ((1 : Int32) &&& 31)) = (0 : Int32) from by decide +kernel]) ?_
  show Go _ _ _ _ _ _ _ T1 (mkF m 31 #[.val (.ref o0), .val (.int (0 : Int32)), .val (.int p2)] [(.int (0 : Int32))])
  refine Go.st (fun _ k => XS.istoreN X1.here hx rfl (hb hby d23_31) rfl (l' := #[.val (.ref o0), .val (.int (0 : Int32)), .val (.int p2)]) rfl k) ?_
  show Go _ _ _ _ _ _ _ T1 (mkF m 32 #[.val (.ref o0), .val (.int (0 : Int32)), .val (.int p2)] [])
  refine Go.st (fun _ k => XS.aloadN X1.here hx rfl (hb hby d23_32) rfl rfl k) ?_
  show Go _ _ _ _ _ _ _ T1 (mkF m 33 #[.val (.ref o0), .val (.int (0 : Int32)), .val (.int p2)] [(.ref o0)])
  refine Go.st (fun _ k => XS.iloadN X1.here hx rfl (hb hby d23_33) rfl k) ?_
  show Go _ _ _ _ _ _ _ T1 (mkF m 34 #[.val (.ref o0), .val (.int (0 : Int32)), .val (.int p2)] [(.int (0 : Int32)), (.ref o0)])
  refine Go.st (fun _ k => XS.iinc X1.here hx rfl (hb hby d23_34) rfl (l' := #[.val (.ref o0), .val (.int ((0 : Int32) + (1 : Int32))), .val (.int p2)]) rfl k) ?_
  show Go _ _ _ _ _ _ _ T1 (mkF m 37 #[.val (.ref o0), .val (.int ((0 : Int32) + (1 : Int32))), .val (.int p2)] [(.int (0 : Int32)), (.ref o0)])
  refine Go.fr (f' := (mkF m 37 #[.val (.ref o0), .val (.int (1 : Int32)), .val (.int p2)] [(.int (0 : Int32)), (.ref o0)])) (by rw [show ((0 : Int32) + (1 : Int32)) = (1 : Int32) from by decide +kernel]) ?_
  show Go _ _ _ _ _ _ _ T1 (mkF m 37 #[.val (.ref o0), .val (.int (1 : Int32)), .val (.int p2)] [(.int (0 : Int32)), (.ref o0)])
  refine Go.st (fun _ k => XS.iloadN X1.here hx rfl (hb hby d23_37) rfl k) ?_
  show Go _ _ _ _ _ _ _ T1 (mkF m 38 #[.val (.ref o0), .val (.int (1 : Int32)), .val (.int p2)] [(.int p2), (.int (0 : Int32)), (.ref o0)])
  obtain ⟨T2, X2, e2, st2⟩ := getS2 X1 hx hZ hown (host := "") (Or.inl (hw _ (List.mem_of_getElem? (i := 115) rfl))) Via.refl e1 S_HI (g := (mkF m 38 #[.val (.ref o0), .val (.int (1 : Int32)), .val (.int p2)] [(.int p2), (.int (0 : Int32)), (.ref o0)])) rfl (hb hby d23_38)
  refine Go.st st2 ?_
  show Go _ _ _ _ _ _ _ T2 (mkF m 41 #[.val (.ref o0), .val (.int (1 : Int32)), .val (.int p2)] [(.int (0 : Int32)), (.int p2), (.int (0 : Int32)), (.ref o0)])
  refine Go.st (fun _ k => XS.ishr X2.here hx rfl (hb hby d23_41) rfl k) ?_
  show Go _ _ _ _ _ _ _ T2 (mkF m 42 #[.val (.ref o0), .val (.int (1 : Int32)), .val (.int p2)] [(.int (p2 >>> ((0 : Int32) &&& 31))), (.int (0 : Int32)), (.ref o0)])
  refine Go.st (fun _ k => XS.i2b X2.here hx rfl (hb hby d23_42) rfl k) ?_
  show Go _ _ _ _ _ _ _ T2 (mkF m 43 #[.val (.ref o0), .val (.int (1 : Int32)), .val (.int p2)] [(.int ((p2 >>> ((0 : Int32) &&& 31)).toInt8.toInt32)), (.int (0 : Int32)), (.ref o0)])
  obtain ⟨cl3, Ar3, qq3, SS3, NN3, HH3, GG3⟩ := id V_o0
  have hin4 : ¬ ((0 : Int32) < 0 ∨ cl3.slots.size ≤ ((0 : Int32)).toNatClampNeg) := inb_of SS3 ⟨by decide, by decide⟩
  obtain ⟨T5, h5, X5, e5, W5, st5⟩ := stB X2 hx hZ e2 Ar3 (j := (0 : Int32)) hin4 (g := (mkF m 43 #[.val (.ref o0), .val (.int (1 : Int32)), .val (.int p2)] [(.int ((p2 >>> ((0 : Int32) &&& 31)).toInt8.toInt32)), (.int (0 : Int32)), (.ref o0)])) rfl rfl (hb hby d23_43)
  rw [own_nb] at W5
  have V_o0__5 : Arv Z h5 o0 kb .byte (12 : Int32) [(.int ((p2 >>> ((0 : Int32) &&& 31)).toInt8.toInt32)), v1, v2, v3, v4, v5, v6, v7, v8, v9, v10, v11] (.int (0 : Int32)) := Arv.set Ar3 qq3 SS3 NN3 HH3 GG3 (fits_nar_byte _) W5 0 rfl (Nat.le_of_ble_eq_true rfl)
  have S_AD__5 := S_AD.wr W5
  have S_HI__5 := S_HI.wr W5
  have S_LO__5 := S_LO.wr W5
  have Z5 : n0 ≤ h5.size := Nat.le_trans Z0 (Keep.of_wr W5).1
  have KK5 : Keep h0 h5 [o0] := (Keep.refl h0 [o0]).wr W5 (Or.inl (List.mem_of_getElem? (i := 0) rfl))
  have N5 := Fr.snoc X5 N0 g_o0
  refine Go.st st5 ?_
  show Go _ _ _ _ _ _ _ T5 (mkF m 44 #[.val (.ref o0), .val (.int (1 : Int32)), .val (.int p2)] [])
  refine Go.st (fun _ k => XS.aloadN X5.here hx rfl (hb hby d23_44) rfl rfl k) ?_
  show Go _ _ _ _ _ _ _ T5 (mkF m 45 #[.val (.ref o0), .val (.int (1 : Int32)), .val (.int p2)] [(.ref o0)])
  refine Go.st (fun _ k => XS.iloadN X5.here hx rfl (hb hby d23_45) rfl k) ?_
  show Go _ _ _ _ _ _ _ T5 (mkF m 46 #[.val (.ref o0), .val (.int (1 : Int32)), .val (.int p2)] [(.int (1 : Int32)), (.ref o0)])
  refine Go.st (fun _ k => XS.iloadN X5.here hx rfl (hb hby d23_46) rfl k) ?_
  show Go _ _ _ _ _ _ _ T5 (mkF m 47 #[.val (.ref o0), .val (.int (1 : Int32)), .val (.int p2)] [(.int p2), (.int (1 : Int32)), (.ref o0)])
  obtain ⟨T6, X6, e6, st6⟩ := getS2 X5 hx hZ hown (host := "") (Or.inl (hw _ (List.mem_of_getElem? (i := 116) rfl))) Via.refl e5 S_LO__5 (g := (mkF m 47 #[.val (.ref o0), .val (.int (1 : Int32)), .val (.int p2)] [(.int p2), (.int (1 : Int32)), (.ref o0)])) rfl (hb hby d23_47)
  refine Go.st st6 ?_
  show Go _ _ _ _ _ _ _ T6 (mkF m 50 #[.val (.ref o0), .val (.int (1 : Int32)), .val (.int p2)] [(.int (8 : Int32)), (.int p2), (.int (1 : Int32)), (.ref o0)])
  refine Go.st (fun _ k => XS.ishr X6.here hx rfl (hb hby d23_50) rfl k) ?_
  show Go _ _ _ _ _ _ _ T6 (mkF m 51 #[.val (.ref o0), .val (.int (1 : Int32)), .val (.int p2)] [(.int (p2 >>> ((8 : Int32) &&& 31))), (.int (1 : Int32)), (.ref o0)])
  refine Go.st (fun _ k => XS.i2b X6.here hx rfl (hb hby d23_51) rfl k) ?_
  show Go _ _ _ _ _ _ _ T6 (mkF m 52 #[.val (.ref o0), .val (.int (1 : Int32)), .val (.int p2)] [(.int ((p2 >>> ((8 : Int32) &&& 31)).toInt8.toInt32)), (.int (1 : Int32)), (.ref o0)])
  obtain ⟨cl7, Ar7, qq7, SS7, NN7, HH7, GG7⟩ := id V_o0__5
  have hin8 : ¬ ((1 : Int32) < 0 ∨ cl7.slots.size ≤ ((1 : Int32)).toNatClampNeg) := inb_of SS7 ⟨by decide, by decide⟩
  obtain ⟨T9, h9, X9, e9, W9, st9⟩ := stB X6 hx hZ e6 Ar7 (j := (1 : Int32)) hin8 (g := (mkF m 52 #[.val (.ref o0), .val (.int (1 : Int32)), .val (.int p2)] [(.int ((p2 >>> ((8 : Int32) &&& 31)).toInt8.toInt32)), (.int (1 : Int32)), (.ref o0)])) rfl rfl (hb hby d23_52)
  rw [own_nb] at W9
  have V_o0__9 : Arv Z h9 o0 kb .byte (12 : Int32) [(.int ((p2 >>> ((0 : Int32) &&& 31)).toInt8.toInt32)), (.int ((p2 >>> ((8 : Int32) &&& 31)).toInt8.toInt32)), v2, v3, v4, v5, v6, v7, v8, v9, v10, v11] (.int (0 : Int32)) := Arv.set Ar7 qq7 SS7 NN7 HH7 GG7 (fits_nar_byte _) W9 1 rfl (Nat.le_of_ble_eq_true rfl)
  have S_AD__9 := S_AD__5.wr W9
  have S_HI__9 := S_HI__5.wr W9
  have S_LO__9 := S_LO__5.wr W9
  have Z9 : n0 ≤ h9.size := Nat.le_trans Z5 (Keep.of_wr W9).1
  have KK9 : Keep h0 h9 [o0] := KK5.wr W9 (Or.inl (List.mem_of_getElem? (i := 0) rfl))
  have N9 := Fr.snoc X9 N5 g_o0
  refine Go.st st9 ?_
  show Go _ _ _ _ _ _ _ T9 (mkF m 53 #[.val (.ref o0), .val (.int (1 : Int32)), .val (.int p2)] [])
  refine Go.ret X9 hlk (v := none) (fun _ => rfl) (fun fs hr => X9.returnOut hx hret (hb hby d23_53) hr) ?_ (by decide) (by decide)
  show Q23_0 Z o0 p2 kb v0 v1 v2 v3 v4 v5 v6 v7 v8 v9 v10 v11 h0 n0 (none) T9.heap _
  rw [e9]
  exact ⟨rfl, N9, KK9, V_o0__9⟩
theorem ef_23_1 (m : MethodId) (o0 : Addr) (p2 : Int32) : entryFrame m #[(.ref o0), (.int (1 : Int32)), (.int p2)] 3 = mkF m 0 #[.val (.ref o0), .val (.int (1 : Int32)), .val (.int p2)] [] := by first | (simp [entryFrame, mkF, argsToLocals, Value.category]; done) | rfl
def Q23_1 (Z : State) (o0 : Addr) (p2 : Int32) (kb : ClassId) (v0 : Value) (v1 : Value) (v2 : Value) (v3 : Value) (v4 : Value) (v5 : Value) (v6 : Value) (v7 : Value) (v8 : Value) (v9 : Value) (v10 : Value) (v11 : Value) (h0 : Heap) (n0 : Nat) (v : Option Value) (h : Heap) (L : List Loc) : Prop := v = none ∧ Fr n0 L ∧ Keep h0 h [o0] ∧ Arv Z h o0 kb .byte (12 : Int32) [v0, v1, (.int ((p2 >>> ((0 : Int32) &&& 31)).toInt8.toInt32)), (.int ((p2 >>> ((8 : Int32) &&& 31)).toInt8.toInt32)), v4, v5, v6, v7, v8, v9, v10, v11] (.int (0 : Int32))
set_option maxRecDepth 65536 in
set_option maxHeartbeats 40000000 in
theorem rm23_1 (l : Launch) (Z : State) (a0 : Array Value) (hw : ∀ d ∈ tables_1, d.before a0 Z = true) (ws : List Jvm.Cond) (o0 : Addr) (p2 : Int32) (kb : ClassId) (v0 : Value) (v1 : Value) (v2 : Value) (v3 : Value) (v4 : Value) (v5 : Value) (v6 : Value) (v7 : Value) (v8 : Value) (v9 : Value) (v10 : Value) (v11 : Value) (h0 : Heap) (n0 : Nat) (Z0 : n0 ≤ h0.size) (V_o0 : Arv Z h0 o0 kb .byte (12 : Int32) [v0, v1, v2, v3, v4, v5, v6, v7, v8, v9, v10, v11] (.int (0 : Int32))) (g_o0 : n0 ≤ o0) (S_AD : Sta Z h0 "java/lang/StringUTF16" "$assertionsDisabled" "Z" (.int (1 : Int32))) (S_HI : Sta Z h0 "java/lang/StringUTF16" "HI_BYTE_SHIFT" "I" (.int (0 : Int32))) (S_LO : Sta Z h0 "java/lang/StringUTF16" "LO_BYTE_SHIFT" "I" (.int (8 : Int32))) :
    MetFree l (⟨"java/lang/StringUTF16", "putChar", "([BII)V"⟩ : MethodName) (head1 (Jvm.Cond.code (⟨"java/lang/StringUTF16", "putChar", "([BII)V"⟩ : MethodName) jdk_52_method_4_code 3 none :: ws) ({ frames := 0, cells := 0, slots := 0, locals := 0 } : Room)) (fun a U => a = #[(.ref o0), (.int (1 : Int32)), (.int p2)] ∧ Z.Warmed39 U.vm ∧ U.heap = h0) (fun _ _ _ _ _ => True) (fun _ U o U' => ∃ v L, o = .returned v ∧ Q23_1 Z o0 p2 kb v0 v1 v2 v3 v4 v5 v6 v7 v8 v9 v10 v11 h0 n0 v U'.heap L ∧ FrameEnd U o U' L ({ frames := 0, cells := 0, slots := 0, locals := 0 } : Room).cells ({ frames := 0, cells := 0, slots := 0, locals := 0 } : Room).slots) := by
  refine MetFree.of_bodySF (plainFor_of_name pn_java_lang_StringUTF16) hisR ?_
  intro p e s m args below meth c s₁ Bd hml0 hP hK
  obtain ⟨rfl, hZ, hh⟩ := hP
  have hx := Bd.exec
  have hby := Bd.bytes
  have hlk : meth.locks = false := BodyLoose.notSynchronized Bd
  have hret := Bd.returns
  have hml : c.maxLocals = 3 := hml0
  have hown : s.vm.findClass "java/lang/StringUTF16" = some m.cls := findClass_of_methodNamed Bd.named
  have hnm := (name_of_methodNamed Bd.named Bd.method).1
  have X0 : Stand p l e ({ frames := 0, cells := 0, slots := 0, locals := 0 } : Room) s m #[(.ref o0), (.int (1 : Int32)), (.int p2)] below meth c s₁ [] 0 0 := Stand.of_body Bd
  have e0 : s₁.heap = h0 := by rw [← hh, Bd.state]; rfl
  have N0 := Fr.nil n0
  refine Go.start (Q := Q23_1 Z o0 p2 kb v0 v1 v2 v3 v4 v5 v6 v7 v8 v9 v10 v11 h0 n0) (ef_23_1 m o0 p2) ?_
  show Go _ _ _ _ _ _ _ s₁ (mkF m 0 #[.val (.ref o0), .val (.int (1 : Int32)), .val (.int p2)] [])
  obtain ⟨T1, X1, e1, st1⟩ := getS2 X0 hx hZ hown (host := "") (Or.inl (hw _ (List.mem_of_getElem? (i := 114) rfl))) Via.refl e0 S_AD (g := (mkF m 0 #[.val (.ref o0), .val (.int (1 : Int32)), .val (.int p2)] [])) rfl (hb hby d23_0)
  refine Go.st st1 ?_
  show Go _ _ _ _ _ _ _ T1 (mkF m 3 #[.val (.ref o0), .val (.int (1 : Int32)), .val (.int p2)] [(.int (1 : Int32))])
  refine Go.st (fun _ k => XS.ifYes X1.here hx rfl (pc0 := 3) (pc' := 28) rfl (hb hby d23_3) rfl ((if0 _ _).trans (feq (by decide : ¬ ((1 : Int32) = (0 : Int32)))).2) (by decide) (by decide) k) ?_
  show Go _ _ _ _ _ _ _ T1 (mkF m 28 #[.val (.ref o0), .val (.int (1 : Int32)), .val (.int p2)] [])
  refine Go.st (fun _ k => XS.iloadN X1.here hx rfl (hb hby d23_28) rfl k) ?_
  show Go _ _ _ _ _ _ _ T1 (mkF m 29 #[.val (.ref o0), .val (.int (1 : Int32)), .val (.int p2)] [(.int (1 : Int32))])
  refine Go.st (fun _ k => XS.iconst X1.here hx rfl (hb hby d23_29) k) ?_
  show Go _ _ _ _ _ _ _ T1 (mkF m 30 #[.val (.ref o0), .val (.int (1 : Int32)), .val (.int p2)] [(.int (1 : Int32)), (.int (1 : Int32))])
  refine Go.st (fun _ k => XS.ishl X1.here hx rfl (hb hby d23_30) rfl k) ?_
  show Go _ _ _ _ _ _ _ T1 (mkF m 31 #[.val (.ref o0), .val (.int (1 : Int32)), .val (.int p2)] [(.int ((1 : Int32) <<< ((1 : Int32) &&& 31)))])
  refine Go.fr (f' := (mkF m 31 #[.val (.ref o0), .val (.int (1 : Int32)), .val (.int p2)] [(.int (2 : Int32))])) (by rw [show ((1 : Int32) <<< ((1 : Int32) &&& 31)) = (2 : Int32) from by decide +kernel]) ?_
  show Go _ _ _ _ _ _ _ T1 (mkF m 31 #[.val (.ref o0), .val (.int (1 : Int32)), .val (.int p2)] [(.int (2 : Int32))])
  refine Go.st (fun _ k => XS.istoreN X1.here hx rfl (hb hby d23_31) rfl (l' := #[.val (.ref o0), .val (.int (2 : Int32)), .val (.int p2)]) rfl k) ?_
  show Go _ _ _ _ _ _ _ T1 (mkF m 32 #[.val (.ref o0), .val (.int (2 : Int32)), .val (.int p2)] [])
  refine Go.st (fun _ k => XS.aloadN X1.here hx rfl (hb hby d23_32) rfl rfl k) ?_
  show Go _ _ _ _ _ _ _ T1 (mkF m 33 #[.val (.ref o0), .val (.int (2 : Int32)), .val (.int p2)] [(.ref o0)])
  refine Go.st (fun _ k => XS.iloadN X1.here hx rfl (hb hby d23_33) rfl k) ?_
  show Go _ _ _ _ _ _ _ T1 (mkF m 34 #[.val (.ref o0), .val (.int (2 : Int32)), .val (.int p2)] [(.int (2 : Int32)), (.ref o0)])
  refine Go.st (fun _ k => XS.iinc X1.here hx rfl (hb hby d23_34) rfl (l' := #[.val (.ref o0), .val (.int ((2 : Int32) + (1 : Int32))), .val (.int p2)]) rfl k) ?_
  show Go _ _ _ _ _ _ _ T1 (mkF m 37 #[.val (.ref o0), .val (.int ((2 : Int32) + (1 : Int32))), .val (.int p2)] [(.int (2 : Int32)), (.ref o0)])
  refine Go.fr (f' := (mkF m 37 #[.val (.ref o0), .val (.int (3 : Int32)), .val (.int p2)] [(.int (2 : Int32)), (.ref o0)])) (by rw [show ((2 : Int32) + (1 : Int32)) = (3 : Int32) from by decide +kernel]) ?_
  show Go _ _ _ _ _ _ _ T1 (mkF m 37 #[.val (.ref o0), .val (.int (3 : Int32)), .val (.int p2)] [(.int (2 : Int32)), (.ref o0)])
  refine Go.st (fun _ k => XS.iloadN X1.here hx rfl (hb hby d23_37) rfl k) ?_
  show Go _ _ _ _ _ _ _ T1 (mkF m 38 #[.val (.ref o0), .val (.int (3 : Int32)), .val (.int p2)] [(.int p2), (.int (2 : Int32)), (.ref o0)])
  obtain ⟨T2, X2, e2, st2⟩ := getS2 X1 hx hZ hown (host := "") (Or.inl (hw _ (List.mem_of_getElem? (i := 115) rfl))) Via.refl e1 S_HI (g := (mkF m 38 #[.val (.ref o0), .val (.int (3 : Int32)), .val (.int p2)] [(.int p2), (.int (2 : Int32)), (.ref o0)])) rfl (hb hby d23_38)
  refine Go.st st2 ?_
  show Go _ _ _ _ _ _ _ T2 (mkF m 41 #[.val (.ref o0), .val (.int (3 : Int32)), .val (.int p2)] [(.int (0 : Int32)), (.int p2), (.int (2 : Int32)), (.ref o0)])
  refine Go.st (fun _ k => XS.ishr X2.here hx rfl (hb hby d23_41) rfl k) ?_
  show Go _ _ _ _ _ _ _ T2 (mkF m 42 #[.val (.ref o0), .val (.int (3 : Int32)), .val (.int p2)] [(.int (p2 >>> ((0 : Int32) &&& 31))), (.int (2 : Int32)), (.ref o0)])
  refine Go.st (fun _ k => XS.i2b X2.here hx rfl (hb hby d23_42) rfl k) ?_
  show Go _ _ _ _ _ _ _ T2 (mkF m 43 #[.val (.ref o0), .val (.int (3 : Int32)), .val (.int p2)] [(.int ((p2 >>> ((0 : Int32) &&& 31)).toInt8.toInt32)), (.int (2 : Int32)), (.ref o0)])
  obtain ⟨cl3, Ar3, qq3, SS3, NN3, HH3, GG3⟩ := id V_o0
  have hin4 : ¬ ((2 : Int32) < 0 ∨ cl3.slots.size ≤ ((2 : Int32)).toNatClampNeg) := inb_of SS3 ⟨by decide, by decide⟩
  obtain ⟨T5, h5, X5, e5, W5, st5⟩ := stB X2 hx hZ e2 Ar3 (j := (2 : Int32)) hin4 (g := (mkF m 43 #[.val (.ref o0), .val (.int (3 : Int32)), .val (.int p2)] [(.int ((p2 >>> ((0 : Int32) &&& 31)).toInt8.toInt32)), (.int (2 : Int32)), (.ref o0)])) rfl rfl (hb hby d23_43)
  rw [own_nb] at W5
  have V_o0__5 : Arv Z h5 o0 kb .byte (12 : Int32) [v0, v1, (.int ((p2 >>> ((0 : Int32) &&& 31)).toInt8.toInt32)), v3, v4, v5, v6, v7, v8, v9, v10, v11] (.int (0 : Int32)) := Arv.set Ar3 qq3 SS3 NN3 HH3 GG3 (fits_nar_byte _) W5 2 rfl (Nat.le_of_ble_eq_true rfl)
  have S_AD__5 := S_AD.wr W5
  have S_HI__5 := S_HI.wr W5
  have S_LO__5 := S_LO.wr W5
  have Z5 : n0 ≤ h5.size := Nat.le_trans Z0 (Keep.of_wr W5).1
  have KK5 : Keep h0 h5 [o0] := (Keep.refl h0 [o0]).wr W5 (Or.inl (List.mem_of_getElem? (i := 0) rfl))
  have N5 := Fr.snoc X5 N0 g_o0
  refine Go.st st5 ?_
  show Go _ _ _ _ _ _ _ T5 (mkF m 44 #[.val (.ref o0), .val (.int (3 : Int32)), .val (.int p2)] [])
  refine Go.st (fun _ k => XS.aloadN X5.here hx rfl (hb hby d23_44) rfl rfl k) ?_
  show Go _ _ _ _ _ _ _ T5 (mkF m 45 #[.val (.ref o0), .val (.int (3 : Int32)), .val (.int p2)] [(.ref o0)])
  refine Go.st (fun _ k => XS.iloadN X5.here hx rfl (hb hby d23_45) rfl k) ?_
  show Go _ _ _ _ _ _ _ T5 (mkF m 46 #[.val (.ref o0), .val (.int (3 : Int32)), .val (.int p2)] [(.int (3 : Int32)), (.ref o0)])
  refine Go.st (fun _ k => XS.iloadN X5.here hx rfl (hb hby d23_46) rfl k) ?_
  show Go _ _ _ _ _ _ _ T5 (mkF m 47 #[.val (.ref o0), .val (.int (3 : Int32)), .val (.int p2)] [(.int p2), (.int (3 : Int32)), (.ref o0)])
  obtain ⟨T6, X6, e6, st6⟩ := getS2 X5 hx hZ hown (host := "") (Or.inl (hw _ (List.mem_of_getElem? (i := 116) rfl))) Via.refl e5 S_LO__5 (g := (mkF m 47 #[.val (.ref o0), .val (.int (3 : Int32)), .val (.int p2)] [(.int p2), (.int (3 : Int32)), (.ref o0)])) rfl (hb hby d23_47)
  refine Go.st st6 ?_
  show Go _ _ _ _ _ _ _ T6 (mkF m 50 #[.val (.ref o0), .val (.int (3 : Int32)), .val (.int p2)] [(.int (8 : Int32)), (.int p2), (.int (3 : Int32)), (.ref o0)])
  refine Go.st (fun _ k => XS.ishr X6.here hx rfl (hb hby d23_50) rfl k) ?_
  show Go _ _ _ _ _ _ _ T6 (mkF m 51 #[.val (.ref o0), .val (.int (3 : Int32)), .val (.int p2)] [(.int (p2 >>> ((8 : Int32) &&& 31))), (.int (3 : Int32)), (.ref o0)])
  refine Go.st (fun _ k => XS.i2b X6.here hx rfl (hb hby d23_51) rfl k) ?_
  show Go _ _ _ _ _ _ _ T6 (mkF m 52 #[.val (.ref o0), .val (.int (3 : Int32)), .val (.int p2)] [(.int ((p2 >>> ((8 : Int32) &&& 31)).toInt8.toInt32)), (.int (3 : Int32)), (.ref o0)])
  obtain ⟨cl7, Ar7, qq7, SS7, NN7, HH7, GG7⟩ := id V_o0__5
  have hin8 : ¬ ((3 : Int32) < 0 ∨ cl7.slots.size ≤ ((3 : Int32)).toNatClampNeg) := inb_of SS7 ⟨by decide, by decide⟩
  obtain ⟨T9, h9, X9, e9, W9, st9⟩ := stB X6 hx hZ e6 Ar7 (j := (3 : Int32)) hin8 (g := (mkF m 52 #[.val (.ref o0), .val (.int (3 : Int32)), .val (.int p2)] [(.int ((p2 >>> ((8 : Int32) &&& 31)).toInt8.toInt32)), (.int (3 : Int32)), (.ref o0)])) rfl rfl (hb hby d23_52)
  rw [own_nb] at W9
  have V_o0__9 : Arv Z h9 o0 kb .byte (12 : Int32) [v0, v1, (.int ((p2 >>> ((0 : Int32) &&& 31)).toInt8.toInt32)), (.int ((p2 >>> ((8 : Int32) &&& 31)).toInt8.toInt32)), v4, v5, v6, v7, v8, v9, v10, v11] (.int (0 : Int32)) := Arv.set Ar7 qq7 SS7 NN7 HH7 GG7 (fits_nar_byte _) W9 3 rfl (Nat.le_of_ble_eq_true rfl)
  have S_AD__9 := S_AD__5.wr W9
  have S_HI__9 := S_HI__5.wr W9
  have S_LO__9 := S_LO__5.wr W9
  have Z9 : n0 ≤ h9.size := Nat.le_trans Z5 (Keep.of_wr W9).1
  have KK9 : Keep h0 h9 [o0] := KK5.wr W9 (Or.inl (List.mem_of_getElem? (i := 0) rfl))
  have N9 := Fr.snoc X9 N5 g_o0
  refine Go.st st9 ?_
  show Go _ _ _ _ _ _ _ T9 (mkF m 53 #[.val (.ref o0), .val (.int (3 : Int32)), .val (.int p2)] [])
  refine Go.ret X9 hlk (v := none) (fun _ => rfl) (fun fs hr => X9.returnOut hx hret (hb hby d23_53) hr) ?_ (by decide) (by decide)
  show Q23_1 Z o0 p2 kb v0 v1 v2 v3 v4 v5 v6 v7 v8 v9 v10 v11 h0 n0 (none) T9.heap _
  rw [e9]
  exact ⟨rfl, N9, KK9, V_o0__9⟩
theorem ef_23_2 (m : MethodId) (o0 : Addr) (p2 : Int32) : entryFrame m #[(.ref o0), (.int (2 : Int32)), (.int p2)] 3 = mkF m 0 #[.val (.ref o0), .val (.int (2 : Int32)), .val (.int p2)] [] := by first | (simp [entryFrame, mkF, argsToLocals, Value.category]; done) | rfl
def Q23_2 (Z : State) (o0 : Addr) (p2 : Int32) (kb : ClassId) (v0 : Value) (v1 : Value) (v2 : Value) (v3 : Value) (v4 : Value) (v5 : Value) (v6 : Value) (v7 : Value) (v8 : Value) (v9 : Value) (v10 : Value) (v11 : Value) (h0 : Heap) (n0 : Nat) (v : Option Value) (h : Heap) (L : List Loc) : Prop := v = none ∧ Fr n0 L ∧ Keep h0 h [o0] ∧ Arv Z h o0 kb .byte (12 : Int32) [v0, v1, v2, v3, (.int ((p2 >>> ((0 : Int32) &&& 31)).toInt8.toInt32)), (.int ((p2 >>> ((8 : Int32) &&& 31)).toInt8.toInt32)), v6, v7, v8, v9, v10, v11] (.int (0 : Int32))
set_option maxRecDepth 65536 in
set_option maxHeartbeats 40000000 in
theorem rm23_2 (l : Launch) (Z : State) (a0 : Array Value) (hw : ∀ d ∈ tables_1, d.before a0 Z = true) (ws : List Jvm.Cond) (o0 : Addr) (p2 : Int32) (kb : ClassId) (v0 : Value) (v1 : Value) (v2 : Value) (v3 : Value) (v4 : Value) (v5 : Value) (v6 : Value) (v7 : Value) (v8 : Value) (v9 : Value) (v10 : Value) (v11 : Value) (h0 : Heap) (n0 : Nat) (Z0 : n0 ≤ h0.size) (V_o0 : Arv Z h0 o0 kb .byte (12 : Int32) [v0, v1, v2, v3, v4, v5, v6, v7, v8, v9, v10, v11] (.int (0 : Int32))) (g_o0 : n0 ≤ o0) (S_AD : Sta Z h0 "java/lang/StringUTF16" "$assertionsDisabled" "Z" (.int (1 : Int32))) (S_HI : Sta Z h0 "java/lang/StringUTF16" "HI_BYTE_SHIFT" "I" (.int (0 : Int32))) (S_LO : Sta Z h0 "java/lang/StringUTF16" "LO_BYTE_SHIFT" "I" (.int (8 : Int32))) :
    MetFree l (⟨"java/lang/StringUTF16", "putChar", "([BII)V"⟩ : MethodName) (head1 (Jvm.Cond.code (⟨"java/lang/StringUTF16", "putChar", "([BII)V"⟩ : MethodName) jdk_52_method_4_code 3 none :: ws) ({ frames := 0, cells := 0, slots := 0, locals := 0 } : Room)) (fun a U => a = #[(.ref o0), (.int (2 : Int32)), (.int p2)] ∧ Z.Warmed39 U.vm ∧ U.heap = h0) (fun _ _ _ _ _ => True) (fun _ U o U' => ∃ v L, o = .returned v ∧ Q23_2 Z o0 p2 kb v0 v1 v2 v3 v4 v5 v6 v7 v8 v9 v10 v11 h0 n0 v U'.heap L ∧ FrameEnd U o U' L ({ frames := 0, cells := 0, slots := 0, locals := 0 } : Room).cells ({ frames := 0, cells := 0, slots := 0, locals := 0 } : Room).slots) := by
  refine MetFree.of_bodySF (plainFor_of_name pn_java_lang_StringUTF16) hisR ?_
  intro p e s m args below meth c s₁ Bd hml0 hP hK
  obtain ⟨rfl, hZ, hh⟩ := hP
  have hx := Bd.exec
  have hby := Bd.bytes
  have hlk : meth.locks = false := BodyLoose.notSynchronized Bd
  have hret := Bd.returns
  have hml : c.maxLocals = 3 := hml0
  have hown : s.vm.findClass "java/lang/StringUTF16" = some m.cls := findClass_of_methodNamed Bd.named
  have hnm := (name_of_methodNamed Bd.named Bd.method).1
  have X0 : Stand p l e ({ frames := 0, cells := 0, slots := 0, locals := 0 } : Room) s m #[(.ref o0), (.int (2 : Int32)), (.int p2)] below meth c s₁ [] 0 0 := Stand.of_body Bd
  have e0 : s₁.heap = h0 := by rw [← hh, Bd.state]; rfl
  have N0 := Fr.nil n0
  refine Go.start (Q := Q23_2 Z o0 p2 kb v0 v1 v2 v3 v4 v5 v6 v7 v8 v9 v10 v11 h0 n0) (ef_23_2 m o0 p2) ?_
  show Go _ _ _ _ _ _ _ s₁ (mkF m 0 #[.val (.ref o0), .val (.int (2 : Int32)), .val (.int p2)] [])
  obtain ⟨T1, X1, e1, st1⟩ := getS2 X0 hx hZ hown (host := "") (Or.inl (hw _ (List.mem_of_getElem? (i := 114) rfl))) Via.refl e0 S_AD (g := (mkF m 0 #[.val (.ref o0), .val (.int (2 : Int32)), .val (.int p2)] [])) rfl (hb hby d23_0)
  refine Go.st st1 ?_
  show Go _ _ _ _ _ _ _ T1 (mkF m 3 #[.val (.ref o0), .val (.int (2 : Int32)), .val (.int p2)] [(.int (1 : Int32))])
  refine Go.st (fun _ k => XS.ifYes X1.here hx rfl (pc0 := 3) (pc' := 28) rfl (hb hby d23_3) rfl ((if0 _ _).trans (feq (by decide : ¬ ((1 : Int32) = (0 : Int32)))).2) (by decide) (by decide) k) ?_
  show Go _ _ _ _ _ _ _ T1 (mkF m 28 #[.val (.ref o0), .val (.int (2 : Int32)), .val (.int p2)] [])
  refine Go.st (fun _ k => XS.iloadN X1.here hx rfl (hb hby d23_28) rfl k) ?_
  show Go _ _ _ _ _ _ _ T1 (mkF m 29 #[.val (.ref o0), .val (.int (2 : Int32)), .val (.int p2)] [(.int (2 : Int32))])
  refine Go.st (fun _ k => XS.iconst X1.here hx rfl (hb hby d23_29) k) ?_
  show Go _ _ _ _ _ _ _ T1 (mkF m 30 #[.val (.ref o0), .val (.int (2 : Int32)), .val (.int p2)] [(.int (1 : Int32)), (.int (2 : Int32))])
  refine Go.st (fun _ k => XS.ishl X1.here hx rfl (hb hby d23_30) rfl k) ?_
  show Go _ _ _ _ _ _ _ T1 (mkF m 31 #[.val (.ref o0), .val (.int (2 : Int32)), .val (.int p2)] [(.int ((2 : Int32) <<< ((1 : Int32) &&& 31)))])
  refine Go.fr (f' := (mkF m 31 #[.val (.ref o0), .val (.int (2 : Int32)), .val (.int p2)] [(.int (4 : Int32))])) (by rw [show ((2 : Int32) <<< ((1 : Int32) &&& 31)) = (4 : Int32) from by decide +kernel]) ?_
  show Go _ _ _ _ _ _ _ T1 (mkF m 31 #[.val (.ref o0), .val (.int (2 : Int32)), .val (.int p2)] [(.int (4 : Int32))])
  refine Go.st (fun _ k => XS.istoreN X1.here hx rfl (hb hby d23_31) rfl (l' := #[.val (.ref o0), .val (.int (4 : Int32)), .val (.int p2)]) rfl k) ?_
  show Go _ _ _ _ _ _ _ T1 (mkF m 32 #[.val (.ref o0), .val (.int (4 : Int32)), .val (.int p2)] [])
  refine Go.st (fun _ k => XS.aloadN X1.here hx rfl (hb hby d23_32) rfl rfl k) ?_
  show Go _ _ _ _ _ _ _ T1 (mkF m 33 #[.val (.ref o0), .val (.int (4 : Int32)), .val (.int p2)] [(.ref o0)])
  refine Go.st (fun _ k => XS.iloadN X1.here hx rfl (hb hby d23_33) rfl k) ?_
  show Go _ _ _ _ _ _ _ T1 (mkF m 34 #[.val (.ref o0), .val (.int (4 : Int32)), .val (.int p2)] [(.int (4 : Int32)), (.ref o0)])
  refine Go.st (fun _ k => XS.iinc X1.here hx rfl (hb hby d23_34) rfl (l' := #[.val (.ref o0), .val (.int ((4 : Int32) + (1 : Int32))), .val (.int p2)]) rfl k) ?_
  show Go _ _ _ _ _ _ _ T1 (mkF m 37 #[.val (.ref o0), .val (.int ((4 : Int32) + (1 : Int32))), .val (.int p2)] [(.int (4 : Int32)), (.ref o0)])
  refine Go.fr (f' := (mkF m 37 #[.val (.ref o0), .val (.int (5 : Int32)), .val (.int p2)] [(.int (4 : Int32)), (.ref o0)])) (by rw [show ((4 : Int32) + (1 : Int32)) = (5 : Int32) from by decide +kernel]) ?_
  show Go _ _ _ _ _ _ _ T1 (mkF m 37 #[.val (.ref o0), .val (.int (5 : Int32)), .val (.int p2)] [(.int (4 : Int32)), (.ref o0)])
  refine Go.st (fun _ k => XS.iloadN X1.here hx rfl (hb hby d23_37) rfl k) ?_
  show Go _ _ _ _ _ _ _ T1 (mkF m 38 #[.val (.ref o0), .val (.int (5 : Int32)), .val (.int p2)] [(.int p2), (.int (4 : Int32)), (.ref o0)])
  obtain ⟨T2, X2, e2, st2⟩ := getS2 X1 hx hZ hown (host := "") (Or.inl (hw _ (List.mem_of_getElem? (i := 115) rfl))) Via.refl e1 S_HI (g := (mkF m 38 #[.val (.ref o0), .val (.int (5 : Int32)), .val (.int p2)] [(.int p2), (.int (4 : Int32)), (.ref o0)])) rfl (hb hby d23_38)
  refine Go.st st2 ?_
  show Go _ _ _ _ _ _ _ T2 (mkF m 41 #[.val (.ref o0), .val (.int (5 : Int32)), .val (.int p2)] [(.int (0 : Int32)), (.int p2), (.int (4 : Int32)), (.ref o0)])
  refine Go.st (fun _ k => XS.ishr X2.here hx rfl (hb hby d23_41) rfl k) ?_
  show Go _ _ _ _ _ _ _ T2 (mkF m 42 #[.val (.ref o0), .val (.int (5 : Int32)), .val (.int p2)] [(.int (p2 >>> ((0 : Int32) &&& 31))), (.int (4 : Int32)), (.ref o0)])
  refine Go.st (fun _ k => XS.i2b X2.here hx rfl (hb hby d23_42) rfl k) ?_
  show Go _ _ _ _ _ _ _ T2 (mkF m 43 #[.val (.ref o0), .val (.int (5 : Int32)), .val (.int p2)] [(.int ((p2 >>> ((0 : Int32) &&& 31)).toInt8.toInt32)), (.int (4 : Int32)), (.ref o0)])
  obtain ⟨cl3, Ar3, qq3, SS3, NN3, HH3, GG3⟩ := id V_o0
  have hin4 : ¬ ((4 : Int32) < 0 ∨ cl3.slots.size ≤ ((4 : Int32)).toNatClampNeg) := inb_of SS3 ⟨by decide, by decide⟩
  obtain ⟨T5, h5, X5, e5, W5, st5⟩ := stB X2 hx hZ e2 Ar3 (j := (4 : Int32)) hin4 (g := (mkF m 43 #[.val (.ref o0), .val (.int (5 : Int32)), .val (.int p2)] [(.int ((p2 >>> ((0 : Int32) &&& 31)).toInt8.toInt32)), (.int (4 : Int32)), (.ref o0)])) rfl rfl (hb hby d23_43)
  rw [own_nb] at W5
  have V_o0__5 : Arv Z h5 o0 kb .byte (12 : Int32) [v0, v1, v2, v3, (.int ((p2 >>> ((0 : Int32) &&& 31)).toInt8.toInt32)), v5, v6, v7, v8, v9, v10, v11] (.int (0 : Int32)) := Arv.set Ar3 qq3 SS3 NN3 HH3 GG3 (fits_nar_byte _) W5 4 rfl (Nat.le_of_ble_eq_true rfl)
  have S_AD__5 := S_AD.wr W5
  have S_HI__5 := S_HI.wr W5
  have S_LO__5 := S_LO.wr W5
  have Z5 : n0 ≤ h5.size := Nat.le_trans Z0 (Keep.of_wr W5).1
  have KK5 : Keep h0 h5 [o0] := (Keep.refl h0 [o0]).wr W5 (Or.inl (List.mem_of_getElem? (i := 0) rfl))
  have N5 := Fr.snoc X5 N0 g_o0
  refine Go.st st5 ?_
  show Go _ _ _ _ _ _ _ T5 (mkF m 44 #[.val (.ref o0), .val (.int (5 : Int32)), .val (.int p2)] [])
  refine Go.st (fun _ k => XS.aloadN X5.here hx rfl (hb hby d23_44) rfl rfl k) ?_
  show Go _ _ _ _ _ _ _ T5 (mkF m 45 #[.val (.ref o0), .val (.int (5 : Int32)), .val (.int p2)] [(.ref o0)])
  refine Go.st (fun _ k => XS.iloadN X5.here hx rfl (hb hby d23_45) rfl k) ?_
  show Go _ _ _ _ _ _ _ T5 (mkF m 46 #[.val (.ref o0), .val (.int (5 : Int32)), .val (.int p2)] [(.int (5 : Int32)), (.ref o0)])
  refine Go.st (fun _ k => XS.iloadN X5.here hx rfl (hb hby d23_46) rfl k) ?_
  show Go _ _ _ _ _ _ _ T5 (mkF m 47 #[.val (.ref o0), .val (.int (5 : Int32)), .val (.int p2)] [(.int p2), (.int (5 : Int32)), (.ref o0)])
  obtain ⟨T6, X6, e6, st6⟩ := getS2 X5 hx hZ hown (host := "") (Or.inl (hw _ (List.mem_of_getElem? (i := 116) rfl))) Via.refl e5 S_LO__5 (g := (mkF m 47 #[.val (.ref o0), .val (.int (5 : Int32)), .val (.int p2)] [(.int p2), (.int (5 : Int32)), (.ref o0)])) rfl (hb hby d23_47)
  refine Go.st st6 ?_
  show Go _ _ _ _ _ _ _ T6 (mkF m 50 #[.val (.ref o0), .val (.int (5 : Int32)), .val (.int p2)] [(.int (8 : Int32)), (.int p2), (.int (5 : Int32)), (.ref o0)])
  refine Go.st (fun _ k => XS.ishr X6.here hx rfl (hb hby d23_50) rfl k) ?_
  show Go _ _ _ _ _ _ _ T6 (mkF m 51 #[.val (.ref o0), .val (.int (5 : Int32)), .val (.int p2)] [(.int (p2 >>> ((8 : Int32) &&& 31))), (.int (5 : Int32)), (.ref o0)])
  refine Go.st (fun _ k => XS.i2b X6.here hx rfl (hb hby d23_51) rfl k) ?_
  show Go _ _ _ _ _ _ _ T6 (mkF m 52 #[.val (.ref o0), .val (.int (5 : Int32)), .val (.int p2)] [(.int ((p2 >>> ((8 : Int32) &&& 31)).toInt8.toInt32)), (.int (5 : Int32)), (.ref o0)])
  obtain ⟨cl7, Ar7, qq7, SS7, NN7, HH7, GG7⟩ := id V_o0__5
  have hin8 : ¬ ((5 : Int32) < 0 ∨ cl7.slots.size ≤ ((5 : Int32)).toNatClampNeg) := inb_of SS7 ⟨by decide, by decide⟩
  obtain ⟨T9, h9, X9, e9, W9, st9⟩ := stB X6 hx hZ e6 Ar7 (j := (5 : Int32)) hin8 (g := (mkF m 52 #[.val (.ref o0), .val (.int (5 : Int32)), .val (.int p2)] [(.int ((p2 >>> ((8 : Int32) &&& 31)).toInt8.toInt32)), (.int (5 : Int32)), (.ref o0)])) rfl rfl (hb hby d23_52)
  rw [own_nb] at W9
  have V_o0__9 : Arv Z h9 o0 kb .byte (12 : Int32) [v0, v1, v2, v3, (.int ((p2 >>> ((0 : Int32) &&& 31)).toInt8.toInt32)), (.int ((p2 >>> ((8 : Int32) &&& 31)).toInt8.toInt32)), v6, v7, v8, v9, v10, v11] (.int (0 : Int32)) := Arv.set Ar7 qq7 SS7 NN7 HH7 GG7 (fits_nar_byte _) W9 5 rfl (Nat.le_of_ble_eq_true rfl)
  have S_AD__9 := S_AD__5.wr W9
  have S_HI__9 := S_HI__5.wr W9
  have S_LO__9 := S_LO__5.wr W9
  have Z9 : n0 ≤ h9.size := Nat.le_trans Z5 (Keep.of_wr W9).1
  have KK9 : Keep h0 h9 [o0] := KK5.wr W9 (Or.inl (List.mem_of_getElem? (i := 0) rfl))
  have N9 := Fr.snoc X9 N5 g_o0
  refine Go.st st9 ?_
  show Go _ _ _ _ _ _ _ T9 (mkF m 53 #[.val (.ref o0), .val (.int (5 : Int32)), .val (.int p2)] [])
  refine Go.ret X9 hlk (v := none) (fun _ => rfl) (fun fs hr => X9.returnOut hx hret (hb hby d23_53) hr) ?_ (by decide) (by decide)
  show Q23_2 Z o0 p2 kb v0 v1 v2 v3 v4 v5 v6 v7 v8 v9 v10 v11 h0 n0 (none) T9.heap _
  rw [e9]
  exact ⟨rfl, N9, KK9, V_o0__9⟩
theorem ef_23_3 (m : MethodId) (o0 : Addr) (p2 : Int32) : entryFrame m #[(.ref o0), (.int (3 : Int32)), (.int p2)] 3 = mkF m 0 #[.val (.ref o0), .val (.int (3 : Int32)), .val (.int p2)] [] := by first | (simp [entryFrame, mkF, argsToLocals, Value.category]; done) | rfl
def Q23_3 (Z : State) (o0 : Addr) (p2 : Int32) (kb : ClassId) (v0 : Value) (v1 : Value) (v2 : Value) (v3 : Value) (v4 : Value) (v5 : Value) (v6 : Value) (v7 : Value) (v8 : Value) (v9 : Value) (v10 : Value) (v11 : Value) (h0 : Heap) (n0 : Nat) (v : Option Value) (h : Heap) (L : List Loc) : Prop := v = none ∧ Fr n0 L ∧ Keep h0 h [o0] ∧ Arv Z h o0 kb .byte (12 : Int32) [v0, v1, v2, v3, v4, v5, (.int ((p2 >>> ((0 : Int32) &&& 31)).toInt8.toInt32)), (.int ((p2 >>> ((8 : Int32) &&& 31)).toInt8.toInt32)), v8, v9, v10, v11] (.int (0 : Int32))
set_option maxRecDepth 65536 in
set_option maxHeartbeats 40000000 in
theorem rm23_3 (l : Launch) (Z : State) (a0 : Array Value) (hw : ∀ d ∈ tables_1, d.before a0 Z = true) (ws : List Jvm.Cond) (o0 : Addr) (p2 : Int32) (kb : ClassId) (v0 : Value) (v1 : Value) (v2 : Value) (v3 : Value) (v4 : Value) (v5 : Value) (v6 : Value) (v7 : Value) (v8 : Value) (v9 : Value) (v10 : Value) (v11 : Value) (h0 : Heap) (n0 : Nat) (Z0 : n0 ≤ h0.size) (V_o0 : Arv Z h0 o0 kb .byte (12 : Int32) [v0, v1, v2, v3, v4, v5, v6, v7, v8, v9, v10, v11] (.int (0 : Int32))) (g_o0 : n0 ≤ o0) (S_AD : Sta Z h0 "java/lang/StringUTF16" "$assertionsDisabled" "Z" (.int (1 : Int32))) (S_HI : Sta Z h0 "java/lang/StringUTF16" "HI_BYTE_SHIFT" "I" (.int (0 : Int32))) (S_LO : Sta Z h0 "java/lang/StringUTF16" "LO_BYTE_SHIFT" "I" (.int (8 : Int32))) :
    MetFree l (⟨"java/lang/StringUTF16", "putChar", "([BII)V"⟩ : MethodName) (head1 (Jvm.Cond.code (⟨"java/lang/StringUTF16", "putChar", "([BII)V"⟩ : MethodName) jdk_52_method_4_code 3 none :: ws) ({ frames := 0, cells := 0, slots := 0, locals := 0 } : Room)) (fun a U => a = #[(.ref o0), (.int (3 : Int32)), (.int p2)] ∧ Z.Warmed39 U.vm ∧ U.heap = h0) (fun _ _ _ _ _ => True) (fun _ U o U' => ∃ v L, o = .returned v ∧ Q23_3 Z o0 p2 kb v0 v1 v2 v3 v4 v5 v6 v7 v8 v9 v10 v11 h0 n0 v U'.heap L ∧ FrameEnd U o U' L ({ frames := 0, cells := 0, slots := 0, locals := 0 } : Room).cells ({ frames := 0, cells := 0, slots := 0, locals := 0 } : Room).slots) := by
  refine MetFree.of_bodySF (plainFor_of_name pn_java_lang_StringUTF16) hisR ?_
  intro p e s m args below meth c s₁ Bd hml0 hP hK
  obtain ⟨rfl, hZ, hh⟩ := hP
  have hx := Bd.exec
  have hby := Bd.bytes
  have hlk : meth.locks = false := BodyLoose.notSynchronized Bd
  have hret := Bd.returns
  have hml : c.maxLocals = 3 := hml0
  have hown : s.vm.findClass "java/lang/StringUTF16" = some m.cls := findClass_of_methodNamed Bd.named
  have hnm := (name_of_methodNamed Bd.named Bd.method).1
  have X0 : Stand p l e ({ frames := 0, cells := 0, slots := 0, locals := 0 } : Room) s m #[(.ref o0), (.int (3 : Int32)), (.int p2)] below meth c s₁ [] 0 0 := Stand.of_body Bd
  have e0 : s₁.heap = h0 := by rw [← hh, Bd.state]; rfl
  have N0 := Fr.nil n0
  refine Go.start (Q := Q23_3 Z o0 p2 kb v0 v1 v2 v3 v4 v5 v6 v7 v8 v9 v10 v11 h0 n0) (ef_23_3 m o0 p2) ?_
  show Go _ _ _ _ _ _ _ s₁ (mkF m 0 #[.val (.ref o0), .val (.int (3 : Int32)), .val (.int p2)] [])
  obtain ⟨T1, X1, e1, st1⟩ := getS2 X0 hx hZ hown (host := "") (Or.inl (hw _ (List.mem_of_getElem? (i := 114) rfl))) Via.refl e0 S_AD (g := (mkF m 0 #[.val (.ref o0), .val (.int (3 : Int32)), .val (.int p2)] [])) rfl (hb hby d23_0)
  refine Go.st st1 ?_
  show Go _ _ _ _ _ _ _ T1 (mkF m 3 #[.val (.ref o0), .val (.int (3 : Int32)), .val (.int p2)] [(.int (1 : Int32))])
  refine Go.st (fun _ k => XS.ifYes X1.here hx rfl (pc0 := 3) (pc' := 28) rfl (hb hby d23_3) rfl ((if0 _ _).trans (feq (by decide : ¬ ((1 : Int32) = (0 : Int32)))).2) (by decide) (by decide) k) ?_
  show Go _ _ _ _ _ _ _ T1 (mkF m 28 #[.val (.ref o0), .val (.int (3 : Int32)), .val (.int p2)] [])
  refine Go.st (fun _ k => XS.iloadN X1.here hx rfl (hb hby d23_28) rfl k) ?_
  show Go _ _ _ _ _ _ _ T1 (mkF m 29 #[.val (.ref o0), .val (.int (3 : Int32)), .val (.int p2)] [(.int (3 : Int32))])
  refine Go.st (fun _ k => XS.iconst X1.here hx rfl (hb hby d23_29) k) ?_
  show Go _ _ _ _ _ _ _ T1 (mkF m 30 #[.val (.ref o0), .val (.int (3 : Int32)), .val (.int p2)] [(.int (1 : Int32)), (.int (3 : Int32))])
  refine Go.st (fun _ k => XS.ishl X1.here hx rfl (hb hby d23_30) rfl k) ?_
  show Go _ _ _ _ _ _ _ T1 (mkF m 31 #[.val (.ref o0), .val (.int (3 : Int32)), .val (.int p2)] [(.int ((3 : Int32) <<< ((1 : Int32) &&& 31)))])
  refine Go.fr (f' := (mkF m 31 #[.val (.ref o0), .val (.int (3 : Int32)), .val (.int p2)] [(.int (6 : Int32))])) (by rw [show ((3 : Int32) <<< ((1 : Int32) &&& 31)) = (6 : Int32) from by decide +kernel]) ?_
  show Go _ _ _ _ _ _ _ T1 (mkF m 31 #[.val (.ref o0), .val (.int (3 : Int32)), .val (.int p2)] [(.int (6 : Int32))])
  refine Go.st (fun _ k => XS.istoreN X1.here hx rfl (hb hby d23_31) rfl (l' := #[.val (.ref o0), .val (.int (6 : Int32)), .val (.int p2)]) rfl k) ?_
  show Go _ _ _ _ _ _ _ T1 (mkF m 32 #[.val (.ref o0), .val (.int (6 : Int32)), .val (.int p2)] [])
  refine Go.st (fun _ k => XS.aloadN X1.here hx rfl (hb hby d23_32) rfl rfl k) ?_
  show Go _ _ _ _ _ _ _ T1 (mkF m 33 #[.val (.ref o0), .val (.int (6 : Int32)), .val (.int p2)] [(.ref o0)])
  refine Go.st (fun _ k => XS.iloadN X1.here hx rfl (hb hby d23_33) rfl k) ?_
  show Go _ _ _ _ _ _ _ T1 (mkF m 34 #[.val (.ref o0), .val (.int (6 : Int32)), .val (.int p2)] [(.int (6 : Int32)), (.ref o0)])
  refine Go.st (fun _ k => XS.iinc X1.here hx rfl (hb hby d23_34) rfl (l' := #[.val (.ref o0), .val (.int ((6 : Int32) + (1 : Int32))), .val (.int p2)]) rfl k) ?_
  show Go _ _ _ _ _ _ _ T1 (mkF m 37 #[.val (.ref o0), .val (.int ((6 : Int32) + (1 : Int32))), .val (.int p2)] [(.int (6 : Int32)), (.ref o0)])
  refine Go.fr (f' := (mkF m 37 #[.val (.ref o0), .val (.int (7 : Int32)), .val (.int p2)] [(.int (6 : Int32)), (.ref o0)])) (by rw [show ((6 : Int32) + (1 : Int32)) = (7 : Int32) from by decide +kernel]) ?_
  show Go _ _ _ _ _ _ _ T1 (mkF m 37 #[.val (.ref o0), .val (.int (7 : Int32)), .val (.int p2)] [(.int (6 : Int32)), (.ref o0)])
  refine Go.st (fun _ k => XS.iloadN X1.here hx rfl (hb hby d23_37) rfl k) ?_
  show Go _ _ _ _ _ _ _ T1 (mkF m 38 #[.val (.ref o0), .val (.int (7 : Int32)), .val (.int p2)] [(.int p2), (.int (6 : Int32)), (.ref o0)])
  obtain ⟨T2, X2, e2, st2⟩ := getS2 X1 hx hZ hown (host := "") (Or.inl (hw _ (List.mem_of_getElem? (i := 115) rfl))) Via.refl e1 S_HI (g := (mkF m 38 #[.val (.ref o0), .val (.int (7 : Int32)), .val (.int p2)] [(.int p2), (.int (6 : Int32)), (.ref o0)])) rfl (hb hby d23_38)
  refine Go.st st2 ?_
  show Go _ _ _ _ _ _ _ T2 (mkF m 41 #[.val (.ref o0), .val (.int (7 : Int32)), .val (.int p2)] [(.int (0 : Int32)), (.int p2), (.int (6 : Int32)), (.ref o0)])
  refine Go.st (fun _ k => XS.ishr X2.here hx rfl (hb hby d23_41) rfl k) ?_
  show Go _ _ _ _ _ _ _ T2 (mkF m 42 #[.val (.ref o0), .val (.int (7 : Int32)), .val (.int p2)] [(.int (p2 >>> ((0 : Int32) &&& 31))), (.int (6 : Int32)), (.ref o0)])
  refine Go.st (fun _ k => XS.i2b X2.here hx rfl (hb hby d23_42) rfl k) ?_
  show Go _ _ _ _ _ _ _ T2 (mkF m 43 #[.val (.ref o0), .val (.int (7 : Int32)), .val (.int p2)] [(.int ((p2 >>> ((0 : Int32) &&& 31)).toInt8.toInt32)), (.int (6 : Int32)), (.ref o0)])
  obtain ⟨cl3, Ar3, qq3, SS3, NN3, HH3, GG3⟩ := id V_o0
  have hin4 : ¬ ((6 : Int32) < 0 ∨ cl3.slots.size ≤ ((6 : Int32)).toNatClampNeg) := inb_of SS3 ⟨by decide, by decide⟩
  obtain ⟨T5, h5, X5, e5, W5, st5⟩ := stB X2 hx hZ e2 Ar3 (j := (6 : Int32)) hin4 (g := (mkF m 43 #[.val (.ref o0), .val (.int (7 : Int32)), .val (.int p2)] [(.int ((p2 >>> ((0 : Int32) &&& 31)).toInt8.toInt32)), (.int (6 : Int32)), (.ref o0)])) rfl rfl (hb hby d23_43)
  rw [own_nb] at W5
  have V_o0__5 : Arv Z h5 o0 kb .byte (12 : Int32) [v0, v1, v2, v3, v4, v5, (.int ((p2 >>> ((0 : Int32) &&& 31)).toInt8.toInt32)), v7, v8, v9, v10, v11] (.int (0 : Int32)) := Arv.set Ar3 qq3 SS3 NN3 HH3 GG3 (fits_nar_byte _) W5 6 rfl (Nat.le_of_ble_eq_true rfl)
  have S_AD__5 := S_AD.wr W5
  have S_HI__5 := S_HI.wr W5
  have S_LO__5 := S_LO.wr W5
  have Z5 : n0 ≤ h5.size := Nat.le_trans Z0 (Keep.of_wr W5).1
  have KK5 : Keep h0 h5 [o0] := (Keep.refl h0 [o0]).wr W5 (Or.inl (List.mem_of_getElem? (i := 0) rfl))
  have N5 := Fr.snoc X5 N0 g_o0
  refine Go.st st5 ?_
  show Go _ _ _ _ _ _ _ T5 (mkF m 44 #[.val (.ref o0), .val (.int (7 : Int32)), .val (.int p2)] [])
  refine Go.st (fun _ k => XS.aloadN X5.here hx rfl (hb hby d23_44) rfl rfl k) ?_
  show Go _ _ _ _ _ _ _ T5 (mkF m 45 #[.val (.ref o0), .val (.int (7 : Int32)), .val (.int p2)] [(.ref o0)])
  refine Go.st (fun _ k => XS.iloadN X5.here hx rfl (hb hby d23_45) rfl k) ?_
  show Go _ _ _ _ _ _ _ T5 (mkF m 46 #[.val (.ref o0), .val (.int (7 : Int32)), .val (.int p2)] [(.int (7 : Int32)), (.ref o0)])
  refine Go.st (fun _ k => XS.iloadN X5.here hx rfl (hb hby d23_46) rfl k) ?_
  show Go _ _ _ _ _ _ _ T5 (mkF m 47 #[.val (.ref o0), .val (.int (7 : Int32)), .val (.int p2)] [(.int p2), (.int (7 : Int32)), (.ref o0)])
  obtain ⟨T6, X6, e6, st6⟩ := getS2 X5 hx hZ hown (host := "") (Or.inl (hw _ (List.mem_of_getElem? (i := 116) rfl))) Via.refl e5 S_LO__5 (g := (mkF m 47 #[.val (.ref o0), .val (.int (7 : Int32)), .val (.int p2)] [(.int p2), (.int (7 : Int32)), (.ref o0)])) rfl (hb hby d23_47)
  refine Go.st st6 ?_
  show Go _ _ _ _ _ _ _ T6 (mkF m 50 #[.val (.ref o0), .val (.int (7 : Int32)), .val (.int p2)] [(.int (8 : Int32)), (.int p2), (.int (7 : Int32)), (.ref o0)])
  refine Go.st (fun _ k => XS.ishr X6.here hx rfl (hb hby d23_50) rfl k) ?_
  show Go _ _ _ _ _ _ _ T6 (mkF m 51 #[.val (.ref o0), .val (.int (7 : Int32)), .val (.int p2)] [(.int (p2 >>> ((8 : Int32) &&& 31))), (.int (7 : Int32)), (.ref o0)])
  refine Go.st (fun _ k => XS.i2b X6.here hx rfl (hb hby d23_51) rfl k) ?_
  show Go _ _ _ _ _ _ _ T6 (mkF m 52 #[.val (.ref o0), .val (.int (7 : Int32)), .val (.int p2)] [(.int ((p2 >>> ((8 : Int32) &&& 31)).toInt8.toInt32)), (.int (7 : Int32)), (.ref o0)])
  obtain ⟨cl7, Ar7, qq7, SS7, NN7, HH7, GG7⟩ := id V_o0__5
  have hin8 : ¬ ((7 : Int32) < 0 ∨ cl7.slots.size ≤ ((7 : Int32)).toNatClampNeg) := inb_of SS7 ⟨by decide, by decide⟩
  obtain ⟨T9, h9, X9, e9, W9, st9⟩ := stB X6 hx hZ e6 Ar7 (j := (7 : Int32)) hin8 (g := (mkF m 52 #[.val (.ref o0), .val (.int (7 : Int32)), .val (.int p2)] [(.int ((p2 >>> ((8 : Int32) &&& 31)).toInt8.toInt32)), (.int (7 : Int32)), (.ref o0)])) rfl rfl (hb hby d23_52)
  rw [own_nb] at W9
  have V_o0__9 : Arv Z h9 o0 kb .byte (12 : Int32) [v0, v1, v2, v3, v4, v5, (.int ((p2 >>> ((0 : Int32) &&& 31)).toInt8.toInt32)), (.int ((p2 >>> ((8 : Int32) &&& 31)).toInt8.toInt32)), v8, v9, v10, v11] (.int (0 : Int32)) := Arv.set Ar7 qq7 SS7 NN7 HH7 GG7 (fits_nar_byte _) W9 7 rfl (Nat.le_of_ble_eq_true rfl)
  have S_AD__9 := S_AD__5.wr W9
  have S_HI__9 := S_HI__5.wr W9
  have S_LO__9 := S_LO__5.wr W9
  have Z9 : n0 ≤ h9.size := Nat.le_trans Z5 (Keep.of_wr W9).1
  have KK9 : Keep h0 h9 [o0] := KK5.wr W9 (Or.inl (List.mem_of_getElem? (i := 0) rfl))
  have N9 := Fr.snoc X9 N5 g_o0
  refine Go.st st9 ?_
  show Go _ _ _ _ _ _ _ T9 (mkF m 53 #[.val (.ref o0), .val (.int (7 : Int32)), .val (.int p2)] [])
  refine Go.ret X9 hlk (v := none) (fun _ => rfl) (fun fs hr => X9.returnOut hx hret (hb hby d23_53) hr) ?_ (by decide) (by decide)
  show Q23_3 Z o0 p2 kb v0 v1 v2 v3 v4 v5 v6 v7 v8 v9 v10 v11 h0 n0 (none) T9.heap _
  rw [e9]
  exact ⟨rfl, N9, KK9, V_o0__9⟩
theorem ef_23_4 (m : MethodId) (o0 : Addr) (p2 : Int32) : entryFrame m #[(.ref o0), (.int (4 : Int32)), (.int p2)] 3 = mkF m 0 #[.val (.ref o0), .val (.int (4 : Int32)), .val (.int p2)] [] := by first | (simp [entryFrame, mkF, argsToLocals, Value.category]; done) | rfl
def Q23_4 (Z : State) (o0 : Addr) (p2 : Int32) (kb : ClassId) (v0 : Value) (v1 : Value) (v2 : Value) (v3 : Value) (v4 : Value) (v5 : Value) (v6 : Value) (v7 : Value) (v8 : Value) (v9 : Value) (v10 : Value) (v11 : Value) (h0 : Heap) (n0 : Nat) (v : Option Value) (h : Heap) (L : List Loc) : Prop := v = none ∧ Fr n0 L ∧ Keep h0 h [o0] ∧ Arv Z h o0 kb .byte (12 : Int32) [v0, v1, v2, v3, v4, v5, v6, v7, (.int ((p2 >>> ((0 : Int32) &&& 31)).toInt8.toInt32)), (.int ((p2 >>> ((8 : Int32) &&& 31)).toInt8.toInt32)), v10, v11] (.int (0 : Int32))
set_option maxRecDepth 65536 in
set_option maxHeartbeats 40000000 in
theorem rm23_4 (l : Launch) (Z : State) (a0 : Array Value) (hw : ∀ d ∈ tables_1, d.before a0 Z = true) (ws : List Jvm.Cond) (o0 : Addr) (p2 : Int32) (kb : ClassId) (v0 : Value) (v1 : Value) (v2 : Value) (v3 : Value) (v4 : Value) (v5 : Value) (v6 : Value) (v7 : Value) (v8 : Value) (v9 : Value) (v10 : Value) (v11 : Value) (h0 : Heap) (n0 : Nat) (Z0 : n0 ≤ h0.size) (V_o0 : Arv Z h0 o0 kb .byte (12 : Int32) [v0, v1, v2, v3, v4, v5, v6, v7, v8, v9, v10, v11] (.int (0 : Int32))) (g_o0 : n0 ≤ o0) (S_AD : Sta Z h0 "java/lang/StringUTF16" "$assertionsDisabled" "Z" (.int (1 : Int32))) (S_HI : Sta Z h0 "java/lang/StringUTF16" "HI_BYTE_SHIFT" "I" (.int (0 : Int32))) (S_LO : Sta Z h0 "java/lang/StringUTF16" "LO_BYTE_SHIFT" "I" (.int (8 : Int32))) :
    MetFree l (⟨"java/lang/StringUTF16", "putChar", "([BII)V"⟩ : MethodName) (head1 (Jvm.Cond.code (⟨"java/lang/StringUTF16", "putChar", "([BII)V"⟩ : MethodName) jdk_52_method_4_code 3 none :: ws) ({ frames := 0, cells := 0, slots := 0, locals := 0 } : Room)) (fun a U => a = #[(.ref o0), (.int (4 : Int32)), (.int p2)] ∧ Z.Warmed39 U.vm ∧ U.heap = h0) (fun _ _ _ _ _ => True) (fun _ U o U' => ∃ v L, o = .returned v ∧ Q23_4 Z o0 p2 kb v0 v1 v2 v3 v4 v5 v6 v7 v8 v9 v10 v11 h0 n0 v U'.heap L ∧ FrameEnd U o U' L ({ frames := 0, cells := 0, slots := 0, locals := 0 } : Room).cells ({ frames := 0, cells := 0, slots := 0, locals := 0 } : Room).slots) := by
  refine MetFree.of_bodySF (plainFor_of_name pn_java_lang_StringUTF16) hisR ?_
  intro p e s m args below meth c s₁ Bd hml0 hP hK
  obtain ⟨rfl, hZ, hh⟩ := hP
  have hx := Bd.exec
  have hby := Bd.bytes
  have hlk : meth.locks = false := BodyLoose.notSynchronized Bd
  have hret := Bd.returns
  have hml : c.maxLocals = 3 := hml0
  have hown : s.vm.findClass "java/lang/StringUTF16" = some m.cls := findClass_of_methodNamed Bd.named
  have hnm := (name_of_methodNamed Bd.named Bd.method).1
  have X0 : Stand p l e ({ frames := 0, cells := 0, slots := 0, locals := 0 } : Room) s m #[(.ref o0), (.int (4 : Int32)), (.int p2)] below meth c s₁ [] 0 0 := Stand.of_body Bd
  have e0 : s₁.heap = h0 := by rw [← hh, Bd.state]; rfl
  have N0 := Fr.nil n0
  refine Go.start (Q := Q23_4 Z o0 p2 kb v0 v1 v2 v3 v4 v5 v6 v7 v8 v9 v10 v11 h0 n0) (ef_23_4 m o0 p2) ?_
  show Go _ _ _ _ _ _ _ s₁ (mkF m 0 #[.val (.ref o0), .val (.int (4 : Int32)), .val (.int p2)] [])
  obtain ⟨T1, X1, e1, st1⟩ := getS2 X0 hx hZ hown (host := "") (Or.inl (hw _ (List.mem_of_getElem? (i := 114) rfl))) Via.refl e0 S_AD (g := (mkF m 0 #[.val (.ref o0), .val (.int (4 : Int32)), .val (.int p2)] [])) rfl (hb hby d23_0)
  refine Go.st st1 ?_
  show Go _ _ _ _ _ _ _ T1 (mkF m 3 #[.val (.ref o0), .val (.int (4 : Int32)), .val (.int p2)] [(.int (1 : Int32))])
  refine Go.st (fun _ k => XS.ifYes X1.here hx rfl (pc0 := 3) (pc' := 28) rfl (hb hby d23_3) rfl ((if0 _ _).trans (feq (by decide : ¬ ((1 : Int32) = (0 : Int32)))).2) (by decide) (by decide) k) ?_
  show Go _ _ _ _ _ _ _ T1 (mkF m 28 #[.val (.ref o0), .val (.int (4 : Int32)), .val (.int p2)] [])
  refine Go.st (fun _ k => XS.iloadN X1.here hx rfl (hb hby d23_28) rfl k) ?_
  show Go _ _ _ _ _ _ _ T1 (mkF m 29 #[.val (.ref o0), .val (.int (4 : Int32)), .val (.int p2)] [(.int (4 : Int32))])
  refine Go.st (fun _ k => XS.iconst X1.here hx rfl (hb hby d23_29) k) ?_
  show Go _ _ _ _ _ _ _ T1 (mkF m 30 #[.val (.ref o0), .val (.int (4 : Int32)), .val (.int p2)] [(.int (1 : Int32)), (.int (4 : Int32))])
  refine Go.st (fun _ k => XS.ishl X1.here hx rfl (hb hby d23_30) rfl k) ?_
  show Go _ _ _ _ _ _ _ T1 (mkF m 31 #[.val (.ref o0), .val (.int (4 : Int32)), .val (.int p2)] [(.int ((4 : Int32) <<< ((1 : Int32) &&& 31)))])
  refine Go.fr (f' := (mkF m 31 #[.val (.ref o0), .val (.int (4 : Int32)), .val (.int p2)] [(.int (8 : Int32))])) (by rw [show ((4 : Int32) <<< ((1 : Int32) &&& 31)) = (8 : Int32) from by decide +kernel]) ?_
  show Go _ _ _ _ _ _ _ T1 (mkF m 31 #[.val (.ref o0), .val (.int (4 : Int32)), .val (.int p2)] [(.int (8 : Int32))])
  refine Go.st (fun _ k => XS.istoreN X1.here hx rfl (hb hby d23_31) rfl (l' := #[.val (.ref o0), .val (.int (8 : Int32)), .val (.int p2)]) rfl k) ?_
  show Go _ _ _ _ _ _ _ T1 (mkF m 32 #[.val (.ref o0), .val (.int (8 : Int32)), .val (.int p2)] [])
  refine Go.st (fun _ k => XS.aloadN X1.here hx rfl (hb hby d23_32) rfl rfl k) ?_
  show Go _ _ _ _ _ _ _ T1 (mkF m 33 #[.val (.ref o0), .val (.int (8 : Int32)), .val (.int p2)] [(.ref o0)])
  refine Go.st (fun _ k => XS.iloadN X1.here hx rfl (hb hby d23_33) rfl k) ?_
  show Go _ _ _ _ _ _ _ T1 (mkF m 34 #[.val (.ref o0), .val (.int (8 : Int32)), .val (.int p2)] [(.int (8 : Int32)), (.ref o0)])
  refine Go.st (fun _ k => XS.iinc X1.here hx rfl (hb hby d23_34) rfl (l' := #[.val (.ref o0), .val (.int ((8 : Int32) + (1 : Int32))), .val (.int p2)]) rfl k) ?_
  show Go _ _ _ _ _ _ _ T1 (mkF m 37 #[.val (.ref o0), .val (.int ((8 : Int32) + (1 : Int32))), .val (.int p2)] [(.int (8 : Int32)), (.ref o0)])
  refine Go.fr (f' := (mkF m 37 #[.val (.ref o0), .val (.int (9 : Int32)), .val (.int p2)] [(.int (8 : Int32)), (.ref o0)])) (by rw [show ((8 : Int32) + (1 : Int32)) = (9 : Int32) from by decide +kernel]) ?_
  show Go _ _ _ _ _ _ _ T1 (mkF m 37 #[.val (.ref o0), .val (.int (9 : Int32)), .val (.int p2)] [(.int (8 : Int32)), (.ref o0)])
  refine Go.st (fun _ k => XS.iloadN X1.here hx rfl (hb hby d23_37) rfl k) ?_
  show Go _ _ _ _ _ _ _ T1 (mkF m 38 #[.val (.ref o0), .val (.int (9 : Int32)), .val (.int p2)] [(.int p2), (.int (8 : Int32)), (.ref o0)])
  obtain ⟨T2, X2, e2, st2⟩ := getS2 X1 hx hZ hown (host := "") (Or.inl (hw _ (List.mem_of_getElem? (i := 115) rfl))) Via.refl e1 S_HI (g := (mkF m 38 #[.val (.ref o0), .val (.int (9 : Int32)), .val (.int p2)] [(.int p2), (.int (8 : Int32)), (.ref o0)])) rfl (hb hby d23_38)
  refine Go.st st2 ?_
  show Go _ _ _ _ _ _ _ T2 (mkF m 41 #[.val (.ref o0), .val (.int (9 : Int32)), .val (.int p2)] [(.int (0 : Int32)), (.int p2), (.int (8 : Int32)), (.ref o0)])
  refine Go.st (fun _ k => XS.ishr X2.here hx rfl (hb hby d23_41) rfl k) ?_
  show Go _ _ _ _ _ _ _ T2 (mkF m 42 #[.val (.ref o0), .val (.int (9 : Int32)), .val (.int p2)] [(.int (p2 >>> ((0 : Int32) &&& 31))), (.int (8 : Int32)), (.ref o0)])
  refine Go.st (fun _ k => XS.i2b X2.here hx rfl (hb hby d23_42) rfl k) ?_
  show Go _ _ _ _ _ _ _ T2 (mkF m 43 #[.val (.ref o0), .val (.int (9 : Int32)), .val (.int p2)] [(.int ((p2 >>> ((0 : Int32) &&& 31)).toInt8.toInt32)), (.int (8 : Int32)), (.ref o0)])
  obtain ⟨cl3, Ar3, qq3, SS3, NN3, HH3, GG3⟩ := id V_o0
  have hin4 : ¬ ((8 : Int32) < 0 ∨ cl3.slots.size ≤ ((8 : Int32)).toNatClampNeg) := inb_of SS3 ⟨by decide, by decide⟩
  obtain ⟨T5, h5, X5, e5, W5, st5⟩ := stB X2 hx hZ e2 Ar3 (j := (8 : Int32)) hin4 (g := (mkF m 43 #[.val (.ref o0), .val (.int (9 : Int32)), .val (.int p2)] [(.int ((p2 >>> ((0 : Int32) &&& 31)).toInt8.toInt32)), (.int (8 : Int32)), (.ref o0)])) rfl rfl (hb hby d23_43)
  rw [own_nb] at W5
  have V_o0__5 : Arv Z h5 o0 kb .byte (12 : Int32) [v0, v1, v2, v3, v4, v5, v6, v7, (.int ((p2 >>> ((0 : Int32) &&& 31)).toInt8.toInt32)), v9, v10, v11] (.int (0 : Int32)) := Arv.set Ar3 qq3 SS3 NN3 HH3 GG3 (fits_nar_byte _) W5 8 rfl (Nat.le_of_ble_eq_true rfl)
  have S_AD__5 := S_AD.wr W5
  have S_HI__5 := S_HI.wr W5
  have S_LO__5 := S_LO.wr W5
  have Z5 : n0 ≤ h5.size := Nat.le_trans Z0 (Keep.of_wr W5).1
  have KK5 : Keep h0 h5 [o0] := (Keep.refl h0 [o0]).wr W5 (Or.inl (List.mem_of_getElem? (i := 0) rfl))
  have N5 := Fr.snoc X5 N0 g_o0
  refine Go.st st5 ?_
  show Go _ _ _ _ _ _ _ T5 (mkF m 44 #[.val (.ref o0), .val (.int (9 : Int32)), .val (.int p2)] [])
  refine Go.st (fun _ k => XS.aloadN X5.here hx rfl (hb hby d23_44) rfl rfl k) ?_
  show Go _ _ _ _ _ _ _ T5 (mkF m 45 #[.val (.ref o0), .val (.int (9 : Int32)), .val (.int p2)] [(.ref o0)])
  refine Go.st (fun _ k => XS.iloadN X5.here hx rfl (hb hby d23_45) rfl k) ?_
  show Go _ _ _ _ _ _ _ T5 (mkF m 46 #[.val (.ref o0), .val (.int (9 : Int32)), .val (.int p2)] [(.int (9 : Int32)), (.ref o0)])
  refine Go.st (fun _ k => XS.iloadN X5.here hx rfl (hb hby d23_46) rfl k) ?_
  show Go _ _ _ _ _ _ _ T5 (mkF m 47 #[.val (.ref o0), .val (.int (9 : Int32)), .val (.int p2)] [(.int p2), (.int (9 : Int32)), (.ref o0)])
  obtain ⟨T6, X6, e6, st6⟩ := getS2 X5 hx hZ hown (host := "") (Or.inl (hw _ (List.mem_of_getElem? (i := 116) rfl))) Via.refl e5 S_LO__5 (g := (mkF m 47 #[.val (.ref o0), .val (.int (9 : Int32)), .val (.int p2)] [(.int p2), (.int (9 : Int32)), (.ref o0)])) rfl (hb hby d23_47)
  refine Go.st st6 ?_
  show Go _ _ _ _ _ _ _ T6 (mkF m 50 #[.val (.ref o0), .val (.int (9 : Int32)), .val (.int p2)] [(.int (8 : Int32)), (.int p2), (.int (9 : Int32)), (.ref o0)])
  refine Go.st (fun _ k => XS.ishr X6.here hx rfl (hb hby d23_50) rfl k) ?_
  show Go _ _ _ _ _ _ _ T6 (mkF m 51 #[.val (.ref o0), .val (.int (9 : Int32)), .val (.int p2)] [(.int (p2 >>> ((8 : Int32) &&& 31))), (.int (9 : Int32)), (.ref o0)])
  refine Go.st (fun _ k => XS.i2b X6.here hx rfl (hb hby d23_51) rfl k) ?_
  show Go _ _ _ _ _ _ _ T6 (mkF m 52 #[.val (.ref o0), .val (.int (9 : Int32)), .val (.int p2)] [(.int ((p2 >>> ((8 : Int32) &&& 31)).toInt8.toInt32)), (.int (9 : Int32)), (.ref o0)])
  obtain ⟨cl7, Ar7, qq7, SS7, NN7, HH7, GG7⟩ := id V_o0__5
  have hin8 : ¬ ((9 : Int32) < 0 ∨ cl7.slots.size ≤ ((9 : Int32)).toNatClampNeg) := inb_of SS7 ⟨by decide, by decide⟩
  obtain ⟨T9, h9, X9, e9, W9, st9⟩ := stB X6 hx hZ e6 Ar7 (j := (9 : Int32)) hin8 (g := (mkF m 52 #[.val (.ref o0), .val (.int (9 : Int32)), .val (.int p2)] [(.int ((p2 >>> ((8 : Int32) &&& 31)).toInt8.toInt32)), (.int (9 : Int32)), (.ref o0)])) rfl rfl (hb hby d23_52)
  rw [own_nb] at W9
  have V_o0__9 : Arv Z h9 o0 kb .byte (12 : Int32) [v0, v1, v2, v3, v4, v5, v6, v7, (.int ((p2 >>> ((0 : Int32) &&& 31)).toInt8.toInt32)), (.int ((p2 >>> ((8 : Int32) &&& 31)).toInt8.toInt32)), v10, v11] (.int (0 : Int32)) := Arv.set Ar7 qq7 SS7 NN7 HH7 GG7 (fits_nar_byte _) W9 9 rfl (Nat.le_of_ble_eq_true rfl)
  have S_AD__9 := S_AD__5.wr W9
  have S_HI__9 := S_HI__5.wr W9
  have S_LO__9 := S_LO__5.wr W9
  have Z9 : n0 ≤ h9.size := Nat.le_trans Z5 (Keep.of_wr W9).1
  have KK9 : Keep h0 h9 [o0] := KK5.wr W9 (Or.inl (List.mem_of_getElem? (i := 0) rfl))
  have N9 := Fr.snoc X9 N5 g_o0
  refine Go.st st9 ?_
  show Go _ _ _ _ _ _ _ T9 (mkF m 53 #[.val (.ref o0), .val (.int (9 : Int32)), .val (.int p2)] [])
  refine Go.ret X9 hlk (v := none) (fun _ => rfl) (fun fs hr => X9.returnOut hx hret (hb hby d23_53) hr) ?_ (by decide) (by decide)
  show Q23_4 Z o0 p2 kb v0 v1 v2 v3 v4 v5 v6 v7 v8 v9 v10 v11 h0 n0 (none) T9.heap _
  rw [e9]
  exact ⟨rfl, N9, KK9, V_o0__9⟩
theorem ef_23_5 (m : MethodId) (o0 : Addr) (p2 : Int32) : entryFrame m #[(.ref o0), (.int (5 : Int32)), (.int p2)] 3 = mkF m 0 #[.val (.ref o0), .val (.int (5 : Int32)), .val (.int p2)] [] := by first | (simp [entryFrame, mkF, argsToLocals, Value.category]; done) | rfl
def Q23_5 (Z : State) (o0 : Addr) (p2 : Int32) (kb : ClassId) (v0 : Value) (v1 : Value) (v2 : Value) (v3 : Value) (v4 : Value) (v5 : Value) (v6 : Value) (v7 : Value) (v8 : Value) (v9 : Value) (v10 : Value) (v11 : Value) (h0 : Heap) (n0 : Nat) (v : Option Value) (h : Heap) (L : List Loc) : Prop := v = none ∧ Fr n0 L ∧ Keep h0 h [o0] ∧ Arv Z h o0 kb .byte (12 : Int32) [v0, v1, v2, v3, v4, v5, v6, v7, v8, v9, (.int ((p2 >>> ((0 : Int32) &&& 31)).toInt8.toInt32)), (.int ((p2 >>> ((8 : Int32) &&& 31)).toInt8.toInt32))] (.int (0 : Int32))
set_option maxRecDepth 65536 in
set_option maxHeartbeats 40000000 in
theorem rm23_5 (l : Launch) (Z : State) (a0 : Array Value) (hw : ∀ d ∈ tables_1, d.before a0 Z = true) (ws : List Jvm.Cond) (o0 : Addr) (p2 : Int32) (kb : ClassId) (v0 : Value) (v1 : Value) (v2 : Value) (v3 : Value) (v4 : Value) (v5 : Value) (v6 : Value) (v7 : Value) (v8 : Value) (v9 : Value) (v10 : Value) (v11 : Value) (h0 : Heap) (n0 : Nat) (Z0 : n0 ≤ h0.size) (V_o0 : Arv Z h0 o0 kb .byte (12 : Int32) [v0, v1, v2, v3, v4, v5, v6, v7, v8, v9, v10, v11] (.int (0 : Int32))) (g_o0 : n0 ≤ o0) (S_AD : Sta Z h0 "java/lang/StringUTF16" "$assertionsDisabled" "Z" (.int (1 : Int32))) (S_HI : Sta Z h0 "java/lang/StringUTF16" "HI_BYTE_SHIFT" "I" (.int (0 : Int32))) (S_LO : Sta Z h0 "java/lang/StringUTF16" "LO_BYTE_SHIFT" "I" (.int (8 : Int32))) :
    MetFree l (⟨"java/lang/StringUTF16", "putChar", "([BII)V"⟩ : MethodName) (head1 (Jvm.Cond.code (⟨"java/lang/StringUTF16", "putChar", "([BII)V"⟩ : MethodName) jdk_52_method_4_code 3 none :: ws) ({ frames := 0, cells := 0, slots := 0, locals := 0 } : Room)) (fun a U => a = #[(.ref o0), (.int (5 : Int32)), (.int p2)] ∧ Z.Warmed39 U.vm ∧ U.heap = h0) (fun _ _ _ _ _ => True) (fun _ U o U' => ∃ v L, o = .returned v ∧ Q23_5 Z o0 p2 kb v0 v1 v2 v3 v4 v5 v6 v7 v8 v9 v10 v11 h0 n0 v U'.heap L ∧ FrameEnd U o U' L ({ frames := 0, cells := 0, slots := 0, locals := 0 } : Room).cells ({ frames := 0, cells := 0, slots := 0, locals := 0 } : Room).slots) := by
  refine MetFree.of_bodySF (plainFor_of_name pn_java_lang_StringUTF16) hisR ?_
  intro p e s m args below meth c s₁ Bd hml0 hP hK
  obtain ⟨rfl, hZ, hh⟩ := hP
  have hx := Bd.exec
  have hby := Bd.bytes
  have hlk : meth.locks = false := BodyLoose.notSynchronized Bd
  have hret := Bd.returns
  have hml : c.maxLocals = 3 := hml0
  have hown : s.vm.findClass "java/lang/StringUTF16" = some m.cls := findClass_of_methodNamed Bd.named
  have hnm := (name_of_methodNamed Bd.named Bd.method).1
  have X0 : Stand p l e ({ frames := 0, cells := 0, slots := 0, locals := 0 } : Room) s m #[(.ref o0), (.int (5 : Int32)), (.int p2)] below meth c s₁ [] 0 0 := Stand.of_body Bd
  have e0 : s₁.heap = h0 := by rw [← hh, Bd.state]; rfl
  have N0 := Fr.nil n0
  refine Go.start (Q := Q23_5 Z o0 p2 kb v0 v1 v2 v3 v4 v5 v6 v7 v8 v9 v10 v11 h0 n0) (ef_23_5 m o0 p2) ?_
  show Go _ _ _ _ _ _ _ s₁ (mkF m 0 #[.val (.ref o0), .val (.int (5 : Int32)), .val (.int p2)] [])
  obtain ⟨T1, X1, e1, st1⟩ := getS2 X0 hx hZ hown (host := "") (Or.inl (hw _ (List.mem_of_getElem? (i := 114) rfl))) Via.refl e0 S_AD (g := (mkF m 0 #[.val (.ref o0), .val (.int (5 : Int32)), .val (.int p2)] [])) rfl (hb hby d23_0)
  refine Go.st st1 ?_
  show Go _ _ _ _ _ _ _ T1 (mkF m 3 #[.val (.ref o0), .val (.int (5 : Int32)), .val (.int p2)] [(.int (1 : Int32))])
  refine Go.st (fun _ k => XS.ifYes X1.here hx rfl (pc0 := 3) (pc' := 28) rfl (hb hby d23_3) rfl ((if0 _ _).trans (feq (by decide : ¬ ((1 : Int32) = (0 : Int32)))).2) (by decide) (by decide) k) ?_
  show Go _ _ _ _ _ _ _ T1 (mkF m 28 #[.val (.ref o0), .val (.int (5 : Int32)), .val (.int p2)] [])
  refine Go.st (fun _ k => XS.iloadN X1.here hx rfl (hb hby d23_28) rfl k) ?_
  show Go _ _ _ _ _ _ _ T1 (mkF m 29 #[.val (.ref o0), .val (.int (5 : Int32)), .val (.int p2)] [(.int (5 : Int32))])
  refine Go.st (fun _ k => XS.iconst X1.here hx rfl (hb hby d23_29) k) ?_
  show Go _ _ _ _ _ _ _ T1 (mkF m 30 #[.val (.ref o0), .val (.int (5 : Int32)), .val (.int p2)] [(.int (1 : Int32)), (.int (5 : Int32))])
  refine Go.st (fun _ k => XS.ishl X1.here hx rfl (hb hby d23_30) rfl k) ?_
  show Go _ _ _ _ _ _ _ T1 (mkF m 31 #[.val (.ref o0), .val (.int (5 : Int32)), .val (.int p2)] [(.int ((5 : Int32) <<< ((1 : Int32) &&& 31)))])
  refine Go.fr (f' := (mkF m 31 #[.val (.ref o0), .val (.int (5 : Int32)), .val (.int p2)] [(.int (10 : Int32))])) (by rw [show ((5 : Int32) <<< ((1 : Int32) &&& 31)) = (10 : Int32) from by decide +kernel]) ?_
  show Go _ _ _ _ _ _ _ T1 (mkF m 31 #[.val (.ref o0), .val (.int (5 : Int32)), .val (.int p2)] [(.int (10 : Int32))])
  refine Go.st (fun _ k => XS.istoreN X1.here hx rfl (hb hby d23_31) rfl (l' := #[.val (.ref o0), .val (.int (10 : Int32)), .val (.int p2)]) rfl k) ?_
  show Go _ _ _ _ _ _ _ T1 (mkF m 32 #[.val (.ref o0), .val (.int (10 : Int32)), .val (.int p2)] [])
  refine Go.st (fun _ k => XS.aloadN X1.here hx rfl (hb hby d23_32) rfl rfl k) ?_
  show Go _ _ _ _ _ _ _ T1 (mkF m 33 #[.val (.ref o0), .val (.int (10 : Int32)), .val (.int p2)] [(.ref o0)])
  refine Go.st (fun _ k => XS.iloadN X1.here hx rfl (hb hby d23_33) rfl k) ?_
  show Go _ _ _ _ _ _ _ T1 (mkF m 34 #[.val (.ref o0), .val (.int (10 : Int32)), .val (.int p2)] [(.int (10 : Int32)), (.ref o0)])
  refine Go.st (fun _ k => XS.iinc X1.here hx rfl (hb hby d23_34) rfl (l' := #[.val (.ref o0), .val (.int ((10 : Int32) + (1 : Int32))), .val (.int p2)]) rfl k) ?_
  show Go _ _ _ _ _ _ _ T1 (mkF m 37 #[.val (.ref o0), .val (.int ((10 : Int32) + (1 : Int32))), .val (.int p2)] [(.int (10 : Int32)), (.ref o0)])
  refine Go.fr (f' := (mkF m 37 #[.val (.ref o0), .val (.int (11 : Int32)), .val (.int p2)] [(.int (10 : Int32)), (.ref o0)])) (by rw [show ((10 : Int32) + (1 : Int32)) = (11 : Int32) from by decide +kernel]) ?_
  show Go _ _ _ _ _ _ _ T1 (mkF m 37 #[.val (.ref o0), .val (.int (11 : Int32)), .val (.int p2)] [(.int (10 : Int32)), (.ref o0)])
  refine Go.st (fun _ k => XS.iloadN X1.here hx rfl (hb hby d23_37) rfl k) ?_
  show Go _ _ _ _ _ _ _ T1 (mkF m 38 #[.val (.ref o0), .val (.int (11 : Int32)), .val (.int p2)] [(.int p2), (.int (10 : Int32)), (.ref o0)])
  obtain ⟨T2, X2, e2, st2⟩ := getS2 X1 hx hZ hown (host := "") (Or.inl (hw _ (List.mem_of_getElem? (i := 115) rfl))) Via.refl e1 S_HI (g := (mkF m 38 #[.val (.ref o0), .val (.int (11 : Int32)), .val (.int p2)] [(.int p2), (.int (10 : Int32)), (.ref o0)])) rfl (hb hby d23_38)
  refine Go.st st2 ?_
  show Go _ _ _ _ _ _ _ T2 (mkF m 41 #[.val (.ref o0), .val (.int (11 : Int32)), .val (.int p2)] [(.int (0 : Int32)), (.int p2), (.int (10 : Int32)), (.ref o0)])
  refine Go.st (fun _ k => XS.ishr X2.here hx rfl (hb hby d23_41) rfl k) ?_
  show Go _ _ _ _ _ _ _ T2 (mkF m 42 #[.val (.ref o0), .val (.int (11 : Int32)), .val (.int p2)] [(.int (p2 >>> ((0 : Int32) &&& 31))), (.int (10 : Int32)), (.ref o0)])
  refine Go.st (fun _ k => XS.i2b X2.here hx rfl (hb hby d23_42) rfl k) ?_
  show Go _ _ _ _ _ _ _ T2 (mkF m 43 #[.val (.ref o0), .val (.int (11 : Int32)), .val (.int p2)] [(.int ((p2 >>> ((0 : Int32) &&& 31)).toInt8.toInt32)), (.int (10 : Int32)), (.ref o0)])
  obtain ⟨cl3, Ar3, qq3, SS3, NN3, HH3, GG3⟩ := id V_o0
  have hin4 : ¬ ((10 : Int32) < 0 ∨ cl3.slots.size ≤ ((10 : Int32)).toNatClampNeg) := inb_of SS3 ⟨by decide, by decide⟩
  obtain ⟨T5, h5, X5, e5, W5, st5⟩ := stB X2 hx hZ e2 Ar3 (j := (10 : Int32)) hin4 (g := (mkF m 43 #[.val (.ref o0), .val (.int (11 : Int32)), .val (.int p2)] [(.int ((p2 >>> ((0 : Int32) &&& 31)).toInt8.toInt32)), (.int (10 : Int32)), (.ref o0)])) rfl rfl (hb hby d23_43)
  rw [own_nb] at W5
  have V_o0__5 : Arv Z h5 o0 kb .byte (12 : Int32) [v0, v1, v2, v3, v4, v5, v6, v7, v8, v9, (.int ((p2 >>> ((0 : Int32) &&& 31)).toInt8.toInt32)), v11] (.int (0 : Int32)) := Arv.set Ar3 qq3 SS3 NN3 HH3 GG3 (fits_nar_byte _) W5 10 rfl (Nat.le_of_ble_eq_true rfl)
  have S_AD__5 := S_AD.wr W5
  have S_HI__5 := S_HI.wr W5
  have S_LO__5 := S_LO.wr W5
  have Z5 : n0 ≤ h5.size := Nat.le_trans Z0 (Keep.of_wr W5).1
  have KK5 : Keep h0 h5 [o0] := (Keep.refl h0 [o0]).wr W5 (Or.inl (List.mem_of_getElem? (i := 0) rfl))
  have N5 := Fr.snoc X5 N0 g_o0
  refine Go.st st5 ?_
  show Go _ _ _ _ _ _ _ T5 (mkF m 44 #[.val (.ref o0), .val (.int (11 : Int32)), .val (.int p2)] [])
  refine Go.st (fun _ k => XS.aloadN X5.here hx rfl (hb hby d23_44) rfl rfl k) ?_
  show Go _ _ _ _ _ _ _ T5 (mkF m 45 #[.val (.ref o0), .val (.int (11 : Int32)), .val (.int p2)] [(.ref o0)])
  refine Go.st (fun _ k => XS.iloadN X5.here hx rfl (hb hby d23_45) rfl k) ?_
  show Go _ _ _ _ _ _ _ T5 (mkF m 46 #[.val (.ref o0), .val (.int (11 : Int32)), .val (.int p2)] [(.int (11 : Int32)), (.ref o0)])
  refine Go.st (fun _ k => XS.iloadN X5.here hx rfl (hb hby d23_46) rfl k) ?_
  show Go _ _ _ _ _ _ _ T5 (mkF m 47 #[.val (.ref o0), .val (.int (11 : Int32)), .val (.int p2)] [(.int p2), (.int (11 : Int32)), (.ref o0)])
  obtain ⟨T6, X6, e6, st6⟩ := getS2 X5 hx hZ hown (host := "") (Or.inl (hw _ (List.mem_of_getElem? (i := 116) rfl))) Via.refl e5 S_LO__5 (g := (mkF m 47 #[.val (.ref o0), .val (.int (11 : Int32)), .val (.int p2)] [(.int p2), (.int (11 : Int32)), (.ref o0)])) rfl (hb hby d23_47)
  refine Go.st st6 ?_
  show Go _ _ _ _ _ _ _ T6 (mkF m 50 #[.val (.ref o0), .val (.int (11 : Int32)), .val (.int p2)] [(.int (8 : Int32)), (.int p2), (.int (11 : Int32)), (.ref o0)])
  refine Go.st (fun _ k => XS.ishr X6.here hx rfl (hb hby d23_50) rfl k) ?_
  show Go _ _ _ _ _ _ _ T6 (mkF m 51 #[.val (.ref o0), .val (.int (11 : Int32)), .val (.int p2)] [(.int (p2 >>> ((8 : Int32) &&& 31))), (.int (11 : Int32)), (.ref o0)])
  refine Go.st (fun _ k => XS.i2b X6.here hx rfl (hb hby d23_51) rfl k) ?_
  show Go _ _ _ _ _ _ _ T6 (mkF m 52 #[.val (.ref o0), .val (.int (11 : Int32)), .val (.int p2)] [(.int ((p2 >>> ((8 : Int32) &&& 31)).toInt8.toInt32)), (.int (11 : Int32)), (.ref o0)])
  obtain ⟨cl7, Ar7, qq7, SS7, NN7, HH7, GG7⟩ := id V_o0__5
  have hin8 : ¬ ((11 : Int32) < 0 ∨ cl7.slots.size ≤ ((11 : Int32)).toNatClampNeg) := inb_of SS7 ⟨by decide, by decide⟩
  obtain ⟨T9, h9, X9, e9, W9, st9⟩ := stB X6 hx hZ e6 Ar7 (j := (11 : Int32)) hin8 (g := (mkF m 52 #[.val (.ref o0), .val (.int (11 : Int32)), .val (.int p2)] [(.int ((p2 >>> ((8 : Int32) &&& 31)).toInt8.toInt32)), (.int (11 : Int32)), (.ref o0)])) rfl rfl (hb hby d23_52)
  rw [own_nb] at W9
  have V_o0__9 : Arv Z h9 o0 kb .byte (12 : Int32) [v0, v1, v2, v3, v4, v5, v6, v7, v8, v9, (.int ((p2 >>> ((0 : Int32) &&& 31)).toInt8.toInt32)), (.int ((p2 >>> ((8 : Int32) &&& 31)).toInt8.toInt32))] (.int (0 : Int32)) := Arv.set Ar7 qq7 SS7 NN7 HH7 GG7 (fits_nar_byte _) W9 11 rfl (Nat.le_of_ble_eq_true rfl)
  have S_AD__9 := S_AD__5.wr W9
  have S_HI__9 := S_HI__5.wr W9
  have S_LO__9 := S_LO__5.wr W9
  have Z9 : n0 ≤ h9.size := Nat.le_trans Z5 (Keep.of_wr W9).1
  have KK9 : Keep h0 h9 [o0] := KK5.wr W9 (Or.inl (List.mem_of_getElem? (i := 0) rfl))
  have N9 := Fr.snoc X9 N5 g_o0
  refine Go.st st9 ?_
  show Go _ _ _ _ _ _ _ T9 (mkF m 53 #[.val (.ref o0), .val (.int (11 : Int32)), .val (.int p2)] [])
  refine Go.ret X9 hlk (v := none) (fun _ => rfl) (fun fs hr => X9.returnOut hx hret (hb hby d23_53) hr) ?_ (by decide) (by decide)
  show Q23_5 Z o0 p2 kb v0 v1 v2 v3 v4 v5 v6 v7 v8 v9 v10 v11 h0 n0 (none) T9.heap _
  rw [e9]
  exact ⟨rfl, N9, KK9, V_o0__9⟩
theorem d22_0 : decode jdk_52_method_3_code 0 = .ok (.iload_n 0, 1) := by decide +kernel
theorem d22_1 : decode jdk_52_method_3_code 1 = .ok (.ifCond .ge 11, 3) := by decide +kernel
theorem d22_12 : decode jdk_52_method_3_code 12 = .ok (.iload_n 0, 1) := by decide +kernel
theorem d22_13 : decode jdk_52_method_3_code 13 = .ok (.ldc 20, 2) := by decide +kernel
theorem d22_15 : decode jdk_52_method_3_code 15 = .ok (.if_icmp .lt 40, 3) := by decide +kernel
theorem d22_55 : decode jdk_52_method_3_code 55 = .ok (.iload_n 0, 1) := by decide +kernel
theorem d22_56 : decode jdk_52_method_3_code 56 = .ok (.iconst 1, 1) := by decide +kernel
theorem d22_57 : decode jdk_52_method_3_code 57 = .ok (.ishl, 1) := by decide +kernel
theorem d22_58 : decode jdk_52_method_3_code 58 = .ok (.ireturn, 1) := by decide +kernel
def val_22  : Int32 := (12 : Int32)
theorem ef_22 (m : MethodId)  : entryFrame m #[(.int (6 : Int32))] 1 = mkF m 0 #[.val (.int (6 : Int32))] [] := by first | (simp [entryFrame, mkF, argsToLocals, Value.category]; done) | rfl
def Q22 (Z : State)  (h0 : Heap) (n0 : Nat) (v : Option Value) (h : Heap) (L : List Loc) : Prop := v = some (.int (12 : Int32)) ∧ Fr n0 L ∧ h = h0
set_option maxRecDepth 65536 in
set_option maxHeartbeats 40000000 in
theorem rm22 (l : Launch) (Z : State) (a0 : Array Value) (hw : ∀ d ∈ tables_1, d.before a0 Z = true) (ws : List Jvm.Cond)  (h0 : Heap) (n0 : Nat) (Z0 : n0 ≤ h0.size) :
    MetFree l (⟨"java/lang/StringUTF16", "newBytesLength", "(I)I"⟩ : MethodName) (head1 (Jvm.Cond.code (⟨"java/lang/StringUTF16", "newBytesLength", "(I)I"⟩ : MethodName) jdk_52_method_3_code 1 (some .int) :: ws) ({ frames := 0, cells := 0, slots := 0, locals := 0 } : Room)) (fun a U => a = #[(.int (6 : Int32))] ∧ Z.Warmed39 U.vm ∧ U.heap = h0) (fun _ _ _ _ _ => True) (fun _ U o U' => ∃ v L, o = .returned v ∧ Q22 Z  h0 n0 v U'.heap L ∧ FrameEnd U o U' L ({ frames := 0, cells := 0, slots := 0, locals := 0 } : Room).cells ({ frames := 0, cells := 0, slots := 0, locals := 0 } : Room).slots) := by
  refine MetFree.of_bodySF (plainFor_of_name pn_java_lang_StringUTF16) hisR ?_
  intro p e s m args below meth c s₁ Bd hml0 hP hK
  obtain ⟨rfl, hZ, hh⟩ := hP
  have hx := Bd.exec
  have hby := Bd.bytes
  have hlk : meth.locks = false := BodyLoose.notSynchronized Bd
  have hret := Bd.returns
  have hml : c.maxLocals = 1 := hml0
  have hown : s.vm.findClass "java/lang/StringUTF16" = some m.cls := findClass_of_methodNamed Bd.named
  have hnm := (name_of_methodNamed Bd.named Bd.method).1
  have X0 : Stand p l e ({ frames := 0, cells := 0, slots := 0, locals := 0 } : Room) s m #[(.int (6 : Int32))] below meth c s₁ [] 0 0 := Stand.of_body Bd
  have e0 : s₁.heap = h0 := by rw [← hh, Bd.state]; rfl
  have N0 := Fr.nil n0
  refine Go.start (Q := Q22 Z  h0 n0) (ef_22 m) ?_
  show Go _ _ _ _ _ _ _ s₁ (mkF m 0 #[.val (.int (6 : Int32))] [])
  refine Go.st (fun _ k => XS.iloadN X0.here hx rfl (hb hby d22_0) rfl k) ?_
  show Go _ _ _ _ _ _ _ s₁ (mkF m 1 #[.val (.int (6 : Int32))] [(.int (6 : Int32))])
  refine Go.st (fun _ k => XS.ifYes X0.here hx rfl (pc0 := 1) (pc' := 12) rfl (hb hby d22_1) rfl ((if0 _ _).trans (flt (by decide : ¬ ((6 : Int32) < (0 : Int32)))).2.1) (by decide) (by decide) k) ?_
  show Go _ _ _ _ _ _ _ s₁ (mkF m 12 #[.val (.int (6 : Int32))] [])
  refine Go.st (fun _ k => XS.iloadN X0.here hx rfl (hb hby d22_12) rfl k) ?_
  show Go _ _ _ _ _ _ _ s₁ (mkF m 13 #[.val (.int (6 : Int32))] [(.int (6 : Int32))])
  refine Go.st (fun _ k => Jvm.Stand.ldcI X0 hx hown (mvT hZ (hw _ (List.mem_of_getElem? (i := 110) rfl))) rfl (hb hby d22_13) k) ?_
  show Go _ _ _ _ _ _ _ s₁ (mkF m 15 #[.val (.int (6 : Int32))] [(.int (1073741823 : Int32)), (.int (6 : Int32))])
  refine Go.st (fun _ k => XS.icmpYes X0.here hx rfl (pc0 := 15) (pc' := 55) rfl (hb hby d22_15) rfl (tlt (by decide : (6 : Int32) < (1073741823 : Int32))).1 (by decide) (by decide) k) ?_
  show Go _ _ _ _ _ _ _ s₁ (mkF m 55 #[.val (.int (6 : Int32))] [])
  refine Go.st (fun _ k => XS.iloadN X0.here hx rfl (hb hby d22_55) rfl k) ?_
  show Go _ _ _ _ _ _ _ s₁ (mkF m 56 #[.val (.int (6 : Int32))] [(.int (6 : Int32))])
  refine Go.st (fun _ k => XS.iconst X0.here hx rfl (hb hby d22_56) k) ?_
  show Go _ _ _ _ _ _ _ s₁ (mkF m 57 #[.val (.int (6 : Int32))] [(.int (1 : Int32)), (.int (6 : Int32))])
  refine Go.st (fun _ k => XS.ishl X0.here hx rfl (hb hby d22_57) rfl k) ?_
  show Go _ _ _ _ _ _ _ s₁ (mkF m 58 #[.val (.int (6 : Int32))] [(.int ((6 : Int32) <<< ((1 : Int32) &&& 31)))])
  refine Go.fr (f' := (mkF m 58 #[.val (.int (6 : Int32))] [(.int (12 : Int32))])) (by rw [show ((6 : Int32) <<< ((1 : Int32) &&& 31)) = (12 : Int32) from by decide +kernel]) ?_
  show Go _ _ _ _ _ _ _ s₁ (mkF m 58 #[.val (.int (6 : Int32))] [(.int (12 : Int32))])
  refine Go.ret X0 hlk (v := some (.int (12 : Int32))) (fun h => by rw [hret] at h; cases h) (fun fs hr => retOut X0 hx (t := .int) (i := .ireturn) hret rfl (Or.inl ⟨rfl, Or.inl rfl, _, rfl⟩) (hb hby d22_58) hr) ?_ (by decide) (by decide)
  show Q22 Z  h0 n0 (some (.int (12 : Int32))) s₁.heap _
  rw [e0]
  exact ⟨rfl, N0, rfl⟩
theorem d21_0 : decode jdk_52_method_2_code 0 = .ok (.iload_n 0, 1) := by decide +kernel
theorem d21_1 : decode jdk_52_method_2_code 1 = .ok (.invokestatic 11, 3) := by decide +kernel
theorem d21_4 : decode jdk_52_method_2_code 4 = .ok (.newarray .byte, 2) := by decide +kernel
theorem d21_6 : decode jdk_52_method_2_code 6 = .ok (.areturn, 1) := by decide +kernel
theorem ef_21 (m : MethodId)  : entryFrame m #[(.int (6 : Int32))] 1 = mkF m 0 #[.val (.int (6 : Int32))] [] := by first | (simp [entryFrame, mkF, argsToLocals, Value.category]; done) | rfl
def Q21 (Z : State)  (h0 : Heap) (n0 : Nat) (v : Option Value) (h : Heap) (L : List Loc) : Prop := ∃ (r : Addr) (kb : ClassId), v = some (.ref r) ∧ Fr n0 L ∧ Keep h0 h [] ∧ h0.size ≤ r ∧ Arv Z h r kb .byte (12 : Int32) [(.int (0 : Int32)), (.int (0 : Int32)), (.int (0 : Int32)), (.int (0 : Int32)), (.int (0 : Int32)), (.int (0 : Int32)), (.int (0 : Int32)), (.int (0 : Int32)), (.int (0 : Int32)), (.int (0 : Int32)), (.int (0 : Int32)), (.int (0 : Int32))] (.int (0 : Int32))
set_option maxRecDepth 65536 in
set_option maxHeartbeats 40000000 in
theorem rm21 (l : Launch) (Z : State) (a0 : Array Value) (hw : ∀ d ∈ tables_1, d.before a0 Z = true) (ws : List Jvm.Cond)  (h0 : Heap) (n0 : Nat) (Z0 : n0 ≤ h0.size) :
    MetFree l (⟨"java/lang/StringUTF16", "newBytesFor", "(I)[B"⟩ : MethodName) (head1 (Jvm.Cond.code (⟨"java/lang/StringUTF16", "newBytesFor", "(I)[B"⟩ : MethodName) jdk_52_method_2_code 1 (some (.array .byte)) :: ws) ({ frames := 1, cells := 1, slots := 12, locals := 12 } : Room)) (fun a U => a = #[(.int (6 : Int32))] ∧ Z.Warmed39 U.vm ∧ U.heap = h0) (fun _ _ _ _ _ => True) (fun _ U o U' => ∃ v L, o = .returned v ∧ Q21 Z  h0 n0 v U'.heap L ∧ FrameEnd U o U' L ({ frames := 1, cells := 1, slots := 12, locals := 12 } : Room).cells ({ frames := 1, cells := 1, slots := 12, locals := 12 } : Room).slots) := by
  refine MetFree.of_bodySF (plainFor_of_name pn_java_lang_StringUTF16) hisR ?_
  intro p e s m args below meth c s₁ Bd hml0 hP hK
  obtain ⟨rfl, hZ, hh⟩ := hP
  have hx := Bd.exec
  have hby := Bd.bytes
  have hlk : meth.locks = false := BodyLoose.notSynchronized Bd
  have hret := Bd.returns
  have hml : c.maxLocals = 1 := hml0
  have hown : s.vm.findClass "java/lang/StringUTF16" = some m.cls := findClass_of_methodNamed Bd.named
  have hnm := (name_of_methodNamed Bd.named Bd.method).1
  have X0 : Stand p l e ({ frames := 1, cells := 1, slots := 12, locals := 12 } : Room) s m #[(.int (6 : Int32))] below meth c s₁ [] 0 0 := Stand.of_body Bd
  have e0 : s₁.heap = h0 := by rw [← hh, Bd.state]; rfl
  have N0 := Fr.nil n0
  refine Go.start (Q := Q21 Z  h0 n0) (ef_21 m) ?_
  show Go _ _ _ _ _ _ _ s₁ (mkF m 0 #[.val (.int (6 : Int32))] [])
  refine Go.st (fun _ k => XS.iloadN X0.here hx rfl (hb hby d21_0) rfl k) ?_
  show Go _ _ _ _ _ _ _ s₁ (mkF m 1 #[.val (.int (6 : Int32))] [(.int (6 : Int32))])
  obtain ⟨_, _, ⟨T1, L1, ck1, cn1⟩, -, X1, ⟨Lc1, hQ1, l1, y1, z1⟩, st1⟩ := Jvm.LawKit.callS X0 hx (y := (⟨"java/lang/StringUTF16", "newBytesLength", "(I)I"⟩ : MethodName)) hown (mvT hZ (hw _ (List.mem_of_getElem? (i := 107) rfl))) (mvT hZ (hw _ (List.mem_of_getElem? (i := 108) rfl))) (mvT hZ (hw _ (List.mem_of_getElem? (i := 18) rfl))) (mvT hZ (hw _ (List.mem_of_getElem? (i := 109) rfl))) (by decide) (backOf (W := 0) (rm22 l Z a0 hw []   h0 n0 Z0 ) hZ (hw _ (List.mem_of_getElem? (i := 109) rfl)) (hw _ (List.mem_of_getElem? (i := 18) rfl)) (by decide) (by decide)) (g := (mkF m 1 #[.val (.int (6 : Int32))] [(.int (6 : Int32))])) rfl (by rw [hml]; rfl) (argsL := [(.int (6 : Int32))]) (rest := []) (lenOf pd_7 rfl) rfl (by show 2 * 0 + _ ≤ _; exact Nat.le_of_eq rfl) (hb hby d21_1) (fun _ _ => ⟨rfl, e0, (by decide : 0 + 0 ≤ _), (by decide : 0 + 0 ≤ _)⟩)
  dsimp only [Pt.U, Pt.locs, Pt.cells, Pt.slots] at X1 l1 y1 z1 st1 hQ1
  subst l1 y1 z1
  obtain ⟨rfl, N1q, e1⟩ := hQ1
  have N1 := Fr.app N0 N1q
  refine Go.st st1 ?_
  show Go _ _ _ _ _ _ _ T1 (mkF m 4 #[.val (.int (6 : Int32))] [(.int (12 : Int32))])
  obtain ⟨T2, h2, ck2, X2, e2, E2, A2, st2⟩ := newP X1 hx hZ (hw _ (List.mem_of_getElem? (i := 20) rfl)) e1 (g := (mkF m 4 #[.val (.int (6 : Int32))] [(.int (12 : Int32))])) rfl (hb hby d21_4) rfl (by decide) (cap := 12) (by decide) (by decide) (by decide) (by decide)
  obtain ⟨b2, g2⟩ : ∃ z, z = h0.size := ⟨_, rfl⟩
  rw [← g2] at A2 st2
  have g_b2 : n0 ≤ b2 := Nat.le_trans Z0 (Nat.le_of_eq g2.symm)
  have sz_b2 : h0.size ≤ b2 := Nat.le_trans (Nat.le_refl _) (Nat.le_of_eq g2.symm)
  have Z2 : n0 ≤ h2.size := Nat.le_trans Z0 E2.1
  have KK2 : Keep h0 h2 [] := (Keep.refl h0 []).ext E2
  have V_b2 : Arv Z h2 b2 ck2 .byte (12 : Int32) [(.int (0 : Int32)), (.int (0 : Int32)), (.int (0 : Int32)), (.int (0 : Int32)), (.int (0 : Int32)), (.int (0 : Int32)), (.int (0 : Int32)), (.int (0 : Int32)), (.int (0 : Int32)), (.int (0 : Int32)), (.int (0 : Int32)), (.int (0 : Int32))] (.int (0 : Int32)) := (Arv.new A2 (by decide)).pad (pad_rep [] (.int (0 : Int32)) 12)
  refine Go.st st2 ?_
  show Go _ _ _ _ _ _ _ T2 (mkF m 6 #[.val (.int (6 : Int32))] [(.ref b2)])
  refine Go.ret X2 hlk (v := some (.ref b2)) (fun h => by rw [hret] at h; cases h) (fun fs hr => retOut X2 hx (i := .areturn) hret rfl (Or.inr (Or.inr (Or.inr (Or.inr ⟨rfl, rfl, rfl⟩)))) (hb hby d21_6) hr) ?_ (by decide) (by decide)
  show Q21 Z  h0 n0 (some (.ref b2)) T2.heap _
  rw [e2]
  exact ⟨b2, ck2, rfl, N1, KK2, sz_b2, V_b2⟩
theorem d20_0 : decode jdk_52_method_14_code 0 = .ok (.iload_n 2, 1) := by decide +kernel
theorem d20_1 : decode jdk_52_method_14_code 1 = .ok (.invokestatic 107, 3) := by decide +kernel
theorem d20_4 : decode jdk_52_method_14_code 4 = .ok (.astore_n 3, 1) := by decide +kernel
theorem d20_5 : decode jdk_52_method_14_code 5 = .ok (.iconst 0, 1) := by decide +kernel
theorem d20_6 : decode jdk_52_method_14_code 6 = .ok (.istore 4, 2) := by decide +kernel
theorem d20_8 : decode jdk_52_method_14_code 8 = .ok (.iload 4, 2) := by decide +kernel
theorem d20_10 : decode jdk_52_method_14_code 10 = .ok (.iload_n 2, 1) := by decide +kernel
theorem d20_11 : decode jdk_52_method_14_code 11 = .ok (.if_icmp .ge 21, 3) := by decide +kernel
theorem d20_14 : decode jdk_52_method_14_code 14 = .ok (.aload_n 3, 1) := by decide +kernel
theorem d20_15 : decode jdk_52_method_14_code 15 = .ok (.iload 4, 2) := by decide +kernel
theorem d20_17 : decode jdk_52_method_14_code 17 = .ok (.aload_n 0, 1) := by decide +kernel
theorem d20_18 : decode jdk_52_method_14_code 18 = .ok (.iload_n 1, 1) := by decide +kernel
theorem d20_19 : decode jdk_52_method_14_code 19 = .ok (.caload, 1) := by decide +kernel
theorem d20_20 : decode jdk_52_method_14_code 20 = .ok (.invokestatic 111, 3) := by decide +kernel
theorem d20_23 : decode jdk_52_method_14_code 23 = .ok (.iinc 1 1, 3) := by decide +kernel
theorem d20_26 : decode jdk_52_method_14_code 26 = .ok (.iinc 4 1, 3) := by decide +kernel
theorem d20_29 : decode jdk_52_method_14_code 29 = .ok (.goto (-21), 3) := by decide +kernel
theorem d20_32 : decode jdk_52_method_14_code 32 = .ok (.aload_n 3, 1) := by decide +kernel
theorem d20_33 : decode jdk_52_method_14_code 33 = .ok (.areturn, 1) := by decide +kernel
theorem ef_20 (m : MethodId) (o0 : Addr) : entryFrame m #[(.ref o0), (.int (0 : Int32)), (.int (6 : Int32))] 5 = mkF m 0 #[.val (.ref o0), .val (.int (0 : Int32)), .val (.int (6 : Int32)), .unset, .unset] [] := by first | (simp [entryFrame, mkF, argsToLocals, Value.category]; done) | rfl
def Q20 (Z : State) (o0 : Addr) (kc : ClassId) (k0 : Int32) (k1 : Int32) (k2 : Int32) (k3 : Int32) (k4 : Int32) (k5 : Int32) (h0 : Heap) (n0 : Nat) (v : Option Value) (h : Heap) (L : List Loc) : Prop := ∃ (r : Addr) (kb : ClassId), v = some (.ref r) ∧ Fr n0 L ∧ Keep h0 h [] ∧ h0.size ≤ r ∧ Arv Z h r kb .byte (12 : Int32) [(.int ((k0 >>> ((0 : Int32) &&& 31)).toInt8.toInt32)), (.int ((k0 >>> ((8 : Int32) &&& 31)).toInt8.toInt32)), (.int ((k1 >>> ((0 : Int32) &&& 31)).toInt8.toInt32)), (.int ((k1 >>> ((8 : Int32) &&& 31)).toInt8.toInt32)), (.int ((k2 >>> ((0 : Int32) &&& 31)).toInt8.toInt32)), (.int ((k2 >>> ((8 : Int32) &&& 31)).toInt8.toInt32)), (.int ((k3 >>> ((0 : Int32) &&& 31)).toInt8.toInt32)), (.int ((k3 >>> ((8 : Int32) &&& 31)).toInt8.toInt32)), (.int ((k4 >>> ((0 : Int32) &&& 31)).toInt8.toInt32)), (.int ((k4 >>> ((8 : Int32) &&& 31)).toInt8.toInt32)), (.int ((k5 >>> ((0 : Int32) &&& 31)).toInt8.toInt32)), (.int ((k5 >>> ((8 : Int32) &&& 31)).toInt8.toInt32))] (.int (0 : Int32))
set_option maxRecDepth 65536 in
set_option maxHeartbeats 40000000 in
theorem rm20 (l : Launch) (Z : State) (a0 : Array Value) (hw : ∀ d ∈ tables_1, d.before a0 Z = true) (ws : List Jvm.Cond) (o0 : Addr) (kc : ClassId) (k0 : Int32) (k1 : Int32) (k2 : Int32) (k3 : Int32) (k4 : Int32) (k5 : Int32) (h0 : Heap) (n0 : Nat) (Z0 : n0 ≤ h0.size) (V_o0 : Arv Z h0 o0 kc .char (6 : Int32) [(.int k0), (.int k1), (.int k2), (.int k3), (.int k4), (.int k5)] (.int (0 : Int32))) (S_AD : Sta Z h0 "java/lang/StringUTF16" "$assertionsDisabled" "Z" (.int (1 : Int32))) (S_HI : Sta Z h0 "java/lang/StringUTF16" "HI_BYTE_SHIFT" "I" (.int (0 : Int32))) (S_LO : Sta Z h0 "java/lang/StringUTF16" "LO_BYTE_SHIFT" "I" (.int (8 : Int32))) :
    MetFree l (⟨"java/lang/StringUTF16", "toBytes", "([CII)[B"⟩ : MethodName) (head1 (Jvm.Cond.code (⟨"java/lang/StringUTF16", "toBytes", "([CII)[B"⟩ : MethodName) jdk_52_method_14_code 5 (some (.array .byte)) :: ws) ({ frames := 2, cells := 1, slots := 12, locals := 24 } : Room)) (fun a U => a = #[(.ref o0), (.int (0 : Int32)), (.int (6 : Int32))] ∧ Z.Warmed39 U.vm ∧ U.heap = h0) (fun _ _ _ _ _ => True) (fun _ U o U' => ∃ v L, o = .returned v ∧ Q20 Z o0 kc k0 k1 k2 k3 k4 k5 h0 n0 v U'.heap L ∧ FrameEnd U o U' L ({ frames := 2, cells := 1, slots := 12, locals := 24 } : Room).cells ({ frames := 2, cells := 1, slots := 12, locals := 24 } : Room).slots) := by
  refine MetFree.of_bodySF (plainFor_of_name pn_java_lang_StringUTF16) hisR ?_
  intro p e s m args below meth c s₁ Bd hml0 hP hK
  obtain ⟨rfl, hZ, hh⟩ := hP
  have hx := Bd.exec
  have hby := Bd.bytes
  have hlk : meth.locks = false := BodyLoose.notSynchronized Bd
  have hret := Bd.returns
  have hml : c.maxLocals = 5 := hml0
  have hown : s.vm.findClass "java/lang/StringUTF16" = some m.cls := findClass_of_methodNamed Bd.named
  have hnm := (name_of_methodNamed Bd.named Bd.method).1
  have X0 : Stand p l e ({ frames := 2, cells := 1, slots := 12, locals := 24 } : Room) s m #[(.ref o0), (.int (0 : Int32)), (.int (6 : Int32))] below meth c s₁ [] 0 0 := Stand.of_body Bd
  have e0 : s₁.heap = h0 := by rw [← hh, Bd.state]; rfl
  have N0 := Fr.nil n0
  refine Go.start (Q := Q20 Z o0 kc k0 k1 k2 k3 k4 k5 h0 n0) (ef_20 m o0) ?_
  show Go _ _ _ _ _ _ _ s₁ (mkF m 0 #[.val (.ref o0), .val (.int (0 : Int32)), .val (.int (6 : Int32)), .unset, .unset] [])
  refine Go.st (fun _ k => XS.iloadN X0.here hx rfl (hb hby d20_0) rfl k) ?_
  show Go _ _ _ _ _ _ _ s₁ (mkF m 1 #[.val (.ref o0), .val (.int (0 : Int32)), .val (.int (6 : Int32)), .unset, .unset] [(.int (6 : Int32))])
  obtain ⟨_, _, ⟨T1, L1, ck1, cn1⟩, -, X1, ⟨Lc1, hQ1, l1, y1, z1⟩, st1⟩ := Jvm.LawKit.callS X0 hx (y := (⟨"java/lang/StringUTF16", "newBytesFor", "(I)[B"⟩ : MethodName)) hown (mvT hZ (hw _ (List.mem_of_getElem? (i := 104) rfl))) (mvT hZ (hw _ (List.mem_of_getElem? (i := 105) rfl))) (mvT hZ (hw _ (List.mem_of_getElem? (i := 18) rfl))) (mvT hZ (hw _ (List.mem_of_getElem? (i := 106) rfl))) (by decide) (backOf (W := 0) (rm21 l Z a0 hw []   h0 n0 Z0 ) hZ (hw _ (List.mem_of_getElem? (i := 106) rfl)) (hw _ (List.mem_of_getElem? (i := 18) rfl)) (by decide) (by decide)) (g := (mkF m 1 #[.val (.ref o0), .val (.int (0 : Int32)), .val (.int (6 : Int32)), .unset, .unset] [(.int (6 : Int32))])) rfl (by rw [hml]; rfl) (argsL := [(.int (6 : Int32))]) (rest := []) (lenOf pd_8 rfl) rfl (by show 2 * 0 + _ ≤ _; exact Nat.le_of_eq rfl) (hb hby d20_1) (fun _ _ => ⟨rfl, e0, (by decide : 0 + 1 ≤ _), (by decide : 0 + 12 ≤ _)⟩)
  dsimp only [Pt.U, Pt.locs, Pt.cells, Pt.slots] at X1 l1 y1 z1 st1 hQ1
  subst l1 y1 z1
  generalize e1 : T1.heap = h1 at hQ1
  obtain ⟨r1, kb1, rfl, N1q, K1, sz1, VV1⟩ := hQ1
  have N1 := Fr.app N0 N1q
  refine Go.st st1 ?_
  have ne2 : o0 ≠ r1 := Nat.ne_of_lt (Nat.lt_of_lt_of_le V_o0.lt sz1)
  have g_r1 : n0 ≤ r1 := Nat.le_trans Z0 sz1
  have sz_r1 : h0.size ≤ r1 := Nat.le_trans (Nat.le_refl _) sz1
  have V_o0__1 := V_o0.keep K1 (nin0)
  have S_AD__1 := own_sta S_AD K1 (all0)
  have S_HI__1 := own_sta S_HI K1 (all0)
  have S_LO__1 := own_sta S_LO K1 (all0)
  have Z1 : n0 ≤ h1.size := Nat.le_trans Z0 K1.1
  have KK1 : Keep h0 h1 [] := (Keep.refl h0 []).trans K1 (all0)
  show Go _ _ _ _ _ _ _ T1 (mkF m 4 #[.val (.ref o0), .val (.int (0 : Int32)), .val (.int (6 : Int32)), .unset, .unset] [(.ref r1)])
  refine Go.st (fun _ k => XS.astoreN X1.here hx rfl (hb hby d20_4) rfl rfl (l' := #[.val (.ref o0), .val (.int (0 : Int32)), .val (.int (6 : Int32)), .val (.ref r1), .unset]) rfl k) ?_
  show Go _ _ _ _ _ _ _ T1 (mkF m 5 #[.val (.ref o0), .val (.int (0 : Int32)), .val (.int (6 : Int32)), .val (.ref r1), .unset] [])
  refine Go.st (fun _ k => XS.iconst X1.here hx rfl (hb hby d20_5) k) ?_
  show Go _ _ _ _ _ _ _ T1 (mkF m 6 #[.val (.ref o0), .val (.int (0 : Int32)), .val (.int (6 : Int32)), .val (.ref r1), .unset] [(.int (0 : Int32))])
  refine Go.st (fun _ k => XS.istore X1.here hx rfl (hb hby d20_6) rfl (l' := #[.val (.ref o0), .val (.int (0 : Int32)), .val (.int (6 : Int32)), .val (.ref r1), .val (.int (0 : Int32))]) rfl k) ?_
  show Go _ _ _ _ _ _ _ T1 (mkF m 8 #[.val (.ref o0), .val (.int (0 : Int32)), .val (.int (6 : Int32)), .val (.ref r1), .val (.int (0 : Int32))] [])
  refine Go.st (fun _ k => XS.iload X1.here hx rfl (hb hby d20_8) rfl k) ?_
  show Go _ _ _ _ _ _ _ T1 (mkF m 10 #[.val (.ref o0), .val (.int (0 : Int32)), .val (.int (6 : Int32)), .val (.ref r1), .val (.int (0 : Int32))] [(.int (0 : Int32))])
  refine Go.st (fun _ k => XS.iloadN X1.here hx rfl (hb hby d20_10) rfl k) ?_
  show Go _ _ _ _ _ _ _ T1 (mkF m 11 #[.val (.ref o0), .val (.int (0 : Int32)), .val (.int (6 : Int32)), .val (.ref r1), .val (.int (0 : Int32))] [(.int (6 : Int32)), (.int (0 : Int32))])
  refine Go.st (fun _ k => XS.icmpNo X1.here hx rfl (hb hby d20_11) rfl (tlt (by decide : (0 : Int32) < (6 : Int32))).2.1 k) ?_
  show Go _ _ _ _ _ _ _ T1 (mkF m 14 #[.val (.ref o0), .val (.int (0 : Int32)), .val (.int (6 : Int32)), .val (.ref r1), .val (.int (0 : Int32))] [])
  refine Go.st (fun _ k => XS.aloadN X1.here hx rfl (hb hby d20_14) rfl rfl k) ?_
  show Go _ _ _ _ _ _ _ T1 (mkF m 15 #[.val (.ref o0), .val (.int (0 : Int32)), .val (.int (6 : Int32)), .val (.ref r1), .val (.int (0 : Int32))] [(.ref r1)])
  refine Go.st (fun _ k => XS.iload X1.here hx rfl (hb hby d20_15) rfl k) ?_
  show Go _ _ _ _ _ _ _ T1 (mkF m 17 #[.val (.ref o0), .val (.int (0 : Int32)), .val (.int (6 : Int32)), .val (.ref r1), .val (.int (0 : Int32))] [(.int (0 : Int32)), (.ref r1)])
  refine Go.st (fun _ k => XS.aloadN X1.here hx rfl (hb hby d20_17) rfl rfl k) ?_
  show Go _ _ _ _ _ _ _ T1 (mkF m 18 #[.val (.ref o0), .val (.int (0 : Int32)), .val (.int (6 : Int32)), .val (.ref r1), .val (.int (0 : Int32))] [(.ref o0), (.int (0 : Int32)), (.ref r1)])
  refine Go.st (fun _ k => XS.iloadN X1.here hx rfl (hb hby d20_18) rfl k) ?_
  show Go _ _ _ _ _ _ _ T1 (mkF m 19 #[.val (.ref o0), .val (.int (0 : Int32)), .val (.int (6 : Int32)), .val (.ref r1), .val (.int (0 : Int32))] [(.int (0 : Int32)), (.ref o0), (.int (0 : Int32)), (.ref r1)])
  obtain ⟨cl3, Ar3, qq3, SS3, NN3, HH3, GG3⟩ := id V_o0__1
  have hin4 : ¬ ((0 : Int32) < 0 ∨ cl3.slots.size ≤ ((0 : Int32)).toNatClampNeg) := inb_of SS3 ⟨by decide, by decide⟩
  refine Go.st (fun _ k => X1.caload hx (j := (0 : Int32)) (v := (.int k0)) (by rw [e1]; exact Ar3.1) (State.isArrayOf_alike hZ.alike Ar3.2.1) Ar3.2.2 hin4 (HH3.at hin4 rfl) (g := (mkF m 19 #[.val (.ref o0), .val (.int (0 : Int32)), .val (.int (6 : Int32)), .val (.ref r1), .val (.int (0 : Int32))] [(.int (0 : Int32)), (.ref o0), (.int (0 : Int32)), (.ref r1)])) rfl rfl (hb hby d20_19) _ k) ?_
  show Go _ _ _ _ _ _ _ T1 (mkF m 20 #[.val (.ref o0), .val (.int (0 : Int32)), .val (.int (6 : Int32)), .val (.ref r1), .val (.int (0 : Int32))] [(.int k0), (.int (0 : Int32)), (.ref r1)])
  obtain ⟨_, _, ⟨T5, L5, ck5, cn5⟩, -, X5, ⟨Lc5, hQ5, l5, y5, z5⟩, st5⟩ := Jvm.LawKit.callS X1 hx (y := (⟨"java/lang/StringUTF16", "putChar", "([BII)V"⟩ : MethodName)) hown (mvT hZ (hw _ (List.mem_of_getElem? (i := 111) rfl))) (mvT hZ (hw _ (List.mem_of_getElem? (i := 112) rfl))) (mvT hZ (hw _ (List.mem_of_getElem? (i := 18) rfl))) (mvT hZ (hw _ (List.mem_of_getElem? (i := 113) rfl))) (by decide) (backOf (W := 0) (rm23_0 l Z a0 hw [] r1 k0 kb1 (.int (0 : Int32)) (.int (0 : Int32)) (.int (0 : Int32)) (.int (0 : Int32)) (.int (0 : Int32)) (.int (0 : Int32)) (.int (0 : Int32)) (.int (0 : Int32)) (.int (0 : Int32)) (.int (0 : Int32)) (.int (0 : Int32)) (.int (0 : Int32)) h1 n0 Z1 VV1 g_r1 S_AD__1 S_HI__1 S_LO__1) hZ (hw _ (List.mem_of_getElem? (i := 113) rfl)) (hw _ (List.mem_of_getElem? (i := 18) rfl)) (by decide) (by decide)) (g := (mkF m 20 #[.val (.ref o0), .val (.int (0 : Int32)), .val (.int (6 : Int32)), .val (.ref r1), .val (.int (0 : Int32))] [(.int k0), (.int (0 : Int32)), (.ref r1)])) rfl (by rw [hml]; rfl) (argsL := [(.ref r1), (.int (0 : Int32)), (.int k0)]) (rest := []) (lenOf pd_9 rfl) rfl (by show 2 * 0 + _ ≤ _; exact Nat.le_of_eq rfl) (hb hby d20_20) (fun _ _ => ⟨rfl, e1, (by decide : 1 + 0 ≤ _), (by decide : 12 + 0 ≤ _)⟩)
  dsimp only [Pt.U, Pt.locs, Pt.cells, Pt.slots] at X5 l5 y5 z5 st5 hQ5
  subst l5 y5 z5
  generalize e5 : T5.heap = h5 at hQ5
  obtain ⟨rfl, N5q, K5, VV5⟩ := hQ5
  have N5 := Fr.app N1 N5q
  refine Go.st st5 ?_
  have V_o0__5 := V_o0__1.keep K5 (ninS ne2 (nin0))
  have S_AD__5 := own_sta S_AD__1 K5 (allS (own_arvcell VV1) (all0))
  have S_HI__5 := own_sta S_HI__1 K5 (allS (own_arvcell VV1) (all0))
  have S_LO__5 := own_sta S_LO__1 K5 (allS (own_arvcell VV1) (all0))
  have Z5 : n0 ≤ h5.size := Nat.le_trans Z1 K5.1
  have KK5 : Keep h0 h5 [] := KK1.trans K5 (allS (Or.inr sz_r1) (all0))
  show Go _ _ _ _ _ _ _ T5 (mkF m 23 #[.val (.ref o0), .val (.int (0 : Int32)), .val (.int (6 : Int32)), .val (.ref r1), .val (.int (0 : Int32))] [])
  refine Go.st (fun _ k => XS.iinc X5.here hx rfl (hb hby d20_23) rfl (l' := #[.val (.ref o0), .val (.int ((0 : Int32) + (1 : Int32))), .val (.int (6 : Int32)), .val (.ref r1), .val (.int (0 : Int32))]) rfl k) ?_
  show Go _ _ _ _ _ _ _ T5 (mkF m 26 #[.val (.ref o0), .val (.int ((0 : Int32) + (1 : Int32))), .val (.int (6 : Int32)), .val (.ref r1), .val (.int (0 : Int32))] [])
  refine Go.fr (f' := (mkF m 26 #[.val (.ref o0), .val (.int (1 : Int32)), .val (.int (6 : Int32)), .val (.ref r1), .val (.int (0 : Int32))] [])) (by rw [show ((0 : Int32) + (1 : Int32)) = (1 : Int32) from by decide +kernel]) ?_
  show Go _ _ _ _ _ _ _ T5 (mkF m 26 #[.val (.ref o0), .val (.int (1 : Int32)), .val (.int (6 : Int32)), .val (.ref r1), .val (.int (0 : Int32))] [])
  refine Go.st (fun _ k => XS.iinc X5.here hx rfl (hb hby d20_26) rfl (l' := #[.val (.ref o0), .val (.int (1 : Int32)), .val (.int (6 : Int32)), .val (.ref r1), .val (.int ((0 : Int32) + (1 : Int32)))]) rfl k) ?_
  show Go _ _ _ _ _ _ _ T5 (mkF m 29 #[.val (.ref o0), .val (.int (1 : Int32)), .val (.int (6 : Int32)), .val (.ref r1), .val (.int ((0 : Int32) + (1 : Int32)))] [])
  refine Go.fr (f' := (mkF m 29 #[.val (.ref o0), .val (.int (1 : Int32)), .val (.int (6 : Int32)), .val (.ref r1), .val (.int (1 : Int32))] [])) (by rw [show ((0 : Int32) + (1 : Int32)) = (1 : Int32) from by decide +kernel]) ?_
  show Go _ _ _ _ _ _ _ T5 (mkF m 29 #[.val (.ref o0), .val (.int (1 : Int32)), .val (.int (6 : Int32)), .val (.ref r1), .val (.int (1 : Int32))] [])
  refine Go.st (fun _ k => XS.goto X5.here hx rfl (pc0 := 29) (pc' := 8) rfl (hb hby d20_29) (by decide) (by decide) k) ?_
  show Go _ _ _ _ _ _ _ T5 (mkF m 8 #[.val (.ref o0), .val (.int (1 : Int32)), .val (.int (6 : Int32)), .val (.ref r1), .val (.int (1 : Int32))] [])
  refine Go.st (fun _ k => XS.iload X5.here hx rfl (hb hby d20_8) rfl k) ?_
  show Go _ _ _ _ _ _ _ T5 (mkF m 10 #[.val (.ref o0), .val (.int (1 : Int32)), .val (.int (6 : Int32)), .val (.ref r1), .val (.int (1 : Int32))] [(.int (1 : Int32))])
  refine Go.st (fun _ k => XS.iloadN X5.here hx rfl (hb hby d20_10) rfl k) ?_
  show Go _ _ _ _ _ _ _ T5 (mkF m 11 #[.val (.ref o0), .val (.int (1 : Int32)), .val (.int (6 : Int32)), .val (.ref r1), .val (.int (1 : Int32))] [(.int (6 : Int32)), (.int (1 : Int32))])
  refine Go.st (fun _ k => XS.icmpNo X5.here hx rfl (hb hby d20_11) rfl (tlt (by decide : (1 : Int32) < (6 : Int32))).2.1 k) ?_
  show Go _ _ _ _ _ _ _ T5 (mkF m 14 #[.val (.ref o0), .val (.int (1 : Int32)), .val (.int (6 : Int32)), .val (.ref r1), .val (.int (1 : Int32))] [])
  refine Go.st (fun _ k => XS.aloadN X5.here hx rfl (hb hby d20_14) rfl rfl k) ?_
  show Go _ _ _ _ _ _ _ T5 (mkF m 15 #[.val (.ref o0), .val (.int (1 : Int32)), .val (.int (6 : Int32)), .val (.ref r1), .val (.int (1 : Int32))] [(.ref r1)])
  refine Go.st (fun _ k => XS.iload X5.here hx rfl (hb hby d20_15) rfl k) ?_
  show Go _ _ _ _ _ _ _ T5 (mkF m 17 #[.val (.ref o0), .val (.int (1 : Int32)), .val (.int (6 : Int32)), .val (.ref r1), .val (.int (1 : Int32))] [(.int (1 : Int32)), (.ref r1)])
  refine Go.st (fun _ k => XS.aloadN X5.here hx rfl (hb hby d20_17) rfl rfl k) ?_
  show Go _ _ _ _ _ _ _ T5 (mkF m 18 #[.val (.ref o0), .val (.int (1 : Int32)), .val (.int (6 : Int32)), .val (.ref r1), .val (.int (1 : Int32))] [(.ref o0), (.int (1 : Int32)), (.ref r1)])
  refine Go.st (fun _ k => XS.iloadN X5.here hx rfl (hb hby d20_18) rfl k) ?_
  show Go _ _ _ _ _ _ _ T5 (mkF m 19 #[.val (.ref o0), .val (.int (1 : Int32)), .val (.int (6 : Int32)), .val (.ref r1), .val (.int (1 : Int32))] [(.int (1 : Int32)), (.ref o0), (.int (1 : Int32)), (.ref r1)])
  obtain ⟨cl6, Ar6, qq6, SS6, NN6, HH6, GG6⟩ := id V_o0__5
  have hin7 : ¬ ((1 : Int32) < 0 ∨ cl6.slots.size ≤ ((1 : Int32)).toNatClampNeg) := inb_of SS6 ⟨by decide, by decide⟩
  refine Go.st (fun _ k => X5.caload hx (j := (1 : Int32)) (v := (.int k1)) (by rw [e5]; exact Ar6.1) (State.isArrayOf_alike hZ.alike Ar6.2.1) Ar6.2.2 hin7 (HH6.at hin7 rfl) (g := (mkF m 19 #[.val (.ref o0), .val (.int (1 : Int32)), .val (.int (6 : Int32)), .val (.ref r1), .val (.int (1 : Int32))] [(.int (1 : Int32)), (.ref o0), (.int (1 : Int32)), (.ref r1)])) rfl rfl (hb hby d20_19) _ k) ?_
  show Go _ _ _ _ _ _ _ T5 (mkF m 20 #[.val (.ref o0), .val (.int (1 : Int32)), .val (.int (6 : Int32)), .val (.ref r1), .val (.int (1 : Int32))] [(.int k1), (.int (1 : Int32)), (.ref r1)])
  obtain ⟨_, _, ⟨T8, L8, ck8, cn8⟩, -, X8, ⟨Lc8, hQ8, l8, y8, z8⟩, st8⟩ := Jvm.LawKit.callS X5 hx (y := (⟨"java/lang/StringUTF16", "putChar", "([BII)V"⟩ : MethodName)) hown (mvT hZ (hw _ (List.mem_of_getElem? (i := 111) rfl))) (mvT hZ (hw _ (List.mem_of_getElem? (i := 112) rfl))) (mvT hZ (hw _ (List.mem_of_getElem? (i := 18) rfl))) (mvT hZ (hw _ (List.mem_of_getElem? (i := 113) rfl))) (by decide) (backOf (W := 0) (rm23_1 l Z a0 hw [] r1 k1 kb1 (.int ((k0 >>> ((0 : Int32) &&& 31)).toInt8.toInt32)) (.int ((k0 >>> ((8 : Int32) &&& 31)).toInt8.toInt32)) (.int (0 : Int32)) (.int (0 : Int32)) (.int (0 : Int32)) (.int (0 : Int32)) (.int (0 : Int32)) (.int (0 : Int32)) (.int (0 : Int32)) (.int (0 : Int32)) (.int (0 : Int32)) (.int (0 : Int32)) h5 n0 Z5 VV5 g_r1 S_AD__5 S_HI__5 S_LO__5) hZ (hw _ (List.mem_of_getElem? (i := 113) rfl)) (hw _ (List.mem_of_getElem? (i := 18) rfl)) (by decide) (by decide)) (g := (mkF m 20 #[.val (.ref o0), .val (.int (1 : Int32)), .val (.int (6 : Int32)), .val (.ref r1), .val (.int (1 : Int32))] [(.int k1), (.int (1 : Int32)), (.ref r1)])) rfl (by rw [hml]; rfl) (argsL := [(.ref r1), (.int (1 : Int32)), (.int k1)]) (rest := []) (lenOf pd_9 rfl) rfl (by show 2 * 0 + _ ≤ _; exact Nat.le_of_eq rfl) (hb hby d20_20) (fun _ _ => ⟨rfl, e5, (by decide : 1 + 0 ≤ _), (by decide : 12 + 0 ≤ _)⟩)
  dsimp only [Pt.U, Pt.locs, Pt.cells, Pt.slots] at X8 l8 y8 z8 st8 hQ8
  subst l8 y8 z8
  generalize e8 : T8.heap = h8 at hQ8
  obtain ⟨rfl, N8q, K8, VV8⟩ := hQ8
  have N8 := Fr.app N5 N8q
  refine Go.st st8 ?_
  have V_o0__8 := V_o0__5.keep K8 (ninS ne2 (nin0))
  have S_AD__8 := own_sta S_AD__5 K8 (allS (own_arvcell VV5) (all0))
  have S_HI__8 := own_sta S_HI__5 K8 (allS (own_arvcell VV5) (all0))
  have S_LO__8 := own_sta S_LO__5 K8 (allS (own_arvcell VV5) (all0))
  have Z8 : n0 ≤ h8.size := Nat.le_trans Z5 K8.1
  have KK8 : Keep h0 h8 [] := KK5.trans K8 (allS (Or.inr sz_r1) (all0))
  show Go _ _ _ _ _ _ _ T8 (mkF m 23 #[.val (.ref o0), .val (.int (1 : Int32)), .val (.int (6 : Int32)), .val (.ref r1), .val (.int (1 : Int32))] [])
  refine Go.st (fun _ k => XS.iinc X8.here hx rfl (hb hby d20_23) rfl (l' := #[.val (.ref o0), .val (.int ((1 : Int32) + (1 : Int32))), .val (.int (6 : Int32)), .val (.ref r1), .val (.int (1 : Int32))]) rfl k) ?_
  show Go _ _ _ _ _ _ _ T8 (mkF m 26 #[.val (.ref o0), .val (.int ((1 : Int32) + (1 : Int32))), .val (.int (6 : Int32)), .val (.ref r1), .val (.int (1 : Int32))] [])
  refine Go.fr (f' := (mkF m 26 #[.val (.ref o0), .val (.int (2 : Int32)), .val (.int (6 : Int32)), .val (.ref r1), .val (.int (1 : Int32))] [])) (by rw [show ((1 : Int32) + (1 : Int32)) = (2 : Int32) from by decide +kernel]) ?_
  show Go _ _ _ _ _ _ _ T8 (mkF m 26 #[.val (.ref o0), .val (.int (2 : Int32)), .val (.int (6 : Int32)), .val (.ref r1), .val (.int (1 : Int32))] [])
  refine Go.st (fun _ k => XS.iinc X8.here hx rfl (hb hby d20_26) rfl (l' := #[.val (.ref o0), .val (.int (2 : Int32)), .val (.int (6 : Int32)), .val (.ref r1), .val (.int ((1 : Int32) + (1 : Int32)))]) rfl k) ?_
  show Go _ _ _ _ _ _ _ T8 (mkF m 29 #[.val (.ref o0), .val (.int (2 : Int32)), .val (.int (6 : Int32)), .val (.ref r1), .val (.int ((1 : Int32) + (1 : Int32)))] [])
  refine Go.fr (f' := (mkF m 29 #[.val (.ref o0), .val (.int (2 : Int32)), .val (.int (6 : Int32)), .val (.ref r1), .val (.int (2 : Int32))] [])) (by rw [show ((1 : Int32) + (1 : Int32)) = (2 : Int32) from by decide +kernel]) ?_
  show Go _ _ _ _ _ _ _ T8 (mkF m 29 #[.val (.ref o0), .val (.int (2 : Int32)), .val (.int (6 : Int32)), .val (.ref r1), .val (.int (2 : Int32))] [])
  refine Go.st (fun _ k => XS.goto X8.here hx rfl (pc0 := 29) (pc' := 8) rfl (hb hby d20_29) (by decide) (by decide) k) ?_
  show Go _ _ _ _ _ _ _ T8 (mkF m 8 #[.val (.ref o0), .val (.int (2 : Int32)), .val (.int (6 : Int32)), .val (.ref r1), .val (.int (2 : Int32))] [])
  refine Go.st (fun _ k => XS.iload X8.here hx rfl (hb hby d20_8) rfl k) ?_
  show Go _ _ _ _ _ _ _ T8 (mkF m 10 #[.val (.ref o0), .val (.int (2 : Int32)), .val (.int (6 : Int32)), .val (.ref r1), .val (.int (2 : Int32))] [(.int (2 : Int32))])
  refine Go.st (fun _ k => XS.iloadN X8.here hx rfl (hb hby d20_10) rfl k) ?_
  show Go _ _ _ _ _ _ _ T8 (mkF m 11 #[.val (.ref o0), .val (.int (2 : Int32)), .val (.int (6 : Int32)), .val (.ref r1), .val (.int (2 : Int32))] [(.int (6 : Int32)), (.int (2 : Int32))])
  refine Go.st (fun _ k => XS.icmpNo X8.here hx rfl (hb hby d20_11) rfl (tlt (by decide : (2 : Int32) < (6 : Int32))).2.1 k) ?_
  show Go _ _ _ _ _ _ _ T8 (mkF m 14 #[.val (.ref o0), .val (.int (2 : Int32)), .val (.int (6 : Int32)), .val (.ref r1), .val (.int (2 : Int32))] [])
  refine Go.st (fun _ k => XS.aloadN X8.here hx rfl (hb hby d20_14) rfl rfl k) ?_
  show Go _ _ _ _ _ _ _ T8 (mkF m 15 #[.val (.ref o0), .val (.int (2 : Int32)), .val (.int (6 : Int32)), .val (.ref r1), .val (.int (2 : Int32))] [(.ref r1)])
  refine Go.st (fun _ k => XS.iload X8.here hx rfl (hb hby d20_15) rfl k) ?_
  show Go _ _ _ _ _ _ _ T8 (mkF m 17 #[.val (.ref o0), .val (.int (2 : Int32)), .val (.int (6 : Int32)), .val (.ref r1), .val (.int (2 : Int32))] [(.int (2 : Int32)), (.ref r1)])
  refine Go.st (fun _ k => XS.aloadN X8.here hx rfl (hb hby d20_17) rfl rfl k) ?_
  show Go _ _ _ _ _ _ _ T8 (mkF m 18 #[.val (.ref o0), .val (.int (2 : Int32)), .val (.int (6 : Int32)), .val (.ref r1), .val (.int (2 : Int32))] [(.ref o0), (.int (2 : Int32)), (.ref r1)])
  refine Go.st (fun _ k => XS.iloadN X8.here hx rfl (hb hby d20_18) rfl k) ?_
  show Go _ _ _ _ _ _ _ T8 (mkF m 19 #[.val (.ref o0), .val (.int (2 : Int32)), .val (.int (6 : Int32)), .val (.ref r1), .val (.int (2 : Int32))] [(.int (2 : Int32)), (.ref o0), (.int (2 : Int32)), (.ref r1)])
  obtain ⟨cl9, Ar9, qq9, SS9, NN9, HH9, GG9⟩ := id V_o0__8
  have hin10 : ¬ ((2 : Int32) < 0 ∨ cl9.slots.size ≤ ((2 : Int32)).toNatClampNeg) := inb_of SS9 ⟨by decide, by decide⟩
  refine Go.st (fun _ k => X8.caload hx (j := (2 : Int32)) (v := (.int k2)) (by rw [e8]; exact Ar9.1) (State.isArrayOf_alike hZ.alike Ar9.2.1) Ar9.2.2 hin10 (HH9.at hin10 rfl) (g := (mkF m 19 #[.val (.ref o0), .val (.int (2 : Int32)), .val (.int (6 : Int32)), .val (.ref r1), .val (.int (2 : Int32))] [(.int (2 : Int32)), (.ref o0), (.int (2 : Int32)), (.ref r1)])) rfl rfl (hb hby d20_19) _ k) ?_
  show Go _ _ _ _ _ _ _ T8 (mkF m 20 #[.val (.ref o0), .val (.int (2 : Int32)), .val (.int (6 : Int32)), .val (.ref r1), .val (.int (2 : Int32))] [(.int k2), (.int (2 : Int32)), (.ref r1)])
  obtain ⟨_, _, ⟨T11, L11, ck11, cn11⟩, -, X11, ⟨Lc11, hQ11, l11, y11, z11⟩, st11⟩ := Jvm.LawKit.callS X8 hx (y := (⟨"java/lang/StringUTF16", "putChar", "([BII)V"⟩ : MethodName)) hown (mvT hZ (hw _ (List.mem_of_getElem? (i := 111) rfl))) (mvT hZ (hw _ (List.mem_of_getElem? (i := 112) rfl))) (mvT hZ (hw _ (List.mem_of_getElem? (i := 18) rfl))) (mvT hZ (hw _ (List.mem_of_getElem? (i := 113) rfl))) (by decide) (backOf (W := 0) (rm23_2 l Z a0 hw [] r1 k2 kb1 (.int ((k0 >>> ((0 : Int32) &&& 31)).toInt8.toInt32)) (.int ((k0 >>> ((8 : Int32) &&& 31)).toInt8.toInt32)) (.int ((k1 >>> ((0 : Int32) &&& 31)).toInt8.toInt32)) (.int ((k1 >>> ((8 : Int32) &&& 31)).toInt8.toInt32)) (.int (0 : Int32)) (.int (0 : Int32)) (.int (0 : Int32)) (.int (0 : Int32)) (.int (0 : Int32)) (.int (0 : Int32)) (.int (0 : Int32)) (.int (0 : Int32)) h8 n0 Z8 VV8 g_r1 S_AD__8 S_HI__8 S_LO__8) hZ (hw _ (List.mem_of_getElem? (i := 113) rfl)) (hw _ (List.mem_of_getElem? (i := 18) rfl)) (by decide) (by decide)) (g := (mkF m 20 #[.val (.ref o0), .val (.int (2 : Int32)), .val (.int (6 : Int32)), .val (.ref r1), .val (.int (2 : Int32))] [(.int k2), (.int (2 : Int32)), (.ref r1)])) rfl (by rw [hml]; rfl) (argsL := [(.ref r1), (.int (2 : Int32)), (.int k2)]) (rest := []) (lenOf pd_9 rfl) rfl (by show 2 * 0 + _ ≤ _; exact Nat.le_of_eq rfl) (hb hby d20_20) (fun _ _ => ⟨rfl, e8, (by decide : 1 + 0 ≤ _), (by decide : 12 + 0 ≤ _)⟩)
  dsimp only [Pt.U, Pt.locs, Pt.cells, Pt.slots] at X11 l11 y11 z11 st11 hQ11
  subst l11 y11 z11
  generalize e11 : T11.heap = h11 at hQ11
  obtain ⟨rfl, N11q, K11, VV11⟩ := hQ11
  have N11 := Fr.app N8 N11q
  refine Go.st st11 ?_
  have V_o0__11 := V_o0__8.keep K11 (ninS ne2 (nin0))
  have S_AD__11 := own_sta S_AD__8 K11 (allS (own_arvcell VV8) (all0))
  have S_HI__11 := own_sta S_HI__8 K11 (allS (own_arvcell VV8) (all0))
  have S_LO__11 := own_sta S_LO__8 K11 (allS (own_arvcell VV8) (all0))
  have Z11 : n0 ≤ h11.size := Nat.le_trans Z8 K11.1
  have KK11 : Keep h0 h11 [] := KK8.trans K11 (allS (Or.inr sz_r1) (all0))
  show Go _ _ _ _ _ _ _ T11 (mkF m 23 #[.val (.ref o0), .val (.int (2 : Int32)), .val (.int (6 : Int32)), .val (.ref r1), .val (.int (2 : Int32))] [])
  refine Go.st (fun _ k => XS.iinc X11.here hx rfl (hb hby d20_23) rfl (l' := #[.val (.ref o0), .val (.int ((2 : Int32) + (1 : Int32))), .val (.int (6 : Int32)), .val (.ref r1), .val (.int (2 : Int32))]) rfl k) ?_
  show Go _ _ _ _ _ _ _ T11 (mkF m 26 #[.val (.ref o0), .val (.int ((2 : Int32) + (1 : Int32))), .val (.int (6 : Int32)), .val (.ref r1), .val (.int (2 : Int32))] [])
  refine Go.fr (f' := (mkF m 26 #[.val (.ref o0), .val (.int (3 : Int32)), .val (.int (6 : Int32)), .val (.ref r1), .val (.int (2 : Int32))] [])) (by rw [show ((2 : Int32) + (1 : Int32)) = (3 : Int32) from by decide +kernel]) ?_
  show Go _ _ _ _ _ _ _ T11 (mkF m 26 #[.val (.ref o0), .val (.int (3 : Int32)), .val (.int (6 : Int32)), .val (.ref r1), .val (.int (2 : Int32))] [])
  refine Go.st (fun _ k => XS.iinc X11.here hx rfl (hb hby d20_26) rfl (l' := #[.val (.ref o0), .val (.int (3 : Int32)), .val (.int (6 : Int32)), .val (.ref r1), .val (.int ((2 : Int32) + (1 : Int32)))]) rfl k) ?_
  show Go _ _ _ _ _ _ _ T11 (mkF m 29 #[.val (.ref o0), .val (.int (3 : Int32)), .val (.int (6 : Int32)), .val (.ref r1), .val (.int ((2 : Int32) + (1 : Int32)))] [])
  refine Go.fr (f' := (mkF m 29 #[.val (.ref o0), .val (.int (3 : Int32)), .val (.int (6 : Int32)), .val (.ref r1), .val (.int (3 : Int32))] [])) (by rw [show ((2 : Int32) + (1 : Int32)) = (3 : Int32) from by decide +kernel]) ?_
  show Go _ _ _ _ _ _ _ T11 (mkF m 29 #[.val (.ref o0), .val (.int (3 : Int32)), .val (.int (6 : Int32)), .val (.ref r1), .val (.int (3 : Int32))] [])
  refine Go.st (fun _ k => XS.goto X11.here hx rfl (pc0 := 29) (pc' := 8) rfl (hb hby d20_29) (by decide) (by decide) k) ?_
  show Go _ _ _ _ _ _ _ T11 (mkF m 8 #[.val (.ref o0), .val (.int (3 : Int32)), .val (.int (6 : Int32)), .val (.ref r1), .val (.int (3 : Int32))] [])
  refine Go.st (fun _ k => XS.iload X11.here hx rfl (hb hby d20_8) rfl k) ?_
  show Go _ _ _ _ _ _ _ T11 (mkF m 10 #[.val (.ref o0), .val (.int (3 : Int32)), .val (.int (6 : Int32)), .val (.ref r1), .val (.int (3 : Int32))] [(.int (3 : Int32))])
  refine Go.st (fun _ k => XS.iloadN X11.here hx rfl (hb hby d20_10) rfl k) ?_
  show Go _ _ _ _ _ _ _ T11 (mkF m 11 #[.val (.ref o0), .val (.int (3 : Int32)), .val (.int (6 : Int32)), .val (.ref r1), .val (.int (3 : Int32))] [(.int (6 : Int32)), (.int (3 : Int32))])
  refine Go.st (fun _ k => XS.icmpNo X11.here hx rfl (hb hby d20_11) rfl (tlt (by decide : (3 : Int32) < (6 : Int32))).2.1 k) ?_
  show Go _ _ _ _ _ _ _ T11 (mkF m 14 #[.val (.ref o0), .val (.int (3 : Int32)), .val (.int (6 : Int32)), .val (.ref r1), .val (.int (3 : Int32))] [])
  refine Go.st (fun _ k => XS.aloadN X11.here hx rfl (hb hby d20_14) rfl rfl k) ?_
  show Go _ _ _ _ _ _ _ T11 (mkF m 15 #[.val (.ref o0), .val (.int (3 : Int32)), .val (.int (6 : Int32)), .val (.ref r1), .val (.int (3 : Int32))] [(.ref r1)])
  refine Go.st (fun _ k => XS.iload X11.here hx rfl (hb hby d20_15) rfl k) ?_
  show Go _ _ _ _ _ _ _ T11 (mkF m 17 #[.val (.ref o0), .val (.int (3 : Int32)), .val (.int (6 : Int32)), .val (.ref r1), .val (.int (3 : Int32))] [(.int (3 : Int32)), (.ref r1)])
  refine Go.st (fun _ k => XS.aloadN X11.here hx rfl (hb hby d20_17) rfl rfl k) ?_
  show Go _ _ _ _ _ _ _ T11 (mkF m 18 #[.val (.ref o0), .val (.int (3 : Int32)), .val (.int (6 : Int32)), .val (.ref r1), .val (.int (3 : Int32))] [(.ref o0), (.int (3 : Int32)), (.ref r1)])
  refine Go.st (fun _ k => XS.iloadN X11.here hx rfl (hb hby d20_18) rfl k) ?_
  show Go _ _ _ _ _ _ _ T11 (mkF m 19 #[.val (.ref o0), .val (.int (3 : Int32)), .val (.int (6 : Int32)), .val (.ref r1), .val (.int (3 : Int32))] [(.int (3 : Int32)), (.ref o0), (.int (3 : Int32)), (.ref r1)])
  obtain ⟨cl12, Ar12, qq12, SS12, NN12, HH12, GG12⟩ := id V_o0__11
  have hin13 : ¬ ((3 : Int32) < 0 ∨ cl12.slots.size ≤ ((3 : Int32)).toNatClampNeg) := inb_of SS12 ⟨by decide, by decide⟩
  refine Go.st (fun _ k => X11.caload hx (j := (3 : Int32)) (v := (.int k3)) (by rw [e11]; exact Ar12.1) (State.isArrayOf_alike hZ.alike Ar12.2.1) Ar12.2.2 hin13 (HH12.at hin13 rfl) (g := (mkF m 19 #[.val (.ref o0), .val (.int (3 : Int32)), .val (.int (6 : Int32)), .val (.ref r1), .val (.int (3 : Int32))] [(.int (3 : Int32)), (.ref o0), (.int (3 : Int32)), (.ref r1)])) rfl rfl (hb hby d20_19) _ k) ?_
  show Go _ _ _ _ _ _ _ T11 (mkF m 20 #[.val (.ref o0), .val (.int (3 : Int32)), .val (.int (6 : Int32)), .val (.ref r1), .val (.int (3 : Int32))] [(.int k3), (.int (3 : Int32)), (.ref r1)])
  obtain ⟨_, _, ⟨T14, L14, ck14, cn14⟩, -, X14, ⟨Lc14, hQ14, l14, y14, z14⟩, st14⟩ := Jvm.LawKit.callS X11 hx (y := (⟨"java/lang/StringUTF16", "putChar", "([BII)V"⟩ : MethodName)) hown (mvT hZ (hw _ (List.mem_of_getElem? (i := 111) rfl))) (mvT hZ (hw _ (List.mem_of_getElem? (i := 112) rfl))) (mvT hZ (hw _ (List.mem_of_getElem? (i := 18) rfl))) (mvT hZ (hw _ (List.mem_of_getElem? (i := 113) rfl))) (by decide) (backOf (W := 0) (rm23_3 l Z a0 hw [] r1 k3 kb1 (.int ((k0 >>> ((0 : Int32) &&& 31)).toInt8.toInt32)) (.int ((k0 >>> ((8 : Int32) &&& 31)).toInt8.toInt32)) (.int ((k1 >>> ((0 : Int32) &&& 31)).toInt8.toInt32)) (.int ((k1 >>> ((8 : Int32) &&& 31)).toInt8.toInt32)) (.int ((k2 >>> ((0 : Int32) &&& 31)).toInt8.toInt32)) (.int ((k2 >>> ((8 : Int32) &&& 31)).toInt8.toInt32)) (.int (0 : Int32)) (.int (0 : Int32)) (.int (0 : Int32)) (.int (0 : Int32)) (.int (0 : Int32)) (.int (0 : Int32)) h11 n0 Z11 VV11 g_r1 S_AD__11 S_HI__11 S_LO__11) hZ (hw _ (List.mem_of_getElem? (i := 113) rfl)) (hw _ (List.mem_of_getElem? (i := 18) rfl)) (by decide) (by decide)) (g := (mkF m 20 #[.val (.ref o0), .val (.int (3 : Int32)), .val (.int (6 : Int32)), .val (.ref r1), .val (.int (3 : Int32))] [(.int k3), (.int (3 : Int32)), (.ref r1)])) rfl (by rw [hml]; rfl) (argsL := [(.ref r1), (.int (3 : Int32)), (.int k3)]) (rest := []) (lenOf pd_9 rfl) rfl (by show 2 * 0 + _ ≤ _; exact Nat.le_of_eq rfl) (hb hby d20_20) (fun _ _ => ⟨rfl, e11, (by decide : 1 + 0 ≤ _), (by decide : 12 + 0 ≤ _)⟩)
  dsimp only [Pt.U, Pt.locs, Pt.cells, Pt.slots] at X14 l14 y14 z14 st14 hQ14
  subst l14 y14 z14
  generalize e14 : T14.heap = h14 at hQ14
  obtain ⟨rfl, N14q, K14, VV14⟩ := hQ14
  have N14 := Fr.app N11 N14q
  refine Go.st st14 ?_
  have V_o0__14 := V_o0__11.keep K14 (ninS ne2 (nin0))
  have S_AD__14 := own_sta S_AD__11 K14 (allS (own_arvcell VV11) (all0))
  have S_HI__14 := own_sta S_HI__11 K14 (allS (own_arvcell VV11) (all0))
  have S_LO__14 := own_sta S_LO__11 K14 (allS (own_arvcell VV11) (all0))
  have Z14 : n0 ≤ h14.size := Nat.le_trans Z11 K14.1
  have KK14 : Keep h0 h14 [] := KK11.trans K14 (allS (Or.inr sz_r1) (all0))
  show Go _ _ _ _ _ _ _ T14 (mkF m 23 #[.val (.ref o0), .val (.int (3 : Int32)), .val (.int (6 : Int32)), .val (.ref r1), .val (.int (3 : Int32))] [])
  refine Go.st (fun _ k => XS.iinc X14.here hx rfl (hb hby d20_23) rfl (l' := #[.val (.ref o0), .val (.int ((3 : Int32) + (1 : Int32))), .val (.int (6 : Int32)), .val (.ref r1), .val (.int (3 : Int32))]) rfl k) ?_
  show Go _ _ _ _ _ _ _ T14 (mkF m 26 #[.val (.ref o0), .val (.int ((3 : Int32) + (1 : Int32))), .val (.int (6 : Int32)), .val (.ref r1), .val (.int (3 : Int32))] [])
  refine Go.fr (f' := (mkF m 26 #[.val (.ref o0), .val (.int (4 : Int32)), .val (.int (6 : Int32)), .val (.ref r1), .val (.int (3 : Int32))] [])) (by rw [show ((3 : Int32) + (1 : Int32)) = (4 : Int32) from by decide +kernel]) ?_
  show Go _ _ _ _ _ _ _ T14 (mkF m 26 #[.val (.ref o0), .val (.int (4 : Int32)), .val (.int (6 : Int32)), .val (.ref r1), .val (.int (3 : Int32))] [])
  refine Go.st (fun _ k => XS.iinc X14.here hx rfl (hb hby d20_26) rfl (l' := #[.val (.ref o0), .val (.int (4 : Int32)), .val (.int (6 : Int32)), .val (.ref r1), .val (.int ((3 : Int32) + (1 : Int32)))]) rfl k) ?_
  show Go _ _ _ _ _ _ _ T14 (mkF m 29 #[.val (.ref o0), .val (.int (4 : Int32)), .val (.int (6 : Int32)), .val (.ref r1), .val (.int ((3 : Int32) + (1 : Int32)))] [])
  refine Go.fr (f' := (mkF m 29 #[.val (.ref o0), .val (.int (4 : Int32)), .val (.int (6 : Int32)), .val (.ref r1), .val (.int (4 : Int32))] [])) (by rw [show ((3 : Int32) + (1 : Int32)) = (4 : Int32) from by decide +kernel]) ?_
  show Go _ _ _ _ _ _ _ T14 (mkF m 29 #[.val (.ref o0), .val (.int (4 : Int32)), .val (.int (6 : Int32)), .val (.ref r1), .val (.int (4 : Int32))] [])
  refine Go.st (fun _ k => XS.goto X14.here hx rfl (pc0 := 29) (pc' := 8) rfl (hb hby d20_29) (by decide) (by decide) k) ?_
  show Go _ _ _ _ _ _ _ T14 (mkF m 8 #[.val (.ref o0), .val (.int (4 : Int32)), .val (.int (6 : Int32)), .val (.ref r1), .val (.int (4 : Int32))] [])
  refine Go.st (fun _ k => XS.iload X14.here hx rfl (hb hby d20_8) rfl k) ?_
  show Go _ _ _ _ _ _ _ T14 (mkF m 10 #[.val (.ref o0), .val (.int (4 : Int32)), .val (.int (6 : Int32)), .val (.ref r1), .val (.int (4 : Int32))] [(.int (4 : Int32))])
  refine Go.st (fun _ k => XS.iloadN X14.here hx rfl (hb hby d20_10) rfl k) ?_
  show Go _ _ _ _ _ _ _ T14 (mkF m 11 #[.val (.ref o0), .val (.int (4 : Int32)), .val (.int (6 : Int32)), .val (.ref r1), .val (.int (4 : Int32))] [(.int (6 : Int32)), (.int (4 : Int32))])
  refine Go.st (fun _ k => XS.icmpNo X14.here hx rfl (hb hby d20_11) rfl (tlt (by decide : (4 : Int32) < (6 : Int32))).2.1 k) ?_
  show Go _ _ _ _ _ _ _ T14 (mkF m 14 #[.val (.ref o0), .val (.int (4 : Int32)), .val (.int (6 : Int32)), .val (.ref r1), .val (.int (4 : Int32))] [])
  refine Go.st (fun _ k => XS.aloadN X14.here hx rfl (hb hby d20_14) rfl rfl k) ?_
  show Go _ _ _ _ _ _ _ T14 (mkF m 15 #[.val (.ref o0), .val (.int (4 : Int32)), .val (.int (6 : Int32)), .val (.ref r1), .val (.int (4 : Int32))] [(.ref r1)])
  refine Go.st (fun _ k => XS.iload X14.here hx rfl (hb hby d20_15) rfl k) ?_
  show Go _ _ _ _ _ _ _ T14 (mkF m 17 #[.val (.ref o0), .val (.int (4 : Int32)), .val (.int (6 : Int32)), .val (.ref r1), .val (.int (4 : Int32))] [(.int (4 : Int32)), (.ref r1)])
  refine Go.st (fun _ k => XS.aloadN X14.here hx rfl (hb hby d20_17) rfl rfl k) ?_
  show Go _ _ _ _ _ _ _ T14 (mkF m 18 #[.val (.ref o0), .val (.int (4 : Int32)), .val (.int (6 : Int32)), .val (.ref r1), .val (.int (4 : Int32))] [(.ref o0), (.int (4 : Int32)), (.ref r1)])
  refine Go.st (fun _ k => XS.iloadN X14.here hx rfl (hb hby d20_18) rfl k) ?_
  show Go _ _ _ _ _ _ _ T14 (mkF m 19 #[.val (.ref o0), .val (.int (4 : Int32)), .val (.int (6 : Int32)), .val (.ref r1), .val (.int (4 : Int32))] [(.int (4 : Int32)), (.ref o0), (.int (4 : Int32)), (.ref r1)])
  obtain ⟨cl15, Ar15, qq15, SS15, NN15, HH15, GG15⟩ := id V_o0__14
  have hin16 : ¬ ((4 : Int32) < 0 ∨ cl15.slots.size ≤ ((4 : Int32)).toNatClampNeg) := inb_of SS15 ⟨by decide, by decide⟩
  refine Go.st (fun _ k => X14.caload hx (j := (4 : Int32)) (v := (.int k4)) (by rw [e14]; exact Ar15.1) (State.isArrayOf_alike hZ.alike Ar15.2.1) Ar15.2.2 hin16 (HH15.at hin16 rfl) (g := (mkF m 19 #[.val (.ref o0), .val (.int (4 : Int32)), .val (.int (6 : Int32)), .val (.ref r1), .val (.int (4 : Int32))] [(.int (4 : Int32)), (.ref o0), (.int (4 : Int32)), (.ref r1)])) rfl rfl (hb hby d20_19) _ k) ?_
  show Go _ _ _ _ _ _ _ T14 (mkF m 20 #[.val (.ref o0), .val (.int (4 : Int32)), .val (.int (6 : Int32)), .val (.ref r1), .val (.int (4 : Int32))] [(.int k4), (.int (4 : Int32)), (.ref r1)])
  obtain ⟨_, _, ⟨T17, L17, ck17, cn17⟩, -, X17, ⟨Lc17, hQ17, l17, y17, z17⟩, st17⟩ := Jvm.LawKit.callS X14 hx (y := (⟨"java/lang/StringUTF16", "putChar", "([BII)V"⟩ : MethodName)) hown (mvT hZ (hw _ (List.mem_of_getElem? (i := 111) rfl))) (mvT hZ (hw _ (List.mem_of_getElem? (i := 112) rfl))) (mvT hZ (hw _ (List.mem_of_getElem? (i := 18) rfl))) (mvT hZ (hw _ (List.mem_of_getElem? (i := 113) rfl))) (by decide) (backOf (W := 0) (rm23_4 l Z a0 hw [] r1 k4 kb1 (.int ((k0 >>> ((0 : Int32) &&& 31)).toInt8.toInt32)) (.int ((k0 >>> ((8 : Int32) &&& 31)).toInt8.toInt32)) (.int ((k1 >>> ((0 : Int32) &&& 31)).toInt8.toInt32)) (.int ((k1 >>> ((8 : Int32) &&& 31)).toInt8.toInt32)) (.int ((k2 >>> ((0 : Int32) &&& 31)).toInt8.toInt32)) (.int ((k2 >>> ((8 : Int32) &&& 31)).toInt8.toInt32)) (.int ((k3 >>> ((0 : Int32) &&& 31)).toInt8.toInt32)) (.int ((k3 >>> ((8 : Int32) &&& 31)).toInt8.toInt32)) (.int (0 : Int32)) (.int (0 : Int32)) (.int (0 : Int32)) (.int (0 : Int32)) h14 n0 Z14 VV14 g_r1 S_AD__14 S_HI__14 S_LO__14) hZ (hw _ (List.mem_of_getElem? (i := 113) rfl)) (hw _ (List.mem_of_getElem? (i := 18) rfl)) (by decide) (by decide)) (g := (mkF m 20 #[.val (.ref o0), .val (.int (4 : Int32)), .val (.int (6 : Int32)), .val (.ref r1), .val (.int (4 : Int32))] [(.int k4), (.int (4 : Int32)), (.ref r1)])) rfl (by rw [hml]; rfl) (argsL := [(.ref r1), (.int (4 : Int32)), (.int k4)]) (rest := []) (lenOf pd_9 rfl) rfl (by show 2 * 0 + _ ≤ _; exact Nat.le_of_eq rfl) (hb hby d20_20) (fun _ _ => ⟨rfl, e14, (by decide : 1 + 0 ≤ _), (by decide : 12 + 0 ≤ _)⟩)
  dsimp only [Pt.U, Pt.locs, Pt.cells, Pt.slots] at X17 l17 y17 z17 st17 hQ17
  subst l17 y17 z17
  generalize e17 : T17.heap = h17 at hQ17
  obtain ⟨rfl, N17q, K17, VV17⟩ := hQ17
  have N17 := Fr.app N14 N17q
  refine Go.st st17 ?_
  have V_o0__17 := V_o0__14.keep K17 (ninS ne2 (nin0))
  have S_AD__17 := own_sta S_AD__14 K17 (allS (own_arvcell VV14) (all0))
  have S_HI__17 := own_sta S_HI__14 K17 (allS (own_arvcell VV14) (all0))
  have S_LO__17 := own_sta S_LO__14 K17 (allS (own_arvcell VV14) (all0))
  have Z17 : n0 ≤ h17.size := Nat.le_trans Z14 K17.1
  have KK17 : Keep h0 h17 [] := KK14.trans K17 (allS (Or.inr sz_r1) (all0))
  show Go _ _ _ _ _ _ _ T17 (mkF m 23 #[.val (.ref o0), .val (.int (4 : Int32)), .val (.int (6 : Int32)), .val (.ref r1), .val (.int (4 : Int32))] [])
  refine Go.st (fun _ k => XS.iinc X17.here hx rfl (hb hby d20_23) rfl (l' := #[.val (.ref o0), .val (.int ((4 : Int32) + (1 : Int32))), .val (.int (6 : Int32)), .val (.ref r1), .val (.int (4 : Int32))]) rfl k) ?_
  show Go _ _ _ _ _ _ _ T17 (mkF m 26 #[.val (.ref o0), .val (.int ((4 : Int32) + (1 : Int32))), .val (.int (6 : Int32)), .val (.ref r1), .val (.int (4 : Int32))] [])
  refine Go.fr (f' := (mkF m 26 #[.val (.ref o0), .val (.int (5 : Int32)), .val (.int (6 : Int32)), .val (.ref r1), .val (.int (4 : Int32))] [])) (by rw [show ((4 : Int32) + (1 : Int32)) = (5 : Int32) from by decide +kernel]) ?_
  show Go _ _ _ _ _ _ _ T17 (mkF m 26 #[.val (.ref o0), .val (.int (5 : Int32)), .val (.int (6 : Int32)), .val (.ref r1), .val (.int (4 : Int32))] [])
  refine Go.st (fun _ k => XS.iinc X17.here hx rfl (hb hby d20_26) rfl (l' := #[.val (.ref o0), .val (.int (5 : Int32)), .val (.int (6 : Int32)), .val (.ref r1), .val (.int ((4 : Int32) + (1 : Int32)))]) rfl k) ?_
  show Go _ _ _ _ _ _ _ T17 (mkF m 29 #[.val (.ref o0), .val (.int (5 : Int32)), .val (.int (6 : Int32)), .val (.ref r1), .val (.int ((4 : Int32) + (1 : Int32)))] [])
  refine Go.fr (f' := (mkF m 29 #[.val (.ref o0), .val (.int (5 : Int32)), .val (.int (6 : Int32)), .val (.ref r1), .val (.int (5 : Int32))] [])) (by rw [show ((4 : Int32) + (1 : Int32)) = (5 : Int32) from by decide +kernel]) ?_
  show Go _ _ _ _ _ _ _ T17 (mkF m 29 #[.val (.ref o0), .val (.int (5 : Int32)), .val (.int (6 : Int32)), .val (.ref r1), .val (.int (5 : Int32))] [])
  refine Go.st (fun _ k => XS.goto X17.here hx rfl (pc0 := 29) (pc' := 8) rfl (hb hby d20_29) (by decide) (by decide) k) ?_
  show Go _ _ _ _ _ _ _ T17 (mkF m 8 #[.val (.ref o0), .val (.int (5 : Int32)), .val (.int (6 : Int32)), .val (.ref r1), .val (.int (5 : Int32))] [])
  refine Go.st (fun _ k => XS.iload X17.here hx rfl (hb hby d20_8) rfl k) ?_
  show Go _ _ _ _ _ _ _ T17 (mkF m 10 #[.val (.ref o0), .val (.int (5 : Int32)), .val (.int (6 : Int32)), .val (.ref r1), .val (.int (5 : Int32))] [(.int (5 : Int32))])
  refine Go.st (fun _ k => XS.iloadN X17.here hx rfl (hb hby d20_10) rfl k) ?_
  show Go _ _ _ _ _ _ _ T17 (mkF m 11 #[.val (.ref o0), .val (.int (5 : Int32)), .val (.int (6 : Int32)), .val (.ref r1), .val (.int (5 : Int32))] [(.int (6 : Int32)), (.int (5 : Int32))])
  refine Go.st (fun _ k => XS.icmpNo X17.here hx rfl (hb hby d20_11) rfl (tlt (by decide : (5 : Int32) < (6 : Int32))).2.1 k) ?_
  show Go _ _ _ _ _ _ _ T17 (mkF m 14 #[.val (.ref o0), .val (.int (5 : Int32)), .val (.int (6 : Int32)), .val (.ref r1), .val (.int (5 : Int32))] [])
  refine Go.st (fun _ k => XS.aloadN X17.here hx rfl (hb hby d20_14) rfl rfl k) ?_
  show Go _ _ _ _ _ _ _ T17 (mkF m 15 #[.val (.ref o0), .val (.int (5 : Int32)), .val (.int (6 : Int32)), .val (.ref r1), .val (.int (5 : Int32))] [(.ref r1)])
  refine Go.st (fun _ k => XS.iload X17.here hx rfl (hb hby d20_15) rfl k) ?_
  show Go _ _ _ _ _ _ _ T17 (mkF m 17 #[.val (.ref o0), .val (.int (5 : Int32)), .val (.int (6 : Int32)), .val (.ref r1), .val (.int (5 : Int32))] [(.int (5 : Int32)), (.ref r1)])
  refine Go.st (fun _ k => XS.aloadN X17.here hx rfl (hb hby d20_17) rfl rfl k) ?_
  show Go _ _ _ _ _ _ _ T17 (mkF m 18 #[.val (.ref o0), .val (.int (5 : Int32)), .val (.int (6 : Int32)), .val (.ref r1), .val (.int (5 : Int32))] [(.ref o0), (.int (5 : Int32)), (.ref r1)])
  refine Go.st (fun _ k => XS.iloadN X17.here hx rfl (hb hby d20_18) rfl k) ?_
  show Go _ _ _ _ _ _ _ T17 (mkF m 19 #[.val (.ref o0), .val (.int (5 : Int32)), .val (.int (6 : Int32)), .val (.ref r1), .val (.int (5 : Int32))] [(.int (5 : Int32)), (.ref o0), (.int (5 : Int32)), (.ref r1)])
  obtain ⟨cl18, Ar18, qq18, SS18, NN18, HH18, GG18⟩ := id V_o0__17
  have hin19 : ¬ ((5 : Int32) < 0 ∨ cl18.slots.size ≤ ((5 : Int32)).toNatClampNeg) := inb_of SS18 ⟨by decide, by decide⟩
  refine Go.st (fun _ k => X17.caload hx (j := (5 : Int32)) (v := (.int k5)) (by rw [e17]; exact Ar18.1) (State.isArrayOf_alike hZ.alike Ar18.2.1) Ar18.2.2 hin19 (HH18.at hin19 rfl) (g := (mkF m 19 #[.val (.ref o0), .val (.int (5 : Int32)), .val (.int (6 : Int32)), .val (.ref r1), .val (.int (5 : Int32))] [(.int (5 : Int32)), (.ref o0), (.int (5 : Int32)), (.ref r1)])) rfl rfl (hb hby d20_19) _ k) ?_
  show Go _ _ _ _ _ _ _ T17 (mkF m 20 #[.val (.ref o0), .val (.int (5 : Int32)), .val (.int (6 : Int32)), .val (.ref r1), .val (.int (5 : Int32))] [(.int k5), (.int (5 : Int32)), (.ref r1)])
  obtain ⟨_, _, ⟨T20, L20, ck20, cn20⟩, -, X20, ⟨Lc20, hQ20, l20, y20, z20⟩, st20⟩ := Jvm.LawKit.callS X17 hx (y := (⟨"java/lang/StringUTF16", "putChar", "([BII)V"⟩ : MethodName)) hown (mvT hZ (hw _ (List.mem_of_getElem? (i := 111) rfl))) (mvT hZ (hw _ (List.mem_of_getElem? (i := 112) rfl))) (mvT hZ (hw _ (List.mem_of_getElem? (i := 18) rfl))) (mvT hZ (hw _ (List.mem_of_getElem? (i := 113) rfl))) (by decide) (backOf (W := 0) (rm23_5 l Z a0 hw [] r1 k5 kb1 (.int ((k0 >>> ((0 : Int32) &&& 31)).toInt8.toInt32)) (.int ((k0 >>> ((8 : Int32) &&& 31)).toInt8.toInt32)) (.int ((k1 >>> ((0 : Int32) &&& 31)).toInt8.toInt32)) (.int ((k1 >>> ((8 : Int32) &&& 31)).toInt8.toInt32)) (.int ((k2 >>> ((0 : Int32) &&& 31)).toInt8.toInt32)) (.int ((k2 >>> ((8 : Int32) &&& 31)).toInt8.toInt32)) (.int ((k3 >>> ((0 : Int32) &&& 31)).toInt8.toInt32)) (.int ((k3 >>> ((8 : Int32) &&& 31)).toInt8.toInt32)) (.int ((k4 >>> ((0 : Int32) &&& 31)).toInt8.toInt32)) (.int ((k4 >>> ((8 : Int32) &&& 31)).toInt8.toInt32)) (.int (0 : Int32)) (.int (0 : Int32)) h17 n0 Z17 VV17 g_r1 S_AD__17 S_HI__17 S_LO__17) hZ (hw _ (List.mem_of_getElem? (i := 113) rfl)) (hw _ (List.mem_of_getElem? (i := 18) rfl)) (by decide) (by decide)) (g := (mkF m 20 #[.val (.ref o0), .val (.int (5 : Int32)), .val (.int (6 : Int32)), .val (.ref r1), .val (.int (5 : Int32))] [(.int k5), (.int (5 : Int32)), (.ref r1)])) rfl (by rw [hml]; rfl) (argsL := [(.ref r1), (.int (5 : Int32)), (.int k5)]) (rest := []) (lenOf pd_9 rfl) rfl (by show 2 * 0 + _ ≤ _; exact Nat.le_of_eq rfl) (hb hby d20_20) (fun _ _ => ⟨rfl, e17, (by decide : 1 + 0 ≤ _), (by decide : 12 + 0 ≤ _)⟩)
  dsimp only [Pt.U, Pt.locs, Pt.cells, Pt.slots] at X20 l20 y20 z20 st20 hQ20
  subst l20 y20 z20
  generalize e20 : T20.heap = h20 at hQ20
  obtain ⟨rfl, N20q, K20, VV20⟩ := hQ20
  have N20 := Fr.app N17 N20q
  refine Go.st st20 ?_
  have V_o0__20 := V_o0__17.keep K20 (ninS ne2 (nin0))
  have S_AD__20 := own_sta S_AD__17 K20 (allS (own_arvcell VV17) (all0))
  have S_HI__20 := own_sta S_HI__17 K20 (allS (own_arvcell VV17) (all0))
  have S_LO__20 := own_sta S_LO__17 K20 (allS (own_arvcell VV17) (all0))
  have Z20 : n0 ≤ h20.size := Nat.le_trans Z17 K20.1
  have KK20 : Keep h0 h20 [] := KK17.trans K20 (allS (Or.inr sz_r1) (all0))
  show Go _ _ _ _ _ _ _ T20 (mkF m 23 #[.val (.ref o0), .val (.int (5 : Int32)), .val (.int (6 : Int32)), .val (.ref r1), .val (.int (5 : Int32))] [])
  refine Go.st (fun _ k => XS.iinc X20.here hx rfl (hb hby d20_23) rfl (l' := #[.val (.ref o0), .val (.int ((5 : Int32) + (1 : Int32))), .val (.int (6 : Int32)), .val (.ref r1), .val (.int (5 : Int32))]) rfl k) ?_
  show Go _ _ _ _ _ _ _ T20 (mkF m 26 #[.val (.ref o0), .val (.int ((5 : Int32) + (1 : Int32))), .val (.int (6 : Int32)), .val (.ref r1), .val (.int (5 : Int32))] [])
  refine Go.fr (f' := (mkF m 26 #[.val (.ref o0), .val (.int (6 : Int32)), .val (.int (6 : Int32)), .val (.ref r1), .val (.int (5 : Int32))] [])) (by rw [show ((5 : Int32) + (1 : Int32)) = (6 : Int32) from by decide +kernel]) ?_
  show Go _ _ _ _ _ _ _ T20 (mkF m 26 #[.val (.ref o0), .val (.int (6 : Int32)), .val (.int (6 : Int32)), .val (.ref r1), .val (.int (5 : Int32))] [])
  refine Go.st (fun _ k => XS.iinc X20.here hx rfl (hb hby d20_26) rfl (l' := #[.val (.ref o0), .val (.int (6 : Int32)), .val (.int (6 : Int32)), .val (.ref r1), .val (.int ((5 : Int32) + (1 : Int32)))]) rfl k) ?_
  show Go _ _ _ _ _ _ _ T20 (mkF m 29 #[.val (.ref o0), .val (.int (6 : Int32)), .val (.int (6 : Int32)), .val (.ref r1), .val (.int ((5 : Int32) + (1 : Int32)))] [])
  refine Go.fr (f' := (mkF m 29 #[.val (.ref o0), .val (.int (6 : Int32)), .val (.int (6 : Int32)), .val (.ref r1), .val (.int (6 : Int32))] [])) (by rw [show ((5 : Int32) + (1 : Int32)) = (6 : Int32) from by decide +kernel]) ?_
  show Go _ _ _ _ _ _ _ T20 (mkF m 29 #[.val (.ref o0), .val (.int (6 : Int32)), .val (.int (6 : Int32)), .val (.ref r1), .val (.int (6 : Int32))] [])
  refine Go.st (fun _ k => XS.goto X20.here hx rfl (pc0 := 29) (pc' := 8) rfl (hb hby d20_29) (by decide) (by decide) k) ?_
  show Go _ _ _ _ _ _ _ T20 (mkF m 8 #[.val (.ref o0), .val (.int (6 : Int32)), .val (.int (6 : Int32)), .val (.ref r1), .val (.int (6 : Int32))] [])
  refine Go.st (fun _ k => XS.iload X20.here hx rfl (hb hby d20_8) rfl k) ?_
  show Go _ _ _ _ _ _ _ T20 (mkF m 10 #[.val (.ref o0), .val (.int (6 : Int32)), .val (.int (6 : Int32)), .val (.ref r1), .val (.int (6 : Int32))] [(.int (6 : Int32))])
  refine Go.st (fun _ k => XS.iloadN X20.here hx rfl (hb hby d20_10) rfl k) ?_
  show Go _ _ _ _ _ _ _ T20 (mkF m 11 #[.val (.ref o0), .val (.int (6 : Int32)), .val (.int (6 : Int32)), .val (.ref r1), .val (.int (6 : Int32))] [(.int (6 : Int32)), (.int (6 : Int32))])
  refine Go.st (fun _ k => XS.icmpYes X20.here hx rfl (pc0 := 11) (pc' := 32) rfl (hb hby d20_11) rfl (flt (by decide : ¬ ((6 : Int32) < (6 : Int32)))).2.1 (by decide) (by decide) k) ?_
  show Go _ _ _ _ _ _ _ T20 (mkF m 32 #[.val (.ref o0), .val (.int (6 : Int32)), .val (.int (6 : Int32)), .val (.ref r1), .val (.int (6 : Int32))] [])
  refine Go.st (fun _ k => XS.aloadN X20.here hx rfl (hb hby d20_32) rfl rfl k) ?_
  show Go _ _ _ _ _ _ _ T20 (mkF m 33 #[.val (.ref o0), .val (.int (6 : Int32)), .val (.int (6 : Int32)), .val (.ref r1), .val (.int (6 : Int32))] [(.ref r1)])
  refine Go.ret X20 hlk (v := some (.ref r1)) (fun h => by rw [hret] at h; cases h) (fun fs hr => retOut X20 hx (i := .areturn) hret rfl (Or.inr (Or.inr (Or.inr (Or.inr ⟨rfl, rfl, rfl⟩)))) (hb hby d20_33) hr) ?_ (by decide) (by decide)
  show Q20 Z o0 kc k0 k1 k2 k3 k4 k5 h0 n0 (some (.ref r1)) T20.heap _
  rw [e20]
  exact ⟨r1, kb1, rfl, N20, KK20, sz_r1, VV20⟩
def ndW (k0 k1 k2 k3 k4 k5 : Int32) : Int32 := if (255 : Int32) < k0 then 0 else if (255 : Int32) < k1 then 1 else if (255 : Int32) < k2 then 2 else if (255 : Int32) < k3 then 3 else if (255 : Int32) < k4 then 4 else if (255 : Int32) < k5 then 5 else 6
theorem own_nd (k0 k1 k2 k3 k4 k5 : Int32) : (ndW k0 k1 k2 k3 k4 k5 = 6 ∧ Lat k0 k1 k2 k3 k4 k5) ∨ ((ndW k0 k1 k2 k3 k4 k5 = 0 ∨ ndW k0 k1 k2 k3 k4 k5 = 1 ∨ ndW k0 k1 k2 k3 k4 k5 = 2 ∨ ndW k0 k1 k2 k3 k4 k5 = 3 ∨ ndW k0 k1 k2 k3 k4 k5 = 4 ∨ ndW k0 k1 k2 k3 k4 k5 = 5) ∧ (255 : Int32) < kF (ndW k0 k1 k2 k3 k4 k5) k0 k1 k2 k3 k4 k5 ∧ ¬ ndW k0 k1 k2 k3 k4 k5 = 6) := by
  unfold ndW
  by_cases c0 : (255 : Int32) < k0
  · rw [if_pos c0]; exact Or.inr ⟨(Or.inl rfl), c0, by decide⟩
  by_cases c1 : (255 : Int32) < k1
  · rw [if_neg c0, if_pos c1]; exact Or.inr ⟨(Or.inr (Or.inl rfl)), c1, by decide⟩
  by_cases c2 : (255 : Int32) < k2
  · rw [if_neg c0, if_neg c1, if_pos c2]; exact Or.inr ⟨(Or.inr (Or.inr (Or.inl rfl))), c2, by decide⟩
  by_cases c3 : (255 : Int32) < k3
  · rw [if_neg c0, if_neg c1, if_neg c2, if_pos c3]; exact Or.inr ⟨(Or.inr (Or.inr (Or.inr (Or.inl rfl)))), c3, by decide⟩
  by_cases c4 : (255 : Int32) < k4
  · rw [if_neg c0, if_neg c1, if_neg c2, if_neg c3, if_pos c4]; exact Or.inr ⟨(Or.inr (Or.inr (Or.inr (Or.inr (Or.inl rfl))))), c4, by decide⟩
  by_cases c5 : (255 : Int32) < k5
  · rw [if_neg c0, if_neg c1, if_neg c2, if_neg c3, if_neg c4, if_pos c5]; exact Or.inr ⟨(Or.inr (Or.inr (Or.inr (Or.inr (Or.inr (rfl)))))), c5, by decide⟩
  rw [if_neg c0, if_neg c1, if_neg c2, if_neg c3, if_neg c4, if_neg c5]; exact Or.inl ⟨rfl, c0, c1, c2, c3, c4, c5⟩
theorem d5_0 : decode jdk_52_method_21_code 0 = .ok (.iconst 0, 1) := by decide +kernel
theorem d5_1 : decode jdk_52_method_21_code 1 = .ok (.istore 5, 2) := by decide +kernel
theorem d5_3 : decode jdk_52_method_21_code 3 = .ok (.iload 5, 2) := by decide +kernel
theorem d5_5 : decode jdk_52_method_21_code 5 = .ok (.iload 4, 2) := by decide +kernel
theorem d5_7 : decode jdk_52_method_21_code 7 = .ok (.if_icmp .ge 37, 3) := by decide +kernel
theorem d5_10 : decode jdk_52_method_21_code 10 = .ok (.aload_n 0, 1) := by decide +kernel
theorem d5_11 : decode jdk_52_method_21_code 11 = .ok (.iload_n 1, 1) := by decide +kernel
theorem d5_12 : decode jdk_52_method_21_code 12 = .ok (.caload, 1) := by decide +kernel
theorem d5_13 : decode jdk_52_method_21_code 13 = .ok (.istore 6, 2) := by decide +kernel
theorem d5_15 : decode jdk_52_method_21_code 15 = .ok (.iload 6, 2) := by decide +kernel
theorem d5_17 : decode jdk_52_method_21_code 17 = .ok (.sipush 255, 3) := by decide +kernel
theorem d5_20 : decode jdk_52_method_21_code 20 = .ok (.if_icmp .le 6, 3) := by decide +kernel
theorem d5_23 : decode jdk_52_method_21_code 23 = .ok (.iload 5, 2) := by decide +kernel
theorem d5_25 : decode jdk_52_method_21_code 25 = .ok (.ireturn, 1) := by decide +kernel
theorem d5_26 : decode jdk_52_method_21_code 26 = .ok (.aload_n 2, 1) := by decide +kernel
theorem d5_27 : decode jdk_52_method_21_code 27 = .ok (.iload_n 3, 1) := by decide +kernel
theorem d5_28 : decode jdk_52_method_21_code 28 = .ok (.iload 6, 2) := by decide +kernel
theorem d5_30 : decode jdk_52_method_21_code 30 = .ok (.i2b, 1) := by decide +kernel
theorem d5_31 : decode jdk_52_method_21_code 31 = .ok (.bastore, 1) := by decide +kernel
theorem d5_32 : decode jdk_52_method_21_code 32 = .ok (.iinc 1 1, 3) := by decide +kernel
theorem d5_35 : decode jdk_52_method_21_code 35 = .ok (.iinc 3 1, 3) := by decide +kernel
theorem d5_38 : decode jdk_52_method_21_code 38 = .ok (.iinc 5 1, 3) := by decide +kernel
theorem d5_41 : decode jdk_52_method_21_code 41 = .ok (.goto (-38), 3) := by decide +kernel
theorem d5_44 : decode jdk_52_method_21_code 44 = .ok (.iload 4, 2) := by decide +kernel
theorem d5_46 : decode jdk_52_method_21_code 46 = .ok (.ireturn, 1) := by decide +kernel
theorem ef_5 (m : MethodId) (o0 : Addr) (o2 : Addr) : entryFrame m #[(.ref o0), (.int (0 : Int32)), (.ref o2), (.int (0 : Int32)), (.int (6 : Int32))] 7 = mkF m 0 #[.val (.ref o0), .val (.int (0 : Int32)), .val (.ref o2), .val (.int (0 : Int32)), .val (.int (6 : Int32)), .unset, .unset] [] := by first | (simp [entryFrame, mkF, argsToLocals, Value.category]; done) | rfl
def Q5 (Z : State) (o0 : Addr) (o2 : Addr) (kc : ClassId) (k0 : Int32) (k1 : Int32) (k2 : Int32) (k3 : Int32) (k4 : Int32) (k5 : Int32) (kd : ClassId) (h0 : Heap) (n0 : Nat) (v : Option Value) (h : Heap) (L : List Loc) : Prop := v = some (.int (ndW k0 k1 k2 k3 k4 k5)) ∧ Fr n0 L ∧ Keep h0 h [o2] ∧ ((ndW k0 k1 k2 k3 k4 k5) = 6 → Arv Z h o2 kd .byte (6 : Int32) [(.int (k0.toInt8.toInt32)), (.int (k1.toInt8.toInt32)), (.int (k2.toInt8.toInt32)), (.int (k3.toInt8.toInt32)), (.int (k4.toInt8.toInt32)), (.int (k5.toInt8.toInt32))] (.int (0 : Int32)))
set_option maxRecDepth 65536 in
set_option maxHeartbeats 40000000 in
theorem rm5 (l : Launch) (Z : State) (a0 : Array Value) (hw : ∀ d ∈ tables_1, d.before a0 Z = true) (ws : List Jvm.Cond) (o0 : Addr) (o2 : Addr) (kc : ClassId) (k0 : Int32) (k1 : Int32) (k2 : Int32) (k3 : Int32) (k4 : Int32) (k5 : Int32) (kd : ClassId) (h0 : Heap) (n0 : Nat) (Z0 : n0 ≤ h0.size) (V_o0 : Arv Z h0 o0 kc .char (6 : Int32) [(.int k0), (.int k1), (.int k2), (.int k3), (.int k4), (.int k5)] (.int (0 : Int32))) (V_o2 : Arv Z h0 o2 kd .byte (6 : Int32) [(.int (0 : Int32)), (.int (0 : Int32)), (.int (0 : Int32)), (.int (0 : Int32)), (.int (0 : Int32)), (.int (0 : Int32))] (.int (0 : Int32))) (neo : o0 ≠ o2) (g_o2 : n0 ≤ o2) :
    MetFree l (⟨"java/lang/StringUTF16", "compress", "([CI[BII)I"⟩ : MethodName) (head1 (Jvm.Cond.code (⟨"java/lang/StringUTF16", "compress", "([CI[BII)I"⟩ : MethodName) jdk_52_method_21_code 7 (some .int) :: ws) ({ frames := 0, cells := 0, slots := 0, locals := 0 } : Room)) (fun a U => a = #[(.ref o0), (.int (0 : Int32)), (.ref o2), (.int (0 : Int32)), (.int (6 : Int32))] ∧ Z.Warmed39 U.vm ∧ U.heap = h0) (fun _ _ _ _ _ => True) (fun _ U o U' => ∃ v L, o = .returned v ∧ Q5 Z o0 o2 kc k0 k1 k2 k3 k4 k5 kd h0 n0 v U'.heap L ∧ FrameEnd U o U' L ({ frames := 0, cells := 0, slots := 0, locals := 0 } : Room).cells ({ frames := 0, cells := 0, slots := 0, locals := 0 } : Room).slots) := by
  refine MetFree.of_bodySF (plainFor_of_name pn_java_lang_StringUTF16) hisR ?_
  intro p e s m args below meth c s₁ Bd hml0 hP hK
  obtain ⟨rfl, hZ, hh⟩ := hP
  have hx := Bd.exec
  have hby := Bd.bytes
  have hlk : meth.locks = false := BodyLoose.notSynchronized Bd
  have hret := Bd.returns
  have hml : c.maxLocals = 7 := hml0
  have hown : s.vm.findClass "java/lang/StringUTF16" = some m.cls := findClass_of_methodNamed Bd.named
  have hnm := (name_of_methodNamed Bd.named Bd.method).1
  have X0 : Stand p l e ({ frames := 0, cells := 0, slots := 0, locals := 0 } : Room) s m #[(.ref o0), (.int (0 : Int32)), (.ref o2), (.int (0 : Int32)), (.int (6 : Int32))] below meth c s₁ [] 0 0 := Stand.of_body Bd
  have e0 : s₁.heap = h0 := by rw [← hh, Bd.state]; rfl
  have N0 := Fr.nil n0
  refine Go.start (Q := Q5 Z o0 o2 kc k0 k1 k2 k3 k4 k5 kd h0 n0) (ef_5 m o0 o2) ?_
  show Go _ _ _ _ _ _ _ s₁ (mkF m 0 #[.val (.ref o0), .val (.int (0 : Int32)), .val (.ref o2), .val (.int (0 : Int32)), .val (.int (6 : Int32)), .unset, .unset] [])
  refine Go.st (fun _ k => XS.iconst X0.here hx rfl (hb hby d5_0) k) ?_
  show Go _ _ _ _ _ _ _ s₁ (mkF m 1 #[.val (.ref o0), .val (.int (0 : Int32)), .val (.ref o2), .val (.int (0 : Int32)), .val (.int (6 : Int32)), .unset, .unset] [(.int (0 : Int32))])
  refine Go.st (fun _ k => XS.istore X0.here hx rfl (hb hby d5_1) rfl (l' := #[.val (.ref o0), .val (.int (0 : Int32)), .val (.ref o2), .val (.int (0 : Int32)), .val (.int (6 : Int32)), .val (.int (0 : Int32)), .unset]) rfl k) ?_
  show Go _ _ _ _ _ _ _ s₁ (mkF m 3 #[.val (.ref o0), .val (.int (0 : Int32)), .val (.ref o2), .val (.int (0 : Int32)), .val (.int (6 : Int32)), .val (.int (0 : Int32)), .unset] [])
  refine Go.st (fun _ k => XS.iload X0.here hx rfl (hb hby d5_3) rfl k) ?_
  show Go _ _ _ _ _ _ _ s₁ (mkF m 5 #[.val (.ref o0), .val (.int (0 : Int32)), .val (.ref o2), .val (.int (0 : Int32)), .val (.int (6 : Int32)), .val (.int (0 : Int32)), .unset] [(.int (0 : Int32))])
  refine Go.st (fun _ k => XS.iload X0.here hx rfl (hb hby d5_5) rfl k) ?_
  show Go _ _ _ _ _ _ _ s₁ (mkF m 7 #[.val (.ref o0), .val (.int (0 : Int32)), .val (.ref o2), .val (.int (0 : Int32)), .val (.int (6 : Int32)), .val (.int (0 : Int32)), .unset] [(.int (6 : Int32)), (.int (0 : Int32))])
  refine Go.st (fun _ k => XS.icmpNo X0.here hx rfl (hb hby d5_7) rfl (tlt (by decide : (0 : Int32) < (6 : Int32))).2.1 k) ?_
  show Go _ _ _ _ _ _ _ s₁ (mkF m 10 #[.val (.ref o0), .val (.int (0 : Int32)), .val (.ref o2), .val (.int (0 : Int32)), .val (.int (6 : Int32)), .val (.int (0 : Int32)), .unset] [])
  refine Go.st (fun _ k => XS.aloadN X0.here hx rfl (hb hby d5_10) rfl rfl k) ?_
  show Go _ _ _ _ _ _ _ s₁ (mkF m 11 #[.val (.ref o0), .val (.int (0 : Int32)), .val (.ref o2), .val (.int (0 : Int32)), .val (.int (6 : Int32)), .val (.int (0 : Int32)), .unset] [(.ref o0)])
  refine Go.st (fun _ k => XS.iloadN X0.here hx rfl (hb hby d5_11) rfl k) ?_
  show Go _ _ _ _ _ _ _ s₁ (mkF m 12 #[.val (.ref o0), .val (.int (0 : Int32)), .val (.ref o2), .val (.int (0 : Int32)), .val (.int (6 : Int32)), .val (.int (0 : Int32)), .unset] [(.int (0 : Int32)), (.ref o0)])
  obtain ⟨cl1, Ar1, qq1, SS1, NN1, HH1, GG1⟩ := id V_o0
  have hin2 : ¬ ((0 : Int32) < 0 ∨ cl1.slots.size ≤ ((0 : Int32)).toNatClampNeg) := inb_of SS1 ⟨by decide, by decide⟩
  refine Go.st (fun _ k => X0.caload hx (j := (0 : Int32)) (v := (.int k0)) (by rw [e0]; exact Ar1.1) (State.isArrayOf_alike hZ.alike Ar1.2.1) Ar1.2.2 hin2 (HH1.at hin2 rfl) (g := (mkF m 12 #[.val (.ref o0), .val (.int (0 : Int32)), .val (.ref o2), .val (.int (0 : Int32)), .val (.int (6 : Int32)), .val (.int (0 : Int32)), .unset] [(.int (0 : Int32)), (.ref o0)])) rfl rfl (hb hby d5_12) _ k) ?_
  show Go _ _ _ _ _ _ _ s₁ (mkF m 13 #[.val (.ref o0), .val (.int (0 : Int32)), .val (.ref o2), .val (.int (0 : Int32)), .val (.int (6 : Int32)), .val (.int (0 : Int32)), .unset] [(.int k0)])
  refine Go.st (fun _ k => XS.istore X0.here hx rfl (hb hby d5_13) rfl (l' := #[.val (.ref o0), .val (.int (0 : Int32)), .val (.ref o2), .val (.int (0 : Int32)), .val (.int (6 : Int32)), .val (.int (0 : Int32)), .val (.int k0)]) rfl k) ?_
  show Go _ _ _ _ _ _ _ s₁ (mkF m 15 #[.val (.ref o0), .val (.int (0 : Int32)), .val (.ref o2), .val (.int (0 : Int32)), .val (.int (6 : Int32)), .val (.int (0 : Int32)), .val (.int k0)] [])
  refine Go.st (fun _ k => XS.iload X0.here hx rfl (hb hby d5_15) rfl k) ?_
  show Go _ _ _ _ _ _ _ s₁ (mkF m 17 #[.val (.ref o0), .val (.int (0 : Int32)), .val (.ref o2), .val (.int (0 : Int32)), .val (.int (6 : Int32)), .val (.int (0 : Int32)), .val (.int k0)] [(.int k0)])
  refine Go.st (fun _ k => XS.sipush X0.here hx rfl (hb hby d5_17) k) ?_
  show Go _ _ _ _ _ _ _ s₁ (mkF m 20 #[.val (.ref o0), .val (.int (0 : Int32)), .val (.ref o2), .val (.int (0 : Int32)), .val (.int (6 : Int32)), .val (.int (0 : Int32)), .val (.int k0)] [(.int (255 : Int32)), (.int k0)])
  by_cases hc3 : (255 : Int32) < k0
  · refine Go.st (fun _ k => XS.icmpNo X0.here hx rfl (hb hby d5_20) rfl (tlt hc3).2.2.2 k) ?_
    show Go _ _ _ _ _ _ _ s₁ (mkF m 23 #[.val (.ref o0), .val (.int (0 : Int32)), .val (.ref o2), .val (.int (0 : Int32)), .val (.int (6 : Int32)), .val (.int (0 : Int32)), .val (.int k0)] [])
    refine Go.st (fun _ k => XS.iload X0.here hx rfl (hb hby d5_23) rfl k) ?_
    show Go _ _ _ _ _ _ _ s₁ (mkF m 25 #[.val (.ref o0), .val (.int (0 : Int32)), .val (.ref o2), .val (.int (0 : Int32)), .val (.int (6 : Int32)), .val (.int (0 : Int32)), .val (.int k0)] [(.int (0 : Int32))])
    refine Go.ret X0 hlk (v := some (.int (0 : Int32))) (fun h => by rw [hret] at h; cases h) (fun fs hr => retOut X0 hx (t := .int) (i := .ireturn) hret rfl (Or.inl ⟨rfl, Or.inl rfl, _, rfl⟩) (hb hby d5_25) hr) ?_ (by decide) (by decide)
    show Q5 Z o0 o2 kc k0 k1 k2 k3 k4 k5 kd h0 n0 (some (.int (0 : Int32))) s₁.heap _
    rw [e0]
    have hnd : ndW k0 k1 k2 k3 k4 k5 = (0 : Int32) := by unfold ndW; rw [if_pos hc3]
    exact ⟨by rw [hnd], N0, Keep.refl _ _, fun q => absurd (hnd.symm.trans q) (by decide)⟩
  · refine Go.st (fun _ k => XS.icmpYes X0.here hx rfl (pc0 := 20) (pc' := 26) rfl (hb hby d5_20) rfl (flt hc3).2.2.2 (by decide) (by decide) k) ?_
    show Go _ _ _ _ _ _ _ s₁ (mkF m 26 #[.val (.ref o0), .val (.int (0 : Int32)), .val (.ref o2), .val (.int (0 : Int32)), .val (.int (6 : Int32)), .val (.int (0 : Int32)), .val (.int k0)] [])
    refine Go.st (fun _ k => XS.aloadN X0.here hx rfl (hb hby d5_26) rfl rfl k) ?_
    show Go _ _ _ _ _ _ _ s₁ (mkF m 27 #[.val (.ref o0), .val (.int (0 : Int32)), .val (.ref o2), .val (.int (0 : Int32)), .val (.int (6 : Int32)), .val (.int (0 : Int32)), .val (.int k0)] [(.ref o2)])
    refine Go.st (fun _ k => XS.iloadN X0.here hx rfl (hb hby d5_27) rfl k) ?_
    show Go _ _ _ _ _ _ _ s₁ (mkF m 28 #[.val (.ref o0), .val (.int (0 : Int32)), .val (.ref o2), .val (.int (0 : Int32)), .val (.int (6 : Int32)), .val (.int (0 : Int32)), .val (.int k0)] [(.int (0 : Int32)), (.ref o2)])
    refine Go.st (fun _ k => XS.iload X0.here hx rfl (hb hby d5_28) rfl k) ?_
    show Go _ _ _ _ _ _ _ s₁ (mkF m 30 #[.val (.ref o0), .val (.int (0 : Int32)), .val (.ref o2), .val (.int (0 : Int32)), .val (.int (6 : Int32)), .val (.int (0 : Int32)), .val (.int k0)] [(.int k0), (.int (0 : Int32)), (.ref o2)])
    refine Go.st (fun _ k => XS.i2b X0.here hx rfl (hb hby d5_30) rfl k) ?_
    show Go _ _ _ _ _ _ _ s₁ (mkF m 31 #[.val (.ref o0), .val (.int (0 : Int32)), .val (.ref o2), .val (.int (0 : Int32)), .val (.int (6 : Int32)), .val (.int (0 : Int32)), .val (.int k0)] [(.int (k0.toInt8.toInt32)), (.int (0 : Int32)), (.ref o2)])
    obtain ⟨cl4, Ar4, qq4, SS4, NN4, HH4, GG4⟩ := id V_o2
    have hin5 : ¬ ((0 : Int32) < 0 ∨ cl4.slots.size ≤ ((0 : Int32)).toNatClampNeg) := inb_of SS4 ⟨by decide, by decide⟩
    obtain ⟨T6, h6, X6, e6, W6, st6⟩ := stB X0 hx hZ e0 Ar4 (j := (0 : Int32)) hin5 (g := (mkF m 31 #[.val (.ref o0), .val (.int (0 : Int32)), .val (.ref o2), .val (.int (0 : Int32)), .val (.int (6 : Int32)), .val (.int (0 : Int32)), .val (.int k0)] [(.int (k0.toInt8.toInt32)), (.int (0 : Int32)), (.ref o2)])) rfl rfl (hb hby d5_31)
    rw [own_nb] at W6
    have V_o2__6 : Arv Z h6 o2 kd .byte (6 : Int32) [(.int (k0.toInt8.toInt32)), (.int (0 : Int32)), (.int (0 : Int32)), (.int (0 : Int32)), (.int (0 : Int32)), (.int (0 : Int32))] (.int (0 : Int32)) := Arv.set Ar4 qq4 SS4 NN4 HH4 GG4 (fits_nar_byte _) W6 0 rfl (Nat.le_of_ble_eq_true rfl)
    have V_o0__6 := V_o0.other W6 neo
    have Z6 : n0 ≤ h6.size := Nat.le_trans Z0 (Keep.of_wr W6).1
    have KK6 : Keep h0 h6 [o2] := (Keep.refl h0 [o2]).wr W6 (Or.inl (List.mem_of_getElem? (i := 0) rfl))
    have N6 := Fr.snoc X6 N0 g_o2
    refine Go.st st6 ?_
    show Go _ _ _ _ _ _ _ T6 (mkF m 32 #[.val (.ref o0), .val (.int (0 : Int32)), .val (.ref o2), .val (.int (0 : Int32)), .val (.int (6 : Int32)), .val (.int (0 : Int32)), .val (.int k0)] [])
    refine Go.st (fun _ k => XS.iinc X6.here hx rfl (hb hby d5_32) rfl (l' := #[.val (.ref o0), .val (.int ((0 : Int32) + (1 : Int32))), .val (.ref o2), .val (.int (0 : Int32)), .val (.int (6 : Int32)), .val (.int (0 : Int32)), .val (.int k0)]) rfl k) ?_
    show Go _ _ _ _ _ _ _ T6 (mkF m 35 #[.val (.ref o0), .val (.int ((0 : Int32) + (1 : Int32))), .val (.ref o2), .val (.int (0 : Int32)), .val (.int (6 : Int32)), .val (.int (0 : Int32)), .val (.int k0)] [])
    refine Go.fr (f' := (mkF m 35 #[.val (.ref o0), .val (.int (1 : Int32)), .val (.ref o2), .val (.int (0 : Int32)), .val (.int (6 : Int32)), .val (.int (0 : Int32)), .val (.int k0)] [])) (by rw [show ((0 : Int32) + (1 : Int32)) = (1 : Int32) from by decide +kernel]) ?_
    show Go _ _ _ _ _ _ _ T6 (mkF m 35 #[.val (.ref o0), .val (.int (1 : Int32)), .val (.ref o2), .val (.int (0 : Int32)), .val (.int (6 : Int32)), .val (.int (0 : Int32)), .val (.int k0)] [])
    refine Go.st (fun _ k => XS.iinc X6.here hx rfl (hb hby d5_35) rfl (l' := #[.val (.ref o0), .val (.int (1 : Int32)), .val (.ref o2), .val (.int ((0 : Int32) + (1 : Int32))), .val (.int (6 : Int32)), .val (.int (0 : Int32)), .val (.int k0)]) rfl k) ?_
    show Go _ _ _ _ _ _ _ T6 (mkF m 38 #[.val (.ref o0), .val (.int (1 : Int32)), .val (.ref o2), .val (.int ((0 : Int32) + (1 : Int32))), .val (.int (6 : Int32)), .val (.int (0 : Int32)), .val (.int k0)] [])
    refine Go.fr (f' := (mkF m 38 #[.val (.ref o0), .val (.int (1 : Int32)), .val (.ref o2), .val (.int (1 : Int32)), .val (.int (6 : Int32)), .val (.int (0 : Int32)), .val (.int k0)] [])) (by rw [show ((0 : Int32) + (1 : Int32)) = (1 : Int32) from by decide +kernel]) ?_
    show Go _ _ _ _ _ _ _ T6 (mkF m 38 #[.val (.ref o0), .val (.int (1 : Int32)), .val (.ref o2), .val (.int (1 : Int32)), .val (.int (6 : Int32)), .val (.int (0 : Int32)), .val (.int k0)] [])
    refine Go.st (fun _ k => XS.iinc X6.here hx rfl (hb hby d5_38) rfl (l' := #[.val (.ref o0), .val (.int (1 : Int32)), .val (.ref o2), .val (.int (1 : Int32)), .val (.int (6 : Int32)), .val (.int ((0 : Int32) + (1 : Int32))), .val (.int k0)]) rfl k) ?_
    show Go _ _ _ _ _ _ _ T6 (mkF m 41 #[.val (.ref o0), .val (.int (1 : Int32)), .val (.ref o2), .val (.int (1 : Int32)), .val (.int (6 : Int32)), .val (.int ((0 : Int32) + (1 : Int32))), .val (.int k0)] [])
    refine Go.fr (f' := (mkF m 41 #[.val (.ref o0), .val (.int (1 : Int32)), .val (.ref o2), .val (.int (1 : Int32)), .val (.int (6 : Int32)), .val (.int (1 : Int32)), .val (.int k0)] [])) (by rw [show ((0 : Int32) + (1 : Int32)) = (1 : Int32) from by decide +kernel]) ?_
    show Go _ _ _ _ _ _ _ T6 (mkF m 41 #[.val (.ref o0), .val (.int (1 : Int32)), .val (.ref o2), .val (.int (1 : Int32)), .val (.int (6 : Int32)), .val (.int (1 : Int32)), .val (.int k0)] [])
    refine Go.st (fun _ k => XS.goto X6.here hx rfl (pc0 := 41) (pc' := 3) rfl (hb hby d5_41) (by decide) (by decide) k) ?_
    show Go _ _ _ _ _ _ _ T6 (mkF m 3 #[.val (.ref o0), .val (.int (1 : Int32)), .val (.ref o2), .val (.int (1 : Int32)), .val (.int (6 : Int32)), .val (.int (1 : Int32)), .val (.int k0)] [])
    refine Go.st (fun _ k => XS.iload X6.here hx rfl (hb hby d5_3) rfl k) ?_
    show Go _ _ _ _ _ _ _ T6 (mkF m 5 #[.val (.ref o0), .val (.int (1 : Int32)), .val (.ref o2), .val (.int (1 : Int32)), .val (.int (6 : Int32)), .val (.int (1 : Int32)), .val (.int k0)] [(.int (1 : Int32))])
    refine Go.st (fun _ k => XS.iload X6.here hx rfl (hb hby d5_5) rfl k) ?_
    show Go _ _ _ _ _ _ _ T6 (mkF m 7 #[.val (.ref o0), .val (.int (1 : Int32)), .val (.ref o2), .val (.int (1 : Int32)), .val (.int (6 : Int32)), .val (.int (1 : Int32)), .val (.int k0)] [(.int (6 : Int32)), (.int (1 : Int32))])
    refine Go.st (fun _ k => XS.icmpNo X6.here hx rfl (hb hby d5_7) rfl (tlt (by decide : (1 : Int32) < (6 : Int32))).2.1 k) ?_
    show Go _ _ _ _ _ _ _ T6 (mkF m 10 #[.val (.ref o0), .val (.int (1 : Int32)), .val (.ref o2), .val (.int (1 : Int32)), .val (.int (6 : Int32)), .val (.int (1 : Int32)), .val (.int k0)] [])
    refine Go.st (fun _ k => XS.aloadN X6.here hx rfl (hb hby d5_10) rfl rfl k) ?_
    show Go _ _ _ _ _ _ _ T6 (mkF m 11 #[.val (.ref o0), .val (.int (1 : Int32)), .val (.ref o2), .val (.int (1 : Int32)), .val (.int (6 : Int32)), .val (.int (1 : Int32)), .val (.int k0)] [(.ref o0)])
    refine Go.st (fun _ k => XS.iloadN X6.here hx rfl (hb hby d5_11) rfl k) ?_
    show Go _ _ _ _ _ _ _ T6 (mkF m 12 #[.val (.ref o0), .val (.int (1 : Int32)), .val (.ref o2), .val (.int (1 : Int32)), .val (.int (6 : Int32)), .val (.int (1 : Int32)), .val (.int k0)] [(.int (1 : Int32)), (.ref o0)])
    obtain ⟨cl7, Ar7, qq7, SS7, NN7, HH7, GG7⟩ := id V_o0__6
    have hin8 : ¬ ((1 : Int32) < 0 ∨ cl7.slots.size ≤ ((1 : Int32)).toNatClampNeg) := inb_of SS7 ⟨by decide, by decide⟩
    refine Go.st (fun _ k => X6.caload hx (j := (1 : Int32)) (v := (.int k1)) (by rw [e6]; exact Ar7.1) (State.isArrayOf_alike hZ.alike Ar7.2.1) Ar7.2.2 hin8 (HH7.at hin8 rfl) (g := (mkF m 12 #[.val (.ref o0), .val (.int (1 : Int32)), .val (.ref o2), .val (.int (1 : Int32)), .val (.int (6 : Int32)), .val (.int (1 : Int32)), .val (.int k0)] [(.int (1 : Int32)), (.ref o0)])) rfl rfl (hb hby d5_12) _ k) ?_
    show Go _ _ _ _ _ _ _ T6 (mkF m 13 #[.val (.ref o0), .val (.int (1 : Int32)), .val (.ref o2), .val (.int (1 : Int32)), .val (.int (6 : Int32)), .val (.int (1 : Int32)), .val (.int k0)] [(.int k1)])
    refine Go.st (fun _ k => XS.istore X6.here hx rfl (hb hby d5_13) rfl (l' := #[.val (.ref o0), .val (.int (1 : Int32)), .val (.ref o2), .val (.int (1 : Int32)), .val (.int (6 : Int32)), .val (.int (1 : Int32)), .val (.int k1)]) rfl k) ?_
    show Go _ _ _ _ _ _ _ T6 (mkF m 15 #[.val (.ref o0), .val (.int (1 : Int32)), .val (.ref o2), .val (.int (1 : Int32)), .val (.int (6 : Int32)), .val (.int (1 : Int32)), .val (.int k1)] [])
    refine Go.st (fun _ k => XS.iload X6.here hx rfl (hb hby d5_15) rfl k) ?_
    show Go _ _ _ _ _ _ _ T6 (mkF m 17 #[.val (.ref o0), .val (.int (1 : Int32)), .val (.ref o2), .val (.int (1 : Int32)), .val (.int (6 : Int32)), .val (.int (1 : Int32)), .val (.int k1)] [(.int k1)])
    refine Go.st (fun _ k => XS.sipush X6.here hx rfl (hb hby d5_17) k) ?_
    show Go _ _ _ _ _ _ _ T6 (mkF m 20 #[.val (.ref o0), .val (.int (1 : Int32)), .val (.ref o2), .val (.int (1 : Int32)), .val (.int (6 : Int32)), .val (.int (1 : Int32)), .val (.int k1)] [(.int (255 : Int32)), (.int k1)])
    by_cases hc9 : (255 : Int32) < k1
    · refine Go.st (fun _ k => XS.icmpNo X6.here hx rfl (hb hby d5_20) rfl (tlt hc9).2.2.2 k) ?_
      show Go _ _ _ _ _ _ _ T6 (mkF m 23 #[.val (.ref o0), .val (.int (1 : Int32)), .val (.ref o2), .val (.int (1 : Int32)), .val (.int (6 : Int32)), .val (.int (1 : Int32)), .val (.int k1)] [])
      refine Go.st (fun _ k => XS.iload X6.here hx rfl (hb hby d5_23) rfl k) ?_
      show Go _ _ _ _ _ _ _ T6 (mkF m 25 #[.val (.ref o0), .val (.int (1 : Int32)), .val (.ref o2), .val (.int (1 : Int32)), .val (.int (6 : Int32)), .val (.int (1 : Int32)), .val (.int k1)] [(.int (1 : Int32))])
      refine Go.ret X6 hlk (v := some (.int (1 : Int32))) (fun h => by rw [hret] at h; cases h) (fun fs hr => retOut X6 hx (t := .int) (i := .ireturn) hret rfl (Or.inl ⟨rfl, Or.inl rfl, _, rfl⟩) (hb hby d5_25) hr) ?_ (by decide) (by decide)
      show Q5 Z o0 o2 kc k0 k1 k2 k3 k4 k5 kd h0 n0 (some (.int (1 : Int32))) T6.heap _
      rw [e6]
      have hnd : ndW k0 k1 k2 k3 k4 k5 = (1 : Int32) := by unfold ndW; rw [if_neg hc3, if_pos hc9]
      exact ⟨by rw [hnd], N6, KK6, fun q => absurd (hnd.symm.trans q) (by decide)⟩
    · refine Go.st (fun _ k => XS.icmpYes X6.here hx rfl (pc0 := 20) (pc' := 26) rfl (hb hby d5_20) rfl (flt hc9).2.2.2 (by decide) (by decide) k) ?_
      show Go _ _ _ _ _ _ _ T6 (mkF m 26 #[.val (.ref o0), .val (.int (1 : Int32)), .val (.ref o2), .val (.int (1 : Int32)), .val (.int (6 : Int32)), .val (.int (1 : Int32)), .val (.int k1)] [])
      refine Go.st (fun _ k => XS.aloadN X6.here hx rfl (hb hby d5_26) rfl rfl k) ?_
      show Go _ _ _ _ _ _ _ T6 (mkF m 27 #[.val (.ref o0), .val (.int (1 : Int32)), .val (.ref o2), .val (.int (1 : Int32)), .val (.int (6 : Int32)), .val (.int (1 : Int32)), .val (.int k1)] [(.ref o2)])
      refine Go.st (fun _ k => XS.iloadN X6.here hx rfl (hb hby d5_27) rfl k) ?_
      show Go _ _ _ _ _ _ _ T6 (mkF m 28 #[.val (.ref o0), .val (.int (1 : Int32)), .val (.ref o2), .val (.int (1 : Int32)), .val (.int (6 : Int32)), .val (.int (1 : Int32)), .val (.int k1)] [(.int (1 : Int32)), (.ref o2)])
      refine Go.st (fun _ k => XS.iload X6.here hx rfl (hb hby d5_28) rfl k) ?_
      show Go _ _ _ _ _ _ _ T6 (mkF m 30 #[.val (.ref o0), .val (.int (1 : Int32)), .val (.ref o2), .val (.int (1 : Int32)), .val (.int (6 : Int32)), .val (.int (1 : Int32)), .val (.int k1)] [(.int k1), (.int (1 : Int32)), (.ref o2)])
      refine Go.st (fun _ k => XS.i2b X6.here hx rfl (hb hby d5_30) rfl k) ?_
      show Go _ _ _ _ _ _ _ T6 (mkF m 31 #[.val (.ref o0), .val (.int (1 : Int32)), .val (.ref o2), .val (.int (1 : Int32)), .val (.int (6 : Int32)), .val (.int (1 : Int32)), .val (.int k1)] [(.int (k1.toInt8.toInt32)), (.int (1 : Int32)), (.ref o2)])
      obtain ⟨cl10, Ar10, qq10, SS10, NN10, HH10, GG10⟩ := id V_o2__6
      have hin11 : ¬ ((1 : Int32) < 0 ∨ cl10.slots.size ≤ ((1 : Int32)).toNatClampNeg) := inb_of SS10 ⟨by decide, by decide⟩
      obtain ⟨T12, h12, X12, e12, W12, st12⟩ := stB X6 hx hZ e6 Ar10 (j := (1 : Int32)) hin11 (g := (mkF m 31 #[.val (.ref o0), .val (.int (1 : Int32)), .val (.ref o2), .val (.int (1 : Int32)), .val (.int (6 : Int32)), .val (.int (1 : Int32)), .val (.int k1)] [(.int (k1.toInt8.toInt32)), (.int (1 : Int32)), (.ref o2)])) rfl rfl (hb hby d5_31)
      rw [own_nb] at W12
      have V_o2__12 : Arv Z h12 o2 kd .byte (6 : Int32) [(.int (k0.toInt8.toInt32)), (.int (k1.toInt8.toInt32)), (.int (0 : Int32)), (.int (0 : Int32)), (.int (0 : Int32)), (.int (0 : Int32))] (.int (0 : Int32)) := Arv.set Ar10 qq10 SS10 NN10 HH10 GG10 (fits_nar_byte _) W12 1 rfl (Nat.le_of_ble_eq_true rfl)
      have V_o0__12 := V_o0__6.other W12 neo
      have Z12 : n0 ≤ h12.size := Nat.le_trans Z6 (Keep.of_wr W12).1
      have KK12 : Keep h0 h12 [o2] := KK6.wr W12 (Or.inl (List.mem_of_getElem? (i := 0) rfl))
      have N12 := Fr.snoc X12 N6 g_o2
      refine Go.st st12 ?_
      show Go _ _ _ _ _ _ _ T12 (mkF m 32 #[.val (.ref o0), .val (.int (1 : Int32)), .val (.ref o2), .val (.int (1 : Int32)), .val (.int (6 : Int32)), .val (.int (1 : Int32)), .val (.int k1)] [])
      refine Go.st (fun _ k => XS.iinc X12.here hx rfl (hb hby d5_32) rfl (l' := #[.val (.ref o0), .val (.int ((1 : Int32) + (1 : Int32))), .val (.ref o2), .val (.int (1 : Int32)), .val (.int (6 : Int32)), .val (.int (1 : Int32)), .val (.int k1)]) rfl k) ?_
      show Go _ _ _ _ _ _ _ T12 (mkF m 35 #[.val (.ref o0), .val (.int ((1 : Int32) + (1 : Int32))), .val (.ref o2), .val (.int (1 : Int32)), .val (.int (6 : Int32)), .val (.int (1 : Int32)), .val (.int k1)] [])
      refine Go.fr (f' := (mkF m 35 #[.val (.ref o0), .val (.int (2 : Int32)), .val (.ref o2), .val (.int (1 : Int32)), .val (.int (6 : Int32)), .val (.int (1 : Int32)), .val (.int k1)] [])) (by rw [show ((1 : Int32) + (1 : Int32)) = (2 : Int32) from by decide +kernel]) ?_
      show Go _ _ _ _ _ _ _ T12 (mkF m 35 #[.val (.ref o0), .val (.int (2 : Int32)), .val (.ref o2), .val (.int (1 : Int32)), .val (.int (6 : Int32)), .val (.int (1 : Int32)), .val (.int k1)] [])
      refine Go.st (fun _ k => XS.iinc X12.here hx rfl (hb hby d5_35) rfl (l' := #[.val (.ref o0), .val (.int (2 : Int32)), .val (.ref o2), .val (.int ((1 : Int32) + (1 : Int32))), .val (.int (6 : Int32)), .val (.int (1 : Int32)), .val (.int k1)]) rfl k) ?_
      show Go _ _ _ _ _ _ _ T12 (mkF m 38 #[.val (.ref o0), .val (.int (2 : Int32)), .val (.ref o2), .val (.int ((1 : Int32) + (1 : Int32))), .val (.int (6 : Int32)), .val (.int (1 : Int32)), .val (.int k1)] [])
      refine Go.fr (f' := (mkF m 38 #[.val (.ref o0), .val (.int (2 : Int32)), .val (.ref o2), .val (.int (2 : Int32)), .val (.int (6 : Int32)), .val (.int (1 : Int32)), .val (.int k1)] [])) (by rw [show ((1 : Int32) + (1 : Int32)) = (2 : Int32) from by decide +kernel]) ?_
      show Go _ _ _ _ _ _ _ T12 (mkF m 38 #[.val (.ref o0), .val (.int (2 : Int32)), .val (.ref o2), .val (.int (2 : Int32)), .val (.int (6 : Int32)), .val (.int (1 : Int32)), .val (.int k1)] [])
      refine Go.st (fun _ k => XS.iinc X12.here hx rfl (hb hby d5_38) rfl (l' := #[.val (.ref o0), .val (.int (2 : Int32)), .val (.ref o2), .val (.int (2 : Int32)), .val (.int (6 : Int32)), .val (.int ((1 : Int32) + (1 : Int32))), .val (.int k1)]) rfl k) ?_
      show Go _ _ _ _ _ _ _ T12 (mkF m 41 #[.val (.ref o0), .val (.int (2 : Int32)), .val (.ref o2), .val (.int (2 : Int32)), .val (.int (6 : Int32)), .val (.int ((1 : Int32) + (1 : Int32))), .val (.int k1)] [])
      refine Go.fr (f' := (mkF m 41 #[.val (.ref o0), .val (.int (2 : Int32)), .val (.ref o2), .val (.int (2 : Int32)), .val (.int (6 : Int32)), .val (.int (2 : Int32)), .val (.int k1)] [])) (by rw [show ((1 : Int32) + (1 : Int32)) = (2 : Int32) from by decide +kernel]) ?_
      show Go _ _ _ _ _ _ _ T12 (mkF m 41 #[.val (.ref o0), .val (.int (2 : Int32)), .val (.ref o2), .val (.int (2 : Int32)), .val (.int (6 : Int32)), .val (.int (2 : Int32)), .val (.int k1)] [])
      refine Go.st (fun _ k => XS.goto X12.here hx rfl (pc0 := 41) (pc' := 3) rfl (hb hby d5_41) (by decide) (by decide) k) ?_
      show Go _ _ _ _ _ _ _ T12 (mkF m 3 #[.val (.ref o0), .val (.int (2 : Int32)), .val (.ref o2), .val (.int (2 : Int32)), .val (.int (6 : Int32)), .val (.int (2 : Int32)), .val (.int k1)] [])
      refine Go.st (fun _ k => XS.iload X12.here hx rfl (hb hby d5_3) rfl k) ?_
      show Go _ _ _ _ _ _ _ T12 (mkF m 5 #[.val (.ref o0), .val (.int (2 : Int32)), .val (.ref o2), .val (.int (2 : Int32)), .val (.int (6 : Int32)), .val (.int (2 : Int32)), .val (.int k1)] [(.int (2 : Int32))])
      refine Go.st (fun _ k => XS.iload X12.here hx rfl (hb hby d5_5) rfl k) ?_
      show Go _ _ _ _ _ _ _ T12 (mkF m 7 #[.val (.ref o0), .val (.int (2 : Int32)), .val (.ref o2), .val (.int (2 : Int32)), .val (.int (6 : Int32)), .val (.int (2 : Int32)), .val (.int k1)] [(.int (6 : Int32)), (.int (2 : Int32))])
      refine Go.st (fun _ k => XS.icmpNo X12.here hx rfl (hb hby d5_7) rfl (tlt (by decide : (2 : Int32) < (6 : Int32))).2.1 k) ?_
      show Go _ _ _ _ _ _ _ T12 (mkF m 10 #[.val (.ref o0), .val (.int (2 : Int32)), .val (.ref o2), .val (.int (2 : Int32)), .val (.int (6 : Int32)), .val (.int (2 : Int32)), .val (.int k1)] [])
      refine Go.st (fun _ k => XS.aloadN X12.here hx rfl (hb hby d5_10) rfl rfl k) ?_
      show Go _ _ _ _ _ _ _ T12 (mkF m 11 #[.val (.ref o0), .val (.int (2 : Int32)), .val (.ref o2), .val (.int (2 : Int32)), .val (.int (6 : Int32)), .val (.int (2 : Int32)), .val (.int k1)] [(.ref o0)])
      refine Go.st (fun _ k => XS.iloadN X12.here hx rfl (hb hby d5_11) rfl k) ?_
      show Go _ _ _ _ _ _ _ T12 (mkF m 12 #[.val (.ref o0), .val (.int (2 : Int32)), .val (.ref o2), .val (.int (2 : Int32)), .val (.int (6 : Int32)), .val (.int (2 : Int32)), .val (.int k1)] [(.int (2 : Int32)), (.ref o0)])
      obtain ⟨cl13, Ar13, qq13, SS13, NN13, HH13, GG13⟩ := id V_o0__12
      have hin14 : ¬ ((2 : Int32) < 0 ∨ cl13.slots.size ≤ ((2 : Int32)).toNatClampNeg) := inb_of SS13 ⟨by decide, by decide⟩
      refine Go.st (fun _ k => X12.caload hx (j := (2 : Int32)) (v := (.int k2)) (by rw [e12]; exact Ar13.1) (State.isArrayOf_alike hZ.alike Ar13.2.1) Ar13.2.2 hin14 (HH13.at hin14 rfl) (g := (mkF m 12 #[.val (.ref o0), .val (.int (2 : Int32)), .val (.ref o2), .val (.int (2 : Int32)), .val (.int (6 : Int32)), .val (.int (2 : Int32)), .val (.int k1)] [(.int (2 : Int32)), (.ref o0)])) rfl rfl (hb hby d5_12) _ k) ?_
      show Go _ _ _ _ _ _ _ T12 (mkF m 13 #[.val (.ref o0), .val (.int (2 : Int32)), .val (.ref o2), .val (.int (2 : Int32)), .val (.int (6 : Int32)), .val (.int (2 : Int32)), .val (.int k1)] [(.int k2)])
      refine Go.st (fun _ k => XS.istore X12.here hx rfl (hb hby d5_13) rfl (l' := #[.val (.ref o0), .val (.int (2 : Int32)), .val (.ref o2), .val (.int (2 : Int32)), .val (.int (6 : Int32)), .val (.int (2 : Int32)), .val (.int k2)]) rfl k) ?_
      show Go _ _ _ _ _ _ _ T12 (mkF m 15 #[.val (.ref o0), .val (.int (2 : Int32)), .val (.ref o2), .val (.int (2 : Int32)), .val (.int (6 : Int32)), .val (.int (2 : Int32)), .val (.int k2)] [])
      refine Go.st (fun _ k => XS.iload X12.here hx rfl (hb hby d5_15) rfl k) ?_
      show Go _ _ _ _ _ _ _ T12 (mkF m 17 #[.val (.ref o0), .val (.int (2 : Int32)), .val (.ref o2), .val (.int (2 : Int32)), .val (.int (6 : Int32)), .val (.int (2 : Int32)), .val (.int k2)] [(.int k2)])
      refine Go.st (fun _ k => XS.sipush X12.here hx rfl (hb hby d5_17) k) ?_
      show Go _ _ _ _ _ _ _ T12 (mkF m 20 #[.val (.ref o0), .val (.int (2 : Int32)), .val (.ref o2), .val (.int (2 : Int32)), .val (.int (6 : Int32)), .val (.int (2 : Int32)), .val (.int k2)] [(.int (255 : Int32)), (.int k2)])
      by_cases hc15 : (255 : Int32) < k2
      · refine Go.st (fun _ k => XS.icmpNo X12.here hx rfl (hb hby d5_20) rfl (tlt hc15).2.2.2 k) ?_
        show Go _ _ _ _ _ _ _ T12 (mkF m 23 #[.val (.ref o0), .val (.int (2 : Int32)), .val (.ref o2), .val (.int (2 : Int32)), .val (.int (6 : Int32)), .val (.int (2 : Int32)), .val (.int k2)] [])
        refine Go.st (fun _ k => XS.iload X12.here hx rfl (hb hby d5_23) rfl k) ?_
        show Go _ _ _ _ _ _ _ T12 (mkF m 25 #[.val (.ref o0), .val (.int (2 : Int32)), .val (.ref o2), .val (.int (2 : Int32)), .val (.int (6 : Int32)), .val (.int (2 : Int32)), .val (.int k2)] [(.int (2 : Int32))])
        refine Go.ret X12 hlk (v := some (.int (2 : Int32))) (fun h => by rw [hret] at h; cases h) (fun fs hr => retOut X12 hx (t := .int) (i := .ireturn) hret rfl (Or.inl ⟨rfl, Or.inl rfl, _, rfl⟩) (hb hby d5_25) hr) ?_ (by decide) (by decide)
        show Q5 Z o0 o2 kc k0 k1 k2 k3 k4 k5 kd h0 n0 (some (.int (2 : Int32))) T12.heap _
        rw [e12]
        have hnd : ndW k0 k1 k2 k3 k4 k5 = (2 : Int32) := by unfold ndW; rw [if_neg hc3, if_neg hc9, if_pos hc15]
        exact ⟨by rw [hnd], N12, KK12, fun q => absurd (hnd.symm.trans q) (by decide)⟩
      · refine Go.st (fun _ k => XS.icmpYes X12.here hx rfl (pc0 := 20) (pc' := 26) rfl (hb hby d5_20) rfl (flt hc15).2.2.2 (by decide) (by decide) k) ?_
        show Go _ _ _ _ _ _ _ T12 (mkF m 26 #[.val (.ref o0), .val (.int (2 : Int32)), .val (.ref o2), .val (.int (2 : Int32)), .val (.int (6 : Int32)), .val (.int (2 : Int32)), .val (.int k2)] [])
        refine Go.st (fun _ k => XS.aloadN X12.here hx rfl (hb hby d5_26) rfl rfl k) ?_
        show Go _ _ _ _ _ _ _ T12 (mkF m 27 #[.val (.ref o0), .val (.int (2 : Int32)), .val (.ref o2), .val (.int (2 : Int32)), .val (.int (6 : Int32)), .val (.int (2 : Int32)), .val (.int k2)] [(.ref o2)])
        refine Go.st (fun _ k => XS.iloadN X12.here hx rfl (hb hby d5_27) rfl k) ?_
        show Go _ _ _ _ _ _ _ T12 (mkF m 28 #[.val (.ref o0), .val (.int (2 : Int32)), .val (.ref o2), .val (.int (2 : Int32)), .val (.int (6 : Int32)), .val (.int (2 : Int32)), .val (.int k2)] [(.int (2 : Int32)), (.ref o2)])
        refine Go.st (fun _ k => XS.iload X12.here hx rfl (hb hby d5_28) rfl k) ?_
        show Go _ _ _ _ _ _ _ T12 (mkF m 30 #[.val (.ref o0), .val (.int (2 : Int32)), .val (.ref o2), .val (.int (2 : Int32)), .val (.int (6 : Int32)), .val (.int (2 : Int32)), .val (.int k2)] [(.int k2), (.int (2 : Int32)), (.ref o2)])
        refine Go.st (fun _ k => XS.i2b X12.here hx rfl (hb hby d5_30) rfl k) ?_
        show Go _ _ _ _ _ _ _ T12 (mkF m 31 #[.val (.ref o0), .val (.int (2 : Int32)), .val (.ref o2), .val (.int (2 : Int32)), .val (.int (6 : Int32)), .val (.int (2 : Int32)), .val (.int k2)] [(.int (k2.toInt8.toInt32)), (.int (2 : Int32)), (.ref o2)])
        obtain ⟨cl16, Ar16, qq16, SS16, NN16, HH16, GG16⟩ := id V_o2__12
        have hin17 : ¬ ((2 : Int32) < 0 ∨ cl16.slots.size ≤ ((2 : Int32)).toNatClampNeg) := inb_of SS16 ⟨by decide, by decide⟩
        obtain ⟨T18, h18, X18, e18, W18, st18⟩ := stB X12 hx hZ e12 Ar16 (j := (2 : Int32)) hin17 (g := (mkF m 31 #[.val (.ref o0), .val (.int (2 : Int32)), .val (.ref o2), .val (.int (2 : Int32)), .val (.int (6 : Int32)), .val (.int (2 : Int32)), .val (.int k2)] [(.int (k2.toInt8.toInt32)), (.int (2 : Int32)), (.ref o2)])) rfl rfl (hb hby d5_31)
        rw [own_nb] at W18
        have V_o2__18 : Arv Z h18 o2 kd .byte (6 : Int32) [(.int (k0.toInt8.toInt32)), (.int (k1.toInt8.toInt32)), (.int (k2.toInt8.toInt32)), (.int (0 : Int32)), (.int (0 : Int32)), (.int (0 : Int32))] (.int (0 : Int32)) := Arv.set Ar16 qq16 SS16 NN16 HH16 GG16 (fits_nar_byte _) W18 2 rfl (Nat.le_of_ble_eq_true rfl)
        have V_o0__18 := V_o0__12.other W18 neo
        have Z18 : n0 ≤ h18.size := Nat.le_trans Z12 (Keep.of_wr W18).1
        have KK18 : Keep h0 h18 [o2] := KK12.wr W18 (Or.inl (List.mem_of_getElem? (i := 0) rfl))
        have N18 := Fr.snoc X18 N12 g_o2
        refine Go.st st18 ?_
        show Go _ _ _ _ _ _ _ T18 (mkF m 32 #[.val (.ref o0), .val (.int (2 : Int32)), .val (.ref o2), .val (.int (2 : Int32)), .val (.int (6 : Int32)), .val (.int (2 : Int32)), .val (.int k2)] [])
        refine Go.st (fun _ k => XS.iinc X18.here hx rfl (hb hby d5_32) rfl (l' := #[.val (.ref o0), .val (.int ((2 : Int32) + (1 : Int32))), .val (.ref o2), .val (.int (2 : Int32)), .val (.int (6 : Int32)), .val (.int (2 : Int32)), .val (.int k2)]) rfl k) ?_
        show Go _ _ _ _ _ _ _ T18 (mkF m 35 #[.val (.ref o0), .val (.int ((2 : Int32) + (1 : Int32))), .val (.ref o2), .val (.int (2 : Int32)), .val (.int (6 : Int32)), .val (.int (2 : Int32)), .val (.int k2)] [])
        refine Go.fr (f' := (mkF m 35 #[.val (.ref o0), .val (.int (3 : Int32)), .val (.ref o2), .val (.int (2 : Int32)), .val (.int (6 : Int32)), .val (.int (2 : Int32)), .val (.int k2)] [])) (by rw [show ((2 : Int32) + (1 : Int32)) = (3 : Int32) from by decide +kernel]) ?_
        show Go _ _ _ _ _ _ _ T18 (mkF m 35 #[.val (.ref o0), .val (.int (3 : Int32)), .val (.ref o2), .val (.int (2 : Int32)), .val (.int (6 : Int32)), .val (.int (2 : Int32)), .val (.int k2)] [])
        refine Go.st (fun _ k => XS.iinc X18.here hx rfl (hb hby d5_35) rfl (l' := #[.val (.ref o0), .val (.int (3 : Int32)), .val (.ref o2), .val (.int ((2 : Int32) + (1 : Int32))), .val (.int (6 : Int32)), .val (.int (2 : Int32)), .val (.int k2)]) rfl k) ?_
        show Go _ _ _ _ _ _ _ T18 (mkF m 38 #[.val (.ref o0), .val (.int (3 : Int32)), .val (.ref o2), .val (.int ((2 : Int32) + (1 : Int32))), .val (.int (6 : Int32)), .val (.int (2 : Int32)), .val (.int k2)] [])
        refine Go.fr (f' := (mkF m 38 #[.val (.ref o0), .val (.int (3 : Int32)), .val (.ref o2), .val (.int (3 : Int32)), .val (.int (6 : Int32)), .val (.int (2 : Int32)), .val (.int k2)] [])) (by rw [show ((2 : Int32) + (1 : Int32)) = (3 : Int32) from by decide +kernel]) ?_
        show Go _ _ _ _ _ _ _ T18 (mkF m 38 #[.val (.ref o0), .val (.int (3 : Int32)), .val (.ref o2), .val (.int (3 : Int32)), .val (.int (6 : Int32)), .val (.int (2 : Int32)), .val (.int k2)] [])
        refine Go.st (fun _ k => XS.iinc X18.here hx rfl (hb hby d5_38) rfl (l' := #[.val (.ref o0), .val (.int (3 : Int32)), .val (.ref o2), .val (.int (3 : Int32)), .val (.int (6 : Int32)), .val (.int ((2 : Int32) + (1 : Int32))), .val (.int k2)]) rfl k) ?_
        show Go _ _ _ _ _ _ _ T18 (mkF m 41 #[.val (.ref o0), .val (.int (3 : Int32)), .val (.ref o2), .val (.int (3 : Int32)), .val (.int (6 : Int32)), .val (.int ((2 : Int32) + (1 : Int32))), .val (.int k2)] [])
        refine Go.fr (f' := (mkF m 41 #[.val (.ref o0), .val (.int (3 : Int32)), .val (.ref o2), .val (.int (3 : Int32)), .val (.int (6 : Int32)), .val (.int (3 : Int32)), .val (.int k2)] [])) (by rw [show ((2 : Int32) + (1 : Int32)) = (3 : Int32) from by decide +kernel]) ?_
        show Go _ _ _ _ _ _ _ T18 (mkF m 41 #[.val (.ref o0), .val (.int (3 : Int32)), .val (.ref o2), .val (.int (3 : Int32)), .val (.int (6 : Int32)), .val (.int (3 : Int32)), .val (.int k2)] [])
        refine Go.st (fun _ k => XS.goto X18.here hx rfl (pc0 := 41) (pc' := 3) rfl (hb hby d5_41) (by decide) (by decide) k) ?_
        show Go _ _ _ _ _ _ _ T18 (mkF m 3 #[.val (.ref o0), .val (.int (3 : Int32)), .val (.ref o2), .val (.int (3 : Int32)), .val (.int (6 : Int32)), .val (.int (3 : Int32)), .val (.int k2)] [])
        refine Go.st (fun _ k => XS.iload X18.here hx rfl (hb hby d5_3) rfl k) ?_
        show Go _ _ _ _ _ _ _ T18 (mkF m 5 #[.val (.ref o0), .val (.int (3 : Int32)), .val (.ref o2), .val (.int (3 : Int32)), .val (.int (6 : Int32)), .val (.int (3 : Int32)), .val (.int k2)] [(.int (3 : Int32))])
        refine Go.st (fun _ k => XS.iload X18.here hx rfl (hb hby d5_5) rfl k) ?_
        show Go _ _ _ _ _ _ _ T18 (mkF m 7 #[.val (.ref o0), .val (.int (3 : Int32)), .val (.ref o2), .val (.int (3 : Int32)), .val (.int (6 : Int32)), .val (.int (3 : Int32)), .val (.int k2)] [(.int (6 : Int32)), (.int (3 : Int32))])
        refine Go.st (fun _ k => XS.icmpNo X18.here hx rfl (hb hby d5_7) rfl (tlt (by decide : (3 : Int32) < (6 : Int32))).2.1 k) ?_
        show Go _ _ _ _ _ _ _ T18 (mkF m 10 #[.val (.ref o0), .val (.int (3 : Int32)), .val (.ref o2), .val (.int (3 : Int32)), .val (.int (6 : Int32)), .val (.int (3 : Int32)), .val (.int k2)] [])
        refine Go.st (fun _ k => XS.aloadN X18.here hx rfl (hb hby d5_10) rfl rfl k) ?_
        show Go _ _ _ _ _ _ _ T18 (mkF m 11 #[.val (.ref o0), .val (.int (3 : Int32)), .val (.ref o2), .val (.int (3 : Int32)), .val (.int (6 : Int32)), .val (.int (3 : Int32)), .val (.int k2)] [(.ref o0)])
        refine Go.st (fun _ k => XS.iloadN X18.here hx rfl (hb hby d5_11) rfl k) ?_
        show Go _ _ _ _ _ _ _ T18 (mkF m 12 #[.val (.ref o0), .val (.int (3 : Int32)), .val (.ref o2), .val (.int (3 : Int32)), .val (.int (6 : Int32)), .val (.int (3 : Int32)), .val (.int k2)] [(.int (3 : Int32)), (.ref o0)])
        obtain ⟨cl19, Ar19, qq19, SS19, NN19, HH19, GG19⟩ := id V_o0__18
        have hin20 : ¬ ((3 : Int32) < 0 ∨ cl19.slots.size ≤ ((3 : Int32)).toNatClampNeg) := inb_of SS19 ⟨by decide, by decide⟩
        refine Go.st (fun _ k => X18.caload hx (j := (3 : Int32)) (v := (.int k3)) (by rw [e18]; exact Ar19.1) (State.isArrayOf_alike hZ.alike Ar19.2.1) Ar19.2.2 hin20 (HH19.at hin20 rfl) (g := (mkF m 12 #[.val (.ref o0), .val (.int (3 : Int32)), .val (.ref o2), .val (.int (3 : Int32)), .val (.int (6 : Int32)), .val (.int (3 : Int32)), .val (.int k2)] [(.int (3 : Int32)), (.ref o0)])) rfl rfl (hb hby d5_12) _ k) ?_
        show Go _ _ _ _ _ _ _ T18 (mkF m 13 #[.val (.ref o0), .val (.int (3 : Int32)), .val (.ref o2), .val (.int (3 : Int32)), .val (.int (6 : Int32)), .val (.int (3 : Int32)), .val (.int k2)] [(.int k3)])
        refine Go.st (fun _ k => XS.istore X18.here hx rfl (hb hby d5_13) rfl (l' := #[.val (.ref o0), .val (.int (3 : Int32)), .val (.ref o2), .val (.int (3 : Int32)), .val (.int (6 : Int32)), .val (.int (3 : Int32)), .val (.int k3)]) rfl k) ?_
        show Go _ _ _ _ _ _ _ T18 (mkF m 15 #[.val (.ref o0), .val (.int (3 : Int32)), .val (.ref o2), .val (.int (3 : Int32)), .val (.int (6 : Int32)), .val (.int (3 : Int32)), .val (.int k3)] [])
        refine Go.st (fun _ k => XS.iload X18.here hx rfl (hb hby d5_15) rfl k) ?_
        show Go _ _ _ _ _ _ _ T18 (mkF m 17 #[.val (.ref o0), .val (.int (3 : Int32)), .val (.ref o2), .val (.int (3 : Int32)), .val (.int (6 : Int32)), .val (.int (3 : Int32)), .val (.int k3)] [(.int k3)])
        refine Go.st (fun _ k => XS.sipush X18.here hx rfl (hb hby d5_17) k) ?_
        show Go _ _ _ _ _ _ _ T18 (mkF m 20 #[.val (.ref o0), .val (.int (3 : Int32)), .val (.ref o2), .val (.int (3 : Int32)), .val (.int (6 : Int32)), .val (.int (3 : Int32)), .val (.int k3)] [(.int (255 : Int32)), (.int k3)])
        by_cases hc21 : (255 : Int32) < k3
        · refine Go.st (fun _ k => XS.icmpNo X18.here hx rfl (hb hby d5_20) rfl (tlt hc21).2.2.2 k) ?_
          show Go _ _ _ _ _ _ _ T18 (mkF m 23 #[.val (.ref o0), .val (.int (3 : Int32)), .val (.ref o2), .val (.int (3 : Int32)), .val (.int (6 : Int32)), .val (.int (3 : Int32)), .val (.int k3)] [])
          refine Go.st (fun _ k => XS.iload X18.here hx rfl (hb hby d5_23) rfl k) ?_
          show Go _ _ _ _ _ _ _ T18 (mkF m 25 #[.val (.ref o0), .val (.int (3 : Int32)), .val (.ref o2), .val (.int (3 : Int32)), .val (.int (6 : Int32)), .val (.int (3 : Int32)), .val (.int k3)] [(.int (3 : Int32))])
          refine Go.ret X18 hlk (v := some (.int (3 : Int32))) (fun h => by rw [hret] at h; cases h) (fun fs hr => retOut X18 hx (t := .int) (i := .ireturn) hret rfl (Or.inl ⟨rfl, Or.inl rfl, _, rfl⟩) (hb hby d5_25) hr) ?_ (by decide) (by decide)
          show Q5 Z o0 o2 kc k0 k1 k2 k3 k4 k5 kd h0 n0 (some (.int (3 : Int32))) T18.heap _
          rw [e18]
          have hnd : ndW k0 k1 k2 k3 k4 k5 = (3 : Int32) := by unfold ndW; rw [if_neg hc3, if_neg hc9, if_neg hc15, if_pos hc21]
          exact ⟨by rw [hnd], N18, KK18, fun q => absurd (hnd.symm.trans q) (by decide)⟩
        · refine Go.st (fun _ k => XS.icmpYes X18.here hx rfl (pc0 := 20) (pc' := 26) rfl (hb hby d5_20) rfl (flt hc21).2.2.2 (by decide) (by decide) k) ?_
          show Go _ _ _ _ _ _ _ T18 (mkF m 26 #[.val (.ref o0), .val (.int (3 : Int32)), .val (.ref o2), .val (.int (3 : Int32)), .val (.int (6 : Int32)), .val (.int (3 : Int32)), .val (.int k3)] [])
          refine Go.st (fun _ k => XS.aloadN X18.here hx rfl (hb hby d5_26) rfl rfl k) ?_
          show Go _ _ _ _ _ _ _ T18 (mkF m 27 #[.val (.ref o0), .val (.int (3 : Int32)), .val (.ref o2), .val (.int (3 : Int32)), .val (.int (6 : Int32)), .val (.int (3 : Int32)), .val (.int k3)] [(.ref o2)])
          refine Go.st (fun _ k => XS.iloadN X18.here hx rfl (hb hby d5_27) rfl k) ?_
          show Go _ _ _ _ _ _ _ T18 (mkF m 28 #[.val (.ref o0), .val (.int (3 : Int32)), .val (.ref o2), .val (.int (3 : Int32)), .val (.int (6 : Int32)), .val (.int (3 : Int32)), .val (.int k3)] [(.int (3 : Int32)), (.ref o2)])
          refine Go.st (fun _ k => XS.iload X18.here hx rfl (hb hby d5_28) rfl k) ?_
          show Go _ _ _ _ _ _ _ T18 (mkF m 30 #[.val (.ref o0), .val (.int (3 : Int32)), .val (.ref o2), .val (.int (3 : Int32)), .val (.int (6 : Int32)), .val (.int (3 : Int32)), .val (.int k3)] [(.int k3), (.int (3 : Int32)), (.ref o2)])
          refine Go.st (fun _ k => XS.i2b X18.here hx rfl (hb hby d5_30) rfl k) ?_
          show Go _ _ _ _ _ _ _ T18 (mkF m 31 #[.val (.ref o0), .val (.int (3 : Int32)), .val (.ref o2), .val (.int (3 : Int32)), .val (.int (6 : Int32)), .val (.int (3 : Int32)), .val (.int k3)] [(.int (k3.toInt8.toInt32)), (.int (3 : Int32)), (.ref o2)])
          obtain ⟨cl22, Ar22, qq22, SS22, NN22, HH22, GG22⟩ := id V_o2__18
          have hin23 : ¬ ((3 : Int32) < 0 ∨ cl22.slots.size ≤ ((3 : Int32)).toNatClampNeg) := inb_of SS22 ⟨by decide, by decide⟩
          obtain ⟨T24, h24, X24, e24, W24, st24⟩ := stB X18 hx hZ e18 Ar22 (j := (3 : Int32)) hin23 (g := (mkF m 31 #[.val (.ref o0), .val (.int (3 : Int32)), .val (.ref o2), .val (.int (3 : Int32)), .val (.int (6 : Int32)), .val (.int (3 : Int32)), .val (.int k3)] [(.int (k3.toInt8.toInt32)), (.int (3 : Int32)), (.ref o2)])) rfl rfl (hb hby d5_31)
          rw [own_nb] at W24
          have V_o2__24 : Arv Z h24 o2 kd .byte (6 : Int32) [(.int (k0.toInt8.toInt32)), (.int (k1.toInt8.toInt32)), (.int (k2.toInt8.toInt32)), (.int (k3.toInt8.toInt32)), (.int (0 : Int32)), (.int (0 : Int32))] (.int (0 : Int32)) := Arv.set Ar22 qq22 SS22 NN22 HH22 GG22 (fits_nar_byte _) W24 3 rfl (Nat.le_of_ble_eq_true rfl)
          have V_o0__24 := V_o0__18.other W24 neo
          have Z24 : n0 ≤ h24.size := Nat.le_trans Z18 (Keep.of_wr W24).1
          have KK24 : Keep h0 h24 [o2] := KK18.wr W24 (Or.inl (List.mem_of_getElem? (i := 0) rfl))
          have N24 := Fr.snoc X24 N18 g_o2
          refine Go.st st24 ?_
          show Go _ _ _ _ _ _ _ T24 (mkF m 32 #[.val (.ref o0), .val (.int (3 : Int32)), .val (.ref o2), .val (.int (3 : Int32)), .val (.int (6 : Int32)), .val (.int (3 : Int32)), .val (.int k3)] [])
          refine Go.st (fun _ k => XS.iinc X24.here hx rfl (hb hby d5_32) rfl (l' := #[.val (.ref o0), .val (.int ((3 : Int32) + (1 : Int32))), .val (.ref o2), .val (.int (3 : Int32)), .val (.int (6 : Int32)), .val (.int (3 : Int32)), .val (.int k3)]) rfl k) ?_
          show Go _ _ _ _ _ _ _ T24 (mkF m 35 #[.val (.ref o0), .val (.int ((3 : Int32) + (1 : Int32))), .val (.ref o2), .val (.int (3 : Int32)), .val (.int (6 : Int32)), .val (.int (3 : Int32)), .val (.int k3)] [])
          refine Go.fr (f' := (mkF m 35 #[.val (.ref o0), .val (.int (4 : Int32)), .val (.ref o2), .val (.int (3 : Int32)), .val (.int (6 : Int32)), .val (.int (3 : Int32)), .val (.int k3)] [])) (by rw [show ((3 : Int32) + (1 : Int32)) = (4 : Int32) from by decide +kernel]) ?_
          show Go _ _ _ _ _ _ _ T24 (mkF m 35 #[.val (.ref o0), .val (.int (4 : Int32)), .val (.ref o2), .val (.int (3 : Int32)), .val (.int (6 : Int32)), .val (.int (3 : Int32)), .val (.int k3)] [])
          refine Go.st (fun _ k => XS.iinc X24.here hx rfl (hb hby d5_35) rfl (l' := #[.val (.ref o0), .val (.int (4 : Int32)), .val (.ref o2), .val (.int ((3 : Int32) + (1 : Int32))), .val (.int (6 : Int32)), .val (.int (3 : Int32)), .val (.int k3)]) rfl k) ?_
          show Go _ _ _ _ _ _ _ T24 (mkF m 38 #[.val (.ref o0), .val (.int (4 : Int32)), .val (.ref o2), .val (.int ((3 : Int32) + (1 : Int32))), .val (.int (6 : Int32)), .val (.int (3 : Int32)), .val (.int k3)] [])
          refine Go.fr (f' := (mkF m 38 #[.val (.ref o0), .val (.int (4 : Int32)), .val (.ref o2), .val (.int (4 : Int32)), .val (.int (6 : Int32)), .val (.int (3 : Int32)), .val (.int k3)] [])) (by rw [show ((3 : Int32) + (1 : Int32)) = (4 : Int32) from by decide +kernel]) ?_
          show Go _ _ _ _ _ _ _ T24 (mkF m 38 #[.val (.ref o0), .val (.int (4 : Int32)), .val (.ref o2), .val (.int (4 : Int32)), .val (.int (6 : Int32)), .val (.int (3 : Int32)), .val (.int k3)] [])
          refine Go.st (fun _ k => XS.iinc X24.here hx rfl (hb hby d5_38) rfl (l' := #[.val (.ref o0), .val (.int (4 : Int32)), .val (.ref o2), .val (.int (4 : Int32)), .val (.int (6 : Int32)), .val (.int ((3 : Int32) + (1 : Int32))), .val (.int k3)]) rfl k) ?_
          show Go _ _ _ _ _ _ _ T24 (mkF m 41 #[.val (.ref o0), .val (.int (4 : Int32)), .val (.ref o2), .val (.int (4 : Int32)), .val (.int (6 : Int32)), .val (.int ((3 : Int32) + (1 : Int32))), .val (.int k3)] [])
          refine Go.fr (f' := (mkF m 41 #[.val (.ref o0), .val (.int (4 : Int32)), .val (.ref o2), .val (.int (4 : Int32)), .val (.int (6 : Int32)), .val (.int (4 : Int32)), .val (.int k3)] [])) (by rw [show ((3 : Int32) + (1 : Int32)) = (4 : Int32) from by decide +kernel]) ?_
          show Go _ _ _ _ _ _ _ T24 (mkF m 41 #[.val (.ref o0), .val (.int (4 : Int32)), .val (.ref o2), .val (.int (4 : Int32)), .val (.int (6 : Int32)), .val (.int (4 : Int32)), .val (.int k3)] [])
          refine Go.st (fun _ k => XS.goto X24.here hx rfl (pc0 := 41) (pc' := 3) rfl (hb hby d5_41) (by decide) (by decide) k) ?_
          show Go _ _ _ _ _ _ _ T24 (mkF m 3 #[.val (.ref o0), .val (.int (4 : Int32)), .val (.ref o2), .val (.int (4 : Int32)), .val (.int (6 : Int32)), .val (.int (4 : Int32)), .val (.int k3)] [])
          refine Go.st (fun _ k => XS.iload X24.here hx rfl (hb hby d5_3) rfl k) ?_
          show Go _ _ _ _ _ _ _ T24 (mkF m 5 #[.val (.ref o0), .val (.int (4 : Int32)), .val (.ref o2), .val (.int (4 : Int32)), .val (.int (6 : Int32)), .val (.int (4 : Int32)), .val (.int k3)] [(.int (4 : Int32))])
          refine Go.st (fun _ k => XS.iload X24.here hx rfl (hb hby d5_5) rfl k) ?_
          show Go _ _ _ _ _ _ _ T24 (mkF m 7 #[.val (.ref o0), .val (.int (4 : Int32)), .val (.ref o2), .val (.int (4 : Int32)), .val (.int (6 : Int32)), .val (.int (4 : Int32)), .val (.int k3)] [(.int (6 : Int32)), (.int (4 : Int32))])
          refine Go.st (fun _ k => XS.icmpNo X24.here hx rfl (hb hby d5_7) rfl (tlt (by decide : (4 : Int32) < (6 : Int32))).2.1 k) ?_
          show Go _ _ _ _ _ _ _ T24 (mkF m 10 #[.val (.ref o0), .val (.int (4 : Int32)), .val (.ref o2), .val (.int (4 : Int32)), .val (.int (6 : Int32)), .val (.int (4 : Int32)), .val (.int k3)] [])
          refine Go.st (fun _ k => XS.aloadN X24.here hx rfl (hb hby d5_10) rfl rfl k) ?_
          show Go _ _ _ _ _ _ _ T24 (mkF m 11 #[.val (.ref o0), .val (.int (4 : Int32)), .val (.ref o2), .val (.int (4 : Int32)), .val (.int (6 : Int32)), .val (.int (4 : Int32)), .val (.int k3)] [(.ref o0)])
          refine Go.st (fun _ k => XS.iloadN X24.here hx rfl (hb hby d5_11) rfl k) ?_
          show Go _ _ _ _ _ _ _ T24 (mkF m 12 #[.val (.ref o0), .val (.int (4 : Int32)), .val (.ref o2), .val (.int (4 : Int32)), .val (.int (6 : Int32)), .val (.int (4 : Int32)), .val (.int k3)] [(.int (4 : Int32)), (.ref o0)])
          obtain ⟨cl25, Ar25, qq25, SS25, NN25, HH25, GG25⟩ := id V_o0__24
          have hin26 : ¬ ((4 : Int32) < 0 ∨ cl25.slots.size ≤ ((4 : Int32)).toNatClampNeg) := inb_of SS25 ⟨by decide, by decide⟩
          refine Go.st (fun _ k => X24.caload hx (j := (4 : Int32)) (v := (.int k4)) (by rw [e24]; exact Ar25.1) (State.isArrayOf_alike hZ.alike Ar25.2.1) Ar25.2.2 hin26 (HH25.at hin26 rfl) (g := (mkF m 12 #[.val (.ref o0), .val (.int (4 : Int32)), .val (.ref o2), .val (.int (4 : Int32)), .val (.int (6 : Int32)), .val (.int (4 : Int32)), .val (.int k3)] [(.int (4 : Int32)), (.ref o0)])) rfl rfl (hb hby d5_12) _ k) ?_
          show Go _ _ _ _ _ _ _ T24 (mkF m 13 #[.val (.ref o0), .val (.int (4 : Int32)), .val (.ref o2), .val (.int (4 : Int32)), .val (.int (6 : Int32)), .val (.int (4 : Int32)), .val (.int k3)] [(.int k4)])
          refine Go.st (fun _ k => XS.istore X24.here hx rfl (hb hby d5_13) rfl (l' := #[.val (.ref o0), .val (.int (4 : Int32)), .val (.ref o2), .val (.int (4 : Int32)), .val (.int (6 : Int32)), .val (.int (4 : Int32)), .val (.int k4)]) rfl k) ?_
          show Go _ _ _ _ _ _ _ T24 (mkF m 15 #[.val (.ref o0), .val (.int (4 : Int32)), .val (.ref o2), .val (.int (4 : Int32)), .val (.int (6 : Int32)), .val (.int (4 : Int32)), .val (.int k4)] [])
          refine Go.st (fun _ k => XS.iload X24.here hx rfl (hb hby d5_15) rfl k) ?_
          show Go _ _ _ _ _ _ _ T24 (mkF m 17 #[.val (.ref o0), .val (.int (4 : Int32)), .val (.ref o2), .val (.int (4 : Int32)), .val (.int (6 : Int32)), .val (.int (4 : Int32)), .val (.int k4)] [(.int k4)])
          refine Go.st (fun _ k => XS.sipush X24.here hx rfl (hb hby d5_17) k) ?_
          show Go _ _ _ _ _ _ _ T24 (mkF m 20 #[.val (.ref o0), .val (.int (4 : Int32)), .val (.ref o2), .val (.int (4 : Int32)), .val (.int (6 : Int32)), .val (.int (4 : Int32)), .val (.int k4)] [(.int (255 : Int32)), (.int k4)])
          by_cases hc27 : (255 : Int32) < k4
          · refine Go.st (fun _ k => XS.icmpNo X24.here hx rfl (hb hby d5_20) rfl (tlt hc27).2.2.2 k) ?_
            show Go _ _ _ _ _ _ _ T24 (mkF m 23 #[.val (.ref o0), .val (.int (4 : Int32)), .val (.ref o2), .val (.int (4 : Int32)), .val (.int (6 : Int32)), .val (.int (4 : Int32)), .val (.int k4)] [])
            refine Go.st (fun _ k => XS.iload X24.here hx rfl (hb hby d5_23) rfl k) ?_
            show Go _ _ _ _ _ _ _ T24 (mkF m 25 #[.val (.ref o0), .val (.int (4 : Int32)), .val (.ref o2), .val (.int (4 : Int32)), .val (.int (6 : Int32)), .val (.int (4 : Int32)), .val (.int k4)] [(.int (4 : Int32))])
            refine Go.ret X24 hlk (v := some (.int (4 : Int32))) (fun h => by rw [hret] at h; cases h) (fun fs hr => retOut X24 hx (t := .int) (i := .ireturn) hret rfl (Or.inl ⟨rfl, Or.inl rfl, _, rfl⟩) (hb hby d5_25) hr) ?_ (by decide) (by decide)
            show Q5 Z o0 o2 kc k0 k1 k2 k3 k4 k5 kd h0 n0 (some (.int (4 : Int32))) T24.heap _
            rw [e24]
            have hnd : ndW k0 k1 k2 k3 k4 k5 = (4 : Int32) := by unfold ndW; rw [if_neg hc3, if_neg hc9, if_neg hc15, if_neg hc21, if_pos hc27]
            exact ⟨by rw [hnd], N24, KK24, fun q => absurd (hnd.symm.trans q) (by decide)⟩
          · refine Go.st (fun _ k => XS.icmpYes X24.here hx rfl (pc0 := 20) (pc' := 26) rfl (hb hby d5_20) rfl (flt hc27).2.2.2 (by decide) (by decide) k) ?_
            show Go _ _ _ _ _ _ _ T24 (mkF m 26 #[.val (.ref o0), .val (.int (4 : Int32)), .val (.ref o2), .val (.int (4 : Int32)), .val (.int (6 : Int32)), .val (.int (4 : Int32)), .val (.int k4)] [])
            refine Go.st (fun _ k => XS.aloadN X24.here hx rfl (hb hby d5_26) rfl rfl k) ?_
            show Go _ _ _ _ _ _ _ T24 (mkF m 27 #[.val (.ref o0), .val (.int (4 : Int32)), .val (.ref o2), .val (.int (4 : Int32)), .val (.int (6 : Int32)), .val (.int (4 : Int32)), .val (.int k4)] [(.ref o2)])
            refine Go.st (fun _ k => XS.iloadN X24.here hx rfl (hb hby d5_27) rfl k) ?_
            show Go _ _ _ _ _ _ _ T24 (mkF m 28 #[.val (.ref o0), .val (.int (4 : Int32)), .val (.ref o2), .val (.int (4 : Int32)), .val (.int (6 : Int32)), .val (.int (4 : Int32)), .val (.int k4)] [(.int (4 : Int32)), (.ref o2)])
            refine Go.st (fun _ k => XS.iload X24.here hx rfl (hb hby d5_28) rfl k) ?_
            show Go _ _ _ _ _ _ _ T24 (mkF m 30 #[.val (.ref o0), .val (.int (4 : Int32)), .val (.ref o2), .val (.int (4 : Int32)), .val (.int (6 : Int32)), .val (.int (4 : Int32)), .val (.int k4)] [(.int k4), (.int (4 : Int32)), (.ref o2)])
            refine Go.st (fun _ k => XS.i2b X24.here hx rfl (hb hby d5_30) rfl k) ?_
            show Go _ _ _ _ _ _ _ T24 (mkF m 31 #[.val (.ref o0), .val (.int (4 : Int32)), .val (.ref o2), .val (.int (4 : Int32)), .val (.int (6 : Int32)), .val (.int (4 : Int32)), .val (.int k4)] [(.int (k4.toInt8.toInt32)), (.int (4 : Int32)), (.ref o2)])
            obtain ⟨cl28, Ar28, qq28, SS28, NN28, HH28, GG28⟩ := id V_o2__24
            have hin29 : ¬ ((4 : Int32) < 0 ∨ cl28.slots.size ≤ ((4 : Int32)).toNatClampNeg) := inb_of SS28 ⟨by decide, by decide⟩
            obtain ⟨T30, h30, X30, e30, W30, st30⟩ := stB X24 hx hZ e24 Ar28 (j := (4 : Int32)) hin29 (g := (mkF m 31 #[.val (.ref o0), .val (.int (4 : Int32)), .val (.ref o2), .val (.int (4 : Int32)), .val (.int (6 : Int32)), .val (.int (4 : Int32)), .val (.int k4)] [(.int (k4.toInt8.toInt32)), (.int (4 : Int32)), (.ref o2)])) rfl rfl (hb hby d5_31)
            rw [own_nb] at W30
            have V_o2__30 : Arv Z h30 o2 kd .byte (6 : Int32) [(.int (k0.toInt8.toInt32)), (.int (k1.toInt8.toInt32)), (.int (k2.toInt8.toInt32)), (.int (k3.toInt8.toInt32)), (.int (k4.toInt8.toInt32)), (.int (0 : Int32))] (.int (0 : Int32)) := Arv.set Ar28 qq28 SS28 NN28 HH28 GG28 (fits_nar_byte _) W30 4 rfl (Nat.le_of_ble_eq_true rfl)
            have V_o0__30 := V_o0__24.other W30 neo
            have Z30 : n0 ≤ h30.size := Nat.le_trans Z24 (Keep.of_wr W30).1
            have KK30 : Keep h0 h30 [o2] := KK24.wr W30 (Or.inl (List.mem_of_getElem? (i := 0) rfl))
            have N30 := Fr.snoc X30 N24 g_o2
            refine Go.st st30 ?_
            show Go _ _ _ _ _ _ _ T30 (mkF m 32 #[.val (.ref o0), .val (.int (4 : Int32)), .val (.ref o2), .val (.int (4 : Int32)), .val (.int (6 : Int32)), .val (.int (4 : Int32)), .val (.int k4)] [])
            refine Go.st (fun _ k => XS.iinc X30.here hx rfl (hb hby d5_32) rfl (l' := #[.val (.ref o0), .val (.int ((4 : Int32) + (1 : Int32))), .val (.ref o2), .val (.int (4 : Int32)), .val (.int (6 : Int32)), .val (.int (4 : Int32)), .val (.int k4)]) rfl k) ?_
            show Go _ _ _ _ _ _ _ T30 (mkF m 35 #[.val (.ref o0), .val (.int ((4 : Int32) + (1 : Int32))), .val (.ref o2), .val (.int (4 : Int32)), .val (.int (6 : Int32)), .val (.int (4 : Int32)), .val (.int k4)] [])
            refine Go.fr (f' := (mkF m 35 #[.val (.ref o0), .val (.int (5 : Int32)), .val (.ref o2), .val (.int (4 : Int32)), .val (.int (6 : Int32)), .val (.int (4 : Int32)), .val (.int k4)] [])) (by rw [show ((4 : Int32) + (1 : Int32)) = (5 : Int32) from by decide +kernel]) ?_
            show Go _ _ _ _ _ _ _ T30 (mkF m 35 #[.val (.ref o0), .val (.int (5 : Int32)), .val (.ref o2), .val (.int (4 : Int32)), .val (.int (6 : Int32)), .val (.int (4 : Int32)), .val (.int k4)] [])
            refine Go.st (fun _ k => XS.iinc X30.here hx rfl (hb hby d5_35) rfl (l' := #[.val (.ref o0), .val (.int (5 : Int32)), .val (.ref o2), .val (.int ((4 : Int32) + (1 : Int32))), .val (.int (6 : Int32)), .val (.int (4 : Int32)), .val (.int k4)]) rfl k) ?_
            show Go _ _ _ _ _ _ _ T30 (mkF m 38 #[.val (.ref o0), .val (.int (5 : Int32)), .val (.ref o2), .val (.int ((4 : Int32) + (1 : Int32))), .val (.int (6 : Int32)), .val (.int (4 : Int32)), .val (.int k4)] [])
            refine Go.fr (f' := (mkF m 38 #[.val (.ref o0), .val (.int (5 : Int32)), .val (.ref o2), .val (.int (5 : Int32)), .val (.int (6 : Int32)), .val (.int (4 : Int32)), .val (.int k4)] [])) (by rw [show ((4 : Int32) + (1 : Int32)) = (5 : Int32) from by decide +kernel]) ?_
            show Go _ _ _ _ _ _ _ T30 (mkF m 38 #[.val (.ref o0), .val (.int (5 : Int32)), .val (.ref o2), .val (.int (5 : Int32)), .val (.int (6 : Int32)), .val (.int (4 : Int32)), .val (.int k4)] [])
            refine Go.st (fun _ k => XS.iinc X30.here hx rfl (hb hby d5_38) rfl (l' := #[.val (.ref o0), .val (.int (5 : Int32)), .val (.ref o2), .val (.int (5 : Int32)), .val (.int (6 : Int32)), .val (.int ((4 : Int32) + (1 : Int32))), .val (.int k4)]) rfl k) ?_
            show Go _ _ _ _ _ _ _ T30 (mkF m 41 #[.val (.ref o0), .val (.int (5 : Int32)), .val (.ref o2), .val (.int (5 : Int32)), .val (.int (6 : Int32)), .val (.int ((4 : Int32) + (1 : Int32))), .val (.int k4)] [])
            refine Go.fr (f' := (mkF m 41 #[.val (.ref o0), .val (.int (5 : Int32)), .val (.ref o2), .val (.int (5 : Int32)), .val (.int (6 : Int32)), .val (.int (5 : Int32)), .val (.int k4)] [])) (by rw [show ((4 : Int32) + (1 : Int32)) = (5 : Int32) from by decide +kernel]) ?_
            show Go _ _ _ _ _ _ _ T30 (mkF m 41 #[.val (.ref o0), .val (.int (5 : Int32)), .val (.ref o2), .val (.int (5 : Int32)), .val (.int (6 : Int32)), .val (.int (5 : Int32)), .val (.int k4)] [])
            refine Go.st (fun _ k => XS.goto X30.here hx rfl (pc0 := 41) (pc' := 3) rfl (hb hby d5_41) (by decide) (by decide) k) ?_
            show Go _ _ _ _ _ _ _ T30 (mkF m 3 #[.val (.ref o0), .val (.int (5 : Int32)), .val (.ref o2), .val (.int (5 : Int32)), .val (.int (6 : Int32)), .val (.int (5 : Int32)), .val (.int k4)] [])
            refine Go.st (fun _ k => XS.iload X30.here hx rfl (hb hby d5_3) rfl k) ?_
            show Go _ _ _ _ _ _ _ T30 (mkF m 5 #[.val (.ref o0), .val (.int (5 : Int32)), .val (.ref o2), .val (.int (5 : Int32)), .val (.int (6 : Int32)), .val (.int (5 : Int32)), .val (.int k4)] [(.int (5 : Int32))])
            refine Go.st (fun _ k => XS.iload X30.here hx rfl (hb hby d5_5) rfl k) ?_
            show Go _ _ _ _ _ _ _ T30 (mkF m 7 #[.val (.ref o0), .val (.int (5 : Int32)), .val (.ref o2), .val (.int (5 : Int32)), .val (.int (6 : Int32)), .val (.int (5 : Int32)), .val (.int k4)] [(.int (6 : Int32)), (.int (5 : Int32))])
            refine Go.st (fun _ k => XS.icmpNo X30.here hx rfl (hb hby d5_7) rfl (tlt (by decide : (5 : Int32) < (6 : Int32))).2.1 k) ?_
            show Go _ _ _ _ _ _ _ T30 (mkF m 10 #[.val (.ref o0), .val (.int (5 : Int32)), .val (.ref o2), .val (.int (5 : Int32)), .val (.int (6 : Int32)), .val (.int (5 : Int32)), .val (.int k4)] [])
            refine Go.st (fun _ k => XS.aloadN X30.here hx rfl (hb hby d5_10) rfl rfl k) ?_
            show Go _ _ _ _ _ _ _ T30 (mkF m 11 #[.val (.ref o0), .val (.int (5 : Int32)), .val (.ref o2), .val (.int (5 : Int32)), .val (.int (6 : Int32)), .val (.int (5 : Int32)), .val (.int k4)] [(.ref o0)])
            refine Go.st (fun _ k => XS.iloadN X30.here hx rfl (hb hby d5_11) rfl k) ?_
            show Go _ _ _ _ _ _ _ T30 (mkF m 12 #[.val (.ref o0), .val (.int (5 : Int32)), .val (.ref o2), .val (.int (5 : Int32)), .val (.int (6 : Int32)), .val (.int (5 : Int32)), .val (.int k4)] [(.int (5 : Int32)), (.ref o0)])
            obtain ⟨cl31, Ar31, qq31, SS31, NN31, HH31, GG31⟩ := id V_o0__30
            have hin32 : ¬ ((5 : Int32) < 0 ∨ cl31.slots.size ≤ ((5 : Int32)).toNatClampNeg) := inb_of SS31 ⟨by decide, by decide⟩
            refine Go.st (fun _ k => X30.caload hx (j := (5 : Int32)) (v := (.int k5)) (by rw [e30]; exact Ar31.1) (State.isArrayOf_alike hZ.alike Ar31.2.1) Ar31.2.2 hin32 (HH31.at hin32 rfl) (g := (mkF m 12 #[.val (.ref o0), .val (.int (5 : Int32)), .val (.ref o2), .val (.int (5 : Int32)), .val (.int (6 : Int32)), .val (.int (5 : Int32)), .val (.int k4)] [(.int (5 : Int32)), (.ref o0)])) rfl rfl (hb hby d5_12) _ k) ?_
            show Go _ _ _ _ _ _ _ T30 (mkF m 13 #[.val (.ref o0), .val (.int (5 : Int32)), .val (.ref o2), .val (.int (5 : Int32)), .val (.int (6 : Int32)), .val (.int (5 : Int32)), .val (.int k4)] [(.int k5)])
            refine Go.st (fun _ k => XS.istore X30.here hx rfl (hb hby d5_13) rfl (l' := #[.val (.ref o0), .val (.int (5 : Int32)), .val (.ref o2), .val (.int (5 : Int32)), .val (.int (6 : Int32)), .val (.int (5 : Int32)), .val (.int k5)]) rfl k) ?_
            show Go _ _ _ _ _ _ _ T30 (mkF m 15 #[.val (.ref o0), .val (.int (5 : Int32)), .val (.ref o2), .val (.int (5 : Int32)), .val (.int (6 : Int32)), .val (.int (5 : Int32)), .val (.int k5)] [])
            refine Go.st (fun _ k => XS.iload X30.here hx rfl (hb hby d5_15) rfl k) ?_
            show Go _ _ _ _ _ _ _ T30 (mkF m 17 #[.val (.ref o0), .val (.int (5 : Int32)), .val (.ref o2), .val (.int (5 : Int32)), .val (.int (6 : Int32)), .val (.int (5 : Int32)), .val (.int k5)] [(.int k5)])
            refine Go.st (fun _ k => XS.sipush X30.here hx rfl (hb hby d5_17) k) ?_
            show Go _ _ _ _ _ _ _ T30 (mkF m 20 #[.val (.ref o0), .val (.int (5 : Int32)), .val (.ref o2), .val (.int (5 : Int32)), .val (.int (6 : Int32)), .val (.int (5 : Int32)), .val (.int k5)] [(.int (255 : Int32)), (.int k5)])
            by_cases hc33 : (255 : Int32) < k5
            · refine Go.st (fun _ k => XS.icmpNo X30.here hx rfl (hb hby d5_20) rfl (tlt hc33).2.2.2 k) ?_
              show Go _ _ _ _ _ _ _ T30 (mkF m 23 #[.val (.ref o0), .val (.int (5 : Int32)), .val (.ref o2), .val (.int (5 : Int32)), .val (.int (6 : Int32)), .val (.int (5 : Int32)), .val (.int k5)] [])
              refine Go.st (fun _ k => XS.iload X30.here hx rfl (hb hby d5_23) rfl k) ?_
              show Go _ _ _ _ _ _ _ T30 (mkF m 25 #[.val (.ref o0), .val (.int (5 : Int32)), .val (.ref o2), .val (.int (5 : Int32)), .val (.int (6 : Int32)), .val (.int (5 : Int32)), .val (.int k5)] [(.int (5 : Int32))])
              refine Go.ret X30 hlk (v := some (.int (5 : Int32))) (fun h => by rw [hret] at h; cases h) (fun fs hr => retOut X30 hx (t := .int) (i := .ireturn) hret rfl (Or.inl ⟨rfl, Or.inl rfl, _, rfl⟩) (hb hby d5_25) hr) ?_ (by decide) (by decide)
              show Q5 Z o0 o2 kc k0 k1 k2 k3 k4 k5 kd h0 n0 (some (.int (5 : Int32))) T30.heap _
              rw [e30]
              have hnd : ndW k0 k1 k2 k3 k4 k5 = (5 : Int32) := by unfold ndW; rw [if_neg hc3, if_neg hc9, if_neg hc15, if_neg hc21, if_neg hc27, if_pos hc33]
              exact ⟨by rw [hnd], N30, KK30, fun q => absurd (hnd.symm.trans q) (by decide)⟩
            · refine Go.st (fun _ k => XS.icmpYes X30.here hx rfl (pc0 := 20) (pc' := 26) rfl (hb hby d5_20) rfl (flt hc33).2.2.2 (by decide) (by decide) k) ?_
              show Go _ _ _ _ _ _ _ T30 (mkF m 26 #[.val (.ref o0), .val (.int (5 : Int32)), .val (.ref o2), .val (.int (5 : Int32)), .val (.int (6 : Int32)), .val (.int (5 : Int32)), .val (.int k5)] [])
              refine Go.st (fun _ k => XS.aloadN X30.here hx rfl (hb hby d5_26) rfl rfl k) ?_
              show Go _ _ _ _ _ _ _ T30 (mkF m 27 #[.val (.ref o0), .val (.int (5 : Int32)), .val (.ref o2), .val (.int (5 : Int32)), .val (.int (6 : Int32)), .val (.int (5 : Int32)), .val (.int k5)] [(.ref o2)])
              refine Go.st (fun _ k => XS.iloadN X30.here hx rfl (hb hby d5_27) rfl k) ?_
              show Go _ _ _ _ _ _ _ T30 (mkF m 28 #[.val (.ref o0), .val (.int (5 : Int32)), .val (.ref o2), .val (.int (5 : Int32)), .val (.int (6 : Int32)), .val (.int (5 : Int32)), .val (.int k5)] [(.int (5 : Int32)), (.ref o2)])
              refine Go.st (fun _ k => XS.iload X30.here hx rfl (hb hby d5_28) rfl k) ?_
              show Go _ _ _ _ _ _ _ T30 (mkF m 30 #[.val (.ref o0), .val (.int (5 : Int32)), .val (.ref o2), .val (.int (5 : Int32)), .val (.int (6 : Int32)), .val (.int (5 : Int32)), .val (.int k5)] [(.int k5), (.int (5 : Int32)), (.ref o2)])
              refine Go.st (fun _ k => XS.i2b X30.here hx rfl (hb hby d5_30) rfl k) ?_
              show Go _ _ _ _ _ _ _ T30 (mkF m 31 #[.val (.ref o0), .val (.int (5 : Int32)), .val (.ref o2), .val (.int (5 : Int32)), .val (.int (6 : Int32)), .val (.int (5 : Int32)), .val (.int k5)] [(.int (k5.toInt8.toInt32)), (.int (5 : Int32)), (.ref o2)])
              obtain ⟨cl34, Ar34, qq34, SS34, NN34, HH34, GG34⟩ := id V_o2__30
              have hin35 : ¬ ((5 : Int32) < 0 ∨ cl34.slots.size ≤ ((5 : Int32)).toNatClampNeg) := inb_of SS34 ⟨by decide, by decide⟩
              obtain ⟨T36, h36, X36, e36, W36, st36⟩ := stB X30 hx hZ e30 Ar34 (j := (5 : Int32)) hin35 (g := (mkF m 31 #[.val (.ref o0), .val (.int (5 : Int32)), .val (.ref o2), .val (.int (5 : Int32)), .val (.int (6 : Int32)), .val (.int (5 : Int32)), .val (.int k5)] [(.int (k5.toInt8.toInt32)), (.int (5 : Int32)), (.ref o2)])) rfl rfl (hb hby d5_31)
              rw [own_nb] at W36
              have V_o2__36 : Arv Z h36 o2 kd .byte (6 : Int32) [(.int (k0.toInt8.toInt32)), (.int (k1.toInt8.toInt32)), (.int (k2.toInt8.toInt32)), (.int (k3.toInt8.toInt32)), (.int (k4.toInt8.toInt32)), (.int (k5.toInt8.toInt32))] (.int (0 : Int32)) := Arv.set Ar34 qq34 SS34 NN34 HH34 GG34 (fits_nar_byte _) W36 5 rfl (Nat.le_of_ble_eq_true rfl)
              have V_o0__36 := V_o0__30.other W36 neo
              have Z36 : n0 ≤ h36.size := Nat.le_trans Z30 (Keep.of_wr W36).1
              have KK36 : Keep h0 h36 [o2] := KK30.wr W36 (Or.inl (List.mem_of_getElem? (i := 0) rfl))
              have N36 := Fr.snoc X36 N30 g_o2
              refine Go.st st36 ?_
              show Go _ _ _ _ _ _ _ T36 (mkF m 32 #[.val (.ref o0), .val (.int (5 : Int32)), .val (.ref o2), .val (.int (5 : Int32)), .val (.int (6 : Int32)), .val (.int (5 : Int32)), .val (.int k5)] [])
              refine Go.st (fun _ k => XS.iinc X36.here hx rfl (hb hby d5_32) rfl (l' := #[.val (.ref o0), .val (.int ((5 : Int32) + (1 : Int32))), .val (.ref o2), .val (.int (5 : Int32)), .val (.int (6 : Int32)), .val (.int (5 : Int32)), .val (.int k5)]) rfl k) ?_
              show Go _ _ _ _ _ _ _ T36 (mkF m 35 #[.val (.ref o0), .val (.int ((5 : Int32) + (1 : Int32))), .val (.ref o2), .val (.int (5 : Int32)), .val (.int (6 : Int32)), .val (.int (5 : Int32)), .val (.int k5)] [])
              refine Go.fr (f' := (mkF m 35 #[.val (.ref o0), .val (.int (6 : Int32)), .val (.ref o2), .val (.int (5 : Int32)), .val (.int (6 : Int32)), .val (.int (5 : Int32)), .val (.int k5)] [])) (by rw [show ((5 : Int32) + (1 : Int32)) = (6 : Int32) from by decide +kernel]) ?_
              show Go _ _ _ _ _ _ _ T36 (mkF m 35 #[.val (.ref o0), .val (.int (6 : Int32)), .val (.ref o2), .val (.int (5 : Int32)), .val (.int (6 : Int32)), .val (.int (5 : Int32)), .val (.int k5)] [])
              refine Go.st (fun _ k => XS.iinc X36.here hx rfl (hb hby d5_35) rfl (l' := #[.val (.ref o0), .val (.int (6 : Int32)), .val (.ref o2), .val (.int ((5 : Int32) + (1 : Int32))), .val (.int (6 : Int32)), .val (.int (5 : Int32)), .val (.int k5)]) rfl k) ?_
              show Go _ _ _ _ _ _ _ T36 (mkF m 38 #[.val (.ref o0), .val (.int (6 : Int32)), .val (.ref o2), .val (.int ((5 : Int32) + (1 : Int32))), .val (.int (6 : Int32)), .val (.int (5 : Int32)), .val (.int k5)] [])
              refine Go.fr (f' := (mkF m 38 #[.val (.ref o0), .val (.int (6 : Int32)), .val (.ref o2), .val (.int (6 : Int32)), .val (.int (6 : Int32)), .val (.int (5 : Int32)), .val (.int k5)] [])) (by rw [show ((5 : Int32) + (1 : Int32)) = (6 : Int32) from by decide +kernel]) ?_
              show Go _ _ _ _ _ _ _ T36 (mkF m 38 #[.val (.ref o0), .val (.int (6 : Int32)), .val (.ref o2), .val (.int (6 : Int32)), .val (.int (6 : Int32)), .val (.int (5 : Int32)), .val (.int k5)] [])
              refine Go.st (fun _ k => XS.iinc X36.here hx rfl (hb hby d5_38) rfl (l' := #[.val (.ref o0), .val (.int (6 : Int32)), .val (.ref o2), .val (.int (6 : Int32)), .val (.int (6 : Int32)), .val (.int ((5 : Int32) + (1 : Int32))), .val (.int k5)]) rfl k) ?_
              show Go _ _ _ _ _ _ _ T36 (mkF m 41 #[.val (.ref o0), .val (.int (6 : Int32)), .val (.ref o2), .val (.int (6 : Int32)), .val (.int (6 : Int32)), .val (.int ((5 : Int32) + (1 : Int32))), .val (.int k5)] [])
              refine Go.fr (f' := (mkF m 41 #[.val (.ref o0), .val (.int (6 : Int32)), .val (.ref o2), .val (.int (6 : Int32)), .val (.int (6 : Int32)), .val (.int (6 : Int32)), .val (.int k5)] [])) (by rw [show ((5 : Int32) + (1 : Int32)) = (6 : Int32) from by decide +kernel]) ?_
              show Go _ _ _ _ _ _ _ T36 (mkF m 41 #[.val (.ref o0), .val (.int (6 : Int32)), .val (.ref o2), .val (.int (6 : Int32)), .val (.int (6 : Int32)), .val (.int (6 : Int32)), .val (.int k5)] [])
              refine Go.st (fun _ k => XS.goto X36.here hx rfl (pc0 := 41) (pc' := 3) rfl (hb hby d5_41) (by decide) (by decide) k) ?_
              show Go _ _ _ _ _ _ _ T36 (mkF m 3 #[.val (.ref o0), .val (.int (6 : Int32)), .val (.ref o2), .val (.int (6 : Int32)), .val (.int (6 : Int32)), .val (.int (6 : Int32)), .val (.int k5)] [])
              refine Go.st (fun _ k => XS.iload X36.here hx rfl (hb hby d5_3) rfl k) ?_
              show Go _ _ _ _ _ _ _ T36 (mkF m 5 #[.val (.ref o0), .val (.int (6 : Int32)), .val (.ref o2), .val (.int (6 : Int32)), .val (.int (6 : Int32)), .val (.int (6 : Int32)), .val (.int k5)] [(.int (6 : Int32))])
              refine Go.st (fun _ k => XS.iload X36.here hx rfl (hb hby d5_5) rfl k) ?_
              show Go _ _ _ _ _ _ _ T36 (mkF m 7 #[.val (.ref o0), .val (.int (6 : Int32)), .val (.ref o2), .val (.int (6 : Int32)), .val (.int (6 : Int32)), .val (.int (6 : Int32)), .val (.int k5)] [(.int (6 : Int32)), (.int (6 : Int32))])
              refine Go.st (fun _ k => XS.icmpYes X36.here hx rfl (pc0 := 7) (pc' := 44) rfl (hb hby d5_7) rfl (flt (by decide : ¬ ((6 : Int32) < (6 : Int32)))).2.1 (by decide) (by decide) k) ?_
              show Go _ _ _ _ _ _ _ T36 (mkF m 44 #[.val (.ref o0), .val (.int (6 : Int32)), .val (.ref o2), .val (.int (6 : Int32)), .val (.int (6 : Int32)), .val (.int (6 : Int32)), .val (.int k5)] [])
              refine Go.st (fun _ k => XS.iload X36.here hx rfl (hb hby d5_44) rfl k) ?_
              show Go _ _ _ _ _ _ _ T36 (mkF m 46 #[.val (.ref o0), .val (.int (6 : Int32)), .val (.ref o2), .val (.int (6 : Int32)), .val (.int (6 : Int32)), .val (.int (6 : Int32)), .val (.int k5)] [(.int (6 : Int32))])
              refine Go.ret X36 hlk (v := some (.int (6 : Int32))) (fun h => by rw [hret] at h; cases h) (fun fs hr => retOut X36 hx (t := .int) (i := .ireturn) hret rfl (Or.inl ⟨rfl, Or.inl rfl, _, rfl⟩) (hb hby d5_46) hr) ?_ (by decide) (by decide)
              show Q5 Z o0 o2 kc k0 k1 k2 k3 k4 k5 kd h0 n0 (some (.int (6 : Int32))) T36.heap _
              rw [e36]
              have hnd : ndW k0 k1 k2 k3 k4 k5 = (6 : Int32) := by unfold ndW; rw [if_neg hc3, if_neg hc9, if_neg hc15, if_neg hc21, if_neg hc27, if_neg hc33]
              exact ⟨by rw [hnd], N36, KK36, fun _ => V_o2__36⟩
theorem d4_0 : decode jdk_52_method_16_code 0 = .ok (.iload_n 2, 1) := by decide +kernel
theorem d4_1 : decode jdk_52_method_16_code 1 = .ok (.newarray .byte, 2) := by decide +kernel
theorem d4_3 : decode jdk_52_method_16_code 3 = .ok (.astore_n 3, 1) := by decide +kernel
theorem d4_4 : decode jdk_52_method_16_code 4 = .ok (.aload_n 0, 1) := by decide +kernel
theorem d4_5 : decode jdk_52_method_16_code 5 = .ok (.iload_n 1, 1) := by decide +kernel
theorem d4_6 : decode jdk_52_method_16_code 6 = .ok (.aload_n 3, 1) := by decide +kernel
theorem d4_7 : decode jdk_52_method_16_code 7 = .ok (.iconst 0, 1) := by decide +kernel
theorem d4_8 : decode jdk_52_method_16_code 8 = .ok (.iload_n 2, 1) := by decide +kernel
theorem d4_9 : decode jdk_52_method_16_code 9 = .ok (.invokestatic 115, 3) := by decide +kernel
theorem d4_12 : decode jdk_52_method_16_code 12 = .ok (.istore 4, 2) := by decide +kernel
theorem d4_14 : decode jdk_52_method_16_code 14 = .ok (.iload 4, 2) := by decide +kernel
theorem d4_16 : decode jdk_52_method_16_code 16 = .ok (.iload_n 2, 1) := by decide +kernel
theorem d4_17 : decode jdk_52_method_16_code 17 = .ok (.if_icmp .eq 40, 3) := by decide +kernel
theorem d4_20 : decode jdk_52_method_16_code 20 = .ok (.aload_n 0, 1) := by decide +kernel
theorem d4_21 : decode jdk_52_method_16_code 21 = .ok (.iload_n 1, 1) := by decide +kernel
theorem d4_22 : decode jdk_52_method_16_code 22 = .ok (.iload_n 2, 1) := by decide +kernel
theorem d4_23 : decode jdk_52_method_16_code 23 = .ok (.invokestatic 119, 3) := by decide +kernel
theorem d4_26 : decode jdk_52_method_16_code 26 = .ok (.astore 5, 2) := by decide +kernel
theorem d4_28 : decode jdk_52_method_16_code 28 = .ok (.aload 5, 2) := by decide +kernel
theorem d4_30 : decode jdk_52_method_16_code 30 = .ok (.iload 4, 2) := by decide +kernel
theorem d4_32 : decode jdk_52_method_16_code 32 = .ok (.invokestatic 71, 3) := by decide +kernel
theorem d4_35 : decode jdk_52_method_16_code 35 = .ok (.sipush 255, 3) := by decide +kernel
theorem d4_38 : decode jdk_52_method_16_code 38 = .ok (.if_icmp .gt 16, 3) := by decide +kernel
theorem d4_54 : decode jdk_52_method_16_code 54 = .ok (.aload 5, 2) := by decide +kernel
theorem d4_56 : decode jdk_52_method_16_code 56 = .ok (.areturn, 1) := by decide +kernel
theorem d4_57 : decode jdk_52_method_16_code 57 = .ok (.aload_n 3, 1) := by decide +kernel
theorem d4_58 : decode jdk_52_method_16_code 58 = .ok (.areturn, 1) := by decide +kernel
theorem ef_4 (m : MethodId) (o0 : Addr) : entryFrame m #[(.ref o0), (.int (0 : Int32)), (.int (6 : Int32))] 6 = mkF m 0 #[.val (.ref o0), .val (.int (0 : Int32)), .val (.int (6 : Int32)), .unset, .unset, .unset] [] := by first | (simp [entryFrame, mkF, argsToLocals, Value.category]; done) | rfl
def Q4 (Z : State) (o0 : Addr) (kc : ClassId) (k0 : Int32) (k1 : Int32) (k2 : Int32) (k3 : Int32) (k4 : Int32) (k5 : Int32) (h0 : Heap) (n0 : Nat) (v : Option Value) (h : Heap) (L : List Loc) : Prop := ∃ (r : Addr) (kb : ClassId), v = some (.ref r) ∧ Fr n0 L ∧ Keep h0 h [] ∧ h0.size ≤ r ∧ ((Arv Z h r kb .byte (6 : Int32) [(.int (k0.toInt8.toInt32)), (.int (k1.toInt8.toInt32)), (.int (k2.toInt8.toInt32)), (.int (k3.toInt8.toInt32)), (.int (k4.toInt8.toInt32)), (.int (k5.toInt8.toInt32))] (.int (0 : Int32)) ∧ Lat k0 k1 k2 k3 k4 k5) ∨ Arv Z h r kb .byte (12 : Int32) [(.int ((k0 >>> ((0 : Int32) &&& 31)).toInt8.toInt32)), (.int ((k0 >>> ((8 : Int32) &&& 31)).toInt8.toInt32)), (.int ((k1 >>> ((0 : Int32) &&& 31)).toInt8.toInt32)), (.int ((k1 >>> ((8 : Int32) &&& 31)).toInt8.toInt32)), (.int ((k2 >>> ((0 : Int32) &&& 31)).toInt8.toInt32)), (.int ((k2 >>> ((8 : Int32) &&& 31)).toInt8.toInt32)), (.int ((k3 >>> ((0 : Int32) &&& 31)).toInt8.toInt32)), (.int ((k3 >>> ((8 : Int32) &&& 31)).toInt8.toInt32)), (.int ((k4 >>> ((0 : Int32) &&& 31)).toInt8.toInt32)), (.int ((k4 >>> ((8 : Int32) &&& 31)).toInt8.toInt32)), (.int ((k5 >>> ((0 : Int32) &&& 31)).toInt8.toInt32)), (.int ((k5 >>> ((8 : Int32) &&& 31)).toInt8.toInt32))] (.int (0 : Int32)))
set_option maxRecDepth 65536 in
set_option maxHeartbeats 40000000 in
theorem rm4 (l : Launch) (Z : State) (a0 : Array Value) (hw : ∀ d ∈ tables_1, d.before a0 Z = true) (ws : List Jvm.Cond) (o0 : Addr) (kc : ClassId) (k0 : Int32) (k1 : Int32) (k2 : Int32) (k3 : Int32) (k4 : Int32) (k5 : Int32) (h0 : Heap) (n0 : Nat) (Z0 : n0 ≤ h0.size) (V_o0 : Arv Z h0 o0 kc .char (6 : Int32) [(.int k0), (.int k1), (.int k2), (.int k3), (.int k4), (.int k5)] (.int (0 : Int32))) (hW : Wide16 k0 k1 k2 k3 k4 k5) (S_AD : Sta Z h0 "java/lang/StringUTF16" "$assertionsDisabled" "Z" (.int (1 : Int32))) (S_HI : Sta Z h0 "java/lang/StringUTF16" "HI_BYTE_SHIFT" "I" (.int (0 : Int32))) (S_LO : Sta Z h0 "java/lang/StringUTF16" "LO_BYTE_SHIFT" "I" (.int (8 : Int32))) :
    MetFree l (⟨"java/lang/StringUTF16", "compress", "([CII)[B"⟩ : MethodName) (head1 (Jvm.Cond.code (⟨"java/lang/StringUTF16", "compress", "([CII)[B"⟩ : MethodName) jdk_52_method_16_code 6 (some (.array .byte)) :: ws) ({ frames := 3, cells := 2, slots := 18, locals := 40 } : Room)) (fun a U => a = #[(.ref o0), (.int (0 : Int32)), (.int (6 : Int32))] ∧ Z.Warmed39 U.vm ∧ U.heap = h0) (fun _ _ _ _ _ => True) (fun _ U o U' => ∃ v L, o = .returned v ∧ Q4 Z o0 kc k0 k1 k2 k3 k4 k5 h0 n0 v U'.heap L ∧ FrameEnd U o U' L ({ frames := 3, cells := 2, slots := 18, locals := 40 } : Room).cells ({ frames := 3, cells := 2, slots := 18, locals := 40 } : Room).slots) := by
  refine MetFree.of_bodySF (plainFor_of_name pn_java_lang_StringUTF16) hisR ?_
  intro p e s m args below meth c s₁ Bd hml0 hP hK
  obtain ⟨rfl, hZ, hh⟩ := hP
  have hx := Bd.exec
  have hby := Bd.bytes
  have hlk : meth.locks = false := BodyLoose.notSynchronized Bd
  have hret := Bd.returns
  have hml : c.maxLocals = 6 := hml0
  have hown : s.vm.findClass "java/lang/StringUTF16" = some m.cls := findClass_of_methodNamed Bd.named
  have hnm := (name_of_methodNamed Bd.named Bd.method).1
  have X0 : Stand p l e ({ frames := 3, cells := 2, slots := 18, locals := 40 } : Room) s m #[(.ref o0), (.int (0 : Int32)), (.int (6 : Int32))] below meth c s₁ [] 0 0 := Stand.of_body Bd
  have e0 : s₁.heap = h0 := by rw [← hh, Bd.state]; rfl
  have N0 := Fr.nil n0
  refine Go.start (Q := Q4 Z o0 kc k0 k1 k2 k3 k4 k5 h0 n0) (ef_4 m o0) ?_
  show Go _ _ _ _ _ _ _ s₁ (mkF m 0 #[.val (.ref o0), .val (.int (0 : Int32)), .val (.int (6 : Int32)), .unset, .unset, .unset] [])
  refine Go.st (fun _ k => XS.iloadN X0.here hx rfl (hb hby d4_0) rfl k) ?_
  show Go _ _ _ _ _ _ _ s₁ (mkF m 1 #[.val (.ref o0), .val (.int (0 : Int32)), .val (.int (6 : Int32)), .unset, .unset, .unset] [(.int (6 : Int32))])
  obtain ⟨T1, h1, ck1, X1, e1, E1, A1, st1⟩ := newP X0 hx hZ (hw _ (List.mem_of_getElem? (i := 20) rfl)) e0 (g := (mkF m 1 #[.val (.ref o0), .val (.int (0 : Int32)), .val (.int (6 : Int32)), .unset, .unset, .unset] [(.int (6 : Int32))])) rfl (hb hby d4_1) rfl (by decide) (cap := 6) (by decide) (by decide) (by decide) (by decide)
  obtain ⟨b1, g1⟩ : ∃ z, z = h0.size := ⟨_, rfl⟩
  rw [← g1] at A1 st1
  have ne2 : o0 ≠ b1 := Nat.ne_of_lt (Nat.lt_of_lt_of_le V_o0.lt (Nat.le_of_eq g1.symm))
  have g_b1 : n0 ≤ b1 := Nat.le_trans Z0 (Nat.le_of_eq g1.symm)
  have sz_b1 : h0.size ≤ b1 := Nat.le_trans (Nat.le_refl _) (Nat.le_of_eq g1.symm)
  have V_o0__1 := V_o0.ext E1
  have S_AD__1 := S_AD.ext E1
  have S_HI__1 := S_HI.ext E1
  have S_LO__1 := S_LO.ext E1
  have Z1 : n0 ≤ h1.size := Nat.le_trans Z0 E1.1
  have KK1 : Keep h0 h1 [] := (Keep.refl h0 []).ext E1
  have V_b1 : Arv Z h1 b1 ck1 .byte (6 : Int32) [(.int (0 : Int32)), (.int (0 : Int32)), (.int (0 : Int32)), (.int (0 : Int32)), (.int (0 : Int32)), (.int (0 : Int32))] (.int (0 : Int32)) := (Arv.new A1 (by decide)).pad (pad_rep [] (.int (0 : Int32)) 6)
  refine Go.st st1 ?_
  show Go _ _ _ _ _ _ _ T1 (mkF m 3 #[.val (.ref o0), .val (.int (0 : Int32)), .val (.int (6 : Int32)), .unset, .unset, .unset] [(.ref b1)])
  refine Go.st (fun _ k => XS.astoreN X1.here hx rfl (hb hby d4_3) rfl rfl (l' := #[.val (.ref o0), .val (.int (0 : Int32)), .val (.int (6 : Int32)), .val (.ref b1), .unset, .unset]) rfl k) ?_
  show Go _ _ _ _ _ _ _ T1 (mkF m 4 #[.val (.ref o0), .val (.int (0 : Int32)), .val (.int (6 : Int32)), .val (.ref b1), .unset, .unset] [])
  refine Go.st (fun _ k => XS.aloadN X1.here hx rfl (hb hby d4_4) rfl rfl k) ?_
  show Go _ _ _ _ _ _ _ T1 (mkF m 5 #[.val (.ref o0), .val (.int (0 : Int32)), .val (.int (6 : Int32)), .val (.ref b1), .unset, .unset] [(.ref o0)])
  refine Go.st (fun _ k => XS.iloadN X1.here hx rfl (hb hby d4_5) rfl k) ?_
  show Go _ _ _ _ _ _ _ T1 (mkF m 6 #[.val (.ref o0), .val (.int (0 : Int32)), .val (.int (6 : Int32)), .val (.ref b1), .unset, .unset] [(.int (0 : Int32)), (.ref o0)])
  refine Go.st (fun _ k => XS.aloadN X1.here hx rfl (hb hby d4_6) rfl rfl k) ?_
  show Go _ _ _ _ _ _ _ T1 (mkF m 7 #[.val (.ref o0), .val (.int (0 : Int32)), .val (.int (6 : Int32)), .val (.ref b1), .unset, .unset] [(.ref b1), (.int (0 : Int32)), (.ref o0)])
  refine Go.st (fun _ k => XS.iconst X1.here hx rfl (hb hby d4_7) k) ?_
  show Go _ _ _ _ _ _ _ T1 (mkF m 8 #[.val (.ref o0), .val (.int (0 : Int32)), .val (.int (6 : Int32)), .val (.ref b1), .unset, .unset] [(.int (0 : Int32)), (.ref b1), (.int (0 : Int32)), (.ref o0)])
  refine Go.st (fun _ k => XS.iloadN X1.here hx rfl (hb hby d4_8) rfl k) ?_
  show Go _ _ _ _ _ _ _ T1 (mkF m 9 #[.val (.ref o0), .val (.int (0 : Int32)), .val (.int (6 : Int32)), .val (.ref b1), .unset, .unset] [(.int (6 : Int32)), (.int (0 : Int32)), (.ref b1), (.int (0 : Int32)), (.ref o0)])
  obtain ⟨_, _, ⟨T3, L3, ck3, cn3⟩, -, X3, ⟨Lc3, hQ3, l3, y3, z3⟩, st3⟩ := Jvm.LawKit.callS X1 hx (y := (⟨"java/lang/StringUTF16", "compress", "([CI[BII)I"⟩ : MethodName)) hown (mvT hZ (hw _ (List.mem_of_getElem? (i := 21) rfl))) (mvT hZ (hw _ (List.mem_of_getElem? (i := 22) rfl))) (mvT hZ (hw _ (List.mem_of_getElem? (i := 18) rfl))) (mvT hZ (hw _ (List.mem_of_getElem? (i := 23) rfl))) (by decide) (backOf (W := 0) (rm5 l Z a0 hw [] o0 b1 kc k0 k1 k2 k3 k4 k5 ck1 h1 n0 Z1 V_o0__1 V_b1 ne2 g_b1) hZ (hw _ (List.mem_of_getElem? (i := 23) rfl)) (hw _ (List.mem_of_getElem? (i := 18) rfl)) (by decide) (by decide)) (g := (mkF m 9 #[.val (.ref o0), .val (.int (0 : Int32)), .val (.int (6 : Int32)), .val (.ref b1), .unset, .unset] [(.int (6 : Int32)), (.int (0 : Int32)), (.ref b1), (.int (0 : Int32)), (.ref o0)])) rfl (by rw [hml]; rfl) (argsL := [(.ref o0), (.int (0 : Int32)), (.ref b1), (.int (0 : Int32)), (.int (6 : Int32))]) (rest := []) (lenOf pd_10 rfl) rfl (by show 2 * 0 + _ ≤ _; exact Nat.le_of_eq rfl) (hb hby d4_9) (fun _ _ => ⟨rfl, e1, (by decide : 1 + 0 ≤ _), (by decide : 6 + 0 ≤ _)⟩)
  dsimp only [Pt.U, Pt.locs, Pt.cells, Pt.slots] at X3 l3 y3 z3 st3 hQ3
  subst l3 y3 z3
  generalize e3 : T3.heap = h3 at hQ3
  obtain ⟨rfl, N3q, K3, VV3⟩ := hQ3
  have N3 := Fr.app N0 N3q
  refine Go.st st3 ?_
  have V_o0__3 := V_o0__1.keep K3 (ninS ne2 (nin0))
  have S_AD__3 := own_sta S_AD__1 K3 (allS (own_arvcell V_b1) (all0))
  have S_HI__3 := own_sta S_HI__1 K3 (allS (own_arvcell V_b1) (all0))
  have S_LO__3 := own_sta S_LO__1 K3 (allS (own_arvcell V_b1) (all0))
  have Z3 : n0 ≤ h3.size := Nat.le_trans Z1 K3.1
  have KK3 : Keep h0 h3 [] := KK1.trans K3 (allS (Or.inr sz_b1) (all0))
  show Go _ _ _ _ _ _ _ T3 (mkF m 12 #[.val (.ref o0), .val (.int (0 : Int32)), .val (.int (6 : Int32)), .val (.ref b1), .unset, .unset] [(.int (ndW k0 k1 k2 k3 k4 k5))])
  rcases own_nd k0 k1 k2 k3 k4 k5 with ⟨hnd, hl⟩ | ⟨hv, hk, hnd⟩
  · have Vb := VV3 hnd
    show Go _ _ _ _ _ _ _ T3 (mkF m 12 #[.val (.ref o0), .val (.int (0 : Int32)), .val (.int (6 : Int32)), .val (.ref b1), .unset, .unset] [(.int (ndW k0 k1 k2 k3 k4 k5))])
    refine Go.st (fun _ k => XS.istore X3.here hx rfl (hb hby d4_12) rfl (l' := #[.val (.ref o0), .val (.int (0 : Int32)), .val (.int (6 : Int32)), .val (.ref b1), .val (.int (ndW k0 k1 k2 k3 k4 k5)), .unset]) rfl k) ?_
    show Go _ _ _ _ _ _ _ T3 (mkF m 14 #[.val (.ref o0), .val (.int (0 : Int32)), .val (.int (6 : Int32)), .val (.ref b1), .val (.int (ndW k0 k1 k2 k3 k4 k5)), .unset] [])
    refine Go.st (fun _ k => XS.iload X3.here hx rfl (hb hby d4_14) rfl k) ?_
    show Go _ _ _ _ _ _ _ T3 (mkF m 16 #[.val (.ref o0), .val (.int (0 : Int32)), .val (.int (6 : Int32)), .val (.ref b1), .val (.int (ndW k0 k1 k2 k3 k4 k5)), .unset] [(.int (ndW k0 k1 k2 k3 k4 k5))])
    refine Go.st (fun _ k => XS.iloadN X3.here hx rfl (hb hby d4_16) rfl k) ?_
    show Go _ _ _ _ _ _ _ T3 (mkF m 17 #[.val (.ref o0), .val (.int (0 : Int32)), .val (.int (6 : Int32)), .val (.ref b1), .val (.int (ndW k0 k1 k2 k3 k4 k5)), .unset] [(.int (6 : Int32)), (.int (ndW k0 k1 k2 k3 k4 k5))])
    refine Go.st (fun _ k => XS.icmpYes X3.here hx rfl (pc0 := 17) (pc' := 57) rfl (hb hby d4_17) rfl (teq hnd).1 (by decide) (by decide) k) ?_
    show Go _ _ _ _ _ _ _ T3 (mkF m 57 #[.val (.ref o0), .val (.int (0 : Int32)), .val (.int (6 : Int32)), .val (.ref b1), .val (.int (ndW k0 k1 k2 k3 k4 k5)), .unset] [])
    refine Go.st (fun _ k => XS.aloadN X3.here hx rfl (hb hby d4_57) rfl rfl k) ?_
    show Go _ _ _ _ _ _ _ T3 (mkF m 58 #[.val (.ref o0), .val (.int (0 : Int32)), .val (.int (6 : Int32)), .val (.ref b1), .val (.int (ndW k0 k1 k2 k3 k4 k5)), .unset] [(.ref b1)])
    refine Go.ret X3 hlk (v := some (.ref b1)) (fun h => by rw [hret] at h; cases h) (fun fs hr => retOut X3 hx (i := .areturn) hret rfl (Or.inr (Or.inr (Or.inr (Or.inr ⟨rfl, rfl, rfl⟩)))) (hb hby d4_58) hr) ?_ (by decide) (by decide)
    show Q4 Z o0 kc k0 k1 k2 k3 k4 k5 h0 n0 (some (.ref b1)) T3.heap _
    rw [e3]
    exact ⟨b1, ck1, rfl, N3, KK3, sz_b1, Or.inl ⟨Vb, hl⟩⟩
  · show Go _ _ _ _ _ _ _ T3 (mkF m 12 #[.val (.ref o0), .val (.int (0 : Int32)), .val (.int (6 : Int32)), .val (.ref b1), .unset, .unset] [(.int (ndW k0 k1 k2 k3 k4 k5))])
    refine Go.st (fun _ k => XS.istore X3.here hx rfl (hb hby d4_12) rfl (l' := #[.val (.ref o0), .val (.int (0 : Int32)), .val (.int (6 : Int32)), .val (.ref b1), .val (.int (ndW k0 k1 k2 k3 k4 k5)), .unset]) rfl k) ?_
    show Go _ _ _ _ _ _ _ T3 (mkF m 14 #[.val (.ref o0), .val (.int (0 : Int32)), .val (.int (6 : Int32)), .val (.ref b1), .val (.int (ndW k0 k1 k2 k3 k4 k5)), .unset] [])
    refine Go.st (fun _ k => XS.iload X3.here hx rfl (hb hby d4_14) rfl k) ?_
    show Go _ _ _ _ _ _ _ T3 (mkF m 16 #[.val (.ref o0), .val (.int (0 : Int32)), .val (.int (6 : Int32)), .val (.ref b1), .val (.int (ndW k0 k1 k2 k3 k4 k5)), .unset] [(.int (ndW k0 k1 k2 k3 k4 k5))])
    refine Go.st (fun _ k => XS.iloadN X3.here hx rfl (hb hby d4_16) rfl k) ?_
    show Go _ _ _ _ _ _ _ T3 (mkF m 17 #[.val (.ref o0), .val (.int (0 : Int32)), .val (.int (6 : Int32)), .val (.ref b1), .val (.int (ndW k0 k1 k2 k3 k4 k5)), .unset] [(.int (6 : Int32)), (.int (ndW k0 k1 k2 k3 k4 k5))])
    refine Go.st (fun _ k => XS.icmpNo X3.here hx rfl (hb hby d4_17) rfl (feq hnd).1 k) ?_
    show Go _ _ _ _ _ _ _ T3 (mkF m 20 #[.val (.ref o0), .val (.int (0 : Int32)), .val (.int (6 : Int32)), .val (.ref b1), .val (.int (ndW k0 k1 k2 k3 k4 k5)), .unset] [])
    refine Go.st (fun _ k => XS.aloadN X3.here hx rfl (hb hby d4_20) rfl rfl k) ?_
    show Go _ _ _ _ _ _ _ T3 (mkF m 21 #[.val (.ref o0), .val (.int (0 : Int32)), .val (.int (6 : Int32)), .val (.ref b1), .val (.int (ndW k0 k1 k2 k3 k4 k5)), .unset] [(.ref o0)])
    refine Go.st (fun _ k => XS.iloadN X3.here hx rfl (hb hby d4_21) rfl k) ?_
    show Go _ _ _ _ _ _ _ T3 (mkF m 22 #[.val (.ref o0), .val (.int (0 : Int32)), .val (.int (6 : Int32)), .val (.ref b1), .val (.int (ndW k0 k1 k2 k3 k4 k5)), .unset] [(.int (0 : Int32)), (.ref o0)])
    refine Go.st (fun _ k => XS.iloadN X3.here hx rfl (hb hby d4_22) rfl k) ?_
    show Go _ _ _ _ _ _ _ T3 (mkF m 23 #[.val (.ref o0), .val (.int (0 : Int32)), .val (.int (6 : Int32)), .val (.ref b1), .val (.int (ndW k0 k1 k2 k3 k4 k5)), .unset] [(.int (6 : Int32)), (.int (0 : Int32)), (.ref o0)])
    obtain ⟨_, _, ⟨T4, L4, ck4, cn4⟩, -, X4, ⟨Lc4, hQ4, l4, y4, z4⟩, st4⟩ := Jvm.LawKit.callS X3 hx (y := (⟨"java/lang/StringUTF16", "toBytes", "([CII)[B"⟩ : MethodName)) hown (mvT hZ (hw _ (List.mem_of_getElem? (i := 101) rfl))) (mvT hZ (hw _ (List.mem_of_getElem? (i := 102) rfl))) (mvT hZ (hw _ (List.mem_of_getElem? (i := 18) rfl))) (mvT hZ (hw _ (List.mem_of_getElem? (i := 103) rfl))) (by decide) (backOf (W := 0) (rm20 l Z a0 hw [] o0 kc k0 k1 k2 k3 k4 k5 h3 n0 Z3 V_o0__3 S_AD__3 S_HI__3 S_LO__3) hZ (hw _ (List.mem_of_getElem? (i := 103) rfl)) (hw _ (List.mem_of_getElem? (i := 18) rfl)) (by decide) (by decide)) (g := (mkF m 23 #[.val (.ref o0), .val (.int (0 : Int32)), .val (.int (6 : Int32)), .val (.ref b1), .val (.int (ndW k0 k1 k2 k3 k4 k5)), .unset] [(.int (6 : Int32)), (.int (0 : Int32)), (.ref o0)])) rfl (by rw [hml]; rfl) (argsL := [(.ref o0), (.int (0 : Int32)), (.int (6 : Int32))]) (rest := []) (lenOf pd_11 rfl) rfl (by show 2 * 0 + _ ≤ _; exact Nat.le_of_eq rfl) (hb hby d4_23) (fun _ _ => ⟨rfl, e3, (by decide : 1 + 1 ≤ _), (by decide : 6 + 12 ≤ _)⟩)
    dsimp only [Pt.U, Pt.locs, Pt.cells, Pt.slots] at X4 l4 y4 z4 st4 hQ4
    subst l4 y4 z4
    generalize e4 : T4.heap = h4 at hQ4
    obtain ⟨r4, kb4, rfl, N4q, K4, sz4, VV4⟩ := hQ4
    have N4 := Fr.app N3 N4q
    refine Go.st st4 ?_
    have ne5 : o0 ≠ r4 := Nat.ne_of_lt (Nat.lt_of_lt_of_le V_o0__3.lt sz4)
    have g_r4 : n0 ≤ r4 := Nat.le_trans Z3 sz4
    have sz_r4 : h0.size ≤ r4 := Nat.le_trans KK3.1 sz4
    have V_o0__4 := V_o0__3.keep K4 (nin0)
    have S_AD__4 := own_sta S_AD__3 K4 (all0)
    have S_HI__4 := own_sta S_HI__3 K4 (all0)
    have S_LO__4 := own_sta S_LO__3 K4 (all0)
    have Z4 : n0 ≤ h4.size := Nat.le_trans Z3 K4.1
    have KK4 : Keep h0 h4 [] := KK3.trans K4 (all0)
    show Go _ _ _ _ _ _ _ T4 (mkF m 26 #[.val (.ref o0), .val (.int (0 : Int32)), .val (.int (6 : Int32)), .val (.ref b1), .val (.int (ndW k0 k1 k2 k3 k4 k5)), .unset] [(.ref r4)])
    refine Go.st (fun _ k => XS.astore X4.here hx rfl (hb hby d4_26) rfl rfl (l' := #[.val (.ref o0), .val (.int (0 : Int32)), .val (.int (6 : Int32)), .val (.ref b1), .val (.int (ndW k0 k1 k2 k3 k4 k5)), .val (.ref r4)]) rfl k) ?_
    show Go _ _ _ _ _ _ _ T4 (mkF m 28 #[.val (.ref o0), .val (.int (0 : Int32)), .val (.int (6 : Int32)), .val (.ref b1), .val (.int (ndW k0 k1 k2 k3 k4 k5)), .val (.ref r4)] [])
    refine Go.st (fun _ k => XS.aload X4.here hx rfl (hb hby d4_28) rfl rfl k) ?_
    show Go _ _ _ _ _ _ _ T4 (mkF m 30 #[.val (.ref o0), .val (.int (0 : Int32)), .val (.int (6 : Int32)), .val (.ref b1), .val (.int (ndW k0 k1 k2 k3 k4 k5)), .val (.ref r4)] [(.ref r4)])
    refine Go.st (fun _ k => XS.iload X4.here hx rfl (hb hby d4_30) rfl k) ?_
    show Go _ _ _ _ _ _ _ T4 (mkF m 32 #[.val (.ref o0), .val (.int (0 : Int32)), .val (.int (6 : Int32)), .val (.ref b1), .val (.int (ndW k0 k1 k2 k3 k4 k5)), .val (.ref r4)] [(.int (ndW k0 k1 k2 k3 k4 k5)), (.ref r4)])
    obtain ⟨_, _, ⟨T6, L6, ck6, cn6⟩, -, X6, ⟨Lc6, hQ6, l6, y6, z6⟩, st6⟩ := Jvm.LawKit.callS X4 hx (y := (⟨"java/lang/StringUTF16", "getChar", "([BI)C"⟩ : MethodName)) hown (mvT hZ (hw _ (List.mem_of_getElem? (i := 117) rfl))) (mvT hZ (hw _ (List.mem_of_getElem? (i := 118) rfl))) (mvT hZ (hw _ (List.mem_of_getElem? (i := 18) rfl))) (mvT hZ (hw _ (List.mem_of_getElem? (i := 119) rfl))) (by decide) (backOf (W := 0) (rm24 l Z a0 hw [] r4 (ndW k0 k1 k2 k3 k4 k5) kb4 ((k0 >>> ((0 : Int32) &&& 31)).toInt8.toInt32) ((k0 >>> ((8 : Int32) &&& 31)).toInt8.toInt32) ((k1 >>> ((0 : Int32) &&& 31)).toInt8.toInt32) ((k1 >>> ((8 : Int32) &&& 31)).toInt8.toInt32) ((k2 >>> ((0 : Int32) &&& 31)).toInt8.toInt32) ((k2 >>> ((8 : Int32) &&& 31)).toInt8.toInt32) ((k3 >>> ((0 : Int32) &&& 31)).toInt8.toInt32) ((k3 >>> ((8 : Int32) &&& 31)).toInt8.toInt32) ((k4 >>> ((0 : Int32) &&& 31)).toInt8.toInt32) ((k4 >>> ((8 : Int32) &&& 31)).toInt8.toInt32) ((k5 >>> ((0 : Int32) &&& 31)).toInt8.toInt32) ((k5 >>> ((8 : Int32) &&& 31)).toInt8.toInt32) h4 n0 Z4 VV4 S_AD__4 S_HI__4 S_LO__4 hv) hZ (hw _ (List.mem_of_getElem? (i := 119) rfl)) (hw _ (List.mem_of_getElem? (i := 18) rfl)) (by decide) (by decide)) (g := (mkF m 32 #[.val (.ref o0), .val (.int (0 : Int32)), .val (.int (6 : Int32)), .val (.ref b1), .val (.int (ndW k0 k1 k2 k3 k4 k5)), .val (.ref r4)] [(.int (ndW k0 k1 k2 k3 k4 k5)), (.ref r4)])) rfl (by rw [hml]; rfl) (argsL := [(.ref r4), (.int (ndW k0 k1 k2 k3 k4 k5))]) (rest := []) (lenOf pd_4 rfl) rfl (by show 2 * 0 + _ ≤ _; exact Nat.le_of_eq rfl) (hb hby d4_32) (fun _ _ => ⟨rfl, e4, (by decide : 2 + 0 ≤ _), (by decide : 18 + 0 ≤ _)⟩)
    dsimp only [Pt.U, Pt.locs, Pt.cells, Pt.slots] at X6 l6 y6 z6 st6 hQ6
    subst l6 y6 z6
    obtain ⟨rfl, N6q, e6⟩ := hQ6
    have N6 := Fr.app N4 N6q
    refine Go.st st6 ?_
    show Go _ _ _ _ _ _ _ T6 (mkF m 35 #[.val (.ref o0), .val (.int (0 : Int32)), .val (.int (6 : Int32)), .val (.ref b1), .val (.int (ndW k0 k1 k2 k3 k4 k5)), .val (.ref r4)] [(.int (val_24 r4 (ndW k0 k1 k2 k3 k4 k5) kb4 ((k0 >>> ((0 : Int32) &&& 31)).toInt8.toInt32) ((k0 >>> ((8 : Int32) &&& 31)).toInt8.toInt32) ((k1 >>> ((0 : Int32) &&& 31)).toInt8.toInt32) ((k1 >>> ((8 : Int32) &&& 31)).toInt8.toInt32) ((k2 >>> ((0 : Int32) &&& 31)).toInt8.toInt32) ((k2 >>> ((8 : Int32) &&& 31)).toInt8.toInt32) ((k3 >>> ((0 : Int32) &&& 31)).toInt8.toInt32) ((k3 >>> ((8 : Int32) &&& 31)).toInt8.toInt32) ((k4 >>> ((0 : Int32) &&& 31)).toInt8.toInt32) ((k4 >>> ((8 : Int32) &&& 31)).toInt8.toInt32) ((k5 >>> ((0 : Int32) &&& 31)).toInt8.toInt32) ((k5 >>> ((8 : Int32) &&& 31)).toInt8.toInt32)))])
    refine Go.st (fun _ k => XS.sipush X6.here hx rfl (hb hby d4_35) k) ?_
    show Go _ _ _ _ _ _ _ T6 (mkF m 38 #[.val (.ref o0), .val (.int (0 : Int32)), .val (.int (6 : Int32)), .val (.ref b1), .val (.int (ndW k0 k1 k2 k3 k4 k5)), .val (.ref r4)] [(.int (255 : Int32)), (.int (val_24 r4 (ndW k0 k1 k2 k3 k4 k5) kb4 ((k0 >>> ((0 : Int32) &&& 31)).toInt8.toInt32) ((k0 >>> ((8 : Int32) &&& 31)).toInt8.toInt32) ((k1 >>> ((0 : Int32) &&& 31)).toInt8.toInt32) ((k1 >>> ((8 : Int32) &&& 31)).toInt8.toInt32) ((k2 >>> ((0 : Int32) &&& 31)).toInt8.toInt32) ((k2 >>> ((8 : Int32) &&& 31)).toInt8.toInt32) ((k3 >>> ((0 : Int32) &&& 31)).toInt8.toInt32) ((k3 >>> ((8 : Int32) &&& 31)).toInt8.toInt32) ((k4 >>> ((0 : Int32) &&& 31)).toInt8.toInt32) ((k4 >>> ((8 : Int32) &&& 31)).toInt8.toInt32) ((k5 >>> ((0 : Int32) &&& 31)).toInt8.toInt32) ((k5 >>> ((8 : Int32) &&& 31)).toInt8.toInt32)))])
    refine Go.st (fun _ k => XS.icmpYes X6.here hx rfl (pc0 := 38) (pc' := 54) rfl (hb hby d4_38) rfl (tlt (by rw [own_gc _ _ _ hv hW]; exact hk)).2.2.1 (by decide) (by decide) k) ?_
    show Go _ _ _ _ _ _ _ T6 (mkF m 54 #[.val (.ref o0), .val (.int (0 : Int32)), .val (.int (6 : Int32)), .val (.ref b1), .val (.int (ndW k0 k1 k2 k3 k4 k5)), .val (.ref r4)] [])
    refine Go.st (fun _ k => XS.aload X6.here hx rfl (hb hby d4_54) rfl rfl k) ?_
    show Go _ _ _ _ _ _ _ T6 (mkF m 56 #[.val (.ref o0), .val (.int (0 : Int32)), .val (.int (6 : Int32)), .val (.ref b1), .val (.int (ndW k0 k1 k2 k3 k4 k5)), .val (.ref r4)] [(.ref r4)])
    refine Go.ret X6 hlk (v := some (.ref r4)) (fun h => by rw [hret] at h; cases h) (fun fs hr => retOut X6 hx (i := .areturn) hret rfl (Or.inr (Or.inr (Or.inr (Or.inr ⟨rfl, rfl, rfl⟩)))) (hb hby d4_56) hr) ?_ (by decide) (by decide)
    show Q4 Z o0 kc k0 k1 k2 k3 k4 k5 h0 n0 (some (.ref r4)) T6.heap _
    rw [e6]
    exact ⟨r4, kb4, rfl, N6, KK4, sz_r4, Or.inr VV4⟩
theorem d6_0 : decode jdk_52_method_15_code 0 = .ok (.iload_n 1, 1) := by decide +kernel
theorem d6_1 : decode jdk_52_method_15_code 1 = .ok (.aload_n 0, 1) := by decide +kernel
theorem d6_2 : decode jdk_52_method_15_code 2 = .ok (.arraylength, 1) := by decide +kernel
theorem d6_3 : decode jdk_52_method_15_code 3 = .ok (.isub, 1) := by decide +kernel
theorem d6_4 : decode jdk_52_method_15_code 4 = .ok (.bipush 31, 2) := by decide +kernel
theorem d6_6 : decode jdk_52_method_15_code 6 = .ok (.iushr, 1) := by decide +kernel
theorem d6_7 : decode jdk_52_method_15_code 7 = .ok (.i2b, 1) := by decide +kernel
theorem d6_8 : decode jdk_52_method_15_code 8 = .ok (.ireturn, 1) := by decide +kernel
def val_6 (o0 : Addr) (kb : ClassId) (z : Int32) (vs : List Value) (dv : Value) : Int32 := (nar .byte (((((6 : Int32) - z).toUInt32 >>> ((31 : Int32) &&& 31).toUInt32).toInt32).toInt8.toInt32))
theorem ef_6 (m : MethodId) (o0 : Addr) : entryFrame m #[(.ref o0), (.int (6 : Int32))] 2 = mkF m 0 #[.val (.ref o0), .val (.int (6 : Int32))] [] := by first | (simp [entryFrame, mkF, argsToLocals, Value.category]; done) | rfl
def Q6 (Z : State) (o0 : Addr) (kb : ClassId) (z : Int32) (vs : List Value) (dv : Value) (h0 : Heap) (n0 : Nat) (v : Option Value) (h : Heap) (L : List Loc) : Prop := v = some (.int (val_6 o0 kb z vs dv)) ∧ Fr n0 L ∧ h = h0
set_option maxRecDepth 65536 in
set_option maxHeartbeats 40000000 in
theorem rm6 (l : Launch) (Z : State) (a0 : Array Value) (hw : ∀ d ∈ tables_1, d.before a0 Z = true) (ws : List Jvm.Cond) (o0 : Addr) (kb : ClassId) (z : Int32) (vs : List Value) (dv : Value) (h0 : Heap) (n0 : Nat) (Z0 : n0 ≤ h0.size) (V_o0 : Arv Z h0 o0 kb .byte z vs dv) :
    MetFree l (⟨"java/lang/StringUTF16", "coderFromArrayLen", "([BI)B"⟩ : MethodName) (head1 (Jvm.Cond.code (⟨"java/lang/StringUTF16", "coderFromArrayLen", "([BI)B"⟩ : MethodName) jdk_52_method_15_code 2 (some .byte) :: ws) ({ frames := 0, cells := 0, slots := 0, locals := 0 } : Room)) (fun a U => a = #[(.ref o0), (.int (6 : Int32))] ∧ Z.Warmed39 U.vm ∧ U.heap = h0) (fun _ _ _ _ _ => True) (fun _ U o U' => ∃ v L, o = .returned v ∧ Q6 Z o0 kb z vs dv h0 n0 v U'.heap L ∧ FrameEnd U o U' L ({ frames := 0, cells := 0, slots := 0, locals := 0 } : Room).cells ({ frames := 0, cells := 0, slots := 0, locals := 0 } : Room).slots) := by
  refine MetFree.of_bodySF (plainFor_of_name pn_java_lang_StringUTF16) hisR ?_
  intro p e s m args below meth c s₁ Bd hml0 hP hK
  obtain ⟨rfl, hZ, hh⟩ := hP
  have hx := Bd.exec
  have hby := Bd.bytes
  have hlk : meth.locks = false := BodyLoose.notSynchronized Bd
  have hret := Bd.returns
  have hml : c.maxLocals = 2 := hml0
  have hown : s.vm.findClass "java/lang/StringUTF16" = some m.cls := findClass_of_methodNamed Bd.named
  have hnm := (name_of_methodNamed Bd.named Bd.method).1
  have X0 : Stand p l e ({ frames := 0, cells := 0, slots := 0, locals := 0 } : Room) s m #[(.ref o0), (.int (6 : Int32))] below meth c s₁ [] 0 0 := Stand.of_body Bd
  have e0 : s₁.heap = h0 := by rw [← hh, Bd.state]; rfl
  have N0 := Fr.nil n0
  refine Go.start (Q := Q6 Z o0 kb z vs dv h0 n0) (ef_6 m o0) ?_
  show Go _ _ _ _ _ _ _ s₁ (mkF m 0 #[.val (.ref o0), .val (.int (6 : Int32))] [])
  refine Go.st (fun _ k => XS.iloadN X0.here hx rfl (hb hby d6_0) rfl k) ?_
  show Go _ _ _ _ _ _ _ s₁ (mkF m 1 #[.val (.ref o0), .val (.int (6 : Int32))] [(.int (6 : Int32))])
  refine Go.st (fun _ k => XS.aloadN X0.here hx rfl (hb hby d6_1) rfl rfl k) ?_
  show Go _ _ _ _ _ _ _ s₁ (mkF m 2 #[.val (.ref o0), .val (.int (6 : Int32))] [(.ref o0), (.int (6 : Int32))])
  obtain ⟨cl1, Ar1, qq1, SS1, NN1, HH1, GG1⟩ := id V_o0
  refine Go.st (fun _ k => X0.arraylength hx (by rw [e0]; exact Ar1.1) (State.isArrayOf_alike hZ.alike Ar1.2.1) (g := (mkF m 2 #[.val (.ref o0), .val (.int (6 : Int32))] [(.ref o0), (.int (6 : Int32))])) rfl rfl (hb hby d6_2) _ k) ?_
  rw [len_of SS1 NN1]
  show Go _ _ _ _ _ _ _ s₁ (mkF m 3 #[.val (.ref o0), .val (.int (6 : Int32))] [(.int z), (.int (6 : Int32))])
  refine Go.st (fun _ k => XS.isub X0.here hx rfl (hb hby d6_3) rfl k) ?_
  show Go _ _ _ _ _ _ _ s₁ (mkF m 4 #[.val (.ref o0), .val (.int (6 : Int32))] [(.int ((6 : Int32) - z))])
  refine Go.st (fun _ k => XS.bipush X0.here hx rfl (hb hby d6_4) k) ?_
  show Go _ _ _ _ _ _ _ s₁ (mkF m 6 #[.val (.ref o0), .val (.int (6 : Int32))] [(.int (31 : Int32)), (.int ((6 : Int32) - z))])
  refine Go.st (fun _ k => XS.iushr X0.here hx rfl (hb hby d6_6) rfl k) ?_
  show Go _ _ _ _ _ _ _ s₁ (mkF m 7 #[.val (.ref o0), .val (.int (6 : Int32))] [(.int ((((6 : Int32) - z).toUInt32 >>> ((31 : Int32) &&& 31).toUInt32).toInt32))])
  refine Go.st (fun _ k => XS.i2b X0.here hx rfl (hb hby d6_7) rfl k) ?_
  show Go _ _ _ _ _ _ _ s₁ (mkF m 8 #[.val (.ref o0), .val (.int (6 : Int32))] [(.int (((((6 : Int32) - z).toUInt32 >>> ((31 : Int32) &&& 31).toUInt32).toInt32).toInt8.toInt32))])
  refine Go.ret X0 hlk (v := some (.int (nar .byte (((((6 : Int32) - z).toUInt32 >>> ((31 : Int32) &&& 31).toUInt32).toInt32).toInt8.toInt32)))) (fun h => by rw [hret] at h; cases h) (fun fs hr => retN X0 hx (t := .byte) hret (by simp) (hb hby d6_8) hr) ?_ (by decide) (by decide)
  show Q6 Z o0 kb z vs dv h0 n0 (some (.int (nar .byte (((((6 : Int32) - z).toUInt32 >>> ((31 : Int32) &&& 31).toUInt32).toInt32).toInt8.toInt32)))) s₁.heap _
  rw [e0]
  refine ⟨?_, N0, rfl⟩
  unfold val_6
  rfl
theorem d2_0 : decode jdk_42_method_149_code 0 = .ok (.aload_n 0, 1) := by decide +kernel
theorem d2_1 : decode jdk_42_method_149_code 1 = .ok (.invokespecial 1, 3) := by decide +kernel
theorem d2_4 : decode jdk_42_method_149_code 4 = .ok (.iload_n 3, 1) := by decide +kernel
theorem d2_5 : decode jdk_42_method_149_code 5 = .ok (.ifCond .ne 22, 3) := by decide +kernel
theorem d2_27 : decode jdk_42_method_149_code 27 = .ok (.getstatic 38, 3) := by decide +kernel
theorem d2_30 : decode jdk_42_method_149_code 30 = .ok (.ifCond .eq 28, 3) := by decide +kernel
theorem d2_33 : decode jdk_42_method_149_code 33 = .ok (.aload_n 1, 1) := by decide +kernel
theorem d2_34 : decode jdk_42_method_149_code 34 = .ok (.iload_n 2, 1) := by decide +kernel
theorem d2_35 : decode jdk_42_method_149_code 35 = .ok (.iload_n 3, 1) := by decide +kernel
theorem d2_36 : decode jdk_42_method_149_code 36 = .ok (.invokestatic 177, 3) := by decide +kernel
theorem d2_39 : decode jdk_42_method_149_code 39 = .ok (.astore 5, 2) := by decide +kernel
theorem d2_41 : decode jdk_42_method_149_code 41 = .ok (.aload_n 0, 1) := by decide +kernel
theorem d2_42 : decode jdk_42_method_149_code 42 = .ok (.aload 5, 2) := by decide +kernel
theorem d2_44 : decode jdk_42_method_149_code 44 = .ok (.iload_n 3, 1) := by decide +kernel
theorem d2_45 : decode jdk_42_method_149_code 45 = .ok (.invokestatic 47, 3) := by decide +kernel
theorem d2_48 : decode jdk_42_method_149_code 48 = .ok (.putfield 15, 3) := by decide +kernel
theorem d2_51 : decode jdk_42_method_149_code 51 = .ok (.aload_n 0, 1) := by decide +kernel
theorem d2_52 : decode jdk_42_method_149_code 52 = .ok (.aload 5, 2) := by decide +kernel
theorem d2_54 : decode jdk_42_method_149_code 54 = .ok (.putfield 9, 3) := by decide +kernel
theorem d2_57 : decode jdk_42_method_149_code 57 = .ok (.return_, 1) := by decide +kernel
theorem ef_2 (m : MethodId) (o0 : Addr) (o1 : Addr) : entryFrame m #[(.ref o0), (.ref o1), (.int (0 : Int32)), (.int (6 : Int32)), .null] 6 = mkF m 0 #[.val (.ref o0), .val (.ref o1), .val (.int (0 : Int32)), .val (.int (6 : Int32)), .val .null, .unset] [] := by first | (simp [entryFrame, mkF, argsToLocals, Value.category]; done) | rfl
def Q2 (Z : State) (o0 : Addr) (o1 : Addr) (kc : ClassId) (k0 : Int32) (k1 : Int32) (k2 : Int32) (k3 : Int32) (k4 : Int32) (k5 : Int32) (u_v : Value) (u_c : Value) (G1 : Int32) (h0 : Heap) (n0 : Nat) (v : Option Value) (h : Heap) (L : List Loc) : Prop := v = none ∧ Fr n0 L ∧ Keep h0 h [o0] ∧ Exa Z h o0 "java/lang/String" ∧ ∃ (t : Addr) (kb : ClassId), h0.size ≤ t ∧ Fld Z h o0 "java/lang/String" "value" "[B" (.ref t) ∧ Enc Z h o0 t kb k0 k1 k2 k3 k4 k5
set_option maxRecDepth 65536 in
set_option maxHeartbeats 40000000 in
theorem rm2 (l : Launch) (Z : State) (a0 : Array Value) (hw : ∀ d ∈ tables_1, d.before a0 Z = true) (ws : List Jvm.Cond) (o0 : Addr) (o1 : Addr) (kc : ClassId) (k0 : Int32) (k1 : Int32) (k2 : Int32) (k3 : Int32) (k4 : Int32) (k5 : Int32) (u_v : Value) (u_c : Value) (G1 : Int32) (h0 : Heap) (n0 : Nat) (Z0 : n0 ≤ h0.size) (E_o0 : Exa Z h0 o0 "java/lang/String") (F_value_o0 : Fld Z h0 o0 "java/lang/String" "value" "[B" u_v) (F_coder_o0 : Fld Z h0 o0 "java/lang/String" "coder" "B" u_c) (g_o0 : n0 ≤ o0) (V_o1 : Arv Z h0 o1 kc .char (6 : Int32) [(.int k0), (.int k1), (.int k2), (.int k3), (.int k4), (.int k5)] (.int (0 : Int32))) (hW : Wide16 k0 k1 k2 k3 k4 k5) (S_CS : Sta Z h0 "java/lang/String" "COMPACT_STRINGS" "Z" (.int G1)) (P_CS : ¬ G1 = (0 : Int32)) (S_AD : Sta Z h0 "java/lang/StringUTF16" "$assertionsDisabled" "Z" (.int (1 : Int32))) (S_HI : Sta Z h0 "java/lang/StringUTF16" "HI_BYTE_SHIFT" "I" (.int (0 : Int32))) (S_LO : Sta Z h0 "java/lang/StringUTF16" "LO_BYTE_SHIFT" "I" (.int (8 : Int32))) (neo : o0 ≠ o1) :
    MetFree l (⟨"java/lang/String", "<init>", "([CIILjava/lang/Void;)V"⟩ : MethodName) (head1 (Jvm.Cond.code (⟨"java/lang/String", "<init>", "([CIILjava/lang/Void;)V"⟩ : MethodName) jdk_42_method_149_code 6 none :: ws) ({ frames := 4, cells := 2, slots := 18, locals := 57 } : Room)) (fun a U => a = #[(.ref o0), (.ref o1), (.int (0 : Int32)), (.int (6 : Int32)), .null] ∧ Z.Warmed39 U.vm ∧ U.heap = h0) (fun _ _ _ _ _ => True) (fun _ U o U' => ∃ v L, o = .returned v ∧ Q2 Z o0 o1 kc k0 k1 k2 k3 k4 k5 u_v u_c G1 h0 n0 v U'.heap L ∧ FrameEnd U o U' L ({ frames := 4, cells := 2, slots := 18, locals := 57 } : Room).cells ({ frames := 4, cells := 2, slots := 18, locals := 57 } : Room).slots) := by
  refine MetFree.of_bodySF (plainFor_of_name pn_java_lang_String) hisR ?_
  intro p e s m args below meth c s₁ Bd hml0 hP hK
  obtain ⟨rfl, hZ, hh⟩ := hP
  have hx := Bd.exec
  have hby := Bd.bytes
  have hlk : meth.locks = false := BodyLoose.notSynchronized Bd
  have hret := Bd.returns
  have hml : c.maxLocals = 6 := hml0
  have hown : s.vm.findClass "java/lang/String" = some m.cls := findClass_of_methodNamed Bd.named
  have hnm := (name_of_methodNamed Bd.named Bd.method).1
  have X0 : Stand p l e ({ frames := 4, cells := 2, slots := 18, locals := 57 } : Room) s m #[(.ref o0), (.ref o1), (.int (0 : Int32)), (.int (6 : Int32)), .null] below meth c s₁ [] 0 0 := Stand.of_body Bd
  have e0 : s₁.heap = h0 := by rw [← hh, Bd.state]; rfl
  have N0 := Fr.nil n0
  refine Go.start (Q := Q2 Z o0 o1 kc k0 k1 k2 k3 k4 k5 u_v u_c G1 h0 n0) (ef_2 m o0 o1) ?_
  show Go _ _ _ _ _ _ _ s₁ (mkF m 0 #[.val (.ref o0), .val (.ref o1), .val (.int (0 : Int32)), .val (.int (6 : Int32)), .val .null, .unset] [])
  refine Go.st (fun _ k => XS.aloadN X0.here hx rfl (hb hby d2_0) rfl rfl k) ?_
  show Go _ _ _ _ _ _ _ s₁ (mkF m 1 #[.val (.ref o0), .val (.ref o1), .val (.int (0 : Int32)), .val (.int (6 : Int32)), .val .null, .unset] [(.ref o0)])
  obtain ⟨T1, X1, e1, st1⟩ := initO X0 hx hZ hown (hw _ (List.mem_of_getElem? (i := 12) rfl)) (hw _ (List.mem_of_getElem? (i := 13) rfl)) (hw _ (List.mem_of_getElem? (i := 14) rfl)) e0 (g := (mkF m 1 #[.val (.ref o0), .val (.ref o1), .val (.int (0 : Int32)), .val (.int (6 : Int32)), .val .null, .unset] [(.ref o0)])) rfl (by rw [hml]; rfl) rfl (hb hby d2_1) (by decide) (W := 0) (by show 2 * 0 + _ ≤ _; exact Nat.le_of_eq rfl) (by decide)
  refine Go.st st1 ?_
  show Go _ _ _ _ _ _ _ T1 (mkF m 4 #[.val (.ref o0), .val (.ref o1), .val (.int (0 : Int32)), .val (.int (6 : Int32)), .val .null, .unset] [])
  refine Go.st (fun _ k => XS.iloadN X1.here hx rfl (hb hby d2_4) rfl k) ?_
  show Go _ _ _ _ _ _ _ T1 (mkF m 5 #[.val (.ref o0), .val (.ref o1), .val (.int (0 : Int32)), .val (.int (6 : Int32)), .val .null, .unset] [(.int (6 : Int32))])
  refine Go.st (fun _ k => XS.ifYes X1.here hx rfl (pc0 := 5) (pc' := 27) rfl (hb hby d2_5) rfl ((if0 _ _).trans (feq (by decide : ¬ ((6 : Int32) = (0 : Int32)))).2) (by decide) (by decide) k) ?_
  show Go _ _ _ _ _ _ _ T1 (mkF m 27 #[.val (.ref o0), .val (.ref o1), .val (.int (0 : Int32)), .val (.int (6 : Int32)), .val .null, .unset] [])
  obtain ⟨T2, X2, e2, st2⟩ := getS2 X1 hx hZ hown (host := "") (Or.inl (hw _ (List.mem_of_getElem? (i := 15) rfl))) Via.refl e1 S_CS (g := (mkF m 27 #[.val (.ref o0), .val (.ref o1), .val (.int (0 : Int32)), .val (.int (6 : Int32)), .val .null, .unset] [])) rfl (hb hby d2_27)
  refine Go.st st2 ?_
  show Go _ _ _ _ _ _ _ T2 (mkF m 30 #[.val (.ref o0), .val (.ref o1), .val (.int (0 : Int32)), .val (.int (6 : Int32)), .val .null, .unset] [(.int G1)])
  refine Go.st (fun _ k => XS.ifNo X2.here hx rfl (hb hby d2_30) rfl ((if0 _ _).trans (feq P_CS).1) k) ?_
  show Go _ _ _ _ _ _ _ T2 (mkF m 33 #[.val (.ref o0), .val (.ref o1), .val (.int (0 : Int32)), .val (.int (6 : Int32)), .val .null, .unset] [])
  refine Go.st (fun _ k => XS.aloadN X2.here hx rfl (hb hby d2_33) rfl rfl k) ?_
  show Go _ _ _ _ _ _ _ T2 (mkF m 34 #[.val (.ref o0), .val (.ref o1), .val (.int (0 : Int32)), .val (.int (6 : Int32)), .val .null, .unset] [(.ref o1)])
  refine Go.st (fun _ k => XS.iloadN X2.here hx rfl (hb hby d2_34) rfl k) ?_
  show Go _ _ _ _ _ _ _ T2 (mkF m 35 #[.val (.ref o0), .val (.ref o1), .val (.int (0 : Int32)), .val (.int (6 : Int32)), .val .null, .unset] [(.int (0 : Int32)), (.ref o1)])
  refine Go.st (fun _ k => XS.iloadN X2.here hx rfl (hb hby d2_35) rfl k) ?_
  show Go _ _ _ _ _ _ _ T2 (mkF m 36 #[.val (.ref o0), .val (.ref o1), .val (.int (0 : Int32)), .val (.int (6 : Int32)), .val .null, .unset] [(.int (6 : Int32)), (.int (0 : Int32)), (.ref o1)])
  obtain ⟨_, _, ⟨T3, L3, ck3, cn3⟩, -, X3, ⟨Lc3, hQ3, l3, y3, z3⟩, st3⟩ := Jvm.LawKit.callS X2 hx (y := (⟨"java/lang/StringUTF16", "compress", "([CII)[B"⟩ : MethodName)) hown (mvT hZ (hw _ (List.mem_of_getElem? (i := 16) rfl))) (mvT hZ (hw _ (List.mem_of_getElem? (i := 17) rfl))) (mvT hZ (hw _ (List.mem_of_getElem? (i := 18) rfl))) (mvT hZ (hw _ (List.mem_of_getElem? (i := 19) rfl))) (by decide) (backOf (W := 0) (rm4 l Z a0 hw [] o1 kc k0 k1 k2 k3 k4 k5 h0 n0 Z0 V_o1 hW S_AD S_HI S_LO) hZ (hw _ (List.mem_of_getElem? (i := 19) rfl)) (hw _ (List.mem_of_getElem? (i := 18) rfl)) (by decide) (by decide)) (g := (mkF m 36 #[.val (.ref o0), .val (.ref o1), .val (.int (0 : Int32)), .val (.int (6 : Int32)), .val .null, .unset] [(.int (6 : Int32)), (.int (0 : Int32)), (.ref o1)])) rfl (by rw [hml]; rfl) (argsL := [(.ref o1), (.int (0 : Int32)), (.int (6 : Int32))]) (rest := []) (lenOf pd_11 rfl) rfl (by show 2 * 0 + _ ≤ _; exact Nat.le_of_eq rfl) (hb hby d2_36) (fun _ _ => ⟨rfl, e2, (by decide : 0 + 2 ≤ _), (by decide : 0 + 18 ≤ _)⟩)
  dsimp only [Pt.U, Pt.locs, Pt.cells, Pt.slots] at X3 l3 y3 z3 st3 hQ3
  subst l3 y3 z3
  generalize e3 : T3.heap = h3 at hQ3
  obtain ⟨r3, kb3, rfl, N3q, K3, sz3, VV3⟩ := hQ3
  have N3 := Fr.app N0 N3q
  refine Go.st st3 ?_
  have ne4 : o0 ≠ r3 := Nat.ne_of_lt (Nat.lt_of_lt_of_le E_o0.lt sz3)
  have ne5 : o1 ≠ r3 := Nat.ne_of_lt (Nat.lt_of_lt_of_le V_o1.lt sz3)
  have g_r3 : n0 ≤ r3 := Nat.le_trans Z0 sz3
  have sz_r3 : h0.size ≤ r3 := Nat.le_trans (Nat.le_refl _) sz3
  have E_o0__3 := E_o0.keep K3
  have F_value_o0__3 := F_value_o0.keep K3 (nin0)
  have F_coder_o0__3 := F_coder_o0.keep K3 (nin0)
  have V_o1__3 := V_o1.keep K3 (nin0)
  have S_CS__3 := own_sta S_CS K3 (all0)
  have S_AD__3 := own_sta S_AD K3 (all0)
  have S_HI__3 := own_sta S_HI K3 (all0)
  have S_LO__3 := own_sta S_LO K3 (all0)
  have Z3 : n0 ≤ h3.size := Nat.le_trans Z0 K3.1
  have KK3 : Keep h0 h3 [o0] := (Keep.refl h0 [o0]).trans K3 (all0)
  show Go _ _ _ _ _ _ _ T3 (mkF m 39 #[.val (.ref o0), .val (.ref o1), .val (.int (0 : Int32)), .val (.int (6 : Int32)), .val .null, .unset] [(.ref r3)])
  rcases VV3 with ⟨V_r, hl⟩ | V_r
  · show Go _ _ _ _ _ _ _ T3 (mkF m 39 #[.val (.ref o0), .val (.ref o1), .val (.int (0 : Int32)), .val (.int (6 : Int32)), .val .null, .unset] [(.ref r3)])
    refine Go.st (fun _ k => XS.astore X3.here hx rfl (hb hby d2_39) rfl rfl (l' := #[.val (.ref o0), .val (.ref o1), .val (.int (0 : Int32)), .val (.int (6 : Int32)), .val .null, .val (.ref r3)]) rfl k) ?_
    show Go _ _ _ _ _ _ _ T3 (mkF m 41 #[.val (.ref o0), .val (.ref o1), .val (.int (0 : Int32)), .val (.int (6 : Int32)), .val .null, .val (.ref r3)] [])
    refine Go.st (fun _ k => XS.aloadN X3.here hx rfl (hb hby d2_41) rfl rfl k) ?_
    show Go _ _ _ _ _ _ _ T3 (mkF m 42 #[.val (.ref o0), .val (.ref o1), .val (.int (0 : Int32)), .val (.int (6 : Int32)), .val .null, .val (.ref r3)] [(.ref o0)])
    refine Go.st (fun _ k => XS.aload X3.here hx rfl (hb hby d2_42) rfl rfl k) ?_
    show Go _ _ _ _ _ _ _ T3 (mkF m 44 #[.val (.ref o0), .val (.ref o1), .val (.int (0 : Int32)), .val (.int (6 : Int32)), .val .null, .val (.ref r3)] [(.ref r3), (.ref o0)])
    refine Go.st (fun _ k => XS.iloadN X3.here hx rfl (hb hby d2_44) rfl k) ?_
    show Go _ _ _ _ _ _ _ T3 (mkF m 45 #[.val (.ref o0), .val (.ref o1), .val (.int (0 : Int32)), .val (.int (6 : Int32)), .val .null, .val (.ref r3)] [(.int (6 : Int32)), (.ref r3), (.ref o0)])
    obtain ⟨_, _, ⟨T6, L6, ck6, cn6⟩, -, X6, ⟨Lc6, hQ6, l6, y6, z6⟩, st6⟩ := Jvm.LawKit.callS X3 hx (y := (⟨"java/lang/StringUTF16", "coderFromArrayLen", "([BI)B"⟩ : MethodName)) hown (mvT hZ (hw _ (List.mem_of_getElem? (i := 24) rfl))) (mvT hZ (hw _ (List.mem_of_getElem? (i := 25) rfl))) (mvT hZ (hw _ (List.mem_of_getElem? (i := 18) rfl))) (mvT hZ (hw _ (List.mem_of_getElem? (i := 26) rfl))) (by decide) (backOf (W := 1) (rm6 l Z a0 hw [] r3 kb3 (6 : Int32) [(.int (k0.toInt8.toInt32)), (.int (k1.toInt8.toInt32)), (.int (k2.toInt8.toInt32)), (.int (k3.toInt8.toInt32)), (.int (k4.toInt8.toInt32)), (.int (k5.toInt8.toInt32))] (.int (0 : Int32)) h3 n0 Z3 V_r) hZ (hw _ (List.mem_of_getElem? (i := 26) rfl)) (hw _ (List.mem_of_getElem? (i := 18) rfl)) (by decide) (by decide)) (g := (mkF m 45 #[.val (.ref o0), .val (.ref o1), .val (.int (0 : Int32)), .val (.int (6 : Int32)), .val .null, .val (.ref r3)] [(.int (6 : Int32)), (.ref r3), (.ref o0)])) rfl (by rw [hml]; rfl) (argsL := [(.ref r3), (.int (6 : Int32))]) (rest := [(.ref o0)]) (lenOf pd_12 rfl) rfl (by show 2 * 0 + _ ≤ _; exact Nat.le_of_eq rfl) (hb hby d2_45) (fun _ _ => ⟨rfl, e3, (by decide : 2 + 0 ≤ _), (by decide : 18 + 0 ≤ _)⟩)
    dsimp only [Pt.U, Pt.locs, Pt.cells, Pt.slots] at X6 l6 y6 z6 st6 hQ6
    subst l6 y6 z6
    obtain ⟨rfl, N6q, e6⟩ := hQ6
    have N6 := Fr.app N3 N6q
    refine Go.st st6 ?_
    show Go _ _ _ _ _ _ _ T6 (mkF m 48 #[.val (.ref o0), .val (.ref o1), .val (.int (0 : Int32)), .val (.int (6 : Int32)), .val .null, .val (.ref r3)] [(.int (val_6 r3 kb3 (6 : Int32) [(.int (k0.toInt8.toInt32)), (.int (k1.toInt8.toInt32)), (.int (k2.toInt8.toInt32)), (.int (k3.toInt8.toInt32)), (.int (k4.toInt8.toInt32)), (.int (k5.toInt8.toInt32))] (.int (0 : Int32)))), (.ref o0)])
    rw [show (val_6 r3 kb3 (6 : Int32) [(.int (k0.toInt8.toInt32)), (.int (k1.toInt8.toInt32)), (.int (k2.toInt8.toInt32)), (.int (k3.toInt8.toInt32)), (.int (k4.toInt8.toInt32)), (.int (k5.toInt8.toInt32))] (.int (0 : Int32))) = (0 : Int32) from by unfold val_6; decide +kernel]
    show Go _ _ _ _ _ _ _ T6 (mkF m 48 #[.val (.ref o0), .val (.ref o1), .val (.int (0 : Int32)), .val (.int (6 : Int32)), .val .null, .val (.ref r3)] [(.int (0 : Int32)), (.ref o0)])
    obtain ⟨T7, h7, X7, e7, W7, st7⟩ := putFN X6 hx hZ hown (hw _ (List.mem_of_getElem? (i := 27) rfl)) Via.refl e6 F_coder_o0__3 E_o0__3 (Or.inr ⟨(hw _ (List.mem_of_getElem? (i := 28) rfl)), rfl, hnm⟩) (hw _ (List.mem_of_getElem? (i := 3) rfl)) (ty := .byte) (v' := (.int (0 : Int32))) (by decide) rfl rfl (g := (mkF m 48 #[.val (.ref o0), .val (.ref o1), .val (.int (0 : Int32)), .val (.int (6 : Int32)), .val .null, .val (.ref r3)] [(.int (0 : Int32)), (.ref o0)])) rfl rfl (hb hby d2_48)
    have F_coder_o0__7 : Fld Z h7 o0 "java/lang/String" "coder" "B" (.int (0 : Int32)) := F_coder_o0__3.same W7
    have E_o0__7 := E_o0__3.wr W7
    have F_value_o0__7 := F_value_o0__3.other W7 (Or.inr (slot_ne (Or.inr (hw _ (List.mem_of_getElem? (i := 30) rfl))) (Or.inr (hw _ (List.mem_of_getElem? (i := 28) rfl))) (by decide) (t := (.array .byte)) (t' := .byte) (by decide) (by decide)))
    have V_o1__7 := V_o1__3.other W7 (Ne.symm neo)
    have S_CS__7 := S_CS__3.wr W7
    have S_AD__7 := S_AD__3.wr W7
    have S_HI__7 := S_HI__3.wr W7
    have S_LO__7 := S_LO__3.wr W7
    have V_r__7 := V_r.other W7 (Ne.symm ne4)
    have Z7 : n0 ≤ h7.size := Nat.le_trans Z3 (Keep.of_wr W7).1
    have KK7 : Keep h0 h7 [o0] := KK3.wr W7 (Or.inl (List.mem_of_getElem? (i := 0) rfl))
    have N7 := Fr.snoc X7 N6 g_o0
    refine Go.st st7 ?_
    show Go _ _ _ _ _ _ _ T7 (mkF m 51 #[.val (.ref o0), .val (.ref o1), .val (.int (0 : Int32)), .val (.int (6 : Int32)), .val .null, .val (.ref r3)] [])
    refine Go.st (fun _ k => XS.aloadN X7.here hx rfl (hb hby d2_51) rfl rfl k) ?_
    show Go _ _ _ _ _ _ _ T7 (mkF m 52 #[.val (.ref o0), .val (.ref o1), .val (.int (0 : Int32)), .val (.int (6 : Int32)), .val .null, .val (.ref r3)] [(.ref o0)])
    refine Go.st (fun _ k => XS.aload X7.here hx rfl (hb hby d2_52) rfl rfl k) ?_
    show Go _ _ _ _ _ _ _ T7 (mkF m 54 #[.val (.ref o0), .val (.ref o1), .val (.int (0 : Int32)), .val (.int (6 : Int32)), .val .null, .val (.ref r3)] [(.ref r3), (.ref o0)])
    obtain ⟨T8, h8, X8, e8, W8, st8⟩ := putF X7 hx hZ hown (host := "") (Or.inl (hw _ (List.mem_of_getElem? (i := 29) rfl))) Via.refl e7 F_value_o0__7 E_o0__7 (Or.inr ⟨(hw _ (List.mem_of_getElem? (i := 30) rfl)), rfl, hnm⟩) (hw _ (List.mem_of_getElem? (i := 3) rfl)) (ty := (.array .byte)) (by decide) rfl rfl (g := (mkF m 54 #[.val (.ref o0), .val (.ref o1), .val (.int (0 : Int32)), .val (.int (6 : Int32)), .val .null, .val (.ref r3)] [(.ref r3), (.ref o0)])) rfl rfl (hb hby d2_54)
    have F_value_o0__8 : Fld Z h8 o0 "java/lang/String" "value" "[B" (.ref r3) := F_value_o0__7.same W8
    have E_o0__8 := E_o0__7.wr W8
    have V_o1__8 := V_o1__7.other W8 (Ne.symm neo)
    have S_CS__8 := S_CS__7.wr W8
    have S_AD__8 := S_AD__7.wr W8
    have S_HI__8 := S_HI__7.wr W8
    have S_LO__8 := S_LO__7.wr W8
    have V_r__8 := V_r__7.other W8 (Ne.symm ne4)
    have F_coder_o0__8 := F_coder_o0__7.other W8 (Or.inr (slot_ne (Or.inr (hw _ (List.mem_of_getElem? (i := 28) rfl))) (Or.inr (hw _ (List.mem_of_getElem? (i := 30) rfl))) (by decide) (t := .byte) (t' := (.array .byte)) (by decide) (by decide)))
    have Z8 : n0 ≤ h8.size := Nat.le_trans Z7 (Keep.of_wr W8).1
    have KK8 : Keep h0 h8 [o0] := KK7.wr W8 (Or.inl (List.mem_of_getElem? (i := 0) rfl))
    have N8 := Fr.snoc X8 N7 g_o0
    refine Go.st st8 ?_
    show Go _ _ _ _ _ _ _ T8 (mkF m 57 #[.val (.ref o0), .val (.ref o1), .val (.int (0 : Int32)), .val (.int (6 : Int32)), .val .null, .val (.ref r3)] [])
    refine Go.ret X8 hlk (v := none) (fun _ => rfl) (fun fs hr => X8.returnOut hx hret (hb hby d2_57) hr) ?_ (by decide) (by decide)
    show Q2 Z o0 o1 kc k0 k1 k2 k3 k4 k5 u_v u_c G1 h0 n0 (none) T8.heap _
    rw [e8]
    exact ⟨rfl, N8, KK8, E_o0__8, r3, kb3, sz_r3, F_value_o0__8, Or.inl ⟨F_coder_o0__8, V_r__8, hl⟩⟩
  · show Go _ _ _ _ _ _ _ T3 (mkF m 39 #[.val (.ref o0), .val (.ref o1), .val (.int (0 : Int32)), .val (.int (6 : Int32)), .val .null, .unset] [(.ref r3)])
    refine Go.st (fun _ k => XS.astore X3.here hx rfl (hb hby d2_39) rfl rfl (l' := #[.val (.ref o0), .val (.ref o1), .val (.int (0 : Int32)), .val (.int (6 : Int32)), .val .null, .val (.ref r3)]) rfl k) ?_
    show Go _ _ _ _ _ _ _ T3 (mkF m 41 #[.val (.ref o0), .val (.ref o1), .val (.int (0 : Int32)), .val (.int (6 : Int32)), .val .null, .val (.ref r3)] [])
    refine Go.st (fun _ k => XS.aloadN X3.here hx rfl (hb hby d2_41) rfl rfl k) ?_
    show Go _ _ _ _ _ _ _ T3 (mkF m 42 #[.val (.ref o0), .val (.ref o1), .val (.int (0 : Int32)), .val (.int (6 : Int32)), .val .null, .val (.ref r3)] [(.ref o0)])
    refine Go.st (fun _ k => XS.aload X3.here hx rfl (hb hby d2_42) rfl rfl k) ?_
    show Go _ _ _ _ _ _ _ T3 (mkF m 44 #[.val (.ref o0), .val (.ref o1), .val (.int (0 : Int32)), .val (.int (6 : Int32)), .val .null, .val (.ref r3)] [(.ref r3), (.ref o0)])
    refine Go.st (fun _ k => XS.iloadN X3.here hx rfl (hb hby d2_44) rfl k) ?_
    show Go _ _ _ _ _ _ _ T3 (mkF m 45 #[.val (.ref o0), .val (.ref o1), .val (.int (0 : Int32)), .val (.int (6 : Int32)), .val .null, .val (.ref r3)] [(.int (6 : Int32)), (.ref r3), (.ref o0)])
    obtain ⟨_, _, ⟨T9, L9, ck9, cn9⟩, -, X9, ⟨Lc9, hQ9, l9, y9, z9⟩, st9⟩ := Jvm.LawKit.callS X3 hx (y := (⟨"java/lang/StringUTF16", "coderFromArrayLen", "([BI)B"⟩ : MethodName)) hown (mvT hZ (hw _ (List.mem_of_getElem? (i := 24) rfl))) (mvT hZ (hw _ (List.mem_of_getElem? (i := 25) rfl))) (mvT hZ (hw _ (List.mem_of_getElem? (i := 18) rfl))) (mvT hZ (hw _ (List.mem_of_getElem? (i := 26) rfl))) (by decide) (backOf (W := 1) (rm6 l Z a0 hw [] r3 kb3 (12 : Int32) [(.int ((k0 >>> ((0 : Int32) &&& 31)).toInt8.toInt32)), (.int ((k0 >>> ((8 : Int32) &&& 31)).toInt8.toInt32)), (.int ((k1 >>> ((0 : Int32) &&& 31)).toInt8.toInt32)), (.int ((k1 >>> ((8 : Int32) &&& 31)).toInt8.toInt32)), (.int ((k2 >>> ((0 : Int32) &&& 31)).toInt8.toInt32)), (.int ((k2 >>> ((8 : Int32) &&& 31)).toInt8.toInt32)), (.int ((k3 >>> ((0 : Int32) &&& 31)).toInt8.toInt32)), (.int ((k3 >>> ((8 : Int32) &&& 31)).toInt8.toInt32)), (.int ((k4 >>> ((0 : Int32) &&& 31)).toInt8.toInt32)), (.int ((k4 >>> ((8 : Int32) &&& 31)).toInt8.toInt32)), (.int ((k5 >>> ((0 : Int32) &&& 31)).toInt8.toInt32)), (.int ((k5 >>> ((8 : Int32) &&& 31)).toInt8.toInt32))] (.int (0 : Int32)) h3 n0 Z3 V_r) hZ (hw _ (List.mem_of_getElem? (i := 26) rfl)) (hw _ (List.mem_of_getElem? (i := 18) rfl)) (by decide) (by decide)) (g := (mkF m 45 #[.val (.ref o0), .val (.ref o1), .val (.int (0 : Int32)), .val (.int (6 : Int32)), .val .null, .val (.ref r3)] [(.int (6 : Int32)), (.ref r3), (.ref o0)])) rfl (by rw [hml]; rfl) (argsL := [(.ref r3), (.int (6 : Int32))]) (rest := [(.ref o0)]) (lenOf pd_12 rfl) rfl (by show 2 * 0 + _ ≤ _; exact Nat.le_of_eq rfl) (hb hby d2_45) (fun _ _ => ⟨rfl, e3, (by decide : 2 + 0 ≤ _), (by decide : 18 + 0 ≤ _)⟩)
    dsimp only [Pt.U, Pt.locs, Pt.cells, Pt.slots] at X9 l9 y9 z9 st9 hQ9
    subst l9 y9 z9
    obtain ⟨rfl, N9q, e9⟩ := hQ9
    have N9 := Fr.app N3 N9q
    refine Go.st st9 ?_
    show Go _ _ _ _ _ _ _ T9 (mkF m 48 #[.val (.ref o0), .val (.ref o1), .val (.int (0 : Int32)), .val (.int (6 : Int32)), .val .null, .val (.ref r3)] [(.int (val_6 r3 kb3 (12 : Int32) [(.int ((k0 >>> ((0 : Int32) &&& 31)).toInt8.toInt32)), (.int ((k0 >>> ((8 : Int32) &&& 31)).toInt8.toInt32)), (.int ((k1 >>> ((0 : Int32) &&& 31)).toInt8.toInt32)), (.int ((k1 >>> ((8 : Int32) &&& 31)).toInt8.toInt32)), (.int ((k2 >>> ((0 : Int32) &&& 31)).toInt8.toInt32)), (.int ((k2 >>> ((8 : Int32) &&& 31)).toInt8.toInt32)), (.int ((k3 >>> ((0 : Int32) &&& 31)).toInt8.toInt32)), (.int ((k3 >>> ((8 : Int32) &&& 31)).toInt8.toInt32)), (.int ((k4 >>> ((0 : Int32) &&& 31)).toInt8.toInt32)), (.int ((k4 >>> ((8 : Int32) &&& 31)).toInt8.toInt32)), (.int ((k5 >>> ((0 : Int32) &&& 31)).toInt8.toInt32)), (.int ((k5 >>> ((8 : Int32) &&& 31)).toInt8.toInt32))] (.int (0 : Int32)))), (.ref o0)])
    rw [show (val_6 r3 kb3 (12 : Int32) [(.int ((k0 >>> ((0 : Int32) &&& 31)).toInt8.toInt32)), (.int ((k0 >>> ((8 : Int32) &&& 31)).toInt8.toInt32)), (.int ((k1 >>> ((0 : Int32) &&& 31)).toInt8.toInt32)), (.int ((k1 >>> ((8 : Int32) &&& 31)).toInt8.toInt32)), (.int ((k2 >>> ((0 : Int32) &&& 31)).toInt8.toInt32)), (.int ((k2 >>> ((8 : Int32) &&& 31)).toInt8.toInt32)), (.int ((k3 >>> ((0 : Int32) &&& 31)).toInt8.toInt32)), (.int ((k3 >>> ((8 : Int32) &&& 31)).toInt8.toInt32)), (.int ((k4 >>> ((0 : Int32) &&& 31)).toInt8.toInt32)), (.int ((k4 >>> ((8 : Int32) &&& 31)).toInt8.toInt32)), (.int ((k5 >>> ((0 : Int32) &&& 31)).toInt8.toInt32)), (.int ((k5 >>> ((8 : Int32) &&& 31)).toInt8.toInt32))] (.int (0 : Int32))) = (1 : Int32) from by unfold val_6; decide +kernel]
    show Go _ _ _ _ _ _ _ T9 (mkF m 48 #[.val (.ref o0), .val (.ref o1), .val (.int (0 : Int32)), .val (.int (6 : Int32)), .val .null, .val (.ref r3)] [(.int (1 : Int32)), (.ref o0)])
    obtain ⟨T10, h10, X10, e10, W10, st10⟩ := putFN X9 hx hZ hown (hw _ (List.mem_of_getElem? (i := 27) rfl)) Via.refl e9 F_coder_o0__3 E_o0__3 (Or.inr ⟨(hw _ (List.mem_of_getElem? (i := 28) rfl)), rfl, hnm⟩) (hw _ (List.mem_of_getElem? (i := 3) rfl)) (ty := .byte) (v' := (.int (1 : Int32))) (by decide) rfl rfl (g := (mkF m 48 #[.val (.ref o0), .val (.ref o1), .val (.int (0 : Int32)), .val (.int (6 : Int32)), .val .null, .val (.ref r3)] [(.int (1 : Int32)), (.ref o0)])) rfl rfl (hb hby d2_48)
    have F_coder_o0__10 : Fld Z h10 o0 "java/lang/String" "coder" "B" (.int (1 : Int32)) := F_coder_o0__3.same W10
    have E_o0__10 := E_o0__3.wr W10
    have F_value_o0__10 := F_value_o0__3.other W10 (Or.inr (slot_ne (Or.inr (hw _ (List.mem_of_getElem? (i := 30) rfl))) (Or.inr (hw _ (List.mem_of_getElem? (i := 28) rfl))) (by decide) (t := (.array .byte)) (t' := .byte) (by decide) (by decide)))
    have V_o1__10 := V_o1__3.other W10 (Ne.symm neo)
    have S_CS__10 := S_CS__3.wr W10
    have S_AD__10 := S_AD__3.wr W10
    have S_HI__10 := S_HI__3.wr W10
    have S_LO__10 := S_LO__3.wr W10
    have V_r__10 := V_r.other W10 (Ne.symm ne4)
    have Z10 : n0 ≤ h10.size := Nat.le_trans Z3 (Keep.of_wr W10).1
    have KK10 : Keep h0 h10 [o0] := KK3.wr W10 (Or.inl (List.mem_of_getElem? (i := 0) rfl))
    have N10 := Fr.snoc X10 N9 g_o0
    refine Go.st st10 ?_
    show Go _ _ _ _ _ _ _ T10 (mkF m 51 #[.val (.ref o0), .val (.ref o1), .val (.int (0 : Int32)), .val (.int (6 : Int32)), .val .null, .val (.ref r3)] [])
    refine Go.st (fun _ k => XS.aloadN X10.here hx rfl (hb hby d2_51) rfl rfl k) ?_
    show Go _ _ _ _ _ _ _ T10 (mkF m 52 #[.val (.ref o0), .val (.ref o1), .val (.int (0 : Int32)), .val (.int (6 : Int32)), .val .null, .val (.ref r3)] [(.ref o0)])
    refine Go.st (fun _ k => XS.aload X10.here hx rfl (hb hby d2_52) rfl rfl k) ?_
    show Go _ _ _ _ _ _ _ T10 (mkF m 54 #[.val (.ref o0), .val (.ref o1), .val (.int (0 : Int32)), .val (.int (6 : Int32)), .val .null, .val (.ref r3)] [(.ref r3), (.ref o0)])
    obtain ⟨T11, h11, X11, e11, W11, st11⟩ := putF X10 hx hZ hown (host := "") (Or.inl (hw _ (List.mem_of_getElem? (i := 29) rfl))) Via.refl e10 F_value_o0__10 E_o0__10 (Or.inr ⟨(hw _ (List.mem_of_getElem? (i := 30) rfl)), rfl, hnm⟩) (hw _ (List.mem_of_getElem? (i := 3) rfl)) (ty := (.array .byte)) (by decide) rfl rfl (g := (mkF m 54 #[.val (.ref o0), .val (.ref o1), .val (.int (0 : Int32)), .val (.int (6 : Int32)), .val .null, .val (.ref r3)] [(.ref r3), (.ref o0)])) rfl rfl (hb hby d2_54)
    have F_value_o0__11 : Fld Z h11 o0 "java/lang/String" "value" "[B" (.ref r3) := F_value_o0__10.same W11
    have E_o0__11 := E_o0__10.wr W11
    have V_o1__11 := V_o1__10.other W11 (Ne.symm neo)
    have S_CS__11 := S_CS__10.wr W11
    have S_AD__11 := S_AD__10.wr W11
    have S_HI__11 := S_HI__10.wr W11
    have S_LO__11 := S_LO__10.wr W11
    have V_r__11 := V_r__10.other W11 (Ne.symm ne4)
    have F_coder_o0__11 := F_coder_o0__10.other W11 (Or.inr (slot_ne (Or.inr (hw _ (List.mem_of_getElem? (i := 28) rfl))) (Or.inr (hw _ (List.mem_of_getElem? (i := 30) rfl))) (by decide) (t := .byte) (t' := (.array .byte)) (by decide) (by decide)))
    have Z11 : n0 ≤ h11.size := Nat.le_trans Z10 (Keep.of_wr W11).1
    have KK11 : Keep h0 h11 [o0] := KK10.wr W11 (Or.inl (List.mem_of_getElem? (i := 0) rfl))
    have N11 := Fr.snoc X11 N10 g_o0
    refine Go.st st11 ?_
    show Go _ _ _ _ _ _ _ T11 (mkF m 57 #[.val (.ref o0), .val (.ref o1), .val (.int (0 : Int32)), .val (.int (6 : Int32)), .val .null, .val (.ref r3)] [])
    refine Go.ret X11 hlk (v := none) (fun _ => rfl) (fun fs hr => X11.returnOut hx hret (hb hby d2_57) hr) ?_ (by decide) (by decide)
    show Q2 Z o0 o1 kc k0 k1 k2 k3 k4 k5 u_v u_c G1 h0 n0 (none) T11.heap _
    rw [e11]
    exact ⟨rfl, N11, KK11, E_o0__11, r3, kb3, sz_r3, F_value_o0__11, Or.inr ⟨F_coder_o0__11, V_r__11⟩⟩
theorem d1_0 : decode jdk_42_method_3_code 0 = .ok (.aload_n 0, 1) := by decide +kernel
theorem d1_1 : decode jdk_42_method_3_code 1 = .ok (.aload_n 1, 1) := by decide +kernel
theorem d1_2 : decode jdk_42_method_3_code 2 = .ok (.iconst 0, 1) := by decide +kernel
theorem d1_3 : decode jdk_42_method_3_code 3 = .ok (.aload_n 1, 1) := by decide +kernel
theorem d1_4 : decode jdk_42_method_3_code 4 = .ok (.arraylength, 1) := by decide +kernel
theorem d1_5 : decode jdk_42_method_3_code 5 = .ok (.aconst_null, 1) := by decide +kernel
theorem d1_6 : decode jdk_42_method_3_code 6 = .ok (.invokespecial 27, 3) := by decide +kernel
theorem d1_9 : decode jdk_42_method_3_code 9 = .ok (.return_, 1) := by decide +kernel
theorem ef_1 (m : MethodId) (o0 : Addr) (o1 : Addr) : entryFrame m #[(.ref o0), (.ref o1)] 2 = mkF m 0 #[.val (.ref o0), .val (.ref o1)] [] := by first | (simp [entryFrame, mkF, argsToLocals, Value.category]; done) | rfl
def Q1 (Z : State) (o0 : Addr) (o1 : Addr) (kc : ClassId) (k0 : Int32) (k1 : Int32) (k2 : Int32) (k3 : Int32) (k4 : Int32) (k5 : Int32) (u_v : Value) (u_c : Value) (G1 : Int32) (h0 : Heap) (n0 : Nat) (v : Option Value) (h : Heap) (L : List Loc) : Prop := v = none ∧ Fr n0 L ∧ Keep h0 h [o0] ∧ Exa Z h o0 "java/lang/String" ∧ ∃ (t : Addr) (kb : ClassId), h0.size ≤ t ∧ Fld Z h o0 "java/lang/String" "value" "[B" (.ref t) ∧ Enc Z h o0 t kb k0 k1 k2 k3 k4 k5
set_option maxRecDepth 65536 in
set_option maxHeartbeats 40000000 in
theorem rm1 (l : Launch) (Z : State) (a0 : Array Value) (hw : ∀ d ∈ tables_1, d.before a0 Z = true) (ws : List Jvm.Cond) (o0 : Addr) (o1 : Addr) (kc : ClassId) (k0 : Int32) (k1 : Int32) (k2 : Int32) (k3 : Int32) (k4 : Int32) (k5 : Int32) (u_v : Value) (u_c : Value) (G1 : Int32) (h0 : Heap) (n0 : Nat) (Z0 : n0 ≤ h0.size) (E_o0 : Exa Z h0 o0 "java/lang/String") (F_value_o0 : Fld Z h0 o0 "java/lang/String" "value" "[B" u_v) (F_coder_o0 : Fld Z h0 o0 "java/lang/String" "coder" "B" u_c) (g_o0 : n0 ≤ o0) (V_o1 : Arv Z h0 o1 kc .char (6 : Int32) [(.int k0), (.int k1), (.int k2), (.int k3), (.int k4), (.int k5)] (.int (0 : Int32))) (hW : Wide16 k0 k1 k2 k3 k4 k5) (S_CS : Sta Z h0 "java/lang/String" "COMPACT_STRINGS" "Z" (.int G1)) (P_CS : ¬ G1 = (0 : Int32)) (S_AD : Sta Z h0 "java/lang/StringUTF16" "$assertionsDisabled" "Z" (.int (1 : Int32))) (S_HI : Sta Z h0 "java/lang/StringUTF16" "HI_BYTE_SHIFT" "I" (.int (0 : Int32))) (S_LO : Sta Z h0 "java/lang/StringUTF16" "LO_BYTE_SHIFT" "I" (.int (8 : Int32))) (neo : o0 ≠ o1) :
    MetFree l (⟨"java/lang/String", "<init>", "([C)V"⟩ : MethodName) (head1 (Jvm.Cond.code (⟨"java/lang/String", "<init>", "([C)V"⟩ : MethodName) jdk_42_method_3_code 2 none :: ws) ({ frames := 5, cells := 2, slots := 18, locals := 74 } : Room)) (fun a U => a = #[(.ref o0), (.ref o1)] ∧ Z.Warmed39 U.vm ∧ U.heap = h0) (fun _ _ _ _ _ => True) (fun _ U o U' => ∃ v L, o = .returned v ∧ Q1 Z o0 o1 kc k0 k1 k2 k3 k4 k5 u_v u_c G1 h0 n0 v U'.heap L ∧ FrameEnd U o U' L ({ frames := 5, cells := 2, slots := 18, locals := 74 } : Room).cells ({ frames := 5, cells := 2, slots := 18, locals := 74 } : Room).slots) := by
  refine MetFree.of_bodySF (plainFor_of_name pn_java_lang_String) hisR ?_
  intro p e s m args below meth c s₁ Bd hml0 hP hK
  obtain ⟨rfl, hZ, hh⟩ := hP
  have hx := Bd.exec
  have hby := Bd.bytes
  have hlk : meth.locks = false := BodyLoose.notSynchronized Bd
  have hret := Bd.returns
  have hml : c.maxLocals = 2 := hml0
  have hown : s.vm.findClass "java/lang/String" = some m.cls := findClass_of_methodNamed Bd.named
  have hnm := (name_of_methodNamed Bd.named Bd.method).1
  have X0 : Stand p l e ({ frames := 5, cells := 2, slots := 18, locals := 74 } : Room) s m #[(.ref o0), (.ref o1)] below meth c s₁ [] 0 0 := Stand.of_body Bd
  have e0 : s₁.heap = h0 := by rw [← hh, Bd.state]; rfl
  have N0 := Fr.nil n0
  refine Go.start (Q := Q1 Z o0 o1 kc k0 k1 k2 k3 k4 k5 u_v u_c G1 h0 n0) (ef_1 m o0 o1) ?_
  show Go _ _ _ _ _ _ _ s₁ (mkF m 0 #[.val (.ref o0), .val (.ref o1)] [])
  refine Go.st (fun _ k => XS.aloadN X0.here hx rfl (hb hby d1_0) rfl rfl k) ?_
  show Go _ _ _ _ _ _ _ s₁ (mkF m 1 #[.val (.ref o0), .val (.ref o1)] [(.ref o0)])
  refine Go.st (fun _ k => XS.aloadN X0.here hx rfl (hb hby d1_1) rfl rfl k) ?_
  show Go _ _ _ _ _ _ _ s₁ (mkF m 2 #[.val (.ref o0), .val (.ref o1)] [(.ref o1), (.ref o0)])
  refine Go.st (fun _ k => XS.iconst X0.here hx rfl (hb hby d1_2) k) ?_
  show Go _ _ _ _ _ _ _ s₁ (mkF m 3 #[.val (.ref o0), .val (.ref o1)] [(.int (0 : Int32)), (.ref o1), (.ref o0)])
  refine Go.st (fun _ k => XS.aloadN X0.here hx rfl (hb hby d1_3) rfl rfl k) ?_
  show Go _ _ _ _ _ _ _ s₁ (mkF m 4 #[.val (.ref o0), .val (.ref o1)] [(.ref o1), (.int (0 : Int32)), (.ref o1), (.ref o0)])
  obtain ⟨cl1, Ar1, qq1, SS1, NN1, HH1, GG1⟩ := id V_o1
  refine Go.st (fun _ k => X0.arraylength hx (by rw [e0]; exact Ar1.1) (State.isArrayOf_alike hZ.alike Ar1.2.1) (g := (mkF m 4 #[.val (.ref o0), .val (.ref o1)] [(.ref o1), (.int (0 : Int32)), (.ref o1), (.ref o0)])) rfl rfl (hb hby d1_4) _ k) ?_
  rw [len_of SS1 NN1]
  show Go _ _ _ _ _ _ _ s₁ (mkF m 5 #[.val (.ref o0), .val (.ref o1)] [(.int (6 : Int32)), (.int (0 : Int32)), (.ref o1), (.ref o0)])
  refine Go.st (fun _ k => XS.aconstNull X0.here hx rfl (hb hby d1_5) k) ?_
  show Go _ _ _ _ _ _ _ s₁ (mkF m 6 #[.val (.ref o0), .val (.ref o1)] [.null, (.int (6 : Int32)), (.int (0 : Int32)), (.ref o1), (.ref o0)])
  obtain ⟨_, _, ⟨T2, L2, ck2, cn2⟩, -, X2, ⟨Lc2, hQ2, l2, y2, z2⟩, st2⟩ := X0.specialBack hx (y := (⟨"java/lang/String", "<init>", "([CIILjava/lang/Void;)V"⟩ : MethodName)) rfl hown (mvT hZ (hw _ (List.mem_of_getElem? (i := 8) rfl))) (mvT hZ (hw _ (List.mem_of_getElem? (i := 9) rfl))) (mvT hZ (hw _ (List.mem_of_getElem? (i := 11) rfl))) (by decide) (backOf (W := 0) (rm2 l Z a0 hw [] o0 o1 kc k0 k1 k2 k3 k4 k5 u_v u_c G1 h0 n0 Z0 E_o0 F_value_o0 F_coder_o0 g_o0 V_o1 hW S_CS P_CS S_AD S_HI S_LO neo) hZ (hw _ (List.mem_of_getElem? (i := 11) rfl)) (hw _ (List.mem_of_getElem? (i := 4) rfl)) (by decide) (by decide)) (g := (mkF m 6 #[.val (.ref o0), .val (.ref o1)] [.null, (.int (6 : Int32)), (.int (0 : Int32)), (.ref o1), (.ref o0)])) rfl (by rw [hml]; rfl) (Steps.refl _) (a := o0) (argsL := [(.ref o1), (.int (0 : Int32)), (.int (6 : Int32)), .null]) (rest := []) (lenOf pd_13 rfl) rfl (by show 2 * 0 + _ ≤ _; exact Nat.le_of_eq rfl) (hb hby d1_6) (fun _ _ => ⟨rfl, e0, (by decide : 0 + 2 ≤ _), (by decide : 0 + 18 ≤ _)⟩)
  dsimp only [Pt.U, Pt.locs, Pt.cells, Pt.slots] at X2 l2 y2 z2 st2 hQ2
  subst l2 y2 z2
  generalize e2 : T2.heap = h2 at hQ2
  obtain ⟨rfl, N2q, K2, EE2, t2, kb2, szt2, FF2, NN2⟩ := hQ2
  have N2 := Fr.app N0 N2q
  refine Go.st (fun _ k => st2.trans k) ?_
  have ltx2 := E_o0.lt
  have ne3 : o0 ≠ t2 := Nat.ne_of_lt (Nat.lt_of_lt_of_le E_o0.lt szt2)
  have ne4 : o1 ≠ t2 := Nat.ne_of_lt (Nat.lt_of_lt_of_le V_o1.lt szt2)
  have g_t2 : n0 ≤ t2 := Nat.le_trans Z0 szt2
  have sz_t2 : h0.size ≤ t2 := Nat.le_trans (Nat.le_refl _) szt2
  have E_o0__2 := E_o0.keep K2
  have V_o1__2 := V_o1.keep K2 (ninS (Ne.symm neo) (nin0))
  have S_CS__2 := own_sta S_CS K2 (allS E_o0.cell (all0))
  have S_AD__2 := own_sta S_AD K2 (allS E_o0.cell (all0))
  have S_HI__2 := own_sta S_HI K2 (allS E_o0.cell (all0))
  have S_LO__2 := own_sta S_LO K2 (allS E_o0.cell (all0))
  have Z2 : n0 ≤ h2.size := Nat.le_trans Z0 K2.1
  have KK2 : Keep h0 h2 [o0] := (Keep.refl h0 [o0]).trans K2 (allS (Or.inl (List.mem_of_getElem? (i := 0) rfl)) (all0))
  show Go _ _ _ _ _ _ _ T2 (mkF m 9 #[.val (.ref o0), .val (.ref o1)] [])
  refine Go.ret X2 hlk (v := none) (fun _ => rfl) (fun fs hr => X2.returnOut hx hret (hb hby d1_9) hr) ?_ (by decide) (by decide)
  show Q1 Z o0 o1 kc k0 k1 k2 k3 k4 k5 u_v u_c G1 h0 n0 (none) T2.heap _
  rw [e2]
  exact ⟨rfl, N2, KK2, EE2, t2, kb2, sz_t2, FF2, NN2⟩
theorem d7_0 : decode prog_89_method_1_code 0 = .ok (.aload_n 0, 1) := by decide +kernel
theorem d7_1 : decode prog_89_method_1_code 1 = .ok (.invokespecial 1, 3) := by decide +kernel
theorem d7_4 : decode prog_89_method_1_code 4 = .ok (.return_, 1) := by decide +kernel
theorem ef_7 (m : MethodId) (o0 : Addr) : entryFrame m #[(.ref o0)] 1 = mkF m 0 #[.val (.ref o0)] [] := by first | (simp [entryFrame, mkF, argsToLocals, Value.category]; done) | rfl
def Q7 (Z : State) (o0 : Addr) (h0 : Heap) (n0 : Nat) (v : Option Value) (h : Heap) (L : List Loc) : Prop := v = none ∧ Fr n0 L ∧ h = h0
set_option maxRecDepth 65536 in
set_option maxHeartbeats 40000000 in
theorem rm7 (l : Launch) (Z : State) (a0 : Array Value) (hw : ∀ d ∈ tables_1, d.before a0 Z = true) (ws : List Jvm.Cond) (o0 : Addr) (h0 : Heap) (n0 : Nat) (Z0 : n0 ≤ h0.size) :
    MetFree l (⟨"com/example/grantd/grantd/policy/TextSpan", "<init>", "()V"⟩ : MethodName) (head1 (Jvm.Cond.code (⟨"com/example/grantd/grantd/policy/TextSpan", "<init>", "()V"⟩ : MethodName) prog_89_method_1_code 1 none :: ws) ({ frames := 1, cells := 0, slots := 0, locals := 12 } : Room)) (fun a U => a = #[(.ref o0)] ∧ Z.Warmed39 U.vm ∧ U.heap = h0) (fun _ _ _ _ _ => True) (fun _ U o U' => ∃ v L, o = .returned v ∧ Q7 Z o0 h0 n0 v U'.heap L ∧ FrameEnd U o U' L ({ frames := 1, cells := 0, slots := 0, locals := 12 } : Room).cells ({ frames := 1, cells := 0, slots := 0, locals := 12 } : Room).slots) := by
  refine MetFree.of_bodySF (plainFor_of_name pn_com_example_grantd_grantd_policy_TextSpan) hisR ?_
  intro p e s m args below meth c s₁ Bd hml0 hP hK
  obtain ⟨rfl, hZ, hh⟩ := hP
  have hx := Bd.exec
  have hby := Bd.bytes
  have hlk : meth.locks = false := BodyLoose.notSynchronized Bd
  have hret := Bd.returns
  have hml : c.maxLocals = 1 := hml0
  have hown : s.vm.findClass "com/example/grantd/grantd/policy/TextSpan" = some m.cls := findClass_of_methodNamed Bd.named
  have hnm := (name_of_methodNamed Bd.named Bd.method).1
  have X0 : Stand p l e ({ frames := 1, cells := 0, slots := 0, locals := 12 } : Room) s m #[(.ref o0)] below meth c s₁ [] 0 0 := Stand.of_body Bd
  have e0 : s₁.heap = h0 := by rw [← hh, Bd.state]; rfl
  have N0 := Fr.nil n0
  refine Go.start (Q := Q7 Z o0 h0 n0) (ef_7 m o0) ?_
  show Go _ _ _ _ _ _ _ s₁ (mkF m 0 #[.val (.ref o0)] [])
  refine Go.st (fun _ k => XS.aloadN X0.here hx rfl (hb hby d7_0) rfl rfl k) ?_
  show Go _ _ _ _ _ _ _ s₁ (mkF m 1 #[.val (.ref o0)] [(.ref o0)])
  obtain ⟨T1, X1, e1, st1⟩ := initO X0 hx hZ hown (hw _ (List.mem_of_getElem? (i := 38) rfl)) (hw _ (List.mem_of_getElem? (i := 13) rfl)) (hw _ (List.mem_of_getElem? (i := 14) rfl)) e0 (g := (mkF m 1 #[.val (.ref o0)] [(.ref o0)])) rfl (by rw [hml]; rfl) rfl (hb hby d7_1) (by decide) (W := 0) (by show 2 * 0 + _ ≤ _; exact Nat.le_of_eq rfl) (by decide)
  refine Go.st st1 ?_
  show Go _ _ _ _ _ _ _ T1 (mkF m 4 #[.val (.ref o0)] [])
  refine Go.ret X1 hlk (v := none) (fun _ => rfl) (fun fs hr => X1.returnOut hx hret (hb hby d7_4) hr) ?_ (by decide) (by decide)
  show Q7 Z o0 h0 n0 (none) T1.heap _
  rw [e1]
  exact ⟨rfl, N0, rfl⟩
theorem d12_0 : decode jdk_41_method_12_code 0 = .ok (.iload_n 0, 1) := by decide +kernel
theorem d12_1 : decode jdk_41_method_12_code 1 = .ok (.ifCond .lt 13, 3) := by decide +kernel
theorem d12_4 : decode jdk_41_method_12_code 4 = .ok (.iload_n 0, 1) := by decide +kernel
theorem d12_5 : decode jdk_41_method_12_code 5 = .ok (.iload_n 1, 1) := by decide +kernel
theorem d12_6 : decode jdk_41_method_12_code 6 = .ok (.if_icmp .gt 8, 3) := by decide +kernel
theorem d12_9 : decode jdk_41_method_12_code 9 = .ok (.iload_n 1, 1) := by decide +kernel
theorem d12_10 : decode jdk_41_method_12_code 10 = .ok (.iload_n 2, 1) := by decide +kernel
theorem d12_11 : decode jdk_41_method_12_code 11 = .ok (.if_icmp .le 11, 3) := by decide +kernel
theorem d12_22 : decode jdk_41_method_12_code 22 = .ok (.iload_n 0, 1) := by decide +kernel
theorem d12_23 : decode jdk_41_method_12_code 23 = .ok (.ireturn, 1) := by decide +kernel
def val_12 (p0 : Int32) (p1 : Int32) (p2 : Int32) : Int32 := p0
theorem ef_12 (m : MethodId) (p0 : Int32) (p1 : Int32) (p2 : Int32) : entryFrame m #[(.int p0), (.int p1), (.int p2), .null] 4 = mkF m 0 #[.val (.int p0), .val (.int p1), .val (.int p2), .val .null] [] := by first | (simp [entryFrame, mkF, argsToLocals, Value.category]; done) | rfl
def Q12 (Z : State) (p0 : Int32) (p1 : Int32) (p2 : Int32) (h0 : Heap) (n0 : Nat) (v : Option Value) (h : Heap) (L : List Loc) : Prop := v = some (.int (val_12 p0 p1 p2)) ∧ Fr n0 L ∧ h = h0
set_option maxRecDepth 65536 in
set_option maxHeartbeats 40000000 in
theorem rm12 (l : Launch) (Z : State) (a0 : Array Value) (hw : ∀ d ∈ tables_1, d.before a0 Z = true) (ws : List Jvm.Cond) (p0 : Int32) (p1 : Int32) (p2 : Int32) (h0 : Heap) (n0 : Nat) (Z0 : n0 ≤ h0.size) (h1 : ¬ p0 < (0 : Int32)) (h2 : ¬ p1 < p0) (h3 : ¬ p2 < p1) :
    MetFree l (⟨"jdk/internal/util/Preconditions", "checkFromToIndex", "(IIILjava/util/function/BiFunction;)I"⟩ : MethodName) (head1 (Jvm.Cond.code (⟨"jdk/internal/util/Preconditions", "checkFromToIndex", "(IIILjava/util/function/BiFunction;)I"⟩ : MethodName) jdk_41_method_12_code 4 (some .int) :: ws) ({ frames := 0, cells := 0, slots := 0, locals := 0 } : Room)) (fun a U => a = #[(.int p0), (.int p1), (.int p2), .null] ∧ Z.Warmed39 U.vm ∧ U.heap = h0) (fun _ _ _ _ _ => True) (fun _ U o U' => ∃ v L, o = .returned v ∧ Q12 Z p0 p1 p2 h0 n0 v U'.heap L ∧ FrameEnd U o U' L ({ frames := 0, cells := 0, slots := 0, locals := 0 } : Room).cells ({ frames := 0, cells := 0, slots := 0, locals := 0 } : Room).slots) := by
  refine MetFree.of_bodySF (plainFor_of_name pn_jdk_internal_util_Preconditions) hisR ?_
  intro p e s m args below meth c s₁ Bd hml0 hP hK
  obtain ⟨rfl, hZ, hh⟩ := hP
  have hx := Bd.exec
  have hby := Bd.bytes
  have hlk : meth.locks = false := BodyLoose.notSynchronized Bd
  have hret := Bd.returns
  have hml : c.maxLocals = 4 := hml0
  have hown : s.vm.findClass "jdk/internal/util/Preconditions" = some m.cls := findClass_of_methodNamed Bd.named
  have hnm := (name_of_methodNamed Bd.named Bd.method).1
  have X0 : Stand p l e ({ frames := 0, cells := 0, slots := 0, locals := 0 } : Room) s m #[(.int p0), (.int p1), (.int p2), .null] below meth c s₁ [] 0 0 := Stand.of_body Bd
  have e0 : s₁.heap = h0 := by rw [← hh, Bd.state]; rfl
  have N0 := Fr.nil n0
  refine Go.start (Q := Q12 Z p0 p1 p2 h0 n0) (ef_12 m p0 p1 p2) ?_
  show Go _ _ _ _ _ _ _ s₁ (mkF m 0 #[.val (.int p0), .val (.int p1), .val (.int p2), .val .null] [])
  refine Go.st (fun _ k => XS.iloadN X0.here hx rfl (hb hby d12_0) rfl k) ?_
  show Go _ _ _ _ _ _ _ s₁ (mkF m 1 #[.val (.int p0), .val (.int p1), .val (.int p2), .val .null] [(.int p0)])
  refine Go.st (fun _ k => XS.ifNo X0.here hx rfl (hb hby d12_1) rfl ((if0 _ _).trans (flt h1).1) k) ?_
  show Go _ _ _ _ _ _ _ s₁ (mkF m 4 #[.val (.int p0), .val (.int p1), .val (.int p2), .val .null] [])
  refine Go.st (fun _ k => XS.iloadN X0.here hx rfl (hb hby d12_4) rfl k) ?_
  show Go _ _ _ _ _ _ _ s₁ (mkF m 5 #[.val (.int p0), .val (.int p1), .val (.int p2), .val .null] [(.int p0)])
  refine Go.st (fun _ k => XS.iloadN X0.here hx rfl (hb hby d12_5) rfl k) ?_
  show Go _ _ _ _ _ _ _ s₁ (mkF m 6 #[.val (.int p0), .val (.int p1), .val (.int p2), .val .null] [(.int p1), (.int p0)])
  refine Go.st (fun _ k => XS.icmpNo X0.here hx rfl (hb hby d12_6) rfl (flt h2).2.2.1 k) ?_
  show Go _ _ _ _ _ _ _ s₁ (mkF m 9 #[.val (.int p0), .val (.int p1), .val (.int p2), .val .null] [])
  refine Go.st (fun _ k => XS.iloadN X0.here hx rfl (hb hby d12_9) rfl k) ?_
  show Go _ _ _ _ _ _ _ s₁ (mkF m 10 #[.val (.int p0), .val (.int p1), .val (.int p2), .val .null] [(.int p1)])
  refine Go.st (fun _ k => XS.iloadN X0.here hx rfl (hb hby d12_10) rfl k) ?_
  show Go _ _ _ _ _ _ _ s₁ (mkF m 11 #[.val (.int p0), .val (.int p1), .val (.int p2), .val .null] [(.int p2), (.int p1)])
  refine Go.st (fun _ k => XS.icmpYes X0.here hx rfl (pc0 := 11) (pc' := 22) rfl (hb hby d12_11) rfl (flt h3).2.2.2 (by decide) (by decide) k) ?_
  show Go _ _ _ _ _ _ _ s₁ (mkF m 22 #[.val (.int p0), .val (.int p1), .val (.int p2), .val .null] [])
  refine Go.st (fun _ k => XS.iloadN X0.here hx rfl (hb hby d12_22) rfl k) ?_
  show Go _ _ _ _ _ _ _ s₁ (mkF m 23 #[.val (.int p0), .val (.int p1), .val (.int p2), .val .null] [(.int p0)])
  refine Go.ret X0 hlk (v := some (.int p0)) (fun h => by rw [hret] at h; cases h) (fun fs hr => retOut X0 hx (t := .int) (i := .ireturn) hret rfl (Or.inl ⟨rfl, Or.inl rfl, _, rfl⟩) (hb hby d12_23) hr) ?_ (by decide) (by decide)
  show Q12 Z p0 p1 p2 h0 n0 (some (.int p0)) s₁.heap _
  rw [e0]
  refine ⟨?_, N0, rfl⟩
  unfold val_12
  rfl
theorem d11_0 : decode jdk_31_method_18_code 0 = .ok (.iload_n 0, 1) := by decide +kernel
theorem d11_1 : decode jdk_31_method_18_code 1 = .ok (.iload_n 1, 1) := by decide +kernel
theorem d11_2 : decode jdk_31_method_18_code 2 = .ok (.iload_n 2, 1) := by decide +kernel
theorem d11_3 : decode jdk_31_method_18_code 3 = .ok (.aconst_null, 1) := by decide +kernel
theorem d11_4 : decode jdk_31_method_18_code 4 = .ok (.invokestatic 111, 3) := by decide +kernel
theorem d11_7 : decode jdk_31_method_18_code 7 = .ok (.ireturn, 1) := by decide +kernel
def val_11 (p0 : Int32) (p1 : Int32) (p2 : Int32) : Int32 := p0
theorem ef_11 (m : MethodId) (p0 : Int32) (p1 : Int32) (p2 : Int32) : entryFrame m #[(.int p0), (.int p1), (.int p2)] 3 = mkF m 0 #[.val (.int p0), .val (.int p1), .val (.int p2)] [] := by first | (simp [entryFrame, mkF, argsToLocals, Value.category]; done) | rfl
def Q11 (Z : State) (p0 : Int32) (p1 : Int32) (p2 : Int32) (h0 : Heap) (n0 : Nat) (v : Option Value) (h : Heap) (L : List Loc) : Prop := v = some (.int (val_11 p0 p1 p2)) ∧ Fr n0 L ∧ h = h0
set_option maxRecDepth 65536 in
set_option maxHeartbeats 40000000 in
theorem rm11 (l : Launch) (Z : State) (a0 : Array Value) (hw : ∀ d ∈ tables_1, d.before a0 Z = true) (ws : List Jvm.Cond) (p0 : Int32) (p1 : Int32) (p2 : Int32) (h0 : Heap) (n0 : Nat) (Z0 : n0 ≤ h0.size) (h1 : ¬ p0 < (0 : Int32)) (h2 : ¬ p1 < p0) (h3 : ¬ p2 < p1) :
    MetFree l (⟨"java/util/Objects", "checkFromToIndex", "(III)I"⟩ : MethodName) (head1 (Jvm.Cond.code (⟨"java/util/Objects", "checkFromToIndex", "(III)I"⟩ : MethodName) jdk_31_method_18_code 3 (some .int) :: ws) ({ frames := 1, cells := 0, slots := 0, locals := 15 } : Room)) (fun a U => a = #[(.int p0), (.int p1), (.int p2)] ∧ Z.Warmed39 U.vm ∧ U.heap = h0) (fun _ _ _ _ _ => True) (fun _ U o U' => ∃ v L, o = .returned v ∧ Q11 Z p0 p1 p2 h0 n0 v U'.heap L ∧ FrameEnd U o U' L ({ frames := 1, cells := 0, slots := 0, locals := 15 } : Room).cells ({ frames := 1, cells := 0, slots := 0, locals := 15 } : Room).slots) := by
  refine MetFree.of_bodySF (plainFor_of_name pn_java_util_Objects) hisR ?_
  intro p e s m args below meth c s₁ Bd hml0 hP hK
  obtain ⟨rfl, hZ, hh⟩ := hP
  have hx := Bd.exec
  have hby := Bd.bytes
  have hlk : meth.locks = false := BodyLoose.notSynchronized Bd
  have hret := Bd.returns
  have hml : c.maxLocals = 3 := hml0
  have hown : s.vm.findClass "java/util/Objects" = some m.cls := findClass_of_methodNamed Bd.named
  have hnm := (name_of_methodNamed Bd.named Bd.method).1
  have X0 : Stand p l e ({ frames := 1, cells := 0, slots := 0, locals := 15 } : Room) s m #[(.int p0), (.int p1), (.int p2)] below meth c s₁ [] 0 0 := Stand.of_body Bd
  have e0 : s₁.heap = h0 := by rw [← hh, Bd.state]; rfl
  have N0 := Fr.nil n0
  refine Go.start (Q := Q11 Z p0 p1 p2 h0 n0) (ef_11 m p0 p1 p2) ?_
  show Go _ _ _ _ _ _ _ s₁ (mkF m 0 #[.val (.int p0), .val (.int p1), .val (.int p2)] [])
  refine Go.st (fun _ k => XS.iloadN X0.here hx rfl (hb hby d11_0) rfl k) ?_
  show Go _ _ _ _ _ _ _ s₁ (mkF m 1 #[.val (.int p0), .val (.int p1), .val (.int p2)] [(.int p0)])
  refine Go.st (fun _ k => XS.iloadN X0.here hx rfl (hb hby d11_1) rfl k) ?_
  show Go _ _ _ _ _ _ _ s₁ (mkF m 2 #[.val (.int p0), .val (.int p1), .val (.int p2)] [(.int p1), (.int p0)])
  refine Go.st (fun _ k => XS.iloadN X0.here hx rfl (hb hby d11_2) rfl k) ?_
  show Go _ _ _ _ _ _ _ s₁ (mkF m 3 #[.val (.int p0), .val (.int p1), .val (.int p2)] [(.int p2), (.int p1), (.int p0)])
  refine Go.st (fun _ k => XS.aconstNull X0.here hx rfl (hb hby d11_3) k) ?_
  show Go _ _ _ _ _ _ _ s₁ (mkF m 4 #[.val (.int p0), .val (.int p1), .val (.int p2)] [.null, (.int p2), (.int p1), (.int p0)])
  obtain ⟨_, _, ⟨T1, L1, ck1, cn1⟩, -, X1, ⟨Lc1, hQ1, l1, y1, z1⟩, st1⟩ := Jvm.LawKit.callS X0 hx (y := (⟨"jdk/internal/util/Preconditions", "checkFromToIndex", "(IIILjava/util/function/BiFunction;)I"⟩ : MethodName)) hown (mvT hZ (hw _ (List.mem_of_getElem? (i := 58) rfl))) (mvT hZ (hw _ (List.mem_of_getElem? (i := 59) rfl))) (mvT hZ (hw _ (List.mem_of_getElem? (i := 60) rfl))) (mvT hZ (hw _ (List.mem_of_getElem? (i := 61) rfl))) (by decide) (backOf (W := 0) (rm12 l Z a0 hw [] p0 p1 p2  h0 n0 Z0 h1 h2 h3) hZ (hw _ (List.mem_of_getElem? (i := 61) rfl)) (hw _ (List.mem_of_getElem? (i := 60) rfl)) (by decide) (by decide)) (g := (mkF m 4 #[.val (.int p0), .val (.int p1), .val (.int p2)] [.null, (.int p2), (.int p1), (.int p0)])) rfl (by rw [hml]; rfl) (argsL := [(.int p0), (.int p1), (.int p2), .null]) (rest := []) (lenOf pd_14 rfl) rfl (by show 2 * 0 + _ ≤ _; exact Nat.le_of_eq rfl) (hb hby d11_4) (fun _ _ => ⟨rfl, e0, (by decide : 0 + 0 ≤ _), (by decide : 0 + 0 ≤ _)⟩)
  dsimp only [Pt.U, Pt.locs, Pt.cells, Pt.slots] at X1 l1 y1 z1 st1 hQ1
  subst l1 y1 z1
  obtain ⟨rfl, N1q, e1⟩ := hQ1
  have N1 := Fr.app N0 N1q
  refine Go.st st1 ?_
  show Go _ _ _ _ _ _ _ T1 (mkF m 7 #[.val (.int p0), .val (.int p1), .val (.int p2)] [(.int (val_12 p0 p1 p2))])
  rw [show (val_12 p0 p1 p2) = p0 from by unfold val_12; rfl]
  show Go _ _ _ _ _ _ _ T1 (mkF m 7 #[.val (.int p0), .val (.int p1), .val (.int p2)] [(.int p0)])
  refine Go.ret X1 hlk (v := some (.int p0)) (fun h => by rw [hret] at h; cases h) (fun fs hr => retOut X1 hx (t := .int) (i := .ireturn) hret rfl (Or.inl ⟨rfl, Or.inl rfl, _, rfl⟩) (hb hby d11_7) hr) ?_ (by decide) (by decide)
  show Q11 Z p0 p1 p2 h0 n0 (some (.int p0)) T1.heap _
  rw [e1]
  refine ⟨?_, N1, rfl⟩
  unfold val_11
  rfl
theorem d8_0 : decode prog_89_method_3_code 0 = .ok (.iload_n 2, 1) := by decide +kernel
theorem d8_1 : decode prog_89_method_3_code 1 = .ok (.iload_n 3, 1) := by decide +kernel
theorem d8_2 : decode prog_89_method_3_code 2 = .ok (.aload_n 1, 1) := by decide +kernel
theorem d8_3 : decode prog_89_method_3_code 3 = .ok (.invokevirtual 10, 3) := by decide +kernel
theorem d8_6 : decode prog_89_method_3_code 6 = .ok (.invokestatic 20, 3) := by decide +kernel
theorem d8_9 : decode prog_89_method_3_code 9 = .ok (.pop, 1) := by decide +kernel
theorem d8_10 : decode prog_89_method_3_code 10 = .ok (.aload_n 0, 1) := by decide +kernel
theorem d8_11 : decode prog_89_method_3_code 11 = .ok (.aload_n 1, 1) := by decide +kernel
theorem d8_12 : decode prog_89_method_3_code 12 = .ok (.putfield 26, 3) := by decide +kernel
theorem d8_15 : decode prog_89_method_3_code 15 = .ok (.aload_n 0, 1) := by decide +kernel
theorem d8_16 : decode prog_89_method_3_code 16 = .ok (.iload_n 2, 1) := by decide +kernel
theorem d8_17 : decode prog_89_method_3_code 17 = .ok (.putfield 30, 3) := by decide +kernel
theorem d8_20 : decode prog_89_method_3_code 20 = .ok (.aload_n 0, 1) := by decide +kernel
theorem d8_21 : decode prog_89_method_3_code 21 = .ok (.iload_n 3, 1) := by decide +kernel
theorem d8_22 : decode prog_89_method_3_code 22 = .ok (.putfield 34, 3) := by decide +kernel
theorem d8_25 : decode prog_89_method_3_code 25 = .ok (.return_, 1) := by decide +kernel
theorem ef_8 (m : MethodId) (o0 : Addr) (o1 : Addr) (p2 : Int32) (p3 : Int32) : entryFrame m #[(.ref o0), (.ref o1), (.int p2), (.int p3)] 4 = mkF m 0 #[.val (.ref o0), .val (.ref o1), .val (.int p2), .val (.int p3)] [] := by first | (simp [entryFrame, mkF, argsToLocals, Value.category]; done) | rfl
def Q8 (Z : State) (o0 : Addr) (o1 : Addr) (p2 : Int32) (p3 : Int32) (u_t : Value) (u_s : Value) (u_e : Value) (t : Addr) (kb : ClassId) (k0 : Int32) (k1 : Int32) (k2 : Int32) (k3 : Int32) (k4 : Int32) (k5 : Int32) (G1 : Int32) (h0 : Heap) (n0 : Nat) (v : Option Value) (h : Heap) (L : List Loc) : Prop := v = none ∧ Fr n0 L ∧ Keep h0 h [o0] ∧ Exa Z h o0 "com/example/grantd/grantd/policy/TextSpan" ∧ Fld Z h o0 "com/example/grantd/grantd/policy/TextSpan" "text" "Ljava/lang/String;" (.ref o1) ∧ Fld Z h o0 "com/example/grantd/grantd/policy/TextSpan" "start" "I" (.int p2) ∧ Fld Z h o0 "com/example/grantd/grantd/policy/TextSpan" "end" "I" (.int p3)
set_option maxRecDepth 65536 in
set_option maxHeartbeats 40000000 in
theorem rm8 (l : Launch) (Z : State) (a0 : Array Value) (hw : ∀ d ∈ tables_1, d.before a0 Z = true) (ws : List Jvm.Cond) (o0 : Addr) (o1 : Addr) (p2 : Int32) (p3 : Int32) (u_t : Value) (u_s : Value) (u_e : Value) (t : Addr) (kb : ClassId) (k0 : Int32) (k1 : Int32) (k2 : Int32) (k3 : Int32) (k4 : Int32) (k5 : Int32) (G1 : Int32) (h0 : Heap) (n0 : Nat) (Z0 : n0 ≤ h0.size) (E_o0 : Exa Z h0 o0 "com/example/grantd/grantd/policy/TextSpan") (F_text_o0 : Fld Z h0 o0 "com/example/grantd/grantd/policy/TextSpan" "text" "Ljava/lang/String;" u_t) (F_start_o0 : Fld Z h0 o0 "com/example/grantd/grantd/policy/TextSpan" "start" "I" u_s) (F_end_o0 : Fld Z h0 o0 "com/example/grantd/grantd/policy/TextSpan" "end" "I" u_e) (g_o0 : n0 ≤ o0) (E_o1 : Exa Z h0 o1 "java/lang/String") (F_value_o1 : Fld Z h0 o1 "java/lang/String" "value" "[B" (.ref t)) (N_o1 : Enc Z h0 o1 t kb k0 k1 k2 k3 k4 k5) (h1 : ¬ p2 < (0 : Int32)) (h2 : ¬ p3 < p2) (h3 : ¬ (6 : Int32) < p3) (S_CS : Sta Z h0 "java/lang/String" "COMPACT_STRINGS" "Z" (.int G1)) (P_CS : ¬ G1 = (0 : Int32)) (ne1 : o0 ≠ o1) (ne2 : o0 ≠ t) :
    MetFree l (⟨"com/example/grantd/grantd/policy/TextSpan", "set", "(Ljava/lang/String;II)V"⟩ : MethodName) (head1 (Jvm.Cond.code (⟨"com/example/grantd/grantd/policy/TextSpan", "set", "(Ljava/lang/String;II)V"⟩ : MethodName) prog_89_method_3_code 4 none :: ws) ({ frames := 2, cells := 0, slots := 0, locals := 29 } : Room)) (fun a U => a = #[(.ref o0), (.ref o1), (.int p2), (.int p3)] ∧ Z.Warmed39 U.vm ∧ U.heap = h0) (fun _ _ _ _ _ => True) (fun _ U o U' => ∃ v L, o = .returned v ∧ Q8 Z o0 o1 p2 p3 u_t u_s u_e t kb k0 k1 k2 k3 k4 k5 G1 h0 n0 v U'.heap L ∧ FrameEnd U o U' L ({ frames := 2, cells := 0, slots := 0, locals := 29 } : Room).cells ({ frames := 2, cells := 0, slots := 0, locals := 29 } : Room).slots) := by
  refine MetFree.of_bodySF (plainFor_of_name pn_com_example_grantd_grantd_policy_TextSpan) hisR ?_
  intro p e s m args below meth c s₁ Bd hml0 hP hK
  obtain ⟨rfl, hZ, hh⟩ := hP
  have hx := Bd.exec
  have hby := Bd.bytes
  have hlk : meth.locks = false := BodyLoose.notSynchronized Bd
  have hret := Bd.returns
  have hml : c.maxLocals = 4 := hml0
  have hown : s.vm.findClass "com/example/grantd/grantd/policy/TextSpan" = some m.cls := findClass_of_methodNamed Bd.named
  have hnm := (name_of_methodNamed Bd.named Bd.method).1
  have X0 : Stand p l e ({ frames := 2, cells := 0, slots := 0, locals := 29 } : Room) s m #[(.ref o0), (.ref o1), (.int p2), (.int p3)] below meth c s₁ [] 0 0 := Stand.of_body Bd
  have e0 : s₁.heap = h0 := by rw [← hh, Bd.state]; rfl
  have N0 := Fr.nil n0
  refine Go.start (Q := Q8 Z o0 o1 p2 p3 u_t u_s u_e t kb k0 k1 k2 k3 k4 k5 G1 h0 n0) (ef_8 m o0 o1 p2 p3) ?_
  show Go _ _ _ _ _ _ _ s₁ (mkF m 0 #[.val (.ref o0), .val (.ref o1), .val (.int p2), .val (.int p3)] [])
  refine Go.st (fun _ k => XS.iloadN X0.here hx rfl (hb hby d8_0) rfl k) ?_
  show Go _ _ _ _ _ _ _ s₁ (mkF m 1 #[.val (.ref o0), .val (.ref o1), .val (.int p2), .val (.int p3)] [(.int p2)])
  refine Go.st (fun _ k => XS.iloadN X0.here hx rfl (hb hby d8_1) rfl k) ?_
  show Go _ _ _ _ _ _ _ s₁ (mkF m 2 #[.val (.ref o0), .val (.ref o1), .val (.int p2), .val (.int p3)] [(.int p3), (.int p2)])
  refine Go.st (fun _ k => XS.aloadN X0.here hx rfl (hb hby d8_2) rfl rfl k) ?_
  show Go _ _ _ _ _ _ _ s₁ (mkF m 3 #[.val (.ref o0), .val (.ref o1), .val (.int p2), .val (.int p3)] [(.ref o1), (.int p3), (.int p2)])
  obtain ⟨cq1, kq1, q1a, q1b, q1c⟩ := isOf hZ e0 E_o1
  obtain ⟨_, _, ⟨T1, L1, ck1, cn1⟩, -, X1, ⟨Lc1, hQ1, l1, y1, z1⟩, st1⟩ := X0.virtualBack hx (y := (⟨"java/lang/String", "length", "()I"⟩ : MethodName)) (z := (⟨"java/lang/String", "length", "()I"⟩ : MethodName)) hown (mvT hZ (hw _ (List.mem_of_getElem? (i := 44) rfl))) (mvT hZ (hw _ (List.mem_of_getElem? (i := 45) rfl))) (notFace_of_selects (args := #[]) (mvT hZ (hw _ (List.mem_of_getElem? (i := 47) rfl)))) (mvT hZ (hw _ (List.mem_of_getElem? (i := 47) rfl))) (mvT hZ (hw _ (List.mem_of_getElem? (i := 46) rfl))) (by decide) (backOf (W := 2) (rm9 l Z a0 hw [] o1 t kb k0 k1 k2 k3 k4 k5 G1 h0 n0 Z0 E_o1 F_value_o1 N_o1 S_CS P_CS) hZ (hw _ (List.mem_of_getElem? (i := 48) rfl)) (hw _ (List.mem_of_getElem? (i := 4) rfl)) (by decide) (by decide)) q1a q1c (g := (mkF m 3 #[.val (.ref o0), .val (.ref o1), .val (.int p2), .val (.int p3)] [(.ref o1), (.int p3), (.int p2)])) rfl (by rw [hml]; rfl) (Steps.refl _) (argsL := []) (rest := [(.int p3), (.int p2)]) (lenOf pd_15 rfl) rfl (by show 2 * 0 + _ ≤ _; exact Nat.le_of_eq rfl) (hb hby d8_3) (fun _ _ => ⟨rfl, e0, (by decide : 0 + 0 ≤ _), (by decide : 0 + 0 ≤ _)⟩)
  dsimp only [Pt.U, Pt.locs, Pt.cells, Pt.slots] at X1 l1 y1 z1 st1 hQ1
  subst l1 y1 z1
  obtain ⟨rfl, N1q, e1⟩ := hQ1
  have N1 := Fr.app N0 N1q
  refine Go.st (fun _ k => st1.trans k) ?_
  show Go _ _ _ _ _ _ _ T1 (mkF m 6 #[.val (.ref o0), .val (.ref o1), .val (.int p2), .val (.int p3)] [(.int (6 : Int32)), (.int p3), (.int p2)])
  obtain ⟨_, _, ⟨T2, L2, ck2, cn2⟩, -, X2, ⟨Lc2, hQ2, l2, y2, z2⟩, st2⟩ := Jvm.LawKit.callS X1 hx (y := (⟨"java/util/Objects", "checkFromToIndex", "(III)I"⟩ : MethodName)) hown (mvT hZ (hw _ (List.mem_of_getElem? (i := 54) rfl))) (mvT hZ (hw _ (List.mem_of_getElem? (i := 55) rfl))) (mvT hZ (hw _ (List.mem_of_getElem? (i := 56) rfl))) (mvT hZ (hw _ (List.mem_of_getElem? (i := 57) rfl))) (by decide) (backOf (W := 0) (rm11 l Z a0 hw [] p2 p3 (6 : Int32)  h0 n0 Z0 h1 h2 h3) hZ (hw _ (List.mem_of_getElem? (i := 57) rfl)) (hw _ (List.mem_of_getElem? (i := 56) rfl)) (by decide) (by decide)) (g := (mkF m 6 #[.val (.ref o0), .val (.ref o1), .val (.int p2), .val (.int p3)] [(.int (6 : Int32)), (.int p3), (.int p2)])) rfl (by rw [hml]; rfl) (argsL := [(.int p2), (.int p3), (.int (6 : Int32))]) (rest := []) (lenOf pd_16 rfl) rfl (by show 2 * 0 + _ ≤ _; exact Nat.le_of_eq rfl) (hb hby d8_6) (fun _ _ => ⟨rfl, e1, (by decide : 0 + 0 ≤ _), (by decide : 0 + 0 ≤ _)⟩)
  dsimp only [Pt.U, Pt.locs, Pt.cells, Pt.slots] at X2 l2 y2 z2 st2 hQ2
  subst l2 y2 z2
  obtain ⟨rfl, N2q, e2⟩ := hQ2
  have N2 := Fr.app N1 N2q
  refine Go.st st2 ?_
  show Go _ _ _ _ _ _ _ T2 (mkF m 9 #[.val (.ref o0), .val (.ref o1), .val (.int p2), .val (.int p3)] [(.int (val_11 p2 p3 (6 : Int32)))])
  rw [show (val_11 p2 p3 (6 : Int32)) = p2 from by unfold val_11; rfl]
  show Go _ _ _ _ _ _ _ T2 (mkF m 9 #[.val (.ref o0), .val (.ref o1), .val (.int p2), .val (.int p3)] [(.int p2)])
  refine Go.st (fun _ k => XS.pop X2.here hx rfl (hb hby d8_9) rfl rfl k) ?_
  show Go _ _ _ _ _ _ _ T2 (mkF m 10 #[.val (.ref o0), .val (.ref o1), .val (.int p2), .val (.int p3)] [])
  refine Go.st (fun _ k => XS.aloadN X2.here hx rfl (hb hby d8_10) rfl rfl k) ?_
  show Go _ _ _ _ _ _ _ T2 (mkF m 11 #[.val (.ref o0), .val (.ref o1), .val (.int p2), .val (.int p3)] [(.ref o0)])
  refine Go.st (fun _ k => XS.aloadN X2.here hx rfl (hb hby d8_11) rfl rfl k) ?_
  show Go _ _ _ _ _ _ _ T2 (mkF m 12 #[.val (.ref o0), .val (.ref o1), .val (.int p2), .val (.int p3)] [(.ref o1), (.ref o0)])
  obtain ⟨T3, h3, X3, e3, W3, st3⟩ := putF X2 hx hZ hown (host := "") (Or.inl (hw _ (List.mem_of_getElem? (i := 62) rfl))) Via.refl e2 F_text_o0 E_o0 (Or.inl (hw _ (List.mem_of_getElem? (i := 63) rfl))) (hw _ (List.mem_of_getElem? (i := 33) rfl)) (ty := (.object "java/lang/String")) (by decide) rfl rfl (g := (mkF m 12 #[.val (.ref o0), .val (.ref o1), .val (.int p2), .val (.int p3)] [(.ref o1), (.ref o0)])) rfl rfl (hb hby d8_12)
  have F_text_o0__3 : Fld Z h3 o0 "com/example/grantd/grantd/policy/TextSpan" "text" "Ljava/lang/String;" (.ref o1) := F_text_o0.same W3
  have E_o0__3 := E_o0.wr W3
  have F_start_o0__3 := F_start_o0.other W3 (Or.inr (slot_ne (Or.inl (hw _ (List.mem_of_getElem? (i := 65) rfl))) (Or.inl (hw _ (List.mem_of_getElem? (i := 63) rfl))) (by decide) (t := .int) (t' := (.object "java/lang/String")) (by decide) (by decide)))
  have F_end_o0__3 := F_end_o0.other W3 (Or.inr (slot_ne (Or.inl (hw _ (List.mem_of_getElem? (i := 67) rfl))) (Or.inl (hw _ (List.mem_of_getElem? (i := 63) rfl))) (by decide) (t := .int) (t' := (.object "java/lang/String")) (by decide) (by decide)))
  have E_o1__3 := E_o1.wr W3
  have F_value_o1__3 := F_value_o1.other W3 (Or.inl (Ne.symm ne1))
  have N_o1__3 := N_o1.other W3 (Ne.symm ne1) (Ne.symm ne2)
  have S_CS__3 := S_CS.wr W3
  have Z3 : n0 ≤ h3.size := Nat.le_trans Z0 (Keep.of_wr W3).1
  have KK3 : Keep h0 h3 [o0] := (Keep.refl h0 [o0]).wr W3 (Or.inl (List.mem_of_getElem? (i := 0) rfl))
  have N3 := Fr.snoc X3 N2 g_o0
  refine Go.st st3 ?_
  show Go _ _ _ _ _ _ _ T3 (mkF m 15 #[.val (.ref o0), .val (.ref o1), .val (.int p2), .val (.int p3)] [])
  refine Go.st (fun _ k => XS.aloadN X3.here hx rfl (hb hby d8_15) rfl rfl k) ?_
  show Go _ _ _ _ _ _ _ T3 (mkF m 16 #[.val (.ref o0), .val (.ref o1), .val (.int p2), .val (.int p3)] [(.ref o0)])
  refine Go.st (fun _ k => XS.iloadN X3.here hx rfl (hb hby d8_16) rfl k) ?_
  show Go _ _ _ _ _ _ _ T3 (mkF m 17 #[.val (.ref o0), .val (.ref o1), .val (.int p2), .val (.int p3)] [(.int p2), (.ref o0)])
  obtain ⟨T4, h4, X4, e4, W4, st4⟩ := putF X3 hx hZ hown (host := "") (Or.inl (hw _ (List.mem_of_getElem? (i := 64) rfl))) Via.refl e3 F_start_o0__3 E_o0__3 (Or.inl (hw _ (List.mem_of_getElem? (i := 65) rfl))) (hw _ (List.mem_of_getElem? (i := 33) rfl)) (ty := .int) (by decide) rfl rfl (g := (mkF m 17 #[.val (.ref o0), .val (.ref o1), .val (.int p2), .val (.int p3)] [(.int p2), (.ref o0)])) rfl rfl (hb hby d8_17)
  have F_start_o0__4 : Fld Z h4 o0 "com/example/grantd/grantd/policy/TextSpan" "start" "I" (.int p2) := F_start_o0__3.same W4
  have E_o0__4 := E_o0__3.wr W4
  have F_end_o0__4 := F_end_o0__3.other W4 (Or.inr (slot_ne (Or.inl (hw _ (List.mem_of_getElem? (i := 67) rfl))) (Or.inl (hw _ (List.mem_of_getElem? (i := 65) rfl))) (by decide) (t := .int) (t' := .int) (by decide) (by decide)))
  have E_o1__4 := E_o1__3.wr W4
  have F_value_o1__4 := F_value_o1__3.other W4 (Or.inl (Ne.symm ne1))
  have N_o1__4 := N_o1__3.other W4 (Ne.symm ne1) (Ne.symm ne2)
  have S_CS__4 := S_CS__3.wr W4
  have F_text_o0__4 := F_text_o0__3.other W4 (Or.inr (slot_ne (Or.inl (hw _ (List.mem_of_getElem? (i := 63) rfl))) (Or.inl (hw _ (List.mem_of_getElem? (i := 65) rfl))) (by decide) (t := (.object "java/lang/String")) (t' := .int) (by decide) (by decide)))
  have Z4 : n0 ≤ h4.size := Nat.le_trans Z3 (Keep.of_wr W4).1
  have KK4 : Keep h0 h4 [o0] := KK3.wr W4 (Or.inl (List.mem_of_getElem? (i := 0) rfl))
  have N4 := Fr.snoc X4 N3 g_o0
  refine Go.st st4 ?_
  show Go _ _ _ _ _ _ _ T4 (mkF m 20 #[.val (.ref o0), .val (.ref o1), .val (.int p2), .val (.int p3)] [])
  refine Go.st (fun _ k => XS.aloadN X4.here hx rfl (hb hby d8_20) rfl rfl k) ?_
  show Go _ _ _ _ _ _ _ T4 (mkF m 21 #[.val (.ref o0), .val (.ref o1), .val (.int p2), .val (.int p3)] [(.ref o0)])
  refine Go.st (fun _ k => XS.iloadN X4.here hx rfl (hb hby d8_21) rfl k) ?_
  show Go _ _ _ _ _ _ _ T4 (mkF m 22 #[.val (.ref o0), .val (.ref o1), .val (.int p2), .val (.int p3)] [(.int p3), (.ref o0)])
  obtain ⟨T5, h5, X5, e5, W5, st5⟩ := putF X4 hx hZ hown (host := "") (Or.inl (hw _ (List.mem_of_getElem? (i := 66) rfl))) Via.refl e4 F_end_o0__4 E_o0__4 (Or.inl (hw _ (List.mem_of_getElem? (i := 67) rfl))) (hw _ (List.mem_of_getElem? (i := 33) rfl)) (ty := .int) (by decide) rfl rfl (g := (mkF m 22 #[.val (.ref o0), .val (.ref o1), .val (.int p2), .val (.int p3)] [(.int p3), (.ref o0)])) rfl rfl (hb hby d8_22)
  have F_end_o0__5 : Fld Z h5 o0 "com/example/grantd/grantd/policy/TextSpan" "end" "I" (.int p3) := F_end_o0__4.same W5
  have E_o0__5 := E_o0__4.wr W5
  have E_o1__5 := E_o1__4.wr W5
  have F_value_o1__5 := F_value_o1__4.other W5 (Or.inl (Ne.symm ne1))
  have N_o1__5 := N_o1__4.other W5 (Ne.symm ne1) (Ne.symm ne2)
  have S_CS__5 := S_CS__4.wr W5
  have F_text_o0__5 := F_text_o0__4.other W5 (Or.inr (slot_ne (Or.inl (hw _ (List.mem_of_getElem? (i := 63) rfl))) (Or.inl (hw _ (List.mem_of_getElem? (i := 67) rfl))) (by decide) (t := (.object "java/lang/String")) (t' := .int) (by decide) (by decide)))
  have F_start_o0__5 := F_start_o0__4.other W5 (Or.inr (slot_ne (Or.inl (hw _ (List.mem_of_getElem? (i := 65) rfl))) (Or.inl (hw _ (List.mem_of_getElem? (i := 67) rfl))) (by decide) (t := .int) (t' := .int) (by decide) (by decide)))
  have Z5 : n0 ≤ h5.size := Nat.le_trans Z4 (Keep.of_wr W5).1
  have KK5 : Keep h0 h5 [o0] := KK4.wr W5 (Or.inl (List.mem_of_getElem? (i := 0) rfl))
  have N5 := Fr.snoc X5 N4 g_o0
  refine Go.st st5 ?_
  show Go _ _ _ _ _ _ _ T5 (mkF m 25 #[.val (.ref o0), .val (.ref o1), .val (.int p2), .val (.int p3)] [])
  refine Go.ret X5 hlk (v := none) (fun _ => rfl) (fun fs hr => X5.returnOut hx hret (hb hby d8_25) hr) ?_ (by decide) (by decide)
  show Q8 Z o0 o1 p2 p3 u_t u_s u_e t kb k0 k1 k2 k3 k4 k5 G1 h0 n0 (none) T5.heap _
  rw [e5]
  exact ⟨rfl, N5, KK5, E_o0__5, F_text_o0__5, F_start_o0__5, F_end_o0__5⟩
def loopW6 (H e k0 k1 k2 k3 k4 k5 : Int32) : Int32 := H
def loopW5 (H e k0 k1 k2 k3 k4 k5 : Int32) : Int32 := if (5 : Int32) < e then loopW6 ((31 : Int32) * H + k5) e k0 k1 k2 k3 k4 k5 else H
def loopW4 (H e k0 k1 k2 k3 k4 k5 : Int32) : Int32 := if (4 : Int32) < e then loopW5 ((31 : Int32) * H + k4) e k0 k1 k2 k3 k4 k5 else H
def loopW3 (H e k0 k1 k2 k3 k4 k5 : Int32) : Int32 := if (3 : Int32) < e then loopW4 ((31 : Int32) * H + k3) e k0 k1 k2 k3 k4 k5 else H
def loopW2 (H e k0 k1 k2 k3 k4 k5 : Int32) : Int32 := if (2 : Int32) < e then loopW3 ((31 : Int32) * H + k2) e k0 k1 k2 k3 k4 k5 else H
def loopW1 (H e k0 k1 k2 k3 k4 k5 : Int32) : Int32 := if (1 : Int32) < e then loopW2 ((31 : Int32) * H + k1) e k0 k1 k2 k3 k4 k5 else H
def loopW0 (H e k0 k1 k2 k3 k4 k5 : Int32) : Int32 := if (0 : Int32) < e then loopW1 ((31 : Int32) * H + k0) e k0 k1 k2 k3 k4 k5 else H
def hashW (s e k0 k1 k2 k3 k4 k5 : Int32) : Int32 := if s = 0 then loopW0 0 e k0 k1 k2 k3 k4 k5 else if s = 1 then loopW1 0 e k0 k1 k2 k3 k4 k5 else if s = 2 then loopW2 0 e k0 k1 k2 k3 k4 k5 else if s = 3 then loopW3 0 e k0 k1 k2 k3 k4 k5 else if s = 4 then loopW4 0 e k0 k1 k2 k3 k4 k5 else if s = 5 then loopW5 0 e k0 k1 k2 k3 k4 k5 else loopW6 0 e k0 k1 k2 k3 k4 k5
theorem own_hs0 {s_ e_ k0 k1 k2 k3 k4 k5 : Int32} (h : s_ = 0) : hashW s_ e_ k0 k1 k2 k3 k4 k5 = loopW0 0 e_ k0 k1 k2 k3 k4 k5 := by subst h; rfl
theorem own_hs1 {s_ e_ k0 k1 k2 k3 k4 k5 : Int32} (h : s_ = 1) : hashW s_ e_ k0 k1 k2 k3 k4 k5 = loopW1 0 e_ k0 k1 k2 k3 k4 k5 := by subst h; rfl
theorem own_hs2 {s_ e_ k0 k1 k2 k3 k4 k5 : Int32} (h : s_ = 2) : hashW s_ e_ k0 k1 k2 k3 k4 k5 = loopW2 0 e_ k0 k1 k2 k3 k4 k5 := by subst h; rfl
theorem own_hs3 {s_ e_ k0 k1 k2 k3 k4 k5 : Int32} (h : s_ = 3) : hashW s_ e_ k0 k1 k2 k3 k4 k5 = loopW3 0 e_ k0 k1 k2 k3 k4 k5 := by subst h; rfl
theorem own_hs4 {s_ e_ k0 k1 k2 k3 k4 k5 : Int32} (h : s_ = 4) : hashW s_ e_ k0 k1 k2 k3 k4 k5 = loopW4 0 e_ k0 k1 k2 k3 k4 k5 := by subst h; rfl
theorem own_hs5 {s_ e_ k0 k1 k2 k3 k4 k5 : Int32} (h : s_ = 5) : hashW s_ e_ k0 k1 k2 k3 k4 k5 = loopW5 0 e_ k0 k1 k2 k3 k4 k5 := by subst h; rfl
theorem own_hs6 {s_ e_ k0 k1 k2 k3 k4 k5 : Int32} (h : s_ = 6) : hashW s_ e_ k0 k1 k2 k3 k4 k5 = loopW6 0 e_ k0 k1 k2 k3 k4 k5 := by subst h; rfl
def Q14 (Z : State) (o0 : Addr) (x : Addr) (s_ : Int32) (e_ : Int32) (t : Addr) (kb : ClassId) (k0 : Int32) (k1 : Int32) (k2 : Int32) (k3 : Int32) (k4 : Int32) (k5 : Int32) (G1 : Int32) (r : Int32) (h0 : Heap) (n0 : Nat) (v : Option Value) (h : Heap) (L : List Loc) : Prop := v = some (.int r) ∧ Fr n0 L ∧ h = h0
theorem d14_7 : decode prog_89_method_7_code 7 = .ok (.iload_n 2, 1) := by decide +kernel
theorem d14_8 : decode prog_89_method_7_code 8 = .ok (.aload_n 0, 1) := by decide +kernel
theorem d14_9 : decode prog_89_method_7_code 9 = .ok (.getfield 34, 3) := by decide +kernel
theorem d14_12 : decode prog_89_method_7_code 12 = .ok (.if_icmp .ge 23, 3) := by decide +kernel
theorem d14_35 : decode prog_89_method_7_code 35 = .ok (.iload_n 1, 1) := by decide +kernel
theorem d14_36 : decode prog_89_method_7_code 36 = .ok (.ireturn, 1) := by decide +kernel
set_option maxRecDepth 65536 in
set_option maxHeartbeats 40000000 in
theorem tl_h6 (l : Launch) (Z : State) (a0 : Array Value) (hw : ∀ d ∈ tables_1, d.before a0 Z = true) (o0 : Addr) (x : Addr) (s_ : Int32) (e_ : Int32) (t : Addr) (kb : ClassId) (k0 : Int32) (k1 : Int32) (k2 : Int32) (k3 : Int32) (k4 : Int32) (k5 : Int32) (G1 : Int32) (r : Int32) (H : Int32) (h0 hS : Heap) (n0 : Nat) {p : Program} {e : Env} {s : State} {m : MethodId} {below : List Frame} {meth : Method} {c : Code} {T0 : State} {locs : List Loc}
    (X0 : Stand p l e ({ frames := 5, cells := 0, slots := 0, locals := 67 } : Room) s m #[(.ref o0)] below meth c T0 locs 0 0) (hx : p.tables.exec = Jvm.exec) (hZ : Z.Warmed39 s.vm) (hby : c.code = prog_89_method_7_code) (hml : c.maxLocals = 3) (hown : s.vm.findClass "com/example/grantd/grantd/policy/TextSpan" = some m.cls) (hnm : meth.name = "textHash") (hlk : meth.locks = false) (hret : meth.sig.returnType = some .int) (e0 : T0.heap = hS) (N0 : Fr n0 locs) (ZS : n0 ≤ hS.size) (F_text : Fld Z hS o0 "com/example/grantd/grantd/policy/TextSpan" "text" "Ljava/lang/String;" (.ref x)) (F_start : Fld Z hS o0 "com/example/grantd/grantd/policy/TextSpan" "start" "I" (.int s_)) (F_end : Fld Z hS o0 "com/example/grantd/grantd/policy/TextSpan" "end" "I" (.int e_)) (E_x : Exa Z hS x "java/lang/String") (F_value_x : Fld Z hS x "java/lang/String" "value" "[B" (.ref t)) (N_x : Enc Z hS x t kb k0 k1 k2 k3 k4 k5) (hW : Wide16 k0 k1 k2 k3 k4 k5) (he6 : ¬ (6 : Int32) < e_) (S_CS : Sta Z hS "java/lang/String" "COMPACT_STRINGS" "Z" (.int G1)) (P_CS : ¬ G1 = (0 : Int32)) (S_AD : Sta Z hS "java/lang/StringUTF16" "$assertionsDisabled" "Z" (.int (1 : Int32))) (S_HI : Sta Z hS "java/lang/StringUTF16" "HI_BYTE_SHIFT" "I" (.int (0 : Int32))) (S_LO : Sta Z hS "java/lang/StringUTF16" "LO_BYTE_SHIFT" "I" (.int (8 : Int32))) (S_SI : StaR Z hS "jdk/internal/util/Preconditions" "SIOOBE_FORMATTER" "Ljava/util/function/BiFunction;") (hr : r = loopW6 H e_ k0 k1 k2 k3 k4 k5) (hSe : hS = h0) :
    Go p e below s (Q14 Z o0 x s_ e_ t kb k0 k1 k2 k3 k4 k5 G1 r h0 n0) ({ frames := 5, cells := 0, slots := 0, locals := 67 } : Room).cells ({ frames := 5, cells := 0, slots := 0, locals := 67 } : Room).slots T0 (mkF m 7 #[.val (.ref o0), .val (.int H), .val (.int (6 : Int32))] []) := by
  show Go _ _ _ _ _ _ _ T0 (mkF m 7 #[.val (.ref o0), .val (.int H), .val (.int (6 : Int32))] [])
  refine Go.st (fun _ k => XS.iloadN X0.here hx rfl (hb hby d14_7) rfl k) ?_
  show Go _ _ _ _ _ _ _ T0 (mkF m 8 #[.val (.ref o0), .val (.int H), .val (.int (6 : Int32))] [(.int (6 : Int32))])
  refine Go.st (fun _ k => XS.aloadN X0.here hx rfl (hb hby d14_8) rfl rfl k) ?_
  show Go _ _ _ _ _ _ _ T0 (mkF m 9 #[.val (.ref o0), .val (.int H), .val (.int (6 : Int32))] [(.ref o0), (.int (6 : Int32))])
  obtain ⟨T1, X1, e1, st1⟩ := getF X0 hx hZ hown (host := "") (Or.inl (hw _ (List.mem_of_getElem? (i := 66) rfl))) Via.refl e0 F_end (g := (mkF m 9 #[.val (.ref o0), .val (.int H), .val (.int (6 : Int32))] [(.ref o0), (.int (6 : Int32))])) rfl rfl (hb hby d14_9)
  refine Go.st st1 ?_
  show Go _ _ _ _ _ _ _ T1 (mkF m 12 #[.val (.ref o0), .val (.int H), .val (.int (6 : Int32))] [(.int e_), (.int (6 : Int32))])
  refine Go.st (fun _ k => XS.icmpYes X1.here hx rfl (pc0 := 12) (pc' := 35) rfl (hb hby d14_12) rfl (flt he6).2.1 (by decide) (by decide) k) ?_
  show Go _ _ _ _ _ _ _ T1 (mkF m 35 #[.val (.ref o0), .val (.int H), .val (.int (6 : Int32))] [])
  refine Go.st (fun _ k => XS.iloadN X1.here hx rfl (hb hby d14_35) rfl k) ?_
  show Go _ _ _ _ _ _ _ T1 (mkF m 36 #[.val (.ref o0), .val (.int H), .val (.int (6 : Int32))] [(.int H)])
  refine Go.ret X1 hlk (v := some (.int H)) (fun h => by rw [hret] at h; cases h) (fun fs hr => retOut X1 hx (t := .int) (i := .ireturn) hret rfl (Or.inl ⟨rfl, Or.inl rfl, _, rfl⟩) (hb hby d14_36) hr) ?_ (by decide) (by decide)
  show Q14 Z o0 x s_ e_ t kb k0 k1 k2 k3 k4 k5 G1 r h0 n0 (some (.int H)) T1.heap _
  rw [e1]
  refine ⟨?_, N0, hSe⟩
  rw [hr]
  rfl
theorem d14_15 : decode prog_89_method_7_code 15 = .ok (.bipush 31, 2) := by decide +kernel
theorem d14_17 : decode prog_89_method_7_code 17 = .ok (.iload_n 1, 1) := by decide +kernel
theorem d14_18 : decode prog_89_method_7_code 18 = .ok (.imul, 1) := by decide +kernel
theorem d14_19 : decode prog_89_method_7_code 19 = .ok (.aload_n 0, 1) := by decide +kernel
theorem d14_20 : decode prog_89_method_7_code 20 = .ok (.getfield 26, 3) := by decide +kernel
theorem d14_23 : decode prog_89_method_7_code 23 = .ok (.iload_n 2, 1) := by decide +kernel
theorem d14_24 : decode prog_89_method_7_code 24 = .ok (.invokevirtual 37, 3) := by decide +kernel
theorem d14_27 : decode prog_89_method_7_code 27 = .ok (.iadd, 1) := by decide +kernel
theorem d14_28 : decode prog_89_method_7_code 28 = .ok (.istore_n 1, 1) := by decide +kernel
theorem d14_29 : decode prog_89_method_7_code 29 = .ok (.iinc 2 1, 3) := by decide +kernel
theorem d14_32 : decode prog_89_method_7_code 32 = .ok (.goto (-25), 3) := by decide +kernel
set_option maxRecDepth 65536 in
set_option maxHeartbeats 40000000 in
theorem tl_h5 (l : Launch) (Z : State) (a0 : Array Value) (hw : ∀ d ∈ tables_1, d.before a0 Z = true) (o0 : Addr) (x : Addr) (s_ : Int32) (e_ : Int32) (t : Addr) (kb : ClassId) (k0 : Int32) (k1 : Int32) (k2 : Int32) (k3 : Int32) (k4 : Int32) (k5 : Int32) (G1 : Int32) (r : Int32) (H : Int32) (h0 hS : Heap) (n0 : Nat) {p : Program} {e : Env} {s : State} {m : MethodId} {below : List Frame} {meth : Method} {c : Code} {T0 : State} {locs : List Loc}
    (X0 : Stand p l e ({ frames := 5, cells := 0, slots := 0, locals := 67 } : Room) s m #[(.ref o0)] below meth c T0 locs 0 0) (hx : p.tables.exec = Jvm.exec) (hZ : Z.Warmed39 s.vm) (hby : c.code = prog_89_method_7_code) (hml : c.maxLocals = 3) (hown : s.vm.findClass "com/example/grantd/grantd/policy/TextSpan" = some m.cls) (hnm : meth.name = "textHash") (hlk : meth.locks = false) (hret : meth.sig.returnType = some .int) (e0 : T0.heap = hS) (N0 : Fr n0 locs) (ZS : n0 ≤ hS.size) (F_text : Fld Z hS o0 "com/example/grantd/grantd/policy/TextSpan" "text" "Ljava/lang/String;" (.ref x)) (F_start : Fld Z hS o0 "com/example/grantd/grantd/policy/TextSpan" "start" "I" (.int s_)) (F_end : Fld Z hS o0 "com/example/grantd/grantd/policy/TextSpan" "end" "I" (.int e_)) (E_x : Exa Z hS x "java/lang/String") (F_value_x : Fld Z hS x "java/lang/String" "value" "[B" (.ref t)) (N_x : Enc Z hS x t kb k0 k1 k2 k3 k4 k5) (hW : Wide16 k0 k1 k2 k3 k4 k5) (he6 : ¬ (6 : Int32) < e_) (S_CS : Sta Z hS "java/lang/String" "COMPACT_STRINGS" "Z" (.int G1)) (P_CS : ¬ G1 = (0 : Int32)) (S_AD : Sta Z hS "java/lang/StringUTF16" "$assertionsDisabled" "Z" (.int (1 : Int32))) (S_HI : Sta Z hS "java/lang/StringUTF16" "HI_BYTE_SHIFT" "I" (.int (0 : Int32))) (S_LO : Sta Z hS "java/lang/StringUTF16" "LO_BYTE_SHIFT" "I" (.int (8 : Int32))) (S_SI : StaR Z hS "jdk/internal/util/Preconditions" "SIOOBE_FORMATTER" "Ljava/util/function/BiFunction;") (hr : r = loopW5 H e_ k0 k1 k2 k3 k4 k5) (hSe : hS = h0) :
    Go p e below s (Q14 Z o0 x s_ e_ t kb k0 k1 k2 k3 k4 k5 G1 r h0 n0) ({ frames := 5, cells := 0, slots := 0, locals := 67 } : Room).cells ({ frames := 5, cells := 0, slots := 0, locals := 67 } : Room).slots T0 (mkF m 7 #[.val (.ref o0), .val (.int H), .val (.int (5 : Int32))] []) := by
  show Go _ _ _ _ _ _ _ T0 (mkF m 7 #[.val (.ref o0), .val (.int H), .val (.int (5 : Int32))] [])
  refine Go.st (fun _ k => XS.iloadN X0.here hx rfl (hb hby d14_7) rfl k) ?_
  show Go _ _ _ _ _ _ _ T0 (mkF m 8 #[.val (.ref o0), .val (.int H), .val (.int (5 : Int32))] [(.int (5 : Int32))])
  refine Go.st (fun _ k => XS.aloadN X0.here hx rfl (hb hby d14_8) rfl rfl k) ?_
  show Go _ _ _ _ _ _ _ T0 (mkF m 9 #[.val (.ref o0), .val (.int H), .val (.int (5 : Int32))] [(.ref o0), (.int (5 : Int32))])
  obtain ⟨T1, X1, e1, st1⟩ := getF X0 hx hZ hown (host := "") (Or.inl (hw _ (List.mem_of_getElem? (i := 66) rfl))) Via.refl e0 F_end (g := (mkF m 9 #[.val (.ref o0), .val (.int H), .val (.int (5 : Int32))] [(.ref o0), (.int (5 : Int32))])) rfl rfl (hb hby d14_9)
  refine Go.st st1 ?_
  show Go _ _ _ _ _ _ _ T1 (mkF m 12 #[.val (.ref o0), .val (.int H), .val (.int (5 : Int32))] [(.int e_), (.int (5 : Int32))])
  by_cases hc2 : (5 : Int32) < e_
  · refine Go.st (fun _ k => XS.icmpNo X1.here hx rfl (hb hby d14_12) rfl (tlt hc2).2.1 k) ?_
    show Go _ _ _ _ _ _ _ T1 (mkF m 15 #[.val (.ref o0), .val (.int H), .val (.int (5 : Int32))] [])
    refine Go.st (fun _ k => XS.bipush X1.here hx rfl (hb hby d14_15) k) ?_
    show Go _ _ _ _ _ _ _ T1 (mkF m 17 #[.val (.ref o0), .val (.int H), .val (.int (5 : Int32))] [(.int (31 : Int32))])
    refine Go.st (fun _ k => XS.iloadN X1.here hx rfl (hb hby d14_17) rfl k) ?_
    show Go _ _ _ _ _ _ _ T1 (mkF m 18 #[.val (.ref o0), .val (.int H), .val (.int (5 : Int32))] [(.int H), (.int (31 : Int32))])
    refine Go.st (fun _ k => XS.imul X1.here hx rfl (hb hby d14_18) rfl k) ?_
    show Go _ _ _ _ _ _ _ T1 (mkF m 19 #[.val (.ref o0), .val (.int H), .val (.int (5 : Int32))] [(.int ((31 : Int32) * H))])
    refine Go.st (fun _ k => XS.aloadN X1.here hx rfl (hb hby d14_19) rfl rfl k) ?_
    show Go _ _ _ _ _ _ _ T1 (mkF m 20 #[.val (.ref o0), .val (.int H), .val (.int (5 : Int32))] [(.ref o0), (.int ((31 : Int32) * H))])
    obtain ⟨T3, X3, e3, st3⟩ := getF X1 hx hZ hown (host := "") (Or.inl (hw _ (List.mem_of_getElem? (i := 62) rfl))) Via.refl e1 F_text (g := (mkF m 20 #[.val (.ref o0), .val (.int H), .val (.int (5 : Int32))] [(.ref o0), (.int ((31 : Int32) * H))])) rfl rfl (hb hby d14_20)
    refine Go.st st3 ?_
    show Go _ _ _ _ _ _ _ T3 (mkF m 23 #[.val (.ref o0), .val (.int H), .val (.int (5 : Int32))] [(.ref x), (.int ((31 : Int32) * H))])
    refine Go.st (fun _ k => XS.iloadN X3.here hx rfl (hb hby d14_23) rfl k) ?_
    show Go _ _ _ _ _ _ _ T3 (mkF m 24 #[.val (.ref o0), .val (.int H), .val (.int (5 : Int32))] [(.int (5 : Int32)), (.ref x), (.int ((31 : Int32) * H))])
    obtain ⟨cq4, kq4, q4a, q4b, q4c⟩ := isOf hZ e3 E_x
    obtain ⟨_, _, ⟨T4, L4, ck4, cn4⟩, -, X4, ⟨Lc4, hQ4, l4, y4, z4⟩, st4⟩ := X3.virtualBack hx (y := (⟨"java/lang/String", "charAt", "(I)C"⟩ : MethodName)) (z := (⟨"java/lang/String", "charAt", "(I)C"⟩ : MethodName)) hown (mvT hZ (hw _ (List.mem_of_getElem? (i := 80) rfl))) (mvT hZ (hw _ (List.mem_of_getElem? (i := 81) rfl))) (notFace_of_selects (args := #[]) (mvT hZ (hw _ (List.mem_of_getElem? (i := 83) rfl)))) (mvT hZ (hw _ (List.mem_of_getElem? (i := 83) rfl))) (mvT hZ (hw _ (List.mem_of_getElem? (i := 82) rfl))) (by decide) (backOf (W := 1) (rm15 l Z a0 hw [] x (5 : Int32) t kb k0 k1 k2 k3 k4 k5 G1 hS n0 ZS E_x F_value_x N_x (Or.inr (Or.inr (Or.inr (Or.inr (Or.inr (rfl)))))) hW S_CS P_CS S_AD S_HI S_LO S_SI) hZ (hw _ (List.mem_of_getElem? (i := 84) rfl)) (hw _ (List.mem_of_getElem? (i := 4) rfl)) (by decide) (by decide)) q4a q4c (g := (mkF m 24 #[.val (.ref o0), .val (.int H), .val (.int (5 : Int32))] [(.int (5 : Int32)), (.ref x), (.int ((31 : Int32) * H))])) rfl (by rw [hml]; rfl) (Steps.refl _) (argsL := [(.int (5 : Int32))]) (rest := [(.int ((31 : Int32) * H))]) (lenOf pd_17 rfl) rfl (by show 2 * 0 + _ ≤ _; exact Nat.le_of_eq rfl) (hb hby d14_24) (fun _ _ => ⟨rfl, e3, (by decide : 0 + 0 ≤ _), (by decide : 0 + 0 ≤ _)⟩)
    dsimp only [Pt.U, Pt.locs, Pt.cells, Pt.slots] at X4 l4 y4 z4 st4 hQ4
    subst l4 y4 z4
    obtain ⟨rfl, N4q, e4⟩ := hQ4
    have N4 := Fr.app N0 N4q
    refine Go.st (fun _ k => st4.trans k) ?_
    show Go _ _ _ _ _ _ _ T4 (mkF m 27 #[.val (.ref o0), .val (.int H), .val (.int (5 : Int32))] [(.int (kF (5 : Int32) k0 k1 k2 k3 k4 k5)), (.int ((31 : Int32) * H))])
    refine Go.fr (f' := (mkF m 27 #[.val (.ref o0), .val (.int H), .val (.int (5 : Int32))] [(.int k5), (.int ((31 : Int32) * H))])) (by rfl) ?_
    show Go _ _ _ _ _ _ _ T4 (mkF m 27 #[.val (.ref o0), .val (.int H), .val (.int (5 : Int32))] [(.int k5), (.int ((31 : Int32) * H))])
    refine Go.st (fun _ k => XS.iadd X4.here hx rfl (hb hby d14_27) rfl k) ?_
    show Go _ _ _ _ _ _ _ T4 (mkF m 28 #[.val (.ref o0), .val (.int H), .val (.int (5 : Int32))] [(.int (((31 : Int32) * H) + k5))])
    refine Go.st (fun _ k => XS.istoreN X4.here hx rfl (hb hby d14_28) rfl (l' := #[.val (.ref o0), .val (.int (((31 : Int32) * H) + k5)), .val (.int (5 : Int32))]) rfl k) ?_
    show Go _ _ _ _ _ _ _ T4 (mkF m 29 #[.val (.ref o0), .val (.int (((31 : Int32) * H) + k5)), .val (.int (5 : Int32))] [])
    refine Go.st (fun _ k => XS.iinc X4.here hx rfl (hb hby d14_29) rfl (l' := #[.val (.ref o0), .val (.int (((31 : Int32) * H) + k5)), .val (.int ((5 : Int32) + (1 : Int32)))]) rfl k) ?_
    show Go _ _ _ _ _ _ _ T4 (mkF m 32 #[.val (.ref o0), .val (.int (((31 : Int32) * H) + k5)), .val (.int ((5 : Int32) + (1 : Int32)))] [])
    refine Go.fr (f' := (mkF m 32 #[.val (.ref o0), .val (.int (((31 : Int32) * H) + k5)), .val (.int (6 : Int32))] [])) (by rw [show ((5 : Int32) + (1 : Int32)) = (6 : Int32) from by decide +kernel]) ?_
    show Go _ _ _ _ _ _ _ T4 (mkF m 32 #[.val (.ref o0), .val (.int (((31 : Int32) * H) + k5)), .val (.int (6 : Int32))] [])
    refine Go.st (fun _ k => XS.goto X4.here hx rfl (pc0 := 32) (pc' := 7) rfl (hb hby d14_32) (by decide) (by decide) k) ?_
    show Go _ _ _ _ _ _ _ T4 (mkF m 7 #[.val (.ref o0), .val (.int (((31 : Int32) * H) + k5)), .val (.int (6 : Int32))] [])
    exact tl_h6 l Z a0 hw o0 x s_ e_ t kb k0 k1 k2 k3 k4 k5 G1 r ((31 : Int32) * H + k5) h0 hS n0 X4 hx hZ hby hml hown hnm hlk hret e4 N4 ZS F_text F_start F_end E_x F_value_x N_x hW he6 S_CS P_CS S_AD S_HI S_LO S_SI (by rw [hr]; exact if_pos hc2) hSe
  · refine Go.st (fun _ k => XS.icmpYes X1.here hx rfl (pc0 := 12) (pc' := 35) rfl (hb hby d14_12) rfl (flt hc2).2.1 (by decide) (by decide) k) ?_
    show Go _ _ _ _ _ _ _ T1 (mkF m 35 #[.val (.ref o0), .val (.int H), .val (.int (5 : Int32))] [])
    refine Go.st (fun _ k => XS.iloadN X1.here hx rfl (hb hby d14_35) rfl k) ?_
    show Go _ _ _ _ _ _ _ T1 (mkF m 36 #[.val (.ref o0), .val (.int H), .val (.int (5 : Int32))] [(.int H)])
    refine Go.ret X1 hlk (v := some (.int H)) (fun h => by rw [hret] at h; cases h) (fun fs hr => retOut X1 hx (t := .int) (i := .ireturn) hret rfl (Or.inl ⟨rfl, Or.inl rfl, _, rfl⟩) (hb hby d14_36) hr) ?_ (by decide) (by decide)
    show Q14 Z o0 x s_ e_ t kb k0 k1 k2 k3 k4 k5 G1 r h0 n0 (some (.int H)) T1.heap _
    rw [e1]
    refine ⟨?_, N0, hSe⟩
    rw [hr]
    exact congrArg (fun z => some (Value.int z)) (if_neg hc2).symm
set_option maxRecDepth 65536 in
set_option maxHeartbeats 40000000 in
theorem tl_h4 (l : Launch) (Z : State) (a0 : Array Value) (hw : ∀ d ∈ tables_1, d.before a0 Z = true) (o0 : Addr) (x : Addr) (s_ : Int32) (e_ : Int32) (t : Addr) (kb : ClassId) (k0 : Int32) (k1 : Int32) (k2 : Int32) (k3 : Int32) (k4 : Int32) (k5 : Int32) (G1 : Int32) (r : Int32) (H : Int32) (h0 hS : Heap) (n0 : Nat) {p : Program} {e : Env} {s : State} {m : MethodId} {below : List Frame} {meth : Method} {c : Code} {T0 : State} {locs : List Loc}
    (X0 : Stand p l e ({ frames := 5, cells := 0, slots := 0, locals := 67 } : Room) s m #[(.ref o0)] below meth c T0 locs 0 0) (hx : p.tables.exec = Jvm.exec) (hZ : Z.Warmed39 s.vm) (hby : c.code = prog_89_method_7_code) (hml : c.maxLocals = 3) (hown : s.vm.findClass "com/example/grantd/grantd/policy/TextSpan" = some m.cls) (hnm : meth.name = "textHash") (hlk : meth.locks = false) (hret : meth.sig.returnType = some .int) (e0 : T0.heap = hS) (N0 : Fr n0 locs) (ZS : n0 ≤ hS.size) (F_text : Fld Z hS o0 "com/example/grantd/grantd/policy/TextSpan" "text" "Ljava/lang/String;" (.ref x)) (F_start : Fld Z hS o0 "com/example/grantd/grantd/policy/TextSpan" "start" "I" (.int s_)) (F_end : Fld Z hS o0 "com/example/grantd/grantd/policy/TextSpan" "end" "I" (.int e_)) (E_x : Exa Z hS x "java/lang/String") (F_value_x : Fld Z hS x "java/lang/String" "value" "[B" (.ref t)) (N_x : Enc Z hS x t kb k0 k1 k2 k3 k4 k5) (hW : Wide16 k0 k1 k2 k3 k4 k5) (he6 : ¬ (6 : Int32) < e_) (S_CS : Sta Z hS "java/lang/String" "COMPACT_STRINGS" "Z" (.int G1)) (P_CS : ¬ G1 = (0 : Int32)) (S_AD : Sta Z hS "java/lang/StringUTF16" "$assertionsDisabled" "Z" (.int (1 : Int32))) (S_HI : Sta Z hS "java/lang/StringUTF16" "HI_BYTE_SHIFT" "I" (.int (0 : Int32))) (S_LO : Sta Z hS "java/lang/StringUTF16" "LO_BYTE_SHIFT" "I" (.int (8 : Int32))) (S_SI : StaR Z hS "jdk/internal/util/Preconditions" "SIOOBE_FORMATTER" "Ljava/util/function/BiFunction;") (hr : r = loopW4 H e_ k0 k1 k2 k3 k4 k5) (hSe : hS = h0) :
    Go p e below s (Q14 Z o0 x s_ e_ t kb k0 k1 k2 k3 k4 k5 G1 r h0 n0) ({ frames := 5, cells := 0, slots := 0, locals := 67 } : Room).cells ({ frames := 5, cells := 0, slots := 0, locals := 67 } : Room).slots T0 (mkF m 7 #[.val (.ref o0), .val (.int H), .val (.int (4 : Int32))] []) := by
  show Go _ _ _ _ _ _ _ T0 (mkF m 7 #[.val (.ref o0), .val (.int H), .val (.int (4 : Int32))] [])
  refine Go.st (fun _ k => XS.iloadN X0.here hx rfl (hb hby d14_7) rfl k) ?_
  show Go _ _ _ _ _ _ _ T0 (mkF m 8 #[.val (.ref o0), .val (.int H), .val (.int (4 : Int32))] [(.int (4 : Int32))])
  refine Go.st (fun _ k => XS.aloadN X0.here hx rfl (hb hby d14_8) rfl rfl k) ?_
  show Go _ _ _ _ _ _ _ T0 (mkF m 9 #[.val (.ref o0), .val (.int H), .val (.int (4 : Int32))] [(.ref o0), (.int (4 : Int32))])
  obtain ⟨T1, X1, e1, st1⟩ := getF X0 hx hZ hown (host := "") (Or.inl (hw _ (List.mem_of_getElem? (i := 66) rfl))) Via.refl e0 F_end (g := (mkF m 9 #[.val (.ref o0), .val (.int H), .val (.int (4 : Int32))] [(.ref o0), (.int (4 : Int32))])) rfl rfl (hb hby d14_9)
  refine Go.st st1 ?_
  show Go _ _ _ _ _ _ _ T1 (mkF m 12 #[.val (.ref o0), .val (.int H), .val (.int (4 : Int32))] [(.int e_), (.int (4 : Int32))])
  by_cases hc2 : (4 : Int32) < e_
  · refine Go.st (fun _ k => XS.icmpNo X1.here hx rfl (hb hby d14_12) rfl (tlt hc2).2.1 k) ?_
    show Go _ _ _ _ _ _ _ T1 (mkF m 15 #[.val (.ref o0), .val (.int H), .val (.int (4 : Int32))] [])
    refine Go.st (fun _ k => XS.bipush X1.here hx rfl (hb hby d14_15) k) ?_
    show Go _ _ _ _ _ _ _ T1 (mkF m 17 #[.val (.ref o0), .val (.int H), .val (.int (4 : Int32))] [(.int (31 : Int32))])
    refine Go.st (fun _ k => XS.iloadN X1.here hx rfl (hb hby d14_17) rfl k) ?_
    show Go _ _ _ _ _ _ _ T1 (mkF m 18 #[.val (.ref o0), .val (.int H), .val (.int (4 : Int32))] [(.int H), (.int (31 : Int32))])
    refine Go.st (fun _ k => XS.imul X1.here hx rfl (hb hby d14_18) rfl k) ?_
    show Go _ _ _ _ _ _ _ T1 (mkF m 19 #[.val (.ref o0), .val (.int H), .val (.int (4 : Int32))] [(.int ((31 : Int32) * H))])
    refine Go.st (fun _ k => XS.aloadN X1.here hx rfl (hb hby d14_19) rfl rfl k) ?_
    show Go _ _ _ _ _ _ _ T1 (mkF m 20 #[.val (.ref o0), .val (.int H), .val (.int (4 : Int32))] [(.ref o0), (.int ((31 : Int32) * H))])
    obtain ⟨T3, X3, e3, st3⟩ := getF X1 hx hZ hown (host := "") (Or.inl (hw _ (List.mem_of_getElem? (i := 62) rfl))) Via.refl e1 F_text (g := (mkF m 20 #[.val (.ref o0), .val (.int H), .val (.int (4 : Int32))] [(.ref o0), (.int ((31 : Int32) * H))])) rfl rfl (hb hby d14_20)
    refine Go.st st3 ?_
    show Go _ _ _ _ _ _ _ T3 (mkF m 23 #[.val (.ref o0), .val (.int H), .val (.int (4 : Int32))] [(.ref x), (.int ((31 : Int32) * H))])
    refine Go.st (fun _ k => XS.iloadN X3.here hx rfl (hb hby d14_23) rfl k) ?_
    show Go _ _ _ _ _ _ _ T3 (mkF m 24 #[.val (.ref o0), .val (.int H), .val (.int (4 : Int32))] [(.int (4 : Int32)), (.ref x), (.int ((31 : Int32) * H))])
    obtain ⟨cq4, kq4, q4a, q4b, q4c⟩ := isOf hZ e3 E_x
    obtain ⟨_, _, ⟨T4, L4, ck4, cn4⟩, -, X4, ⟨Lc4, hQ4, l4, y4, z4⟩, st4⟩ := X3.virtualBack hx (y := (⟨"java/lang/String", "charAt", "(I)C"⟩ : MethodName)) (z := (⟨"java/lang/String", "charAt", "(I)C"⟩ : MethodName)) hown (mvT hZ (hw _ (List.mem_of_getElem? (i := 80) rfl))) (mvT hZ (hw _ (List.mem_of_getElem? (i := 81) rfl))) (notFace_of_selects (args := #[]) (mvT hZ (hw _ (List.mem_of_getElem? (i := 83) rfl)))) (mvT hZ (hw _ (List.mem_of_getElem? (i := 83) rfl))) (mvT hZ (hw _ (List.mem_of_getElem? (i := 82) rfl))) (by decide) (backOf (W := 1) (rm15 l Z a0 hw [] x (4 : Int32) t kb k0 k1 k2 k3 k4 k5 G1 hS n0 ZS E_x F_value_x N_x (Or.inr (Or.inr (Or.inr (Or.inr (Or.inl rfl))))) hW S_CS P_CS S_AD S_HI S_LO S_SI) hZ (hw _ (List.mem_of_getElem? (i := 84) rfl)) (hw _ (List.mem_of_getElem? (i := 4) rfl)) (by decide) (by decide)) q4a q4c (g := (mkF m 24 #[.val (.ref o0), .val (.int H), .val (.int (4 : Int32))] [(.int (4 : Int32)), (.ref x), (.int ((31 : Int32) * H))])) rfl (by rw [hml]; rfl) (Steps.refl _) (argsL := [(.int (4 : Int32))]) (rest := [(.int ((31 : Int32) * H))]) (lenOf pd_17 rfl) rfl (by show 2 * 0 + _ ≤ _; exact Nat.le_of_eq rfl) (hb hby d14_24) (fun _ _ => ⟨rfl, e3, (by decide : 0 + 0 ≤ _), (by decide : 0 + 0 ≤ _)⟩)
    dsimp only [Pt.U, Pt.locs, Pt.cells, Pt.slots] at X4 l4 y4 z4 st4 hQ4
    subst l4 y4 z4
    obtain ⟨rfl, N4q, e4⟩ := hQ4
    have N4 := Fr.app N0 N4q
    refine Go.st (fun _ k => st4.trans k) ?_
    show Go _ _ _ _ _ _ _ T4 (mkF m 27 #[.val (.ref o0), .val (.int H), .val (.int (4 : Int32))] [(.int (kF (4 : Int32) k0 k1 k2 k3 k4 k5)), (.int ((31 : Int32) * H))])
    refine Go.fr (f' := (mkF m 27 #[.val (.ref o0), .val (.int H), .val (.int (4 : Int32))] [(.int k4), (.int ((31 : Int32) * H))])) (by rfl) ?_
    show Go _ _ _ _ _ _ _ T4 (mkF m 27 #[.val (.ref o0), .val (.int H), .val (.int (4 : Int32))] [(.int k4), (.int ((31 : Int32) * H))])
    refine Go.st (fun _ k => XS.iadd X4.here hx rfl (hb hby d14_27) rfl k) ?_
    show Go _ _ _ _ _ _ _ T4 (mkF m 28 #[.val (.ref o0), .val (.int H), .val (.int (4 : Int32))] [(.int (((31 : Int32) * H) + k4))])
    refine Go.st (fun _ k => XS.istoreN X4.here hx rfl (hb hby d14_28) rfl (l' := #[.val (.ref o0), .val (.int (((31 : Int32) * H) + k4)), .val (.int (4 : Int32))]) rfl k) ?_
    show Go _ _ _ _ _ _ _ T4 (mkF m 29 #[.val (.ref o0), .val (.int (((31 : Int32) * H) + k4)), .val (.int (4 : Int32))] [])
    refine Go.st (fun _ k => XS.iinc X4.here hx rfl (hb hby d14_29) rfl (l' := #[.val (.ref o0), .val (.int (((31 : Int32) * H) + k4)), .val (.int ((4 : Int32) + (1 : Int32)))]) rfl k) ?_
    show Go _ _ _ _ _ _ _ T4 (mkF m 32 #[.val (.ref o0), .val (.int (((31 : Int32) * H) + k4)), .val (.int ((4 : Int32) + (1 : Int32)))] [])
    refine Go.fr (f' := (mkF m 32 #[.val (.ref o0), .val (.int (((31 : Int32) * H) + k4)), .val (.int (5 : Int32))] [])) (by rw [show ((4 : Int32) + (1 : Int32)) = (5 : Int32) from by decide +kernel]) ?_
    show Go _ _ _ _ _ _ _ T4 (mkF m 32 #[.val (.ref o0), .val (.int (((31 : Int32) * H) + k4)), .val (.int (5 : Int32))] [])
    refine Go.st (fun _ k => XS.goto X4.here hx rfl (pc0 := 32) (pc' := 7) rfl (hb hby d14_32) (by decide) (by decide) k) ?_
    show Go _ _ _ _ _ _ _ T4 (mkF m 7 #[.val (.ref o0), .val (.int (((31 : Int32) * H) + k4)), .val (.int (5 : Int32))] [])
    exact tl_h5 l Z a0 hw o0 x s_ e_ t kb k0 k1 k2 k3 k4 k5 G1 r ((31 : Int32) * H + k4) h0 hS n0 X4 hx hZ hby hml hown hnm hlk hret e4 N4 ZS F_text F_start F_end E_x F_value_x N_x hW he6 S_CS P_CS S_AD S_HI S_LO S_SI (by rw [hr]; exact if_pos hc2) hSe
  · refine Go.st (fun _ k => XS.icmpYes X1.here hx rfl (pc0 := 12) (pc' := 35) rfl (hb hby d14_12) rfl (flt hc2).2.1 (by decide) (by decide) k) ?_
    show Go _ _ _ _ _ _ _ T1 (mkF m 35 #[.val (.ref o0), .val (.int H), .val (.int (4 : Int32))] [])
    refine Go.st (fun _ k => XS.iloadN X1.here hx rfl (hb hby d14_35) rfl k) ?_
    show Go _ _ _ _ _ _ _ T1 (mkF m 36 #[.val (.ref o0), .val (.int H), .val (.int (4 : Int32))] [(.int H)])
    refine Go.ret X1 hlk (v := some (.int H)) (fun h => by rw [hret] at h; cases h) (fun fs hr => retOut X1 hx (t := .int) (i := .ireturn) hret rfl (Or.inl ⟨rfl, Or.inl rfl, _, rfl⟩) (hb hby d14_36) hr) ?_ (by decide) (by decide)
    show Q14 Z o0 x s_ e_ t kb k0 k1 k2 k3 k4 k5 G1 r h0 n0 (some (.int H)) T1.heap _
    rw [e1]
    refine ⟨?_, N0, hSe⟩
    rw [hr]
    exact congrArg (fun z => some (Value.int z)) (if_neg hc2).symm
set_option maxRecDepth 65536 in
set_option maxHeartbeats 40000000 in
theorem tl_h3 (l : Launch) (Z : State) (a0 : Array Value) (hw : ∀ d ∈ tables_1, d.before a0 Z = true) (o0 : Addr) (x : Addr) (s_ : Int32) (e_ : Int32) (t : Addr) (kb : ClassId) (k0 : Int32) (k1 : Int32) (k2 : Int32) (k3 : Int32) (k4 : Int32) (k5 : Int32) (G1 : Int32) (r : Int32) (H : Int32) (h0 hS : Heap) (n0 : Nat) {p : Program} {e : Env} {s : State} {m : MethodId} {below : List Frame} {meth : Method} {c : Code} {T0 : State} {locs : List Loc}
    (X0 : Stand p l e ({ frames := 5, cells := 0, slots := 0, locals := 67 } : Room) s m #[(.ref o0)] below meth c T0 locs 0 0) (hx : p.tables.exec = Jvm.exec) (hZ : Z.Warmed39 s.vm) (hby : c.code = prog_89_method_7_code) (hml : c.maxLocals = 3) (hown : s.vm.findClass "com/example/grantd/grantd/policy/TextSpan" = some m.cls) (hnm : meth.name = "textHash") (hlk : meth.locks = false) (hret : meth.sig.returnType = some .int) (e0 : T0.heap = hS) (N0 : Fr n0 locs) (ZS : n0 ≤ hS.size) (F_text : Fld Z hS o0 "com/example/grantd/grantd/policy/TextSpan" "text" "Ljava/lang/String;" (.ref x)) (F_start : Fld Z hS o0 "com/example/grantd/grantd/policy/TextSpan" "start" "I" (.int s_)) (F_end : Fld Z hS o0 "com/example/grantd/grantd/policy/TextSpan" "end" "I" (.int e_)) (E_x : Exa Z hS x "java/lang/String") (F_value_x : Fld Z hS x "java/lang/String" "value" "[B" (.ref t)) (N_x : Enc Z hS x t kb k0 k1 k2 k3 k4 k5) (hW : Wide16 k0 k1 k2 k3 k4 k5) (he6 : ¬ (6 : Int32) < e_) (S_CS : Sta Z hS "java/lang/String" "COMPACT_STRINGS" "Z" (.int G1)) (P_CS : ¬ G1 = (0 : Int32)) (S_AD : Sta Z hS "java/lang/StringUTF16" "$assertionsDisabled" "Z" (.int (1 : Int32))) (S_HI : Sta Z hS "java/lang/StringUTF16" "HI_BYTE_SHIFT" "I" (.int (0 : Int32))) (S_LO : Sta Z hS "java/lang/StringUTF16" "LO_BYTE_SHIFT" "I" (.int (8 : Int32))) (S_SI : StaR Z hS "jdk/internal/util/Preconditions" "SIOOBE_FORMATTER" "Ljava/util/function/BiFunction;") (hr : r = loopW3 H e_ k0 k1 k2 k3 k4 k5) (hSe : hS = h0) :
    Go p e below s (Q14 Z o0 x s_ e_ t kb k0 k1 k2 k3 k4 k5 G1 r h0 n0) ({ frames := 5, cells := 0, slots := 0, locals := 67 } : Room).cells ({ frames := 5, cells := 0, slots := 0, locals := 67 } : Room).slots T0 (mkF m 7 #[.val (.ref o0), .val (.int H), .val (.int (3 : Int32))] []) := by
  show Go _ _ _ _ _ _ _ T0 (mkF m 7 #[.val (.ref o0), .val (.int H), .val (.int (3 : Int32))] [])
  refine Go.st (fun _ k => XS.iloadN X0.here hx rfl (hb hby d14_7) rfl k) ?_
  show Go _ _ _ _ _ _ _ T0 (mkF m 8 #[.val (.ref o0), .val (.int H), .val (.int (3 : Int32))] [(.int (3 : Int32))])
  refine Go.st (fun _ k => XS.aloadN X0.here hx rfl (hb hby d14_8) rfl rfl k) ?_
  show Go _ _ _ _ _ _ _ T0 (mkF m 9 #[.val (.ref o0), .val (.int H), .val (.int (3 : Int32))] [(.ref o0), (.int (3 : Int32))])
  obtain ⟨T1, X1, e1, st1⟩ := getF X0 hx hZ hown (host := "") (Or.inl (hw _ (List.mem_of_getElem? (i := 66) rfl))) Via.refl e0 F_end (g := (mkF m 9 #[.val (.ref o0), .val (.int H), .val (.int (3 : Int32))] [(.ref o0), (.int (3 : Int32))])) rfl rfl (hb hby d14_9)
  refine Go.st st1 ?_
  show Go _ _ _ _ _ _ _ T1 (mkF m 12 #[.val (.ref o0), .val (.int H), .val (.int (3 : Int32))] [(.int e_), (.int (3 : Int32))])
  by_cases hc2 : (3 : Int32) < e_
  · refine Go.st (fun _ k => XS.icmpNo X1.here hx rfl (hb hby d14_12) rfl (tlt hc2).2.1 k) ?_
    show Go _ _ _ _ _ _ _ T1 (mkF m 15 #[.val (.ref o0), .val (.int H), .val (.int (3 : Int32))] [])
    refine Go.st (fun _ k => XS.bipush X1.here hx rfl (hb hby d14_15) k) ?_
    show Go _ _ _ _ _ _ _ T1 (mkF m 17 #[.val (.ref o0), .val (.int H), .val (.int (3 : Int32))] [(.int (31 : Int32))])
    refine Go.st (fun _ k => XS.iloadN X1.here hx rfl (hb hby d14_17) rfl k) ?_
    show Go _ _ _ _ _ _ _ T1 (mkF m 18 #[.val (.ref o0), .val (.int H), .val (.int (3 : Int32))] [(.int H), (.int (31 : Int32))])
    refine Go.st (fun _ k => XS.imul X1.here hx rfl (hb hby d14_18) rfl k) ?_
    show Go _ _ _ _ _ _ _ T1 (mkF m 19 #[.val (.ref o0), .val (.int H), .val (.int (3 : Int32))] [(.int ((31 : Int32) * H))])
    refine Go.st (fun _ k => XS.aloadN X1.here hx rfl (hb hby d14_19) rfl rfl k) ?_
    show Go _ _ _ _ _ _ _ T1 (mkF m 20 #[.val (.ref o0), .val (.int H), .val (.int (3 : Int32))] [(.ref o0), (.int ((31 : Int32) * H))])
    obtain ⟨T3, X3, e3, st3⟩ := getF X1 hx hZ hown (host := "") (Or.inl (hw _ (List.mem_of_getElem? (i := 62) rfl))) Via.refl e1 F_text (g := (mkF m 20 #[.val (.ref o0), .val (.int H), .val (.int (3 : Int32))] [(.ref o0), (.int ((31 : Int32) * H))])) rfl rfl (hb hby d14_20)
    refine Go.st st3 ?_
    show Go _ _ _ _ _ _ _ T3 (mkF m 23 #[.val (.ref o0), .val (.int H), .val (.int (3 : Int32))] [(.ref x), (.int ((31 : Int32) * H))])
    refine Go.st (fun _ k => XS.iloadN X3.here hx rfl (hb hby d14_23) rfl k) ?_
    show Go _ _ _ _ _ _ _ T3 (mkF m 24 #[.val (.ref o0), .val (.int H), .val (.int (3 : Int32))] [(.int (3 : Int32)), (.ref x), (.int ((31 : Int32) * H))])
    obtain ⟨cq4, kq4, q4a, q4b, q4c⟩ := isOf hZ e3 E_x
    obtain ⟨_, _, ⟨T4, L4, ck4, cn4⟩, -, X4, ⟨Lc4, hQ4, l4, y4, z4⟩, st4⟩ := X3.virtualBack hx (y := (⟨"java/lang/String", "charAt", "(I)C"⟩ : MethodName)) (z := (⟨"java/lang/String", "charAt", "(I)C"⟩ : MethodName)) hown (mvT hZ (hw _ (List.mem_of_getElem? (i := 80) rfl))) (mvT hZ (hw _ (List.mem_of_getElem? (i := 81) rfl))) (notFace_of_selects (args := #[]) (mvT hZ (hw _ (List.mem_of_getElem? (i := 83) rfl)))) (mvT hZ (hw _ (List.mem_of_getElem? (i := 83) rfl))) (mvT hZ (hw _ (List.mem_of_getElem? (i := 82) rfl))) (by decide) (backOf (W := 1) (rm15 l Z a0 hw [] x (3 : Int32) t kb k0 k1 k2 k3 k4 k5 G1 hS n0 ZS E_x F_value_x N_x (Or.inr (Or.inr (Or.inr (Or.inl rfl)))) hW S_CS P_CS S_AD S_HI S_LO S_SI) hZ (hw _ (List.mem_of_getElem? (i := 84) rfl)) (hw _ (List.mem_of_getElem? (i := 4) rfl)) (by decide) (by decide)) q4a q4c (g := (mkF m 24 #[.val (.ref o0), .val (.int H), .val (.int (3 : Int32))] [(.int (3 : Int32)), (.ref x), (.int ((31 : Int32) * H))])) rfl (by rw [hml]; rfl) (Steps.refl _) (argsL := [(.int (3 : Int32))]) (rest := [(.int ((31 : Int32) * H))]) (lenOf pd_17 rfl) rfl (by show 2 * 0 + _ ≤ _; exact Nat.le_of_eq rfl) (hb hby d14_24) (fun _ _ => ⟨rfl, e3, (by decide : 0 + 0 ≤ _), (by decide : 0 + 0 ≤ _)⟩)
    dsimp only [Pt.U, Pt.locs, Pt.cells, Pt.slots] at X4 l4 y4 z4 st4 hQ4
    subst l4 y4 z4
    obtain ⟨rfl, N4q, e4⟩ := hQ4
    have N4 := Fr.app N0 N4q
    refine Go.st (fun _ k => st4.trans k) ?_
    show Go _ _ _ _ _ _ _ T4 (mkF m 27 #[.val (.ref o0), .val (.int H), .val (.int (3 : Int32))] [(.int (kF (3 : Int32) k0 k1 k2 k3 k4 k5)), (.int ((31 : Int32) * H))])
    refine Go.fr (f' := (mkF m 27 #[.val (.ref o0), .val (.int H), .val (.int (3 : Int32))] [(.int k3), (.int ((31 : Int32) * H))])) (by rfl) ?_
    show Go _ _ _ _ _ _ _ T4 (mkF m 27 #[.val (.ref o0), .val (.int H), .val (.int (3 : Int32))] [(.int k3), (.int ((31 : Int32) * H))])
    refine Go.st (fun _ k => XS.iadd X4.here hx rfl (hb hby d14_27) rfl k) ?_
    show Go _ _ _ _ _ _ _ T4 (mkF m 28 #[.val (.ref o0), .val (.int H), .val (.int (3 : Int32))] [(.int (((31 : Int32) * H) + k3))])
    refine Go.st (fun _ k => XS.istoreN X4.here hx rfl (hb hby d14_28) rfl (l' := #[.val (.ref o0), .val (.int (((31 : Int32) * H) + k3)), .val (.int (3 : Int32))]) rfl k) ?_
    show Go _ _ _ _ _ _ _ T4 (mkF m 29 #[.val (.ref o0), .val (.int (((31 : Int32) * H) + k3)), .val (.int (3 : Int32))] [])
    refine Go.st (fun _ k => XS.iinc X4.here hx rfl (hb hby d14_29) rfl (l' := #[.val (.ref o0), .val (.int (((31 : Int32) * H) + k3)), .val (.int ((3 : Int32) + (1 : Int32)))]) rfl k) ?_
    show Go _ _ _ _ _ _ _ T4 (mkF m 32 #[.val (.ref o0), .val (.int (((31 : Int32) * H) + k3)), .val (.int ((3 : Int32) + (1 : Int32)))] [])
    refine Go.fr (f' := (mkF m 32 #[.val (.ref o0), .val (.int (((31 : Int32) * H) + k3)), .val (.int (4 : Int32))] [])) (by rw [show ((3 : Int32) + (1 : Int32)) = (4 : Int32) from by decide +kernel]) ?_
    show Go _ _ _ _ _ _ _ T4 (mkF m 32 #[.val (.ref o0), .val (.int (((31 : Int32) * H) + k3)), .val (.int (4 : Int32))] [])
    refine Go.st (fun _ k => XS.goto X4.here hx rfl (pc0 := 32) (pc' := 7) rfl (hb hby d14_32) (by decide) (by decide) k) ?_
    show Go _ _ _ _ _ _ _ T4 (mkF m 7 #[.val (.ref o0), .val (.int (((31 : Int32) * H) + k3)), .val (.int (4 : Int32))] [])
    exact tl_h4 l Z a0 hw o0 x s_ e_ t kb k0 k1 k2 k3 k4 k5 G1 r ((31 : Int32) * H + k3) h0 hS n0 X4 hx hZ hby hml hown hnm hlk hret e4 N4 ZS F_text F_start F_end E_x F_value_x N_x hW he6 S_CS P_CS S_AD S_HI S_LO S_SI (by rw [hr]; exact if_pos hc2) hSe
  · refine Go.st (fun _ k => XS.icmpYes X1.here hx rfl (pc0 := 12) (pc' := 35) rfl (hb hby d14_12) rfl (flt hc2).2.1 (by decide) (by decide) k) ?_
    show Go _ _ _ _ _ _ _ T1 (mkF m 35 #[.val (.ref o0), .val (.int H), .val (.int (3 : Int32))] [])
    refine Go.st (fun _ k => XS.iloadN X1.here hx rfl (hb hby d14_35) rfl k) ?_
    show Go _ _ _ _ _ _ _ T1 (mkF m 36 #[.val (.ref o0), .val (.int H), .val (.int (3 : Int32))] [(.int H)])
    refine Go.ret X1 hlk (v := some (.int H)) (fun h => by rw [hret] at h; cases h) (fun fs hr => retOut X1 hx (t := .int) (i := .ireturn) hret rfl (Or.inl ⟨rfl, Or.inl rfl, _, rfl⟩) (hb hby d14_36) hr) ?_ (by decide) (by decide)
    show Q14 Z o0 x s_ e_ t kb k0 k1 k2 k3 k4 k5 G1 r h0 n0 (some (.int H)) T1.heap _
    rw [e1]
    refine ⟨?_, N0, hSe⟩
    rw [hr]
    exact congrArg (fun z => some (Value.int z)) (if_neg hc2).symm
set_option maxRecDepth 65536 in
set_option maxHeartbeats 40000000 in
theorem tl_h2 (l : Launch) (Z : State) (a0 : Array Value) (hw : ∀ d ∈ tables_1, d.before a0 Z = true) (o0 : Addr) (x : Addr) (s_ : Int32) (e_ : Int32) (t : Addr) (kb : ClassId) (k0 : Int32) (k1 : Int32) (k2 : Int32) (k3 : Int32) (k4 : Int32) (k5 : Int32) (G1 : Int32) (r : Int32) (H : Int32) (h0 hS : Heap) (n0 : Nat) {p : Program} {e : Env} {s : State} {m : MethodId} {below : List Frame} {meth : Method} {c : Code} {T0 : State} {locs : List Loc}
    (X0 : Stand p l e ({ frames := 5, cells := 0, slots := 0, locals := 67 } : Room) s m #[(.ref o0)] below meth c T0 locs 0 0) (hx : p.tables.exec = Jvm.exec) (hZ : Z.Warmed39 s.vm) (hby : c.code = prog_89_method_7_code) (hml : c.maxLocals = 3) (hown : s.vm.findClass "com/example/grantd/grantd/policy/TextSpan" = some m.cls) (hnm : meth.name = "textHash") (hlk : meth.locks = false) (hret : meth.sig.returnType = some .int) (e0 : T0.heap = hS) (N0 : Fr n0 locs) (ZS : n0 ≤ hS.size) (F_text : Fld Z hS o0 "com/example/grantd/grantd/policy/TextSpan" "text" "Ljava/lang/String;" (.ref x)) (F_start : Fld Z hS o0 "com/example/grantd/grantd/policy/TextSpan" "start" "I" (.int s_)) (F_end : Fld Z hS o0 "com/example/grantd/grantd/policy/TextSpan" "end" "I" (.int e_)) (E_x : Exa Z hS x "java/lang/String") (F_value_x : Fld Z hS x "java/lang/String" "value" "[B" (.ref t)) (N_x : Enc Z hS x t kb k0 k1 k2 k3 k4 k5) (hW : Wide16 k0 k1 k2 k3 k4 k5) (he6 : ¬ (6 : Int32) < e_) (S_CS : Sta Z hS "java/lang/String" "COMPACT_STRINGS" "Z" (.int G1)) (P_CS : ¬ G1 = (0 : Int32)) (S_AD : Sta Z hS "java/lang/StringUTF16" "$assertionsDisabled" "Z" (.int (1 : Int32))) (S_HI : Sta Z hS "java/lang/StringUTF16" "HI_BYTE_SHIFT" "I" (.int (0 : Int32))) (S_LO : Sta Z hS "java/lang/StringUTF16" "LO_BYTE_SHIFT" "I" (.int (8 : Int32))) (S_SI : StaR Z hS "jdk/internal/util/Preconditions" "SIOOBE_FORMATTER" "Ljava/util/function/BiFunction;") (hr : r = loopW2 H e_ k0 k1 k2 k3 k4 k5) (hSe : hS = h0) :
    Go p e below s (Q14 Z o0 x s_ e_ t kb k0 k1 k2 k3 k4 k5 G1 r h0 n0) ({ frames := 5, cells := 0, slots := 0, locals := 67 } : Room).cells ({ frames := 5, cells := 0, slots := 0, locals := 67 } : Room).slots T0 (mkF m 7 #[.val (.ref o0), .val (.int H), .val (.int (2 : Int32))] []) := by
  show Go _ _ _ _ _ _ _ T0 (mkF m 7 #[.val (.ref o0), .val (.int H), .val (.int (2 : Int32))] [])
  refine Go.st (fun _ k => XS.iloadN X0.here hx rfl (hb hby d14_7) rfl k) ?_
  show Go _ _ _ _ _ _ _ T0 (mkF m 8 #[.val (.ref o0), .val (.int H), .val (.int (2 : Int32))] [(.int (2 : Int32))])
  refine Go.st (fun _ k => XS.aloadN X0.here hx rfl (hb hby d14_8) rfl rfl k) ?_
  show Go _ _ _ _ _ _ _ T0 (mkF m 9 #[.val (.ref o0), .val (.int H), .val (.int (2 : Int32))] [(.ref o0), (.int (2 : Int32))])
  obtain ⟨T1, X1, e1, st1⟩ := getF X0 hx hZ hown (host := "") (Or.inl (hw _ (List.mem_of_getElem? (i := 66) rfl))) Via.refl e0 F_end (g := (mkF m 9 #[.val (.ref o0), .val (.int H), .val (.int (2 : Int32))] [(.ref o0), (.int (2 : Int32))])) rfl rfl (hb hby d14_9)
  refine Go.st st1 ?_
  show Go _ _ _ _ _ _ _ T1 (mkF m 12 #[.val (.ref o0), .val (.int H), .val (.int (2 : Int32))] [(.int e_), (.int (2 : Int32))])
  by_cases hc2 : (2 : Int32) < e_
  · refine Go.st (fun _ k => XS.icmpNo X1.here hx rfl (hb hby d14_12) rfl (tlt hc2).2.1 k) ?_
    show Go _ _ _ _ _ _ _ T1 (mkF m 15 #[.val (.ref o0), .val (.int H), .val (.int (2 : Int32))] [])
    refine Go.st (fun _ k => XS.bipush X1.here hx rfl (hb hby d14_15) k) ?_
    show Go _ _ _ _ _ _ _ T1 (mkF m 17 #[.val (.ref o0), .val (.int H), .val (.int (2 : Int32))] [(.int (31 : Int32))])
    refine Go.st (fun _ k => XS.iloadN X1.here hx rfl (hb hby d14_17) rfl k) ?_
    show Go _ _ _ _ _ _ _ T1 (mkF m 18 #[.val (.ref o0), .val (.int H), .val (.int (2 : Int32))] [(.int H), (.int (31 : Int32))])
    refine Go.st (fun _ k => XS.imul X1.here hx rfl (hb hby d14_18) rfl k) ?_
    show Go _ _ _ _ _ _ _ T1 (mkF m 19 #[.val (.ref o0), .val (.int H), .val (.int (2 : Int32))] [(.int ((31 : Int32) * H))])
    refine Go.st (fun _ k => XS.aloadN X1.here hx rfl (hb hby d14_19) rfl rfl k) ?_
    show Go _ _ _ _ _ _ _ T1 (mkF m 20 #[.val (.ref o0), .val (.int H), .val (.int (2 : Int32))] [(.ref o0), (.int ((31 : Int32) * H))])
    obtain ⟨T3, X3, e3, st3⟩ := getF X1 hx hZ hown (host := "") (Or.inl (hw _ (List.mem_of_getElem? (i := 62) rfl))) Via.refl e1 F_text (g := (mkF m 20 #[.val (.ref o0), .val (.int H), .val (.int (2 : Int32))] [(.ref o0), (.int ((31 : Int32) * H))])) rfl rfl (hb hby d14_20)
    refine Go.st st3 ?_
    show Go _ _ _ _ _ _ _ T3 (mkF m 23 #[.val (.ref o0), .val (.int H), .val (.int (2 : Int32))] [(.ref x), (.int ((31 : Int32) * H))])
    refine Go.st (fun _ k => XS.iloadN X3.here hx rfl (hb hby d14_23) rfl k) ?_
    show Go _ _ _ _ _ _ _ T3 (mkF m 24 #[.val (.ref o0), .val (.int H), .val (.int (2 : Int32))] [(.int (2 : Int32)), (.ref x), (.int ((31 : Int32) * H))])
    obtain ⟨cq4, kq4, q4a, q4b, q4c⟩ := isOf hZ e3 E_x
    obtain ⟨_, _, ⟨T4, L4, ck4, cn4⟩, -, X4, ⟨Lc4, hQ4, l4, y4, z4⟩, st4⟩ := X3.virtualBack hx (y := (⟨"java/lang/String", "charAt", "(I)C"⟩ : MethodName)) (z := (⟨"java/lang/String", "charAt", "(I)C"⟩ : MethodName)) hown (mvT hZ (hw _ (List.mem_of_getElem? (i := 80) rfl))) (mvT hZ (hw _ (List.mem_of_getElem? (i := 81) rfl))) (notFace_of_selects (args := #[]) (mvT hZ (hw _ (List.mem_of_getElem? (i := 83) rfl)))) (mvT hZ (hw _ (List.mem_of_getElem? (i := 83) rfl))) (mvT hZ (hw _ (List.mem_of_getElem? (i := 82) rfl))) (by decide) (backOf (W := 1) (rm15 l Z a0 hw [] x (2 : Int32) t kb k0 k1 k2 k3 k4 k5 G1 hS n0 ZS E_x F_value_x N_x (Or.inr (Or.inr (Or.inl rfl))) hW S_CS P_CS S_AD S_HI S_LO S_SI) hZ (hw _ (List.mem_of_getElem? (i := 84) rfl)) (hw _ (List.mem_of_getElem? (i := 4) rfl)) (by decide) (by decide)) q4a q4c (g := (mkF m 24 #[.val (.ref o0), .val (.int H), .val (.int (2 : Int32))] [(.int (2 : Int32)), (.ref x), (.int ((31 : Int32) * H))])) rfl (by rw [hml]; rfl) (Steps.refl _) (argsL := [(.int (2 : Int32))]) (rest := [(.int ((31 : Int32) * H))]) (lenOf pd_17 rfl) rfl (by show 2 * 0 + _ ≤ _; exact Nat.le_of_eq rfl) (hb hby d14_24) (fun _ _ => ⟨rfl, e3, (by decide : 0 + 0 ≤ _), (by decide : 0 + 0 ≤ _)⟩)
    dsimp only [Pt.U, Pt.locs, Pt.cells, Pt.slots] at X4 l4 y4 z4 st4 hQ4
    subst l4 y4 z4
    obtain ⟨rfl, N4q, e4⟩ := hQ4
    have N4 := Fr.app N0 N4q
    refine Go.st (fun _ k => st4.trans k) ?_
    show Go _ _ _ _ _ _ _ T4 (mkF m 27 #[.val (.ref o0), .val (.int H), .val (.int (2 : Int32))] [(.int (kF (2 : Int32) k0 k1 k2 k3 k4 k5)), (.int ((31 : Int32) * H))])
    refine Go.fr (f' := (mkF m 27 #[.val (.ref o0), .val (.int H), .val (.int (2 : Int32))] [(.int k2), (.int ((31 : Int32) * H))])) (by rfl) ?_
    show Go _ _ _ _ _ _ _ T4 (mkF m 27 #[.val (.ref o0), .val (.int H), .val (.int (2 : Int32))] [(.int k2), (.int ((31 : Int32) * H))])
    refine Go.st (fun _ k => XS.iadd X4.here hx rfl (hb hby d14_27) rfl k) ?_
    show Go _ _ _ _ _ _ _ T4 (mkF m 28 #[.val (.ref o0), .val (.int H), .val (.int (2 : Int32))] [(.int (((31 : Int32) * H) + k2))])
    refine Go.st (fun _ k => XS.istoreN X4.here hx rfl (hb hby d14_28) rfl (l' := #[.val (.ref o0), .val (.int (((31 : Int32) * H) + k2)), .val (.int (2 : Int32))]) rfl k) ?_
    show Go _ _ _ _ _ _ _ T4 (mkF m 29 #[.val (.ref o0), .val (.int (((31 : Int32) * H) + k2)), .val (.int (2 : Int32))] [])
    refine Go.st (fun _ k => XS.iinc X4.here hx rfl (hb hby d14_29) rfl (l' := #[.val (.ref o0), .val (.int (((31 : Int32) * H) + k2)), .val (.int ((2 : Int32) + (1 : Int32)))]) rfl k) ?_
    show Go _ _ _ _ _ _ _ T4 (mkF m 32 #[.val (.ref o0), .val (.int (((31 : Int32) * H) + k2)), .val (.int ((2 : Int32) + (1 : Int32)))] [])
    refine Go.fr (f' := (mkF m 32 #[.val (.ref o0), .val (.int (((31 : Int32) * H) + k2)), .val (.int (3 : Int32))] [])) (by rw [show ((2 : Int32) + (1 : Int32)) = (3 : Int32) from by decide +kernel]) ?_
    show Go _ _ _ _ _ _ _ T4 (mkF m 32 #[.val (.ref o0), .val (.int (((31 : Int32) * H) + k2)), .val (.int (3 : Int32))] [])
    refine Go.st (fun _ k => XS.goto X4.here hx rfl (pc0 := 32) (pc' := 7) rfl (hb hby d14_32) (by decide) (by decide) k) ?_
    show Go _ _ _ _ _ _ _ T4 (mkF m 7 #[.val (.ref o0), .val (.int (((31 : Int32) * H) + k2)), .val (.int (3 : Int32))] [])
    exact tl_h3 l Z a0 hw o0 x s_ e_ t kb k0 k1 k2 k3 k4 k5 G1 r ((31 : Int32) * H + k2) h0 hS n0 X4 hx hZ hby hml hown hnm hlk hret e4 N4 ZS F_text F_start F_end E_x F_value_x N_x hW he6 S_CS P_CS S_AD S_HI S_LO S_SI (by rw [hr]; exact if_pos hc2) hSe
  · refine Go.st (fun _ k => XS.icmpYes X1.here hx rfl (pc0 := 12) (pc' := 35) rfl (hb hby d14_12) rfl (flt hc2).2.1 (by decide) (by decide) k) ?_
    show Go _ _ _ _ _ _ _ T1 (mkF m 35 #[.val (.ref o0), .val (.int H), .val (.int (2 : Int32))] [])
    refine Go.st (fun _ k => XS.iloadN X1.here hx rfl (hb hby d14_35) rfl k) ?_
    show Go _ _ _ _ _ _ _ T1 (mkF m 36 #[.val (.ref o0), .val (.int H), .val (.int (2 : Int32))] [(.int H)])
    refine Go.ret X1 hlk (v := some (.int H)) (fun h => by rw [hret] at h; cases h) (fun fs hr => retOut X1 hx (t := .int) (i := .ireturn) hret rfl (Or.inl ⟨rfl, Or.inl rfl, _, rfl⟩) (hb hby d14_36) hr) ?_ (by decide) (by decide)
    show Q14 Z o0 x s_ e_ t kb k0 k1 k2 k3 k4 k5 G1 r h0 n0 (some (.int H)) T1.heap _
    rw [e1]
    refine ⟨?_, N0, hSe⟩
    rw [hr]
    exact congrArg (fun z => some (Value.int z)) (if_neg hc2).symm
set_option maxRecDepth 65536 in
set_option maxHeartbeats 40000000 in
theorem tl_h1 (l : Launch) (Z : State) (a0 : Array Value) (hw : ∀ d ∈ tables_1, d.before a0 Z = true) (o0 : Addr) (x : Addr) (s_ : Int32) (e_ : Int32) (t : Addr) (kb : ClassId) (k0 : Int32) (k1 : Int32) (k2 : Int32) (k3 : Int32) (k4 : Int32) (k5 : Int32) (G1 : Int32) (r : Int32) (H : Int32) (h0 hS : Heap) (n0 : Nat) {p : Program} {e : Env} {s : State} {m : MethodId} {below : List Frame} {meth : Method} {c : Code} {T0 : State} {locs : List Loc}
    (X0 : Stand p l e ({ frames := 5, cells := 0, slots := 0, locals := 67 } : Room) s m #[(.ref o0)] below meth c T0 locs 0 0) (hx : p.tables.exec = Jvm.exec) (hZ : Z.Warmed39 s.vm) (hby : c.code = prog_89_method_7_code) (hml : c.maxLocals = 3) (hown : s.vm.findClass "com/example/grantd/grantd/policy/TextSpan" = some m.cls) (hnm : meth.name = "textHash") (hlk : meth.locks = false) (hret : meth.sig.returnType = some .int) (e0 : T0.heap = hS) (N0 : Fr n0 locs) (ZS : n0 ≤ hS.size) (F_text : Fld Z hS o0 "com/example/grantd/grantd/policy/TextSpan" "text" "Ljava/lang/String;" (.ref x)) (F_start : Fld Z hS o0 "com/example/grantd/grantd/policy/TextSpan" "start" "I" (.int s_)) (F_end : Fld Z hS o0 "com/example/grantd/grantd/policy/TextSpan" "end" "I" (.int e_)) (E_x : Exa Z hS x "java/lang/String") (F_value_x : Fld Z hS x "java/lang/String" "value" "[B" (.ref t)) (N_x : Enc Z hS x t kb k0 k1 k2 k3 k4 k5) (hW : Wide16 k0 k1 k2 k3 k4 k5) (he6 : ¬ (6 : Int32) < e_) (S_CS : Sta Z hS "java/lang/String" "COMPACT_STRINGS" "Z" (.int G1)) (P_CS : ¬ G1 = (0 : Int32)) (S_AD : Sta Z hS "java/lang/StringUTF16" "$assertionsDisabled" "Z" (.int (1 : Int32))) (S_HI : Sta Z hS "java/lang/StringUTF16" "HI_BYTE_SHIFT" "I" (.int (0 : Int32))) (S_LO : Sta Z hS "java/lang/StringUTF16" "LO_BYTE_SHIFT" "I" (.int (8 : Int32))) (S_SI : StaR Z hS "jdk/internal/util/Preconditions" "SIOOBE_FORMATTER" "Ljava/util/function/BiFunction;") (hr : r = loopW1 H e_ k0 k1 k2 k3 k4 k5) (hSe : hS = h0) :
    Go p e below s (Q14 Z o0 x s_ e_ t kb k0 k1 k2 k3 k4 k5 G1 r h0 n0) ({ frames := 5, cells := 0, slots := 0, locals := 67 } : Room).cells ({ frames := 5, cells := 0, slots := 0, locals := 67 } : Room).slots T0 (mkF m 7 #[.val (.ref o0), .val (.int H), .val (.int (1 : Int32))] []) := by
  show Go _ _ _ _ _ _ _ T0 (mkF m 7 #[.val (.ref o0), .val (.int H), .val (.int (1 : Int32))] [])
  refine Go.st (fun _ k => XS.iloadN X0.here hx rfl (hb hby d14_7) rfl k) ?_
  show Go _ _ _ _ _ _ _ T0 (mkF m 8 #[.val (.ref o0), .val (.int H), .val (.int (1 : Int32))] [(.int (1 : Int32))])
  refine Go.st (fun _ k => XS.aloadN X0.here hx rfl (hb hby d14_8) rfl rfl k) ?_
  show Go _ _ _ _ _ _ _ T0 (mkF m 9 #[.val (.ref o0), .val (.int H), .val (.int (1 : Int32))] [(.ref o0), (.int (1 : Int32))])
  obtain ⟨T1, X1, e1, st1⟩ := getF X0 hx hZ hown (host := "") (Or.inl (hw _ (List.mem_of_getElem? (i := 66) rfl))) Via.refl e0 F_end (g := (mkF m 9 #[.val (.ref o0), .val (.int H), .val (.int (1 : Int32))] [(.ref o0), (.int (1 : Int32))])) rfl rfl (hb hby d14_9)
  refine Go.st st1 ?_
  show Go _ _ _ _ _ _ _ T1 (mkF m 12 #[.val (.ref o0), .val (.int H), .val (.int (1 : Int32))] [(.int e_), (.int (1 : Int32))])
  by_cases hc2 : (1 : Int32) < e_
  · refine Go.st (fun _ k => XS.icmpNo X1.here hx rfl (hb hby d14_12) rfl (tlt hc2).2.1 k) ?_
    show Go _ _ _ _ _ _ _ T1 (mkF m 15 #[.val (.ref o0), .val (.int H), .val (.int (1 : Int32))] [])
    refine Go.st (fun _ k => XS.bipush X1.here hx rfl (hb hby d14_15) k) ?_
    show Go _ _ _ _ _ _ _ T1 (mkF m 17 #[.val (.ref o0), .val (.int H), .val (.int (1 : Int32))] [(.int (31 : Int32))])
    refine Go.st (fun _ k => XS.iloadN X1.here hx rfl (hb hby d14_17) rfl k) ?_
    show Go _ _ _ _ _ _ _ T1 (mkF m 18 #[.val (.ref o0), .val (.int H), .val (.int (1 : Int32))] [(.int H), (.int (31 : Int32))])
    refine Go.st (fun _ k => XS.imul X1.here hx rfl (hb hby d14_18) rfl k) ?_
    show Go _ _ _ _ _ _ _ T1 (mkF m 19 #[.val (.ref o0), .val (.int H), .val (.int (1 : Int32))] [(.int ((31 : Int32) * H))])
    refine Go.st (fun _ k => XS.aloadN X1.here hx rfl (hb hby d14_19) rfl rfl k) ?_
    show Go _ _ _ _ _ _ _ T1 (mkF m 20 #[.val (.ref o0), .val (.int H), .val (.int (1 : Int32))] [(.ref o0), (.int ((31 : Int32) * H))])
    obtain ⟨T3, X3, e3, st3⟩ := getF X1 hx hZ hown (host := "") (Or.inl (hw _ (List.mem_of_getElem? (i := 62) rfl))) Via.refl e1 F_text (g := (mkF m 20 #[.val (.ref o0), .val (.int H), .val (.int (1 : Int32))] [(.ref o0), (.int ((31 : Int32) * H))])) rfl rfl (hb hby d14_20)
    refine Go.st st3 ?_
    show Go _ _ _ _ _ _ _ T3 (mkF m 23 #[.val (.ref o0), .val (.int H), .val (.int (1 : Int32))] [(.ref x), (.int ((31 : Int32) * H))])
    refine Go.st (fun _ k => XS.iloadN X3.here hx rfl (hb hby d14_23) rfl k) ?_
    show Go _ _ _ _ _ _ _ T3 (mkF m 24 #[.val (.ref o0), .val (.int H), .val (.int (1 : Int32))] [(.int (1 : Int32)), (.ref x), (.int ((31 : Int32) * H))])
    obtain ⟨cq4, kq4, q4a, q4b, q4c⟩ := isOf hZ e3 E_x
    obtain ⟨_, _, ⟨T4, L4, ck4, cn4⟩, -, X4, ⟨Lc4, hQ4, l4, y4, z4⟩, st4⟩ := X3.virtualBack hx (y := (⟨"java/lang/String", "charAt", "(I)C"⟩ : MethodName)) (z := (⟨"java/lang/String", "charAt", "(I)C"⟩ : MethodName)) hown (mvT hZ (hw _ (List.mem_of_getElem? (i := 80) rfl))) (mvT hZ (hw _ (List.mem_of_getElem? (i := 81) rfl))) (notFace_of_selects (args := #[]) (mvT hZ (hw _ (List.mem_of_getElem? (i := 83) rfl)))) (mvT hZ (hw _ (List.mem_of_getElem? (i := 83) rfl))) (mvT hZ (hw _ (List.mem_of_getElem? (i := 82) rfl))) (by decide) (backOf (W := 1) (rm15 l Z a0 hw [] x (1 : Int32) t kb k0 k1 k2 k3 k4 k5 G1 hS n0 ZS E_x F_value_x N_x (Or.inr (Or.inl rfl)) hW S_CS P_CS S_AD S_HI S_LO S_SI) hZ (hw _ (List.mem_of_getElem? (i := 84) rfl)) (hw _ (List.mem_of_getElem? (i := 4) rfl)) (by decide) (by decide)) q4a q4c (g := (mkF m 24 #[.val (.ref o0), .val (.int H), .val (.int (1 : Int32))] [(.int (1 : Int32)), (.ref x), (.int ((31 : Int32) * H))])) rfl (by rw [hml]; rfl) (Steps.refl _) (argsL := [(.int (1 : Int32))]) (rest := [(.int ((31 : Int32) * H))]) (lenOf pd_17 rfl) rfl (by show 2 * 0 + _ ≤ _; exact Nat.le_of_eq rfl) (hb hby d14_24) (fun _ _ => ⟨rfl, e3, (by decide : 0 + 0 ≤ _), (by decide : 0 + 0 ≤ _)⟩)
    dsimp only [Pt.U, Pt.locs, Pt.cells, Pt.slots] at X4 l4 y4 z4 st4 hQ4
    subst l4 y4 z4
    obtain ⟨rfl, N4q, e4⟩ := hQ4
    have N4 := Fr.app N0 N4q
    refine Go.st (fun _ k => st4.trans k) ?_
    show Go _ _ _ _ _ _ _ T4 (mkF m 27 #[.val (.ref o0), .val (.int H), .val (.int (1 : Int32))] [(.int (kF (1 : Int32) k0 k1 k2 k3 k4 k5)), (.int ((31 : Int32) * H))])
    refine Go.fr (f' := (mkF m 27 #[.val (.ref o0), .val (.int H), .val (.int (1 : Int32))] [(.int k1), (.int ((31 : Int32) * H))])) (by rfl) ?_
    show Go _ _ _ _ _ _ _ T4 (mkF m 27 #[.val (.ref o0), .val (.int H), .val (.int (1 : Int32))] [(.int k1), (.int ((31 : Int32) * H))])
    refine Go.st (fun _ k => XS.iadd X4.here hx rfl (hb hby d14_27) rfl k) ?_
    show Go _ _ _ _ _ _ _ T4 (mkF m 28 #[.val (.ref o0), .val (.int H), .val (.int (1 : Int32))] [(.int (((31 : Int32) * H) + k1))])
    refine Go.st (fun _ k => XS.istoreN X4.here hx rfl (hb hby d14_28) rfl (l' := #[.val (.ref o0), .val (.int (((31 : Int32) * H) + k1)), .val (.int (1 : Int32))]) rfl k) ?_
    show Go _ _ _ _ _ _ _ T4 (mkF m 29 #[.val (.ref o0), .val (.int (((31 : Int32) * H) + k1)), .val (.int (1 : Int32))] [])
    refine Go.st (fun _ k => XS.iinc X4.here hx rfl (hb hby d14_29) rfl (l' := #[.val (.ref o0), .val (.int (((31 : Int32) * H) + k1)), .val (.int ((1 : Int32) + (1 : Int32)))]) rfl k) ?_
    show Go _ _ _ _ _ _ _ T4 (mkF m 32 #[.val (.ref o0), .val (.int (((31 : Int32) * H) + k1)), .val (.int ((1 : Int32) + (1 : Int32)))] [])
    refine Go.fr (f' := (mkF m 32 #[.val (.ref o0), .val (.int (((31 : Int32) * H) + k1)), .val (.int (2 : Int32))] [])) (by rw [show ((1 : Int32) + (1 : Int32)) = (2 : Int32) from by decide +kernel]) ?_
    show Go _ _ _ _ _ _ _ T4 (mkF m 32 #[.val (.ref o0), .val (.int (((31 : Int32) * H) + k1)), .val (.int (2 : Int32))] [])
    refine Go.st (fun _ k => XS.goto X4.here hx rfl (pc0 := 32) (pc' := 7) rfl (hb hby d14_32) (by decide) (by decide) k) ?_
    show Go _ _ _ _ _ _ _ T4 (mkF m 7 #[.val (.ref o0), .val (.int (((31 : Int32) * H) + k1)), .val (.int (2 : Int32))] [])
    exact tl_h2 l Z a0 hw o0 x s_ e_ t kb k0 k1 k2 k3 k4 k5 G1 r ((31 : Int32) * H + k1) h0 hS n0 X4 hx hZ hby hml hown hnm hlk hret e4 N4 ZS F_text F_start F_end E_x F_value_x N_x hW he6 S_CS P_CS S_AD S_HI S_LO S_SI (by rw [hr]; exact if_pos hc2) hSe
  · refine Go.st (fun _ k => XS.icmpYes X1.here hx rfl (pc0 := 12) (pc' := 35) rfl (hb hby d14_12) rfl (flt hc2).2.1 (by decide) (by decide) k) ?_
    show Go _ _ _ _ _ _ _ T1 (mkF m 35 #[.val (.ref o0), .val (.int H), .val (.int (1 : Int32))] [])
    refine Go.st (fun _ k => XS.iloadN X1.here hx rfl (hb hby d14_35) rfl k) ?_
    show Go _ _ _ _ _ _ _ T1 (mkF m 36 #[.val (.ref o0), .val (.int H), .val (.int (1 : Int32))] [(.int H)])
    refine Go.ret X1 hlk (v := some (.int H)) (fun h => by rw [hret] at h; cases h) (fun fs hr => retOut X1 hx (t := .int) (i := .ireturn) hret rfl (Or.inl ⟨rfl, Or.inl rfl, _, rfl⟩) (hb hby d14_36) hr) ?_ (by decide) (by decide)
    show Q14 Z o0 x s_ e_ t kb k0 k1 k2 k3 k4 k5 G1 r h0 n0 (some (.int H)) T1.heap _
    rw [e1]
    refine ⟨?_, N0, hSe⟩
    rw [hr]
    exact congrArg (fun z => some (Value.int z)) (if_neg hc2).symm
set_option maxRecDepth 65536 in
set_option maxHeartbeats 40000000 in
theorem tl_h0 (l : Launch) (Z : State) (a0 : Array Value) (hw : ∀ d ∈ tables_1, d.before a0 Z = true) (o0 : Addr) (x : Addr) (s_ : Int32) (e_ : Int32) (t : Addr) (kb : ClassId) (k0 : Int32) (k1 : Int32) (k2 : Int32) (k3 : Int32) (k4 : Int32) (k5 : Int32) (G1 : Int32) (r : Int32) (H : Int32) (h0 hS : Heap) (n0 : Nat) {p : Program} {e : Env} {s : State} {m : MethodId} {below : List Frame} {meth : Method} {c : Code} {T0 : State} {locs : List Loc}
    (X0 : Stand p l e ({ frames := 5, cells := 0, slots := 0, locals := 67 } : Room) s m #[(.ref o0)] below meth c T0 locs 0 0) (hx : p.tables.exec = Jvm.exec) (hZ : Z.Warmed39 s.vm) (hby : c.code = prog_89_method_7_code) (hml : c.maxLocals = 3) (hown : s.vm.findClass "com/example/grantd/grantd/policy/TextSpan" = some m.cls) (hnm : meth.name = "textHash") (hlk : meth.locks = false) (hret : meth.sig.returnType = some .int) (e0 : T0.heap = hS) (N0 : Fr n0 locs) (ZS : n0 ≤ hS.size) (F_text : Fld Z hS o0 "com/example/grantd/grantd/policy/TextSpan" "text" "Ljava/lang/String;" (.ref x)) (F_start : Fld Z hS o0 "com/example/grantd/grantd/policy/TextSpan" "start" "I" (.int s_)) (F_end : Fld Z hS o0 "com/example/grantd/grantd/policy/TextSpan" "end" "I" (.int e_)) (E_x : Exa Z hS x "java/lang/String") (F_value_x : Fld Z hS x "java/lang/String" "value" "[B" (.ref t)) (N_x : Enc Z hS x t kb k0 k1 k2 k3 k4 k5) (hW : Wide16 k0 k1 k2 k3 k4 k5) (he6 : ¬ (6 : Int32) < e_) (S_CS : Sta Z hS "java/lang/String" "COMPACT_STRINGS" "Z" (.int G1)) (P_CS : ¬ G1 = (0 : Int32)) (S_AD : Sta Z hS "java/lang/StringUTF16" "$assertionsDisabled" "Z" (.int (1 : Int32))) (S_HI : Sta Z hS "java/lang/StringUTF16" "HI_BYTE_SHIFT" "I" (.int (0 : Int32))) (S_LO : Sta Z hS "java/lang/StringUTF16" "LO_BYTE_SHIFT" "I" (.int (8 : Int32))) (S_SI : StaR Z hS "jdk/internal/util/Preconditions" "SIOOBE_FORMATTER" "Ljava/util/function/BiFunction;") (hr : r = loopW0 H e_ k0 k1 k2 k3 k4 k5) (hSe : hS = h0) :
    Go p e below s (Q14 Z o0 x s_ e_ t kb k0 k1 k2 k3 k4 k5 G1 r h0 n0) ({ frames := 5, cells := 0, slots := 0, locals := 67 } : Room).cells ({ frames := 5, cells := 0, slots := 0, locals := 67 } : Room).slots T0 (mkF m 7 #[.val (.ref o0), .val (.int H), .val (.int (0 : Int32))] []) := by
  show Go _ _ _ _ _ _ _ T0 (mkF m 7 #[.val (.ref o0), .val (.int H), .val (.int (0 : Int32))] [])
  refine Go.st (fun _ k => XS.iloadN X0.here hx rfl (hb hby d14_7) rfl k) ?_
  show Go _ _ _ _ _ _ _ T0 (mkF m 8 #[.val (.ref o0), .val (.int H), .val (.int (0 : Int32))] [(.int (0 : Int32))])
  refine Go.st (fun _ k => XS.aloadN X0.here hx rfl (hb hby d14_8) rfl rfl k) ?_
  show Go _ _ _ _ _ _ _ T0 (mkF m 9 #[.val (.ref o0), .val (.int H), .val (.int (0 : Int32))] [(.ref o0), (.int (0 : Int32))])
  obtain ⟨T1, X1, e1, st1⟩ := getF X0 hx hZ hown (host := "") (Or.inl (hw _ (List.mem_of_getElem? (i := 66) rfl))) Via.refl e0 F_end (g := (mkF m 9 #[.val (.ref o0), .val (.int H), .val (.int (0 : Int32))] [(.ref o0), (.int (0 : Int32))])) rfl rfl (hb hby d14_9)
  refine Go.st st1 ?_
  show Go _ _ _ _ _ _ _ T1 (mkF m 12 #[.val (.ref o0), .val (.int H), .val (.int (0 : Int32))] [(.int e_), (.int (0 : Int32))])
  by_cases hc2 : (0 : Int32) < e_
  · refine Go.st (fun _ k => XS.icmpNo X1.here hx rfl (hb hby d14_12) rfl (tlt hc2).2.1 k) ?_
    show Go _ _ _ _ _ _ _ T1 (mkF m 15 #[.val (.ref o0), .val (.int H), .val (.int (0 : Int32))] [])
    refine Go.st (fun _ k => XS.bipush X1.here hx rfl (hb hby d14_15) k) ?_
    show Go _ _ _ _ _ _ _ T1 (mkF m 17 #[.val (.ref o0), .val (.int H), .val (.int (0 : Int32))] [(.int (31 : Int32))])
    refine Go.st (fun _ k => XS.iloadN X1.here hx rfl (hb hby d14_17) rfl k) ?_
    show Go _ _ _ _ _ _ _ T1 (mkF m 18 #[.val (.ref o0), .val (.int H), .val (.int (0 : Int32))] [(.int H), (.int (31 : Int32))])
    refine Go.st (fun _ k => XS.imul X1.here hx rfl (hb hby d14_18) rfl k) ?_
    show Go _ _ _ _ _ _ _ T1 (mkF m 19 #[.val (.ref o0), .val (.int H), .val (.int (0 : Int32))] [(.int ((31 : Int32) * H))])
    refine Go.st (fun _ k => XS.aloadN X1.here hx rfl (hb hby d14_19) rfl rfl k) ?_
    show Go _ _ _ _ _ _ _ T1 (mkF m 20 #[.val (.ref o0), .val (.int H), .val (.int (0 : Int32))] [(.ref o0), (.int ((31 : Int32) * H))])
    obtain ⟨T3, X3, e3, st3⟩ := getF X1 hx hZ hown (host := "") (Or.inl (hw _ (List.mem_of_getElem? (i := 62) rfl))) Via.refl e1 F_text (g := (mkF m 20 #[.val (.ref o0), .val (.int H), .val (.int (0 : Int32))] [(.ref o0), (.int ((31 : Int32) * H))])) rfl rfl (hb hby d14_20)
    refine Go.st st3 ?_
    show Go _ _ _ _ _ _ _ T3 (mkF m 23 #[.val (.ref o0), .val (.int H), .val (.int (0 : Int32))] [(.ref x), (.int ((31 : Int32) * H))])
    refine Go.st (fun _ k => XS.iloadN X3.here hx rfl (hb hby d14_23) rfl k) ?_
    show Go _ _ _ _ _ _ _ T3 (mkF m 24 #[.val (.ref o0), .val (.int H), .val (.int (0 : Int32))] [(.int (0 : Int32)), (.ref x), (.int ((31 : Int32) * H))])
    obtain ⟨cq4, kq4, q4a, q4b, q4c⟩ := isOf hZ e3 E_x
    obtain ⟨_, _, ⟨T4, L4, ck4, cn4⟩, -, X4, ⟨Lc4, hQ4, l4, y4, z4⟩, st4⟩ := X3.virtualBack hx (y := (⟨"java/lang/String", "charAt", "(I)C"⟩ : MethodName)) (z := (⟨"java/lang/String", "charAt", "(I)C"⟩ : MethodName)) hown (mvT hZ (hw _ (List.mem_of_getElem? (i := 80) rfl))) (mvT hZ (hw _ (List.mem_of_getElem? (i := 81) rfl))) (notFace_of_selects (args := #[]) (mvT hZ (hw _ (List.mem_of_getElem? (i := 83) rfl)))) (mvT hZ (hw _ (List.mem_of_getElem? (i := 83) rfl))) (mvT hZ (hw _ (List.mem_of_getElem? (i := 82) rfl))) (by decide) (backOf (W := 1) (rm15 l Z a0 hw [] x (0 : Int32) t kb k0 k1 k2 k3 k4 k5 G1 hS n0 ZS E_x F_value_x N_x (Or.inl rfl) hW S_CS P_CS S_AD S_HI S_LO S_SI) hZ (hw _ (List.mem_of_getElem? (i := 84) rfl)) (hw _ (List.mem_of_getElem? (i := 4) rfl)) (by decide) (by decide)) q4a q4c (g := (mkF m 24 #[.val (.ref o0), .val (.int H), .val (.int (0 : Int32))] [(.int (0 : Int32)), (.ref x), (.int ((31 : Int32) * H))])) rfl (by rw [hml]; rfl) (Steps.refl _) (argsL := [(.int (0 : Int32))]) (rest := [(.int ((31 : Int32) * H))]) (lenOf pd_17 rfl) rfl (by show 2 * 0 + _ ≤ _; exact Nat.le_of_eq rfl) (hb hby d14_24) (fun _ _ => ⟨rfl, e3, (by decide : 0 + 0 ≤ _), (by decide : 0 + 0 ≤ _)⟩)
    dsimp only [Pt.U, Pt.locs, Pt.cells, Pt.slots] at X4 l4 y4 z4 st4 hQ4
    subst l4 y4 z4
    obtain ⟨rfl, N4q, e4⟩ := hQ4
    have N4 := Fr.app N0 N4q
    refine Go.st (fun _ k => st4.trans k) ?_
    show Go _ _ _ _ _ _ _ T4 (mkF m 27 #[.val (.ref o0), .val (.int H), .val (.int (0 : Int32))] [(.int (kF (0 : Int32) k0 k1 k2 k3 k4 k5)), (.int ((31 : Int32) * H))])
    refine Go.fr (f' := (mkF m 27 #[.val (.ref o0), .val (.int H), .val (.int (0 : Int32))] [(.int k0), (.int ((31 : Int32) * H))])) (by rfl) ?_
    show Go _ _ _ _ _ _ _ T4 (mkF m 27 #[.val (.ref o0), .val (.int H), .val (.int (0 : Int32))] [(.int k0), (.int ((31 : Int32) * H))])
    refine Go.st (fun _ k => XS.iadd X4.here hx rfl (hb hby d14_27) rfl k) ?_
    show Go _ _ _ _ _ _ _ T4 (mkF m 28 #[.val (.ref o0), .val (.int H), .val (.int (0 : Int32))] [(.int (((31 : Int32) * H) + k0))])
    refine Go.st (fun _ k => XS.istoreN X4.here hx rfl (hb hby d14_28) rfl (l' := #[.val (.ref o0), .val (.int (((31 : Int32) * H) + k0)), .val (.int (0 : Int32))]) rfl k) ?_
    show Go _ _ _ _ _ _ _ T4 (mkF m 29 #[.val (.ref o0), .val (.int (((31 : Int32) * H) + k0)), .val (.int (0 : Int32))] [])
    refine Go.st (fun _ k => XS.iinc X4.here hx rfl (hb hby d14_29) rfl (l' := #[.val (.ref o0), .val (.int (((31 : Int32) * H) + k0)), .val (.int ((0 : Int32) + (1 : Int32)))]) rfl k) ?_
    show Go _ _ _ _ _ _ _ T4 (mkF m 32 #[.val (.ref o0), .val (.int (((31 : Int32) * H) + k0)), .val (.int ((0 : Int32) + (1 : Int32)))] [])
    refine Go.fr (f' := (mkF m 32 #[.val (.ref o0), .val (.int (((31 : Int32) * H) + k0)), .val (.int (1 : Int32))] [])) (by rw [show ((0 : Int32) + (1 : Int32)) = (1 : Int32) from by decide +kernel]) ?_
    show Go _ _ _ _ _ _ _ T4 (mkF m 32 #[.val (.ref o0), .val (.int (((31 : Int32) * H) + k0)), .val (.int (1 : Int32))] [])
    refine Go.st (fun _ k => XS.goto X4.here hx rfl (pc0 := 32) (pc' := 7) rfl (hb hby d14_32) (by decide) (by decide) k) ?_
    show Go _ _ _ _ _ _ _ T4 (mkF m 7 #[.val (.ref o0), .val (.int (((31 : Int32) * H) + k0)), .val (.int (1 : Int32))] [])
    exact tl_h1 l Z a0 hw o0 x s_ e_ t kb k0 k1 k2 k3 k4 k5 G1 r ((31 : Int32) * H + k0) h0 hS n0 X4 hx hZ hby hml hown hnm hlk hret e4 N4 ZS F_text F_start F_end E_x F_value_x N_x hW he6 S_CS P_CS S_AD S_HI S_LO S_SI (by rw [hr]; exact if_pos hc2) hSe
  · refine Go.st (fun _ k => XS.icmpYes X1.here hx rfl (pc0 := 12) (pc' := 35) rfl (hb hby d14_12) rfl (flt hc2).2.1 (by decide) (by decide) k) ?_
    show Go _ _ _ _ _ _ _ T1 (mkF m 35 #[.val (.ref o0), .val (.int H), .val (.int (0 : Int32))] [])
    refine Go.st (fun _ k => XS.iloadN X1.here hx rfl (hb hby d14_35) rfl k) ?_
    show Go _ _ _ _ _ _ _ T1 (mkF m 36 #[.val (.ref o0), .val (.int H), .val (.int (0 : Int32))] [(.int H)])
    refine Go.ret X1 hlk (v := some (.int H)) (fun h => by rw [hret] at h; cases h) (fun fs hr => retOut X1 hx (t := .int) (i := .ireturn) hret rfl (Or.inl ⟨rfl, Or.inl rfl, _, rfl⟩) (hb hby d14_36) hr) ?_ (by decide) (by decide)
    show Q14 Z o0 x s_ e_ t kb k0 k1 k2 k3 k4 k5 G1 r h0 n0 (some (.int H)) T1.heap _
    rw [e1]
    refine ⟨?_, N0, hSe⟩
    rw [hr]
    exact congrArg (fun z => some (Value.int z)) (if_neg hc2).symm
theorem d14_0 : decode prog_89_method_7_code 0 = .ok (.iconst 0, 1) := by decide +kernel
theorem d14_1 : decode prog_89_method_7_code 1 = .ok (.istore_n 1, 1) := by decide +kernel
theorem d14_2 : decode prog_89_method_7_code 2 = .ok (.aload_n 0, 1) := by decide +kernel
theorem d14_3 : decode prog_89_method_7_code 3 = .ok (.getfield 30, 3) := by decide +kernel
theorem d14_6 : decode prog_89_method_7_code 6 = .ok (.istore_n 2, 1) := by decide +kernel
theorem ef_14 (m : MethodId) (o0 : Addr) : entryFrame m #[(.ref o0)] 3 = mkF m 0 #[.val (.ref o0), .unset, .unset] [] := by first | (simp [entryFrame, mkF, argsToLocals, Value.category]; done) | rfl
set_option maxRecDepth 65536 in
set_option maxHeartbeats 40000000 in
theorem rm14 (l : Launch) (Z : State) (a0 : Array Value) (hw : ∀ d ∈ tables_1, d.before a0 Z = true) (ws : List Jvm.Cond) (o0 : Addr) (x : Addr) (s_ : Int32) (e_ : Int32) (t : Addr) (kb : ClassId) (k0 : Int32) (k1 : Int32) (k2 : Int32) (k3 : Int32) (k4 : Int32) (k5 : Int32) (G1 : Int32) (r : Int32) (h0 : Heap) (n0 : Nat) (Z0 : n0 ≤ h0.size) (F_text : Fld Z h0 o0 "com/example/grantd/grantd/policy/TextSpan" "text" "Ljava/lang/String;" (.ref x)) (F_start : Fld Z h0 o0 "com/example/grantd/grantd/policy/TextSpan" "start" "I" (.int s_)) (F_end : Fld Z h0 o0 "com/example/grantd/grantd/policy/TextSpan" "end" "I" (.int e_)) (E_x : Exa Z h0 x "java/lang/String") (F_value_x : Fld Z h0 x "java/lang/String" "value" "[B" (.ref t)) (N_x : Enc Z h0 x t kb k0 k1 k2 k3 k4 k5) (hW : Wide16 k0 k1 k2 k3 k4 k5) (he6 : ¬ (6 : Int32) < e_) (S_CS : Sta Z h0 "java/lang/String" "COMPACT_STRINGS" "Z" (.int G1)) (P_CS : ¬ G1 = (0 : Int32)) (S_AD : Sta Z h0 "java/lang/StringUTF16" "$assertionsDisabled" "Z" (.int (1 : Int32))) (S_HI : Sta Z h0 "java/lang/StringUTF16" "HI_BYTE_SHIFT" "I" (.int (0 : Int32))) (S_LO : Sta Z h0 "java/lang/StringUTF16" "LO_BYTE_SHIFT" "I" (.int (8 : Int32))) (S_SI : StaR Z h0 "jdk/internal/util/Preconditions" "SIOOBE_FORMATTER" "Ljava/util/function/BiFunction;") (V_s : s_ = 0 ∨ s_ = 1 ∨ s_ = 2 ∨ s_ = 3 ∨ s_ = 4 ∨ s_ = 5 ∨ s_ = 6) (hr : r = hashW s_ e_ k0 k1 k2 k3 k4 k5) :
    MetFree l (⟨"com/example/grantd/grantd/policy/TextSpan", "textHash", "()I"⟩ : MethodName) (head1 (Jvm.Cond.code (⟨"com/example/grantd/grantd/policy/TextSpan", "textHash", "()I"⟩ : MethodName) prog_89_method_7_code 3 (some .int) :: ws) ({ frames := 5, cells := 0, slots := 0, locals := 67 } : Room)) (fun a U => a = #[(.ref o0)] ∧ Z.Warmed39 U.vm ∧ U.heap = h0) (fun _ _ _ _ _ => True) (fun _ U o U' => ∃ v L, o = .returned v ∧ Q14 Z o0 x s_ e_ t kb k0 k1 k2 k3 k4 k5 G1 r h0 n0 v U'.heap L ∧ FrameEnd U o U' L ({ frames := 5, cells := 0, slots := 0, locals := 67 } : Room).cells ({ frames := 5, cells := 0, slots := 0, locals := 67 } : Room).slots) := by
  refine MetFree.of_bodySF (plainFor_of_name pn_com_example_grantd_grantd_policy_TextSpan) hisR ?_
  intro p e s m args below meth c s₁ Bd hml0 hP hK
  obtain ⟨rfl, hZ, hh⟩ := hP
  have hx := Bd.exec
  have hby := Bd.bytes
  have hlk : meth.locks = false := BodyLoose.notSynchronized Bd
  have hret := Bd.returns
  have hml : c.maxLocals = 3 := hml0
  have hown : s.vm.findClass "com/example/grantd/grantd/policy/TextSpan" = some m.cls := findClass_of_methodNamed Bd.named
  have hnm := (name_of_methodNamed Bd.named Bd.method).1
  have X0 : Stand p l e ({ frames := 5, cells := 0, slots := 0, locals := 67 } : Room) s m #[(.ref o0)] below meth c s₁ [] 0 0 := Stand.of_body Bd
  have e0 : s₁.heap = h0 := by rw [← hh, Bd.state]; rfl
  have N0 := Fr.nil n0
  refine Go.start (Q := Q14 Z o0 x s_ e_ t kb k0 k1 k2 k3 k4 k5 G1 r h0 n0) (ef_14 m o0) ?_
  rcases V_s with hs | hs | hs | hs | hs | hs | hs
  · show Go _ _ _ _ _ _ _ s₁ (mkF m 0 #[.val (.ref o0), .unset, .unset] [])
    refine Go.st (fun _ k => XS.iconst X0.here hx rfl (hb hby d14_0) k) ?_
    show Go _ _ _ _ _ _ _ s₁ (mkF m 1 #[.val (.ref o0), .unset, .unset] [(.int (0 : Int32))])
    refine Go.st (fun _ k => XS.istoreN X0.here hx rfl (hb hby d14_1) rfl (l' := #[.val (.ref o0), .val (.int (0 : Int32)), .unset]) rfl k) ?_
    show Go _ _ _ _ _ _ _ s₁ (mkF m 2 #[.val (.ref o0), .val (.int (0 : Int32)), .unset] [])
    refine Go.st (fun _ k => XS.aloadN X0.here hx rfl (hb hby d14_2) rfl rfl k) ?_
    show Go _ _ _ _ _ _ _ s₁ (mkF m 3 #[.val (.ref o0), .val (.int (0 : Int32)), .unset] [(.ref o0)])
    obtain ⟨T1, X1, e1, st1⟩ := getF X0 hx hZ hown (host := "") (Or.inl (hw _ (List.mem_of_getElem? (i := 64) rfl))) Via.refl e0 F_start (g := (mkF m 3 #[.val (.ref o0), .val (.int (0 : Int32)), .unset] [(.ref o0)])) rfl rfl (hb hby d14_3)
    refine Go.st st1 ?_
    show Go _ _ _ _ _ _ _ T1 (mkF m 6 #[.val (.ref o0), .val (.int (0 : Int32)), .unset] [(.int s_)])
    refine Go.fr (f' := (mkF m 6 #[.val (.ref o0), .val (.int (0 : Int32)), .unset] [(.int (0 : Int32))])) (by rw [hs]) ?_
    show Go _ _ _ _ _ _ _ T1 (mkF m 6 #[.val (.ref o0), .val (.int (0 : Int32)), .unset] [(.int (0 : Int32))])
    refine Go.st (fun _ k => XS.istoreN X1.here hx rfl (hb hby d14_6) rfl (l' := #[.val (.ref o0), .val (.int (0 : Int32)), .val (.int (0 : Int32))]) rfl k) ?_
    show Go _ _ _ _ _ _ _ T1 (mkF m 7 #[.val (.ref o0), .val (.int (0 : Int32)), .val (.int (0 : Int32))] [])
    exact tl_h0 l Z a0 hw o0 x s_ e_ t kb k0 k1 k2 k3 k4 k5 G1 r (0 : Int32) h0 h0 n0 X1 hx hZ hby hml hown hnm hlk hret e1 N0 Z0 F_text F_start F_end E_x F_value_x N_x hW he6 S_CS P_CS S_AD S_HI S_LO S_SI (by rw [hr]; exact own_hs0 hs) rfl
  · show Go _ _ _ _ _ _ _ s₁ (mkF m 0 #[.val (.ref o0), .unset, .unset] [])
    refine Go.st (fun _ k => XS.iconst X0.here hx rfl (hb hby d14_0) k) ?_
    show Go _ _ _ _ _ _ _ s₁ (mkF m 1 #[.val (.ref o0), .unset, .unset] [(.int (0 : Int32))])
    refine Go.st (fun _ k => XS.istoreN X0.here hx rfl (hb hby d14_1) rfl (l' := #[.val (.ref o0), .val (.int (0 : Int32)), .unset]) rfl k) ?_
    show Go _ _ _ _ _ _ _ s₁ (mkF m 2 #[.val (.ref o0), .val (.int (0 : Int32)), .unset] [])
    refine Go.st (fun _ k => XS.aloadN X0.here hx rfl (hb hby d14_2) rfl rfl k) ?_
    show Go _ _ _ _ _ _ _ s₁ (mkF m 3 #[.val (.ref o0), .val (.int (0 : Int32)), .unset] [(.ref o0)])
    obtain ⟨T2, X2, e2, st2⟩ := getF X0 hx hZ hown (host := "") (Or.inl (hw _ (List.mem_of_getElem? (i := 64) rfl))) Via.refl e0 F_start (g := (mkF m 3 #[.val (.ref o0), .val (.int (0 : Int32)), .unset] [(.ref o0)])) rfl rfl (hb hby d14_3)
    refine Go.st st2 ?_
    show Go _ _ _ _ _ _ _ T2 (mkF m 6 #[.val (.ref o0), .val (.int (0 : Int32)), .unset] [(.int s_)])
    refine Go.fr (f' := (mkF m 6 #[.val (.ref o0), .val (.int (0 : Int32)), .unset] [(.int (1 : Int32))])) (by rw [hs]) ?_
    show Go _ _ _ _ _ _ _ T2 (mkF m 6 #[.val (.ref o0), .val (.int (0 : Int32)), .unset] [(.int (1 : Int32))])
    refine Go.st (fun _ k => XS.istoreN X2.here hx rfl (hb hby d14_6) rfl (l' := #[.val (.ref o0), .val (.int (0 : Int32)), .val (.int (1 : Int32))]) rfl k) ?_
    show Go _ _ _ _ _ _ _ T2 (mkF m 7 #[.val (.ref o0), .val (.int (0 : Int32)), .val (.int (1 : Int32))] [])
    exact tl_h1 l Z a0 hw o0 x s_ e_ t kb k0 k1 k2 k3 k4 k5 G1 r (0 : Int32) h0 h0 n0 X2 hx hZ hby hml hown hnm hlk hret e2 N0 Z0 F_text F_start F_end E_x F_value_x N_x hW he6 S_CS P_CS S_AD S_HI S_LO S_SI (by rw [hr]; exact own_hs1 hs) rfl
  · show Go _ _ _ _ _ _ _ s₁ (mkF m 0 #[.val (.ref o0), .unset, .unset] [])
    refine Go.st (fun _ k => XS.iconst X0.here hx rfl (hb hby d14_0) k) ?_
    show Go _ _ _ _ _ _ _ s₁ (mkF m 1 #[.val (.ref o0), .unset, .unset] [(.int (0 : Int32))])
    refine Go.st (fun _ k => XS.istoreN X0.here hx rfl (hb hby d14_1) rfl (l' := #[.val (.ref o0), .val (.int (0 : Int32)), .unset]) rfl k) ?_
    show Go _ _ _ _ _ _ _ s₁ (mkF m 2 #[.val (.ref o0), .val (.int (0 : Int32)), .unset] [])
    refine Go.st (fun _ k => XS.aloadN X0.here hx rfl (hb hby d14_2) rfl rfl k) ?_
    show Go _ _ _ _ _ _ _ s₁ (mkF m 3 #[.val (.ref o0), .val (.int (0 : Int32)), .unset] [(.ref o0)])
    obtain ⟨T3, X3, e3, st3⟩ := getF X0 hx hZ hown (host := "") (Or.inl (hw _ (List.mem_of_getElem? (i := 64) rfl))) Via.refl e0 F_start (g := (mkF m 3 #[.val (.ref o0), .val (.int (0 : Int32)), .unset] [(.ref o0)])) rfl rfl (hb hby d14_3)
    refine Go.st st3 ?_
    show Go _ _ _ _ _ _ _ T3 (mkF m 6 #[.val (.ref o0), .val (.int (0 : Int32)), .unset] [(.int s_)])
    refine Go.fr (f' := (mkF m 6 #[.val (.ref o0), .val (.int (0 : Int32)), .unset] [(.int (2 : Int32))])) (by rw [hs]) ?_
    show Go _ _ _ _ _ _ _ T3 (mkF m 6 #[.val (.ref o0), .val (.int (0 : Int32)), .unset] [(.int (2 : Int32))])
    refine Go.st (fun _ k => XS.istoreN X3.here hx rfl (hb hby d14_6) rfl (l' := #[.val (.ref o0), .val (.int (0 : Int32)), .val (.int (2 : Int32))]) rfl k) ?_
    show Go _ _ _ _ _ _ _ T3 (mkF m 7 #[.val (.ref o0), .val (.int (0 : Int32)), .val (.int (2 : Int32))] [])
    exact tl_h2 l Z a0 hw o0 x s_ e_ t kb k0 k1 k2 k3 k4 k5 G1 r (0 : Int32) h0 h0 n0 X3 hx hZ hby hml hown hnm hlk hret e3 N0 Z0 F_text F_start F_end E_x F_value_x N_x hW he6 S_CS P_CS S_AD S_HI S_LO S_SI (by rw [hr]; exact own_hs2 hs) rfl
  · show Go _ _ _ _ _ _ _ s₁ (mkF m 0 #[.val (.ref o0), .unset, .unset] [])
    refine Go.st (fun _ k => XS.iconst X0.here hx rfl (hb hby d14_0) k) ?_
    show Go _ _ _ _ _ _ _ s₁ (mkF m 1 #[.val (.ref o0), .unset, .unset] [(.int (0 : Int32))])
    refine Go.st (fun _ k => XS.istoreN X0.here hx rfl (hb hby d14_1) rfl (l' := #[.val (.ref o0), .val (.int (0 : Int32)), .unset]) rfl k) ?_
    show Go _ _ _ _ _ _ _ s₁ (mkF m 2 #[.val (.ref o0), .val (.int (0 : Int32)), .unset] [])
    refine Go.st (fun _ k => XS.aloadN X0.here hx rfl (hb hby d14_2) rfl rfl k) ?_
    show Go _ _ _ _ _ _ _ s₁ (mkF m 3 #[.val (.ref o0), .val (.int (0 : Int32)), .unset] [(.ref o0)])
    obtain ⟨T4, X4, e4, st4⟩ := getF X0 hx hZ hown (host := "") (Or.inl (hw _ (List.mem_of_getElem? (i := 64) rfl))) Via.refl e0 F_start (g := (mkF m 3 #[.val (.ref o0), .val (.int (0 : Int32)), .unset] [(.ref o0)])) rfl rfl (hb hby d14_3)
    refine Go.st st4 ?_
    show Go _ _ _ _ _ _ _ T4 (mkF m 6 #[.val (.ref o0), .val (.int (0 : Int32)), .unset] [(.int s_)])
    refine Go.fr (f' := (mkF m 6 #[.val (.ref o0), .val (.int (0 : Int32)), .unset] [(.int (3 : Int32))])) (by rw [hs]) ?_
    show Go _ _ _ _ _ _ _ T4 (mkF m 6 #[.val (.ref o0), .val (.int (0 : Int32)), .unset] [(.int (3 : Int32))])
    refine Go.st (fun _ k => XS.istoreN X4.here hx rfl (hb hby d14_6) rfl (l' := #[.val (.ref o0), .val (.int (0 : Int32)), .val (.int (3 : Int32))]) rfl k) ?_
    show Go _ _ _ _ _ _ _ T4 (mkF m 7 #[.val (.ref o0), .val (.int (0 : Int32)), .val (.int (3 : Int32))] [])
    exact tl_h3 l Z a0 hw o0 x s_ e_ t kb k0 k1 k2 k3 k4 k5 G1 r (0 : Int32) h0 h0 n0 X4 hx hZ hby hml hown hnm hlk hret e4 N0 Z0 F_text F_start F_end E_x F_value_x N_x hW he6 S_CS P_CS S_AD S_HI S_LO S_SI (by rw [hr]; exact own_hs3 hs) rfl
  · show Go _ _ _ _ _ _ _ s₁ (mkF m 0 #[.val (.ref o0), .unset, .unset] [])
    refine Go.st (fun _ k => XS.iconst X0.here hx rfl (hb hby d14_0) k) ?_
    show Go _ _ _ _ _ _ _ s₁ (mkF m 1 #[.val (.ref o0), .unset, .unset] [(.int (0 : Int32))])
    refine Go.st (fun _ k => XS.istoreN X0.here hx rfl (hb hby d14_1) rfl (l' := #[.val (.ref o0), .val (.int (0 : Int32)), .unset]) rfl k) ?_
    show Go _ _ _ _ _ _ _ s₁ (mkF m 2 #[.val (.ref o0), .val (.int (0 : Int32)), .unset] [])
    refine Go.st (fun _ k => XS.aloadN X0.here hx rfl (hb hby d14_2) rfl rfl k) ?_
    show Go _ _ _ _ _ _ _ s₁ (mkF m 3 #[.val (.ref o0), .val (.int (0 : Int32)), .unset] [(.ref o0)])
    obtain ⟨T5, X5, e5, st5⟩ := getF X0 hx hZ hown (host := "") (Or.inl (hw _ (List.mem_of_getElem? (i := 64) rfl))) Via.refl e0 F_start (g := (mkF m 3 #[.val (.ref o0), .val (.int (0 : Int32)), .unset] [(.ref o0)])) rfl rfl (hb hby d14_3)
    refine Go.st st5 ?_
    show Go _ _ _ _ _ _ _ T5 (mkF m 6 #[.val (.ref o0), .val (.int (0 : Int32)), .unset] [(.int s_)])
    refine Go.fr (f' := (mkF m 6 #[.val (.ref o0), .val (.int (0 : Int32)), .unset] [(.int (4 : Int32))])) (by rw [hs]) ?_
    show Go _ _ _ _ _ _ _ T5 (mkF m 6 #[.val (.ref o0), .val (.int (0 : Int32)), .unset] [(.int (4 : Int32))])
    refine Go.st (fun _ k => XS.istoreN X5.here hx rfl (hb hby d14_6) rfl (l' := #[.val (.ref o0), .val (.int (0 : Int32)), .val (.int (4 : Int32))]) rfl k) ?_
    show Go _ _ _ _ _ _ _ T5 (mkF m 7 #[.val (.ref o0), .val (.int (0 : Int32)), .val (.int (4 : Int32))] [])
    exact tl_h4 l Z a0 hw o0 x s_ e_ t kb k0 k1 k2 k3 k4 k5 G1 r (0 : Int32) h0 h0 n0 X5 hx hZ hby hml hown hnm hlk hret e5 N0 Z0 F_text F_start F_end E_x F_value_x N_x hW he6 S_CS P_CS S_AD S_HI S_LO S_SI (by rw [hr]; exact own_hs4 hs) rfl
  · show Go _ _ _ _ _ _ _ s₁ (mkF m 0 #[.val (.ref o0), .unset, .unset] [])
    refine Go.st (fun _ k => XS.iconst X0.here hx rfl (hb hby d14_0) k) ?_
    show Go _ _ _ _ _ _ _ s₁ (mkF m 1 #[.val (.ref o0), .unset, .unset] [(.int (0 : Int32))])
    refine Go.st (fun _ k => XS.istoreN X0.here hx rfl (hb hby d14_1) rfl (l' := #[.val (.ref o0), .val (.int (0 : Int32)), .unset]) rfl k) ?_
    show Go _ _ _ _ _ _ _ s₁ (mkF m 2 #[.val (.ref o0), .val (.int (0 : Int32)), .unset] [])
    refine Go.st (fun _ k => XS.aloadN X0.here hx rfl (hb hby d14_2) rfl rfl k) ?_
    show Go _ _ _ _ _ _ _ s₁ (mkF m 3 #[.val (.ref o0), .val (.int (0 : Int32)), .unset] [(.ref o0)])
    obtain ⟨T6, X6, e6, st6⟩ := getF X0 hx hZ hown (host := "") (Or.inl (hw _ (List.mem_of_getElem? (i := 64) rfl))) Via.refl e0 F_start (g := (mkF m 3 #[.val (.ref o0), .val (.int (0 : Int32)), .unset] [(.ref o0)])) rfl rfl (hb hby d14_3)
    refine Go.st st6 ?_
    show Go _ _ _ _ _ _ _ T6 (mkF m 6 #[.val (.ref o0), .val (.int (0 : Int32)), .unset] [(.int s_)])
    refine Go.fr (f' := (mkF m 6 #[.val (.ref o0), .val (.int (0 : Int32)), .unset] [(.int (5 : Int32))])) (by rw [hs]) ?_
    show Go _ _ _ _ _ _ _ T6 (mkF m 6 #[.val (.ref o0), .val (.int (0 : Int32)), .unset] [(.int (5 : Int32))])
    refine Go.st (fun _ k => XS.istoreN X6.here hx rfl (hb hby d14_6) rfl (l' := #[.val (.ref o0), .val (.int (0 : Int32)), .val (.int (5 : Int32))]) rfl k) ?_
    show Go _ _ _ _ _ _ _ T6 (mkF m 7 #[.val (.ref o0), .val (.int (0 : Int32)), .val (.int (5 : Int32))] [])
    exact tl_h5 l Z a0 hw o0 x s_ e_ t kb k0 k1 k2 k3 k4 k5 G1 r (0 : Int32) h0 h0 n0 X6 hx hZ hby hml hown hnm hlk hret e6 N0 Z0 F_text F_start F_end E_x F_value_x N_x hW he6 S_CS P_CS S_AD S_HI S_LO S_SI (by rw [hr]; exact own_hs5 hs) rfl
  · show Go _ _ _ _ _ _ _ s₁ (mkF m 0 #[.val (.ref o0), .unset, .unset] [])
    refine Go.st (fun _ k => XS.iconst X0.here hx rfl (hb hby d14_0) k) ?_
    show Go _ _ _ _ _ _ _ s₁ (mkF m 1 #[.val (.ref o0), .unset, .unset] [(.int (0 : Int32))])
    refine Go.st (fun _ k => XS.istoreN X0.here hx rfl (hb hby d14_1) rfl (l' := #[.val (.ref o0), .val (.int (0 : Int32)), .unset]) rfl k) ?_
    show Go _ _ _ _ _ _ _ s₁ (mkF m 2 #[.val (.ref o0), .val (.int (0 : Int32)), .unset] [])
    refine Go.st (fun _ k => XS.aloadN X0.here hx rfl (hb hby d14_2) rfl rfl k) ?_
    show Go _ _ _ _ _ _ _ s₁ (mkF m 3 #[.val (.ref o0), .val (.int (0 : Int32)), .unset] [(.ref o0)])
    obtain ⟨T7, X7, e7, st7⟩ := getF X0 hx hZ hown (host := "") (Or.inl (hw _ (List.mem_of_getElem? (i := 64) rfl))) Via.refl e0 F_start (g := (mkF m 3 #[.val (.ref o0), .val (.int (0 : Int32)), .unset] [(.ref o0)])) rfl rfl (hb hby d14_3)
    refine Go.st st7 ?_
    show Go _ _ _ _ _ _ _ T7 (mkF m 6 #[.val (.ref o0), .val (.int (0 : Int32)), .unset] [(.int s_)])
    refine Go.fr (f' := (mkF m 6 #[.val (.ref o0), .val (.int (0 : Int32)), .unset] [(.int (6 : Int32))])) (by rw [hs]) ?_
    show Go _ _ _ _ _ _ _ T7 (mkF m 6 #[.val (.ref o0), .val (.int (0 : Int32)), .unset] [(.int (6 : Int32))])
    refine Go.st (fun _ k => XS.istoreN X7.here hx rfl (hb hby d14_6) rfl (l' := #[.val (.ref o0), .val (.int (0 : Int32)), .val (.int (6 : Int32))]) rfl k) ?_
    show Go _ _ _ _ _ _ _ T7 (mkF m 7 #[.val (.ref o0), .val (.int (0 : Int32)), .val (.int (6 : Int32))] [])
    exact tl_h6 l Z a0 hw o0 x s_ e_ t kb k0 k1 k2 k3 k4 k5 G1 r (0 : Int32) h0 h0 n0 X7 hx hZ hby hml hown hnm hlk hret e7 N0 Z0 F_text F_start F_end E_x F_value_x N_x hW he6 S_CS P_CS S_AD S_HI S_LO S_SI (by rw [hr]; exact own_hs6 hs) rfl
def termW (p1 p2 p3 k0 k1 k2 k3 k4 k5 : Int32) : Int32 := if p1 < p2 then 0 else if p1 < p3 then kF p1 k0 k1 k2 k3 k4 k5 * pwF ((p3 - 1) - p1) else 0
theorem own_sub {p1 p3 : Int32} (V : p1 = 0 ∨ p1 = 1 ∨ p1 = 2 ∨ p1 = 3 ∨ p1 = 4 ∨ p1 = 5) (h2 : ¬ (6 : Int32) < p3) (h3 : p1 < p3) : (p3 - 1) - p1 = 0 ∨ (p3 - 1) - p1 = 1 ∨ (p3 - 1) - p1 = 2 ∨ (p3 - 1) - p1 = 3 ∨ (p3 - 1) - p1 = 4 ∨ (p3 - 1) - p1 = 5 := by
  have v := own_v6 V
  have s1 := c_isub p3 1
  have s2 := c_isub (p3 - 1) p1
  have r1 := rng32 (p3 - 1)
  have r2 := rng32 ((p3 - 1) - p1)
  have e0 : (0 : Int32).toInt = 0 := by decide
  have e1 : (1 : Int32).toInt = 1 := by decide
  have e6 : (6 : Int32).toInt = 6 := by decide
  simp only [Int32.lt_iff_toInt_lt] at *
  refine own_six ?_ ?_ <;> rw [Int32.lt_iff_toInt_lt] <;> omega
theorem d13_0 : decode method_2_code 0 = .ok (.bipush 6, 2) := by decide +kernel
theorem d13_2 : decode method_2_code 2 = .ok (.newarray .int, 2) := by decide +kernel
theorem d13_4 : decode method_2_code 4 = .ok (.dup, 1) := by decide +kernel
theorem d13_5 : decode method_2_code 5 = .ok (.iconst 0, 1) := by decide +kernel
theorem d13_6 : decode method_2_code 6 = .ok (.iconst 1, 1) := by decide +kernel
theorem d13_7 : decode method_2_code 7 = .ok (.iastore, 1) := by decide +kernel
theorem d13_8 : decode method_2_code 8 = .ok (.dup, 1) := by decide +kernel
theorem d13_9 : decode method_2_code 9 = .ok (.iconst 1, 1) := by decide +kernel
theorem d13_10 : decode method_2_code 10 = .ok (.bipush 31, 2) := by decide +kernel
theorem d13_12 : decode method_2_code 12 = .ok (.iastore, 1) := by decide +kernel
theorem d13_13 : decode method_2_code 13 = .ok (.dup, 1) := by decide +kernel
theorem d13_14 : decode method_2_code 14 = .ok (.iconst 2, 1) := by decide +kernel
theorem d13_15 : decode method_2_code 15 = .ok (.sipush 961, 3) := by decide +kernel
theorem d13_18 : decode method_2_code 18 = .ok (.iastore, 1) := by decide +kernel
theorem d13_19 : decode method_2_code 19 = .ok (.dup, 1) := by decide +kernel
theorem d13_20 : decode method_2_code 20 = .ok (.iconst 3, 1) := by decide +kernel
theorem d13_21 : decode method_2_code 21 = .ok (.sipush 29791, 3) := by decide +kernel
theorem d13_24 : decode method_2_code 24 = .ok (.iastore, 1) := by decide +kernel
theorem d13_25 : decode method_2_code 25 = .ok (.dup, 1) := by decide +kernel
theorem d13_26 : decode method_2_code 26 = .ok (.iconst 4, 1) := by decide +kernel
theorem d13_27 : decode method_2_code 27 = .ok (.ldc 7, 2) := by decide +kernel
theorem d13_29 : decode method_2_code 29 = .ok (.iastore, 1) := by decide +kernel
theorem d13_30 : decode method_2_code 30 = .ok (.dup, 1) := by decide +kernel
theorem d13_31 : decode method_2_code 31 = .ok (.iconst 5, 1) := by decide +kernel
theorem d13_32 : decode method_2_code 32 = .ok (.ldc 8, 2) := by decide +kernel
theorem d13_34 : decode method_2_code 34 = .ok (.iastore, 1) := by decide +kernel
theorem d13_35 : decode method_2_code 35 = .ok (.astore 4, 2) := by decide +kernel
theorem d13_37 : decode method_2_code 37 = .ok (.iload_n 2, 1) := by decide +kernel
theorem d13_38 : decode method_2_code 38 = .ok (.iload_n 1, 1) := by decide +kernel
theorem d13_39 : decode method_2_code 39 = .ok (.if_icmp .gt 21, 3) := by decide +kernel
theorem d13_42 : decode method_2_code 42 = .ok (.iload_n 1, 1) := by decide +kernel
theorem d13_43 : decode method_2_code 43 = .ok (.iload_n 3, 1) := by decide +kernel
theorem d13_44 : decode method_2_code 44 = .ok (.if_icmp .ge 16, 3) := by decide +kernel
theorem d13_47 : decode method_2_code 47 = .ok (.aload_n 0, 1) := by decide +kernel
theorem d13_48 : decode method_2_code 48 = .ok (.iload_n 1, 1) := by decide +kernel
theorem d13_49 : decode method_2_code 49 = .ok (.caload, 1) := by decide +kernel
theorem d13_50 : decode method_2_code 50 = .ok (.aload 4, 2) := by decide +kernel
theorem d13_52 : decode method_2_code 52 = .ok (.iload_n 3, 1) := by decide +kernel
theorem d13_53 : decode method_2_code 53 = .ok (.iconst 1, 1) := by decide +kernel
theorem d13_54 : decode method_2_code 54 = .ok (.isub, 1) := by decide +kernel
theorem d13_55 : decode method_2_code 55 = .ok (.iload_n 1, 1) := by decide +kernel
theorem d13_56 : decode method_2_code 56 = .ok (.isub, 1) := by decide +kernel
theorem d13_57 : decode method_2_code 57 = .ok (.iaload, 1) := by decide +kernel
theorem d13_58 : decode method_2_code 58 = .ok (.imul, 1) := by decide +kernel
theorem d13_59 : decode method_2_code 59 = .ok (.ireturn, 1) := by decide +kernel
theorem d13_60 : decode method_2_code 60 = .ok (.iconst 0, 1) := by decide +kernel
theorem d13_61 : decode method_2_code 61 = .ok (.ireturn, 1) := by decide +kernel
theorem ef_13 (m : MethodId) (o0 : Addr) (p1 : Int32) (p2 : Int32) (p3 : Int32) : entryFrame m #[(.ref o0), (.int p1), (.int p2), (.int p3)] 5 = mkF m 0 #[.val (.ref o0), .val (.int p1), .val (.int p2), .val (.int p3), .unset] [] := by first | (simp [entryFrame, mkF, argsToLocals, Value.category]; done) | rfl
def Q13 (Z : State) (o0 : Addr) (p1 : Int32) (p2 : Int32) (p3 : Int32) (kc : ClassId) (k0 : Int32) (k1 : Int32) (k2 : Int32) (k3 : Int32) (k4 : Int32) (k5 : Int32) (h0 : Heap) (n0 : Nat) (v : Option Value) (h : Heap) (L : List Loc) : Prop := v = some (.int (termW p1 p2 p3 k0 k1 k2 k3 k4 k5)) ∧ Fr n0 L ∧ Keep h0 h []
set_option maxRecDepth 65536 in
set_option maxHeartbeats 40000000 in
theorem rm13 (l : Launch) (Z : State) (a0 : Array Value) (hw : ∀ d ∈ tables_1, d.before a0 Z = true) (ws : List Jvm.Cond) (o0 : Addr) (p1 : Int32) (p2 : Int32) (p3 : Int32) (kc : ClassId) (k0 : Int32) (k1 : Int32) (k2 : Int32) (k3 : Int32) (k4 : Int32) (k5 : Int32) (h0 : Heap) (n0 : Nat) (Z0 : n0 ≤ h0.size) (V_o0 : Arv Z h0 o0 kc .char (6 : Int32) [(.int k0), (.int k1), (.int k2), (.int k3), (.int k4), (.int k5)] (.int (0 : Int32))) (V_p1 : p1 = 0 ∨ p1 = 1 ∨ p1 = 2 ∨ p1 = 3 ∨ p1 = 4 ∨ p1 = 5) (he : ¬ (6 : Int32) < p3) :
    MetFree l (⟨"com/example/grantd/grantd/policy/TextSpanTextHashPinLaw", "term", "([CIII)I"⟩ : MethodName) (head1 (Jvm.Cond.code (⟨"com/example/grantd/grantd/policy/TextSpanTextHashPinLaw", "term", "([CIII)I"⟩ : MethodName) method_2_code 5 (some .int) :: ws) ({ frames := 0, cells := 1, slots := 6, locals := 0 } : Room)) (fun a U => a = #[(.ref o0), (.int p1), (.int p2), (.int p3)] ∧ Z.Warmed39 U.vm ∧ U.heap = h0) (fun _ _ _ _ _ => True) (fun _ U o U' => ∃ v L, o = .returned v ∧ Q13 Z o0 p1 p2 p3 kc k0 k1 k2 k3 k4 k5 h0 n0 v U'.heap L ∧ FrameEnd U o U' L ({ frames := 0, cells := 1, slots := 6, locals := 0 } : Room).cells ({ frames := 0, cells := 1, slots := 6, locals := 0 } : Room).slots) := by
  refine MetFree.of_bodySF (plainFor_of_name pn_com_example_grantd_grantd_policy_TextSpanTextHashPinLaw) hisR ?_
  intro p e s m args below meth c s₁ Bd hml0 hP hK
  obtain ⟨rfl, hZ, hh⟩ := hP
  have hx := Bd.exec
  have hby := Bd.bytes
  have hlk : meth.locks = false := BodyLoose.notSynchronized Bd
  have hret := Bd.returns
  have hml : c.maxLocals = 5 := hml0
  have hown : s.vm.findClass "com/example/grantd/grantd/policy/TextSpanTextHashPinLaw" = some m.cls := findClass_of_methodNamed Bd.named
  have hnm := (name_of_methodNamed Bd.named Bd.method).1
  have X0 : Stand p l e ({ frames := 0, cells := 1, slots := 6, locals := 0 } : Room) s m #[(.ref o0), (.int p1), (.int p2), (.int p3)] below meth c s₁ [] 0 0 := Stand.of_body Bd
  have e0 : s₁.heap = h0 := by rw [← hh, Bd.state]; rfl
  have N0 := Fr.nil n0
  refine Go.start (Q := Q13 Z o0 p1 p2 p3 kc k0 k1 k2 k3 k4 k5 h0 n0) (ef_13 m o0 p1 p2 p3) ?_
  show Go _ _ _ _ _ _ _ s₁ (mkF m 0 #[.val (.ref o0), .val (.int p1), .val (.int p2), .val (.int p3), .unset] [])
  refine Go.st (fun _ k => XS.bipush X0.here hx rfl (hb hby d13_0) k) ?_
  show Go _ _ _ _ _ _ _ s₁ (mkF m 2 #[.val (.ref o0), .val (.int p1), .val (.int p2), .val (.int p3), .unset] [(.int (6 : Int32))])
  obtain ⟨T1, h1, ck1, X1, e1, E1, A1, st1⟩ := newP X0 hx hZ (hw _ (List.mem_of_getElem? (i := 72) rfl)) e0 (g := (mkF m 2 #[.val (.ref o0), .val (.int p1), .val (.int p2), .val (.int p3), .unset] [(.int (6 : Int32))])) rfl (hb hby d13_2) rfl (by decide) (cap := 6) (by decide) (by decide) (by decide) (by decide)
  obtain ⟨b1, g1⟩ : ∃ z, z = h0.size := ⟨_, rfl⟩
  rw [← g1] at A1 st1
  have ne2 : o0 ≠ b1 := Nat.ne_of_lt (Nat.lt_of_lt_of_le V_o0.lt (Nat.le_of_eq g1.symm))
  have g_b1 : n0 ≤ b1 := Nat.le_trans Z0 (Nat.le_of_eq g1.symm)
  have sz_b1 : h0.size ≤ b1 := Nat.le_trans (Nat.le_refl _) (Nat.le_of_eq g1.symm)
  have V_o0__1 := V_o0.ext E1
  have Z1 : n0 ≤ h1.size := Nat.le_trans Z0 E1.1
  have KK1 : Keep h0 h1 [] := (Keep.refl h0 []).ext E1
  have V_b1 : Arv Z h1 b1 ck1 .int (6 : Int32) [(.int (0 : Int32)), (.int (0 : Int32)), (.int (0 : Int32)), (.int (0 : Int32)), (.int (0 : Int32)), (.int (0 : Int32))] (.int (0 : Int32)) := (Arv.new A1 (by decide)).pad (pad_rep [] (.int (0 : Int32)) 6)
  refine Go.st st1 ?_
  show Go _ _ _ _ _ _ _ T1 (mkF m 4 #[.val (.ref o0), .val (.int p1), .val (.int p2), .val (.int p3), .unset] [(.ref b1)])
  refine Go.st (fun _ k => XS.dup X1.here hx rfl (hb hby d13_4) rfl rfl k) ?_
  show Go _ _ _ _ _ _ _ T1 (mkF m 5 #[.val (.ref o0), .val (.int p1), .val (.int p2), .val (.int p3), .unset] [(.ref b1), (.ref b1)])
  refine Go.st (fun _ k => XS.iconst X1.here hx rfl (hb hby d13_5) k) ?_
  show Go _ _ _ _ _ _ _ T1 (mkF m 6 #[.val (.ref o0), .val (.int p1), .val (.int p2), .val (.int p3), .unset] [(.int (0 : Int32)), (.ref b1), (.ref b1)])
  refine Go.st (fun _ k => XS.iconst X1.here hx rfl (hb hby d13_6) k) ?_
  show Go _ _ _ _ _ _ _ T1 (mkF m 7 #[.val (.ref o0), .val (.int p1), .val (.int p2), .val (.int p3), .unset] [(.int (1 : Int32)), (.int (0 : Int32)), (.ref b1), (.ref b1)])
  obtain ⟨cl3, Ar3, qq3, SS3, NN3, HH3, GG3⟩ := id V_b1
  have hin4 : ¬ ((0 : Int32) < 0 ∨ cl3.slots.size ≤ ((0 : Int32)).toNatClampNeg) := inb_of SS3 ⟨by decide, by decide⟩
  obtain ⟨T5, h5, X5, e5, W5, st5⟩ := stI X1 hx hZ e1 Ar3 (j := (0 : Int32)) hin4 (g := (mkF m 7 #[.val (.ref o0), .val (.int p1), .val (.int p2), .val (.int p3), .unset] [(.int (1 : Int32)), (.int (0 : Int32)), (.ref b1), (.ref b1)])) rfl rfl (hb hby d13_7)
  have V_b1__5 : Arv Z h5 b1 ck1 .int (6 : Int32) [(.int (1 : Int32)), (.int (0 : Int32)), (.int (0 : Int32)), (.int (0 : Int32)), (.int (0 : Int32)), (.int (0 : Int32))] (.int (0 : Int32)) := Arv.set Ar3 qq3 SS3 NN3 HH3 GG3 rfl W5 0 rfl (Nat.le_of_ble_eq_true rfl)
  have V_o0__5 := V_o0__1.other W5 ne2
  have Z5 : n0 ≤ h5.size := Nat.le_trans Z1 (Keep.of_wr W5).1
  have KK5 : Keep h0 h5 [] := KK1.wr W5 (Or.inr sz_b1)
  have N5 := Fr.snoc X5 N0 g_b1
  refine Go.st st5 ?_
  show Go _ _ _ _ _ _ _ T5 (mkF m 8 #[.val (.ref o0), .val (.int p1), .val (.int p2), .val (.int p3), .unset] [(.ref b1)])
  refine Go.st (fun _ k => XS.dup X5.here hx rfl (hb hby d13_8) rfl rfl k) ?_
  show Go _ _ _ _ _ _ _ T5 (mkF m 9 #[.val (.ref o0), .val (.int p1), .val (.int p2), .val (.int p3), .unset] [(.ref b1), (.ref b1)])
  refine Go.st (fun _ k => XS.iconst X5.here hx rfl (hb hby d13_9) k) ?_
  show Go _ _ _ _ _ _ _ T5 (mkF m 10 #[.val (.ref o0), .val (.int p1), .val (.int p2), .val (.int p3), .unset] [(.int (1 : Int32)), (.ref b1), (.ref b1)])
  refine Go.st (fun _ k => XS.bipush X5.here hx rfl (hb hby d13_10) k) ?_
  show Go _ _ _ _ _ _ _ T5 (mkF m 12 #[.val (.ref o0), .val (.int p1), .val (.int p2), .val (.int p3), .unset] [(.int (31 : Int32)), (.int (1 : Int32)), (.ref b1), (.ref b1)])
  obtain ⟨cl6, Ar6, qq6, SS6, NN6, HH6, GG6⟩ := id V_b1__5
  have hin7 : ¬ ((1 : Int32) < 0 ∨ cl6.slots.size ≤ ((1 : Int32)).toNatClampNeg) := inb_of SS6 ⟨by decide, by decide⟩
  obtain ⟨T8, h8, X8, e8, W8, st8⟩ := stI X5 hx hZ e5 Ar6 (j := (1 : Int32)) hin7 (g := (mkF m 12 #[.val (.ref o0), .val (.int p1), .val (.int p2), .val (.int p3), .unset] [(.int (31 : Int32)), (.int (1 : Int32)), (.ref b1), (.ref b1)])) rfl rfl (hb hby d13_12)
  have V_b1__8 : Arv Z h8 b1 ck1 .int (6 : Int32) [(.int (1 : Int32)), (.int (31 : Int32)), (.int (0 : Int32)), (.int (0 : Int32)), (.int (0 : Int32)), (.int (0 : Int32))] (.int (0 : Int32)) := Arv.set Ar6 qq6 SS6 NN6 HH6 GG6 rfl W8 1 rfl (Nat.le_of_ble_eq_true rfl)
  have V_o0__8 := V_o0__5.other W8 ne2
  have Z8 : n0 ≤ h8.size := Nat.le_trans Z5 (Keep.of_wr W8).1
  have KK8 : Keep h0 h8 [] := KK5.wr W8 (Or.inr sz_b1)
  have N8 := Fr.snoc X8 N5 g_b1
  refine Go.st st8 ?_
  show Go _ _ _ _ _ _ _ T8 (mkF m 13 #[.val (.ref o0), .val (.int p1), .val (.int p2), .val (.int p3), .unset] [(.ref b1)])
  refine Go.st (fun _ k => XS.dup X8.here hx rfl (hb hby d13_13) rfl rfl k) ?_
  show Go _ _ _ _ _ _ _ T8 (mkF m 14 #[.val (.ref o0), .val (.int p1), .val (.int p2), .val (.int p3), .unset] [(.ref b1), (.ref b1)])
  refine Go.st (fun _ k => XS.iconst X8.here hx rfl (hb hby d13_14) k) ?_
  show Go _ _ _ _ _ _ _ T8 (mkF m 15 #[.val (.ref o0), .val (.int p1), .val (.int p2), .val (.int p3), .unset] [(.int (2 : Int32)), (.ref b1), (.ref b1)])
  refine Go.st (fun _ k => XS.sipush X8.here hx rfl (hb hby d13_15) k) ?_
  show Go _ _ _ _ _ _ _ T8 (mkF m 18 #[.val (.ref o0), .val (.int p1), .val (.int p2), .val (.int p3), .unset] [(.int (961 : Int32)), (.int (2 : Int32)), (.ref b1), (.ref b1)])
  obtain ⟨cl9, Ar9, qq9, SS9, NN9, HH9, GG9⟩ := id V_b1__8
  have hin10 : ¬ ((2 : Int32) < 0 ∨ cl9.slots.size ≤ ((2 : Int32)).toNatClampNeg) := inb_of SS9 ⟨by decide, by decide⟩
  obtain ⟨T11, h11, X11, e11, W11, st11⟩ := stI X8 hx hZ e8 Ar9 (j := (2 : Int32)) hin10 (g := (mkF m 18 #[.val (.ref o0), .val (.int p1), .val (.int p2), .val (.int p3), .unset] [(.int (961 : Int32)), (.int (2 : Int32)), (.ref b1), (.ref b1)])) rfl rfl (hb hby d13_18)
  have V_b1__11 : Arv Z h11 b1 ck1 .int (6 : Int32) [(.int (1 : Int32)), (.int (31 : Int32)), (.int (961 : Int32)), (.int (0 : Int32)), (.int (0 : Int32)), (.int (0 : Int32))] (.int (0 : Int32)) := Arv.set Ar9 qq9 SS9 NN9 HH9 GG9 rfl W11 2 rfl (Nat.le_of_ble_eq_true rfl)
  have V_o0__11 := V_o0__8.other W11 ne2
  have Z11 : n0 ≤ h11.size := Nat.le_trans Z8 (Keep.of_wr W11).1
  have KK11 : Keep h0 h11 [] := KK8.wr W11 (Or.inr sz_b1)
  have N11 := Fr.snoc X11 N8 g_b1
  refine Go.st st11 ?_
  show Go _ _ _ _ _ _ _ T11 (mkF m 19 #[.val (.ref o0), .val (.int p1), .val (.int p2), .val (.int p3), .unset] [(.ref b1)])
  refine Go.st (fun _ k => XS.dup X11.here hx rfl (hb hby d13_19) rfl rfl k) ?_
  show Go _ _ _ _ _ _ _ T11 (mkF m 20 #[.val (.ref o0), .val (.int p1), .val (.int p2), .val (.int p3), .unset] [(.ref b1), (.ref b1)])
  refine Go.st (fun _ k => XS.iconst X11.here hx rfl (hb hby d13_20) k) ?_
  show Go _ _ _ _ _ _ _ T11 (mkF m 21 #[.val (.ref o0), .val (.int p1), .val (.int p2), .val (.int p3), .unset] [(.int (3 : Int32)), (.ref b1), (.ref b1)])
  refine Go.st (fun _ k => XS.sipush X11.here hx rfl (hb hby d13_21) k) ?_
  show Go _ _ _ _ _ _ _ T11 (mkF m 24 #[.val (.ref o0), .val (.int p1), .val (.int p2), .val (.int p3), .unset] [(.int (29791 : Int32)), (.int (3 : Int32)), (.ref b1), (.ref b1)])
  obtain ⟨cl12, Ar12, qq12, SS12, NN12, HH12, GG12⟩ := id V_b1__11
  have hin13 : ¬ ((3 : Int32) < 0 ∨ cl12.slots.size ≤ ((3 : Int32)).toNatClampNeg) := inb_of SS12 ⟨by decide, by decide⟩
  obtain ⟨T14, h14, X14, e14, W14, st14⟩ := stI X11 hx hZ e11 Ar12 (j := (3 : Int32)) hin13 (g := (mkF m 24 #[.val (.ref o0), .val (.int p1), .val (.int p2), .val (.int p3), .unset] [(.int (29791 : Int32)), (.int (3 : Int32)), (.ref b1), (.ref b1)])) rfl rfl (hb hby d13_24)
  have V_b1__14 : Arv Z h14 b1 ck1 .int (6 : Int32) [(.int (1 : Int32)), (.int (31 : Int32)), (.int (961 : Int32)), (.int (29791 : Int32)), (.int (0 : Int32)), (.int (0 : Int32))] (.int (0 : Int32)) := Arv.set Ar12 qq12 SS12 NN12 HH12 GG12 rfl W14 3 rfl (Nat.le_of_ble_eq_true rfl)
  have V_o0__14 := V_o0__11.other W14 ne2
  have Z14 : n0 ≤ h14.size := Nat.le_trans Z11 (Keep.of_wr W14).1
  have KK14 : Keep h0 h14 [] := KK11.wr W14 (Or.inr sz_b1)
  have N14 := Fr.snoc X14 N11 g_b1
  refine Go.st st14 ?_
  show Go _ _ _ _ _ _ _ T14 (mkF m 25 #[.val (.ref o0), .val (.int p1), .val (.int p2), .val (.int p3), .unset] [(.ref b1)])
  refine Go.st (fun _ k => XS.dup X14.here hx rfl (hb hby d13_25) rfl rfl k) ?_
  show Go _ _ _ _ _ _ _ T14 (mkF m 26 #[.val (.ref o0), .val (.int p1), .val (.int p2), .val (.int p3), .unset] [(.ref b1), (.ref b1)])
  refine Go.st (fun _ k => XS.iconst X14.here hx rfl (hb hby d13_26) k) ?_
  show Go _ _ _ _ _ _ _ T14 (mkF m 27 #[.val (.ref o0), .val (.int p1), .val (.int p2), .val (.int p3), .unset] [(.int (4 : Int32)), (.ref b1), (.ref b1)])
  refine Go.st (fun _ k => Jvm.Stand.ldcI X14 hx hown (mvT hZ (hw _ (List.mem_of_getElem? (i := 73) rfl))) rfl (hb hby d13_27) k) ?_
  show Go _ _ _ _ _ _ _ T14 (mkF m 29 #[.val (.ref o0), .val (.int p1), .val (.int p2), .val (.int p3), .unset] [(.int (923521 : Int32)), (.int (4 : Int32)), (.ref b1), (.ref b1)])
  obtain ⟨cl15, Ar15, qq15, SS15, NN15, HH15, GG15⟩ := id V_b1__14
  have hin16 : ¬ ((4 : Int32) < 0 ∨ cl15.slots.size ≤ ((4 : Int32)).toNatClampNeg) := inb_of SS15 ⟨by decide, by decide⟩
  obtain ⟨T17, h17, X17, e17, W17, st17⟩ := stI X14 hx hZ e14 Ar15 (j := (4 : Int32)) hin16 (g := (mkF m 29 #[.val (.ref o0), .val (.int p1), .val (.int p2), .val (.int p3), .unset] [(.int (923521 : Int32)), (.int (4 : Int32)), (.ref b1), (.ref b1)])) rfl rfl (hb hby d13_29)
  have V_b1__17 : Arv Z h17 b1 ck1 .int (6 : Int32) [(.int (1 : Int32)), (.int (31 : Int32)), (.int (961 : Int32)), (.int (29791 : Int32)), (.int (923521 : Int32)), (.int (0 : Int32))] (.int (0 : Int32)) := Arv.set Ar15 qq15 SS15 NN15 HH15 GG15 rfl W17 4 rfl (Nat.le_of_ble_eq_true rfl)
  have V_o0__17 := V_o0__14.other W17 ne2
  have Z17 : n0 ≤ h17.size := Nat.le_trans Z14 (Keep.of_wr W17).1
  have KK17 : Keep h0 h17 [] := KK14.wr W17 (Or.inr sz_b1)
  have N17 := Fr.snoc X17 N14 g_b1
  refine Go.st st17 ?_
  show Go _ _ _ _ _ _ _ T17 (mkF m 30 #[.val (.ref o0), .val (.int p1), .val (.int p2), .val (.int p3), .unset] [(.ref b1)])
  refine Go.st (fun _ k => XS.dup X17.here hx rfl (hb hby d13_30) rfl rfl k) ?_
  show Go _ _ _ _ _ _ _ T17 (mkF m 31 #[.val (.ref o0), .val (.int p1), .val (.int p2), .val (.int p3), .unset] [(.ref b1), (.ref b1)])
  refine Go.st (fun _ k => XS.iconst X17.here hx rfl (hb hby d13_31) k) ?_
  show Go _ _ _ _ _ _ _ T17 (mkF m 32 #[.val (.ref o0), .val (.int p1), .val (.int p2), .val (.int p3), .unset] [(.int (5 : Int32)), (.ref b1), (.ref b1)])
  refine Go.st (fun _ k => Jvm.Stand.ldcI X17 hx hown (mvT hZ (hw _ (List.mem_of_getElem? (i := 74) rfl))) rfl (hb hby d13_32) k) ?_
  show Go _ _ _ _ _ _ _ T17 (mkF m 34 #[.val (.ref o0), .val (.int p1), .val (.int p2), .val (.int p3), .unset] [(.int (28629151 : Int32)), (.int (5 : Int32)), (.ref b1), (.ref b1)])
  obtain ⟨cl18, Ar18, qq18, SS18, NN18, HH18, GG18⟩ := id V_b1__17
  have hin19 : ¬ ((5 : Int32) < 0 ∨ cl18.slots.size ≤ ((5 : Int32)).toNatClampNeg) := inb_of SS18 ⟨by decide, by decide⟩
  obtain ⟨T20, h20, X20, e20, W20, st20⟩ := stI X17 hx hZ e17 Ar18 (j := (5 : Int32)) hin19 (g := (mkF m 34 #[.val (.ref o0), .val (.int p1), .val (.int p2), .val (.int p3), .unset] [(.int (28629151 : Int32)), (.int (5 : Int32)), (.ref b1), (.ref b1)])) rfl rfl (hb hby d13_34)
  have V_b1__20 : Arv Z h20 b1 ck1 .int (6 : Int32) [(.int (1 : Int32)), (.int (31 : Int32)), (.int (961 : Int32)), (.int (29791 : Int32)), (.int (923521 : Int32)), (.int (28629151 : Int32))] (.int (0 : Int32)) := Arv.set Ar18 qq18 SS18 NN18 HH18 GG18 rfl W20 5 rfl (Nat.le_of_ble_eq_true rfl)
  have V_o0__20 := V_o0__17.other W20 ne2
  have Z20 : n0 ≤ h20.size := Nat.le_trans Z17 (Keep.of_wr W20).1
  have KK20 : Keep h0 h20 [] := KK17.wr W20 (Or.inr sz_b1)
  have N20 := Fr.snoc X20 N17 g_b1
  refine Go.st st20 ?_
  show Go _ _ _ _ _ _ _ T20 (mkF m 35 #[.val (.ref o0), .val (.int p1), .val (.int p2), .val (.int p3), .unset] [(.ref b1)])
  refine Go.st (fun _ k => XS.astore X20.here hx rfl (hb hby d13_35) rfl rfl (l' := #[.val (.ref o0), .val (.int p1), .val (.int p2), .val (.int p3), .val (.ref b1)]) rfl k) ?_
  show Go _ _ _ _ _ _ _ T20 (mkF m 37 #[.val (.ref o0), .val (.int p1), .val (.int p2), .val (.int p3), .val (.ref b1)] [])
  refine Go.st (fun _ k => XS.iloadN X20.here hx rfl (hb hby d13_37) rfl k) ?_
  show Go _ _ _ _ _ _ _ T20 (mkF m 38 #[.val (.ref o0), .val (.int p1), .val (.int p2), .val (.int p3), .val (.ref b1)] [(.int p2)])
  refine Go.st (fun _ k => XS.iloadN X20.here hx rfl (hb hby d13_38) rfl k) ?_
  show Go _ _ _ _ _ _ _ T20 (mkF m 39 #[.val (.ref o0), .val (.int p1), .val (.int p2), .val (.int p3), .val (.ref b1)] [(.int p1), (.int p2)])
  by_cases hc21 : p1 < p2
  · refine Go.st (fun _ k => XS.icmpYes X20.here hx rfl (pc0 := 39) (pc' := 60) rfl (hb hby d13_39) rfl (tlt hc21).2.2.1 (by decide) (by decide) k) ?_
    show Go _ _ _ _ _ _ _ T20 (mkF m 60 #[.val (.ref o0), .val (.int p1), .val (.int p2), .val (.int p3), .val (.ref b1)] [])
    refine Go.st (fun _ k => XS.iconst X20.here hx rfl (hb hby d13_60) k) ?_
    show Go _ _ _ _ _ _ _ T20 (mkF m 61 #[.val (.ref o0), .val (.int p1), .val (.int p2), .val (.int p3), .val (.ref b1)] [(.int (0 : Int32))])
    refine Go.ret X20 hlk (v := some (.int (0 : Int32))) (fun h => by rw [hret] at h; cases h) (fun fs hr => retOut X20 hx (t := .int) (i := .ireturn) hret rfl (Or.inl ⟨rfl, Or.inl rfl, _, rfl⟩) (hb hby d13_61) hr) ?_ (by decide) (by decide)
    show Q13 Z o0 p1 p2 p3 kc k0 k1 k2 k3 k4 k5 h0 n0 (some (.int (0 : Int32))) T20.heap _
    rw [e20]
    refine ⟨?_, N20, KK20⟩
    unfold termW
    rw [if_pos hc21]
  · refine Go.st (fun _ k => XS.icmpNo X20.here hx rfl (hb hby d13_39) rfl (flt hc21).2.2.1 k) ?_
    show Go _ _ _ _ _ _ _ T20 (mkF m 42 #[.val (.ref o0), .val (.int p1), .val (.int p2), .val (.int p3), .val (.ref b1)] [])
    refine Go.st (fun _ k => XS.iloadN X20.here hx rfl (hb hby d13_42) rfl k) ?_
    show Go _ _ _ _ _ _ _ T20 (mkF m 43 #[.val (.ref o0), .val (.int p1), .val (.int p2), .val (.int p3), .val (.ref b1)] [(.int p1)])
    refine Go.st (fun _ k => XS.iloadN X20.here hx rfl (hb hby d13_43) rfl k) ?_
    show Go _ _ _ _ _ _ _ T20 (mkF m 44 #[.val (.ref o0), .val (.int p1), .val (.int p2), .val (.int p3), .val (.ref b1)] [(.int p3), (.int p1)])
    by_cases hc22 : p1 < p3
    · refine Go.st (fun _ k => XS.icmpNo X20.here hx rfl (hb hby d13_44) rfl (tlt hc22).2.1 k) ?_
      show Go _ _ _ _ _ _ _ T20 (mkF m 47 #[.val (.ref o0), .val (.int p1), .val (.int p2), .val (.int p3), .val (.ref b1)] [])
      refine Go.st (fun _ k => XS.aloadN X20.here hx rfl (hb hby d13_47) rfl rfl k) ?_
      show Go _ _ _ _ _ _ _ T20 (mkF m 48 #[.val (.ref o0), .val (.int p1), .val (.int p2), .val (.int p3), .val (.ref b1)] [(.ref o0)])
      refine Go.st (fun _ k => XS.iloadN X20.here hx rfl (hb hby d13_48) rfl k) ?_
      show Go _ _ _ _ _ _ _ T20 (mkF m 49 #[.val (.ref o0), .val (.int p1), .val (.int p2), .val (.int p3), .val (.ref b1)] [(.int p1), (.ref o0)])
      obtain ⟨cl23, Ar23, qq23, SS23, NN23, HH23, GG23⟩ := id V_o0__20
      have hin : ¬ (p1 < 0 ∨ cl23.slots.size ≤ (p1).toNatClampNeg) := inb_of SS23 ⟨(own_v6 V_p1).1, (own_v6 V_p1).2⟩
      refine Go.st (fun _ k => X20.caload hx (j := p1) (v := (.int (kF p1 k0 k1 k2 k3 k4 k5))) (by rw [e20]; exact Ar23.1) (State.isArrayOf_alike hZ.alike Ar23.2.1) Ar23.2.2 hin (HH23.at hin (own_getk p1 V_p1)) (g := (mkF m 49 #[.val (.ref o0), .val (.int p1), .val (.int p2), .val (.int p3), .val (.ref b1)] [(.int p1), (.ref o0)])) rfl rfl (hb hby d13_49) _ k) ?_
      show Go _ _ _ _ _ _ _ T20 (mkF m 50 #[.val (.ref o0), .val (.int p1), .val (.int p2), .val (.int p3), .val (.ref b1)] [(.int (kF p1 k0 k1 k2 k3 k4 k5))])
      refine Go.st (fun _ k => XS.aload X20.here hx rfl (hb hby d13_50) rfl rfl k) ?_
      show Go _ _ _ _ _ _ _ T20 (mkF m 52 #[.val (.ref o0), .val (.int p1), .val (.int p2), .val (.int p3), .val (.ref b1)] [(.ref b1), (.int (kF p1 k0 k1 k2 k3 k4 k5))])
      refine Go.st (fun _ k => XS.iloadN X20.here hx rfl (hb hby d13_52) rfl k) ?_
      show Go _ _ _ _ _ _ _ T20 (mkF m 53 #[.val (.ref o0), .val (.int p1), .val (.int p2), .val (.int p3), .val (.ref b1)] [(.int p3), (.ref b1), (.int (kF p1 k0 k1 k2 k3 k4 k5))])
      refine Go.st (fun _ k => XS.iconst X20.here hx rfl (hb hby d13_53) k) ?_
      show Go _ _ _ _ _ _ _ T20 (mkF m 54 #[.val (.ref o0), .val (.int p1), .val (.int p2), .val (.int p3), .val (.ref b1)] [(.int (1 : Int32)), (.int p3), (.ref b1), (.int (kF p1 k0 k1 k2 k3 k4 k5))])
      refine Go.st (fun _ k => XS.isub X20.here hx rfl (hb hby d13_54) rfl k) ?_
      show Go _ _ _ _ _ _ _ T20 (mkF m 55 #[.val (.ref o0), .val (.int p1), .val (.int p2), .val (.int p3), .val (.ref b1)] [(.int (p3 - (1 : Int32))), (.ref b1), (.int (kF p1 k0 k1 k2 k3 k4 k5))])
      refine Go.st (fun _ k => XS.iloadN X20.here hx rfl (hb hby d13_55) rfl k) ?_
      show Go _ _ _ _ _ _ _ T20 (mkF m 56 #[.val (.ref o0), .val (.int p1), .val (.int p2), .val (.int p3), .val (.ref b1)] [(.int p1), (.int (p3 - (1 : Int32))), (.ref b1), (.int (kF p1 k0 k1 k2 k3 k4 k5))])
      refine Go.st (fun _ k => XS.isub X20.here hx rfl (hb hby d13_56) rfl k) ?_
      show Go _ _ _ _ _ _ _ T20 (mkF m 57 #[.val (.ref o0), .val (.int p1), .val (.int p2), .val (.int p3), .val (.ref b1)] [(.int ((p3 - (1 : Int32)) - p1)), (.ref b1), (.int (kF p1 k0 k1 k2 k3 k4 k5))])
      obtain ⟨cl24, Ar24, qq24, SS24, NN24, HH24, GG24⟩ := id V_b1__20
      have hj := own_sub V_p1 he hc22
      have hin2 : ¬ (((p3 - (1 : Int32)) - p1) < 0 ∨ cl24.slots.size ≤ (((p3 - (1 : Int32)) - p1)).toNatClampNeg) := inb_of SS24 ⟨(own_v6 hj).1, (own_v6 hj).2⟩
      refine Go.st (fun _ k => X20.iaload hx (j := ((p3 - (1 : Int32)) - p1)) (v := (.int (pwF ((p3 - (1 : Int32)) - p1)))) (by rw [e20]; exact Ar24.1) (State.isArrayOf_alike hZ.alike Ar24.2.1) Ar24.2.2 hin2 (HH24.at hin2 (own_getp _ hj)) (g := (mkF m 57 #[.val (.ref o0), .val (.int p1), .val (.int p2), .val (.int p3), .val (.ref b1)] [(.int ((p3 - (1 : Int32)) - p1)), (.ref b1), (.int (kF p1 k0 k1 k2 k3 k4 k5))])) rfl rfl (hb hby d13_57) _ k) ?_
      show Go _ _ _ _ _ _ _ T20 (mkF m 58 #[.val (.ref o0), .val (.int p1), .val (.int p2), .val (.int p3), .val (.ref b1)] [(.int (pwF ((p3 - (1 : Int32)) - p1))), (.int (kF p1 k0 k1 k2 k3 k4 k5))])
      refine Go.st (fun _ k => XS.imul X20.here hx rfl (hb hby d13_58) rfl k) ?_
      show Go _ _ _ _ _ _ _ T20 (mkF m 59 #[.val (.ref o0), .val (.int p1), .val (.int p2), .val (.int p3), .val (.ref b1)] [(.int ((kF p1 k0 k1 k2 k3 k4 k5) * (pwF ((p3 - (1 : Int32)) - p1))))])
      refine Go.ret X20 hlk (v := some (.int ((kF p1 k0 k1 k2 k3 k4 k5) * (pwF ((p3 - (1 : Int32)) - p1))))) (fun h => by rw [hret] at h; cases h) (fun fs hr => retOut X20 hx (t := .int) (i := .ireturn) hret rfl (Or.inl ⟨rfl, Or.inl rfl, _, rfl⟩) (hb hby d13_59) hr) ?_ (by decide) (by decide)
      show Q13 Z o0 p1 p2 p3 kc k0 k1 k2 k3 k4 k5 h0 n0 (some (.int ((kF p1 k0 k1 k2 k3 k4 k5) * (pwF ((p3 - (1 : Int32)) - p1))))) T20.heap _
      rw [e20]
      refine ⟨?_, N20, KK20⟩
      unfold termW
      rw [if_neg hc21, if_pos hc22]
    · refine Go.st (fun _ k => XS.icmpYes X20.here hx rfl (pc0 := 44) (pc' := 60) rfl (hb hby d13_44) rfl (flt hc22).2.1 (by decide) (by decide) k) ?_
      show Go _ _ _ _ _ _ _ T20 (mkF m 60 #[.val (.ref o0), .val (.int p1), .val (.int p2), .val (.int p3), .val (.ref b1)] [])
      refine Go.st (fun _ k => XS.iconst X20.here hx rfl (hb hby d13_60) k) ?_
      show Go _ _ _ _ _ _ _ T20 (mkF m 61 #[.val (.ref o0), .val (.int p1), .val (.int p2), .val (.int p3), .val (.ref b1)] [(.int (0 : Int32))])
      refine Go.ret X20 hlk (v := some (.int (0 : Int32))) (fun h => by rw [hret] at h; cases h) (fun fs hr => retOut X20 hx (t := .int) (i := .ireturn) hret rfl (Or.inl ⟨rfl, Or.inl rfl, _, rfl⟩) (hb hby d13_61) hr) ?_ (by decide) (by decide)
      show Q13 Z o0 p1 p2 p3 kc k0 k1 k2 k3 k4 k5 h0 n0 (some (.int (0 : Int32))) T20.heap _
      rw [e20]
      refine ⟨?_, N20, KK20⟩
      unfold termW
      rw [if_neg hc21, if_neg hc22]
theorem own_hash {k0 k1 k2 k3 k4 k5 s_ e_ : Int32} (V_s : s_ = 0 ∨ s_ = 1 ∨ s_ = 2 ∨ s_ = 3 ∨ s_ = 4 ∨ s_ = 5 ∨ s_ = 6) (V_e : e_ = 0 ∨ e_ = 1 ∨ e_ = 2 ∨ e_ = 3 ∨ e_ = 4 ∨ e_ = 5 ∨ e_ = 6) (hse : ¬ e_ < s_) : (hashW s_ e_ k0 k1 k2 k3 k4 k5) = ((((((termW (0 : Int32) s_ e_ k0 k1 k2 k3 k4 k5) + (termW (1 : Int32) s_ e_ k0 k1 k2 k3 k4 k5)) + (termW (2 : Int32) s_ e_ k0 k1 k2 k3 k4 k5)) + (termW (3 : Int32) s_ e_ k0 k1 k2 k3 k4 k5)) + (termW (4 : Int32) s_ e_ k0 k1 k2 k3 k4 k5)) + (termW (5 : Int32) s_ e_ k0 k1 k2 k3 k4 k5)) := by
  rcases V_s with rfl | rfl | rfl | rfl | rfl | rfl | rfl <;> rcases V_e with rfl | rfl | rfl | rfl | rfl | rfl | rfl
  · show (0 : Int32) = ((((((0 : Int32) + (0 : Int32)) + (0 : Int32)) + (0 : Int32)) + (0 : Int32)) + (0 : Int32))
    grind
  · show ((31 : Int32) * (0 : Int32) + k0) = ((((((k0 * (1 : Int32)) + (0 : Int32)) + (0 : Int32)) + (0 : Int32)) + (0 : Int32)) + (0 : Int32))
    grind
  · show ((31 : Int32) * ((31 : Int32) * (0 : Int32) + k0) + k1) = ((((((k0 * (31 : Int32)) + (k1 * (1 : Int32))) + (0 : Int32)) + (0 : Int32)) + (0 : Int32)) + (0 : Int32))
    grind
  · show ((31 : Int32) * ((31 : Int32) * ((31 : Int32) * (0 : Int32) + k0) + k1) + k2) = ((((((k0 * (961 : Int32)) + (k1 * (31 : Int32))) + (k2 * (1 : Int32))) + (0 : Int32)) + (0 : Int32)) + (0 : Int32))
    grind
  · show ((31 : Int32) * ((31 : Int32) * ((31 : Int32) * ((31 : Int32) * (0 : Int32) + k0) + k1) + k2) + k3) = ((((((k0 * (29791 : Int32)) + (k1 * (961 : Int32))) + (k2 * (31 : Int32))) + (k3 * (1 : Int32))) + (0 : Int32)) + (0 : Int32))
    grind
  · show ((31 : Int32) * ((31 : Int32) * ((31 : Int32) * ((31 : Int32) * ((31 : Int32) * (0 : Int32) + k0) + k1) + k2) + k3) + k4) = ((((((k0 * (923521 : Int32)) + (k1 * (29791 : Int32))) + (k2 * (961 : Int32))) + (k3 * (31 : Int32))) + (k4 * (1 : Int32))) + (0 : Int32))
    grind
  · show ((31 : Int32) * ((31 : Int32) * ((31 : Int32) * ((31 : Int32) * ((31 : Int32) * ((31 : Int32) * (0 : Int32) + k0) + k1) + k2) + k3) + k4) + k5) = ((((((k0 * (28629151 : Int32)) + (k1 * (923521 : Int32))) + (k2 * (29791 : Int32))) + (k3 * (961 : Int32))) + (k4 * (31 : Int32))) + (k5 * (1 : Int32)))
    grind
  · exact absurd (by decide) hse
  · show (0 : Int32) = ((((((0 : Int32) + (0 : Int32)) + (0 : Int32)) + (0 : Int32)) + (0 : Int32)) + (0 : Int32))
    grind
  · show ((31 : Int32) * (0 : Int32) + k1) = ((((((0 : Int32) + (k1 * (1 : Int32))) + (0 : Int32)) + (0 : Int32)) + (0 : Int32)) + (0 : Int32))
    grind
  · show ((31 : Int32) * ((31 : Int32) * (0 : Int32) + k1) + k2) = ((((((0 : Int32) + (k1 * (31 : Int32))) + (k2 * (1 : Int32))) + (0 : Int32)) + (0 : Int32)) + (0 : Int32))
    grind
  · show ((31 : Int32) * ((31 : Int32) * ((31 : Int32) * (0 : Int32) + k1) + k2) + k3) = ((((((0 : Int32) + (k1 * (961 : Int32))) + (k2 * (31 : Int32))) + (k3 * (1 : Int32))) + (0 : Int32)) + (0 : Int32))
    grind
  · show ((31 : Int32) * ((31 : Int32) * ((31 : Int32) * ((31 : Int32) * (0 : Int32) + k1) + k2) + k3) + k4) = ((((((0 : Int32) + (k1 * (29791 : Int32))) + (k2 * (961 : Int32))) + (k3 * (31 : Int32))) + (k4 * (1 : Int32))) + (0 : Int32))
    grind
  · show ((31 : Int32) * ((31 : Int32) * ((31 : Int32) * ((31 : Int32) * ((31 : Int32) * (0 : Int32) + k1) + k2) + k3) + k4) + k5) = ((((((0 : Int32) + (k1 * (923521 : Int32))) + (k2 * (29791 : Int32))) + (k3 * (961 : Int32))) + (k4 * (31 : Int32))) + (k5 * (1 : Int32)))
    grind
  · exact absurd (by decide) hse
  · exact absurd (by decide) hse
  · show (0 : Int32) = ((((((0 : Int32) + (0 : Int32)) + (0 : Int32)) + (0 : Int32)) + (0 : Int32)) + (0 : Int32))
    grind
  · show ((31 : Int32) * (0 : Int32) + k2) = ((((((0 : Int32) + (0 : Int32)) + (k2 * (1 : Int32))) + (0 : Int32)) + (0 : Int32)) + (0 : Int32))
    grind
  · show ((31 : Int32) * ((31 : Int32) * (0 : Int32) + k2) + k3) = ((((((0 : Int32) + (0 : Int32)) + (k2 * (31 : Int32))) + (k3 * (1 : Int32))) + (0 : Int32)) + (0 : Int32))
    grind
  · show ((31 : Int32) * ((31 : Int32) * ((31 : Int32) * (0 : Int32) + k2) + k3) + k4) = ((((((0 : Int32) + (0 : Int32)) + (k2 * (961 : Int32))) + (k3 * (31 : Int32))) + (k4 * (1 : Int32))) + (0 : Int32))
    grind
  · show ((31 : Int32) * ((31 : Int32) * ((31 : Int32) * ((31 : Int32) * (0 : Int32) + k2) + k3) + k4) + k5) = ((((((0 : Int32) + (0 : Int32)) + (k2 * (29791 : Int32))) + (k3 * (961 : Int32))) + (k4 * (31 : Int32))) + (k5 * (1 : Int32)))
    grind
  · exact absurd (by decide) hse
  · exact absurd (by decide) hse
  · exact absurd (by decide) hse
  · show (0 : Int32) = ((((((0 : Int32) + (0 : Int32)) + (0 : Int32)) + (0 : Int32)) + (0 : Int32)) + (0 : Int32))
    grind
  · show ((31 : Int32) * (0 : Int32) + k3) = ((((((0 : Int32) + (0 : Int32)) + (0 : Int32)) + (k3 * (1 : Int32))) + (0 : Int32)) + (0 : Int32))
    grind
  · show ((31 : Int32) * ((31 : Int32) * (0 : Int32) + k3) + k4) = ((((((0 : Int32) + (0 : Int32)) + (0 : Int32)) + (k3 * (31 : Int32))) + (k4 * (1 : Int32))) + (0 : Int32))
    grind
  · show ((31 : Int32) * ((31 : Int32) * ((31 : Int32) * (0 : Int32) + k3) + k4) + k5) = ((((((0 : Int32) + (0 : Int32)) + (0 : Int32)) + (k3 * (961 : Int32))) + (k4 * (31 : Int32))) + (k5 * (1 : Int32)))
    grind
  · exact absurd (by decide) hse
  · exact absurd (by decide) hse
  · exact absurd (by decide) hse
  · exact absurd (by decide) hse
  · show (0 : Int32) = ((((((0 : Int32) + (0 : Int32)) + (0 : Int32)) + (0 : Int32)) + (0 : Int32)) + (0 : Int32))
    grind
  · show ((31 : Int32) * (0 : Int32) + k4) = ((((((0 : Int32) + (0 : Int32)) + (0 : Int32)) + (0 : Int32)) + (k4 * (1 : Int32))) + (0 : Int32))
    grind
  · show ((31 : Int32) * ((31 : Int32) * (0 : Int32) + k4) + k5) = ((((((0 : Int32) + (0 : Int32)) + (0 : Int32)) + (0 : Int32)) + (k4 * (31 : Int32))) + (k5 * (1 : Int32)))
    grind
  · exact absurd (by decide) hse
  · exact absurd (by decide) hse
  · exact absurd (by decide) hse
  · exact absurd (by decide) hse
  · exact absurd (by decide) hse
  · show (0 : Int32) = ((((((0 : Int32) + (0 : Int32)) + (0 : Int32)) + (0 : Int32)) + (0 : Int32)) + (0 : Int32))
    grind
  · show ((31 : Int32) * (0 : Int32) + k5) = ((((((0 : Int32) + (0 : Int32)) + (0 : Int32)) + (0 : Int32)) + (0 : Int32)) + (k5 * (1 : Int32)))
    grind
  · exact absurd (by decide) hse
  · exact absurd (by decide) hse
  · exact absurd (by decide) hse
  · exact absurd (by decide) hse
  · exact absurd (by decide) hse
  · exact absurd (by decide) hse
  · show (0 : Int32) = ((((((0 : Int32) + (0 : Int32)) + (0 : Int32)) + (0 : Int32)) + (0 : Int32)) + (0 : Int32))
    grind
theorem own_ev (s k x : Int32) (hs : 0 ≤ s.toInt) (hk : 0 < k.toInt) (hsk : s.toInt + k.toInt = 7) : ((s + (x &&& (2147483647 : Int32)) % k) = 0 ∨ (s + (x &&& (2147483647 : Int32)) % k) = 1 ∨ (s + (x &&& (2147483647 : Int32)) % k) = 2 ∨ (s + (x &&& (2147483647 : Int32)) % k) = 3 ∨ (s + (x &&& (2147483647 : Int32)) % k) = 4 ∨ (s + (x &&& (2147483647 : Int32)) % k) = 5 ∨ (s + (x &&& (2147483647 : Int32)) % k) = 6) ∧ ¬ (s + (x &&& (2147483647 : Int32)) % k) < s ∧ ¬ (6 : Int32) < (s + (x &&& (2147483647 : Int32)) % k) := by
  have h := own_rem x k hk
  have q := c_iadd s ((x &&& (2147483647 : Int32)) % k)
  have r := rng32 (s + (x &&& (2147483647 : Int32)) % k)
  have e6 : (6 : Int32).toInt = 6 := by decide
  rw [Int32.lt_iff_toInt_lt, Int32.lt_iff_toInt_lt, e6]
  generalize s + (x &&& (2147483647 : Int32)) % k = y at *
  generalize (x &&& (2147483647 : Int32)) % k = z at *
  refine ⟨?_, by omega, by omega⟩
  have : y.toInt = 0 ∨ y.toInt = 1 ∨ y.toInt = 2 ∨ y.toInt = 3 ∨ y.toInt = 4 ∨ y.toInt = 5 ∨ y.toInt = 6 := by omega
  rcases this with h | h | h | h | h | h | h
  · exact Or.inl (own_i32 h 0 (by decide))
  · exact Or.inr (Or.inl (own_i32 h 1 (by decide)))
  · exact Or.inr (Or.inr (Or.inl (own_i32 h 2 (by decide))))
  · exact Or.inr (Or.inr (Or.inr (Or.inl (own_i32 h 3 (by decide)))))
  · exact Or.inr (Or.inr (Or.inr (Or.inr (Or.inl (own_i32 h 4 (by decide))))))
  · exact Or.inr (Or.inr (Or.inr (Or.inr (Or.inr (Or.inl (own_i32 h 5 (by decide)))))))
  · exact Or.inr (Or.inr (Or.inr (Or.inr (Or.inr (Or.inr ((own_i32 h 6 (by decide))))))))
theorem own_wc (x : Int32) : ¬ nar .char (x.toUInt32.toUInt16.toUInt32.toInt32) < 0 ∧ ¬ (65535 : Int32) < nar .char (x.toUInt32.toUInt16.toUInt32.toInt32) := by
  have q := c_i2c (x.toUInt32.toUInt16.toUInt32.toInt32)
  have e1 : (65535 : Int32).toInt = 65535 := by decide
  have e0 : (0 : Int32).toInt = 0 := by decide
  rw [Int32.lt_iff_toInt_lt, Int32.lt_iff_toInt_lt, e0, e1]
  show ¬ (x.toUInt32.toUInt16.toUInt32.toInt32.toUInt32.toUInt16.toUInt32.toInt32).toInt < 0 ∧ ¬ 65535 < (x.toUInt32.toUInt16.toUInt32.toInt32.toUInt32.toUInt16.toUInt32.toInt32).toInt
  omega
theorem own_mod7 (x : Int32) : (x &&& 2147483647) % 7 = 0 ∨ (x &&& 2147483647) % 7 = 1 ∨ (x &&& 2147483647) % 7 = 2 ∨ (x &&& 2147483647) % 7 = 3 ∨ (x &&& 2147483647) % 7 = 4 ∨ (x &&& 2147483647) % 7 = 5 ∨ (x &&& 2147483647) % 7 = 6 := by
  have h := own_rem x 7 (by decide)
  have h3 : (7 : Int32).toInt = 7 := by decide
  rw [h3] at h
  generalize (x &&& 2147483647) % 7 = y at h ⊢
  have : y.toInt = 0 ∨ y.toInt = 1 ∨ y.toInt = 2 ∨ y.toInt = 3 ∨ y.toInt = 4 ∨ y.toInt = 5 ∨ y.toInt = 6 := by omega
  rcases this with h | h | h | h | h | h | h
  · exact Or.inl (own_i32 h 0 (by decide))
  · exact Or.inr (Or.inl (own_i32 h 1 (by decide)))
  · exact Or.inr (Or.inr (Or.inl (own_i32 h 2 (by decide))))
  · exact Or.inr (Or.inr (Or.inr (Or.inl (own_i32 h 3 (by decide)))))
  · exact Or.inr (Or.inr (Or.inr (Or.inr (Or.inl (own_i32 h 4 (by decide))))))
  · exact Or.inr (Or.inr (Or.inr (Or.inr (Or.inr (Or.inl (own_i32 h 5 (by decide)))))))
  · exact Or.inr (Or.inr (Or.inr (Or.inr (Or.inr (Or.inr ((own_i32 h 6 (by decide))))))))
def Q0 (Z : State) (p0 : Int32) (p1 : Int32) (p2 : Int32) (p3 : Int32) (p4 : Int32) (G1 : Int32) (h0 : Heap) (n0 : Nat) (v : Option Value) (h : Heap) (L : List Loc) : Prop := v = some (.int 1) ∧ Fr n0 L
set_option maxRecDepth 65536 in
set_option maxHeartbeats 40000000 in
theorem tl_0 (l : Launch) (Z : State) (a0 : Array Value) (hw : ∀ d ∈ tables_1, d.before a0 Z = true) (p0 : Int32) (p1 : Int32) (p2 : Int32) (p3 : Int32) (p4 : Int32) (G1 : Int32) (bA : Addr) (bS : Addr) (s_ : Int32) (e_ : Int32) (t : Addr) (kb : ClassId) (kc : ClassId) (k0 : Int32) (k1 : Int32) (k2 : Int32) (k3 : Int32) (k4 : Int32) (k5 : Int32) (h0 hS : Heap) (n0 : Nat) {p : Program} {e : Env} {s : State} {m : MethodId} {below : List Frame} {meth : Method} {c : Code} {T0 : State} {locs : List Loc}
    (X0 : Stand p l e room_1 s m #[(.int p0), (.int p1), (.int p2), (.int p3), (.int p4)] below meth c T0 locs 4 28) (hx : p.tables.exec = Jvm.exec) (hZ : Z.Warmed39 s.vm) (hby : c.code = code) (hml : c.maxLocals = 11) (hown : s.vm.findClass "com/example/grantd/grantd/policy/TextSpanTextHashPinLaw" = some m.cls) (hnm : meth.name = "law") (hlk : meth.locks = false) (hret : meth.sig.returnType = some .boolean) (e0 : T0.heap = hS) (N0 : Fr n0 locs) (ZS : n0 ≤ hS.size) (S_CS : Sta Z hS "java/lang/String" "COMPACT_STRINGS" "Z" (.int G1)) (P_CS : ¬ G1 = (0 : Int32)) (S_AD : Sta Z hS "java/lang/StringUTF16" "$assertionsDisabled" "Z" (.int (1 : Int32))) (S_HI : Sta Z hS "java/lang/StringUTF16" "HI_BYTE_SHIFT" "I" (.int (0 : Int32))) (S_LO : Sta Z hS "java/lang/StringUTF16" "LO_BYTE_SHIFT" "I" (.int (8 : Int32))) (S_SI : StaR Z hS "jdk/internal/util/Preconditions" "SIOOBE_FORMATTER" "Ljava/util/function/BiFunction;") (E_bS : Exa Z hS bS "java/lang/String") (F_value_bS : Fld Z hS bS "java/lang/String" "value" "[B" (.ref t)) (N_bS : Enc Z hS bS t kb k0 k1 k2 k3 k4 k5) (V_bA : Arv Z hS bA kc .char (6 : Int32) [(.int k0), (.int k1), (.int k2), (.int k3), (.int k4), (.int k5)] (.int (0 : Int32))) (hW : Wide16 k0 k1 k2 k3 k4 k5) (V_s : s_ = 0 ∨ s_ = 1 ∨ s_ = 2 ∨ s_ = 3 ∨ s_ = 4 ∨ s_ = 5 ∨ s_ = 6) (V_e : e_ = 0 ∨ e_ = 1 ∨ e_ = 2 ∨ e_ = 3 ∨ e_ = 4 ∨ e_ = 5 ∨ e_ = 6) (hse : ¬ e_ < s_) (hs1 : ¬ s_ < (0 : Int32)) (hs3 : ¬ (6 : Int32) < e_) :
    Go p e below s (Q0 Z p0 p1 p2 p3 p4 G1 h0 n0) room_1.cells room_1.slots T0 (mkF m 96 #[.val (.int p0), .val (.int p1), .val (.int p2), .val (.int p3), .val (.int p4), .val (.ref bA), .val (.ref bS), .val (.int s_), .val (.int e_), .unset, .unset] []) := by
  show Go _ _ _ _ _ _ _ T0 (mkF m 96 #[.val (.int p0), .val (.int p1), .val (.int p2), .val (.int p3), .val (.int p4), .val (.ref bA), .val (.ref bS), .val (.int s_), .val (.int e_), .unset, .unset] [])
  obtain ⟨T1, h1, X1, e1, E1, A1, D1, -, st1⟩ := newO X0 hx hZ hown (hw _ (List.mem_of_getElem? (i := 32) rfl)) (hw _ (List.mem_of_getElem? (i := 33) rfl)) (hw _ (List.mem_of_getElem? (i := 34) rfl)) e0 (g := (mkF m 96 #[.val (.int p0), .val (.int p1), .val (.int p2), .val (.int p3), .val (.int p4), .val (.ref bA), .val (.ref bS), .val (.int s_), .val (.int e_), .unset, .unset] [])) rfl (hb hby at_96) (by decide) (by decide)
  obtain ⟨b1, g1⟩ : ∃ z, z = hS.size := ⟨_, rfl⟩
  rw [← g1] at A1 D1 st1
  have ne2 : bS ≠ b1 := Nat.ne_of_lt (Nat.lt_of_lt_of_le E_bS.lt (Nat.le_of_eq g1.symm))
  have ne3 : t ≠ b1 := Nat.ne_of_lt (Nat.lt_of_lt_of_le N_bS.ltt (Nat.le_of_eq g1.symm))
  have ne4 : bA ≠ b1 := Nat.ne_of_lt (Nat.lt_of_lt_of_le V_bA.lt (Nat.le_of_eq g1.symm))
  have g_b1 : n0 ≤ b1 := Nat.le_trans ZS (Nat.le_of_eq g1.symm)
  have S_CS__1 := S_CS.ext E1
  have S_AD__1 := S_AD.ext E1
  have S_HI__1 := S_HI.ext E1
  have S_LO__1 := S_LO.ext E1
  have S_SI__1 := S_SI.ext E1
  have E_bS__1 := E_bS.ext E1
  have F_value_bS__1 := F_value_bS.ext E1
  have N_bS__1 := N_bS.ext E1
  have V_bA__1 := V_bA.ext E1
  have Z1 : n0 ≤ h1.size := Nat.le_trans ZS E1.1
  have F_text_b1 : Fld Z h1 b1 "com/example/grantd/grantd/policy/TextSpan" "text" "Ljava/lang/String;" .null := D1 (Or.inl (hw _ (List.mem_of_getElem? (i := 63) rfl))) (ty := (.object "java/lang/String")) (by decide)
  have F_start_b1 : Fld Z h1 b1 "com/example/grantd/grantd/policy/TextSpan" "start" "I" (.int (0 : Int32)) := D1 (Or.inl (hw _ (List.mem_of_getElem? (i := 65) rfl))) (ty := .int) (by decide)
  have F_end_b1 : Fld Z h1 b1 "com/example/grantd/grantd/policy/TextSpan" "end" "I" (.int (0 : Int32)) := D1 (Or.inl (hw _ (List.mem_of_getElem? (i := 67) rfl))) (ty := .int) (by decide)
  refine Go.st st1 ?_
  show Go _ _ _ _ _ _ _ T1 (mkF m 99 #[.val (.int p0), .val (.int p1), .val (.int p2), .val (.int p3), .val (.int p4), .val (.ref bA), .val (.ref bS), .val (.int s_), .val (.int e_), .unset, .unset] [(.ref b1)])
  refine Go.st (fun _ k => XS.dup X1.here hx rfl (hb hby at_99) rfl rfl k) ?_
  show Go _ _ _ _ _ _ _ T1 (mkF m 100 #[.val (.int p0), .val (.int p1), .val (.int p2), .val (.int p3), .val (.int p4), .val (.ref bA), .val (.ref bS), .val (.int s_), .val (.int e_), .unset, .unset] [(.ref b1), (.ref b1)])
  obtain ⟨_, _, ⟨T5, L5, ck5, cn5⟩, -, X5, ⟨Lc5, hQ5, l5, y5, z5⟩, st5⟩ := X1.specialBack hx (y := (⟨"com/example/grantd/grantd/policy/TextSpan", "<init>", "()V"⟩ : MethodName)) rfl hown (mvT hZ (hw _ (List.mem_of_getElem? (i := 35) rfl))) (mvT hZ (hw _ (List.mem_of_getElem? (i := 36) rfl))) (mvT hZ (hw _ (List.mem_of_getElem? (i := 37) rfl))) (by decide) (backOf (W := 1) (rm7 l Z a0 hw [] b1  h1 n0 Z1 ) hZ (hw _ (List.mem_of_getElem? (i := 37) rfl)) (hw _ (List.mem_of_getElem? (i := 34) rfl)) (by decide) (by decide)) (g := (mkF m 100 #[.val (.int p0), .val (.int p1), .val (.int p2), .val (.int p3), .val (.int p4), .val (.ref bA), .val (.ref bS), .val (.int s_), .val (.int e_), .unset, .unset] [(.ref b1), (.ref b1)])) rfl (by rw [hml]; rfl) (Steps.refl _) (a := b1) (argsL := []) (rest := [(.ref b1)]) (lenOf pd_18 rfl) rfl (by show 2 * 0 + _ ≤ _; exact Nat.le_of_eq rfl) (hb hby at_100) (fun _ _ => ⟨rfl, e1, (by decide : 5 + 0 ≤ _), (by decide : 31 + 0 ≤ _)⟩)
  dsimp only [Pt.U, Pt.locs, Pt.cells, Pt.slots] at X5 l5 y5 z5 st5 hQ5
  subst l5 y5 z5
  obtain ⟨rfl, N5q, e5⟩ := hQ5
  have N5 := Fr.app N0 N5q
  refine Go.st (fun _ k => st5.trans k) ?_
  show Go _ _ _ _ _ _ _ T5 (mkF m 103 #[.val (.int p0), .val (.int p1), .val (.int p2), .val (.int p3), .val (.int p4), .val (.ref bA), .val (.ref bS), .val (.int s_), .val (.int e_), .unset, .unset] [(.ref b1)])
  refine Go.st (fun _ k => XS.astore X5.here hx rfl (hb hby at_103) rfl rfl (l' := #[.val (.int p0), .val (.int p1), .val (.int p2), .val (.int p3), .val (.int p4), .val (.ref bA), .val (.ref bS), .val (.int s_), .val (.int e_), .val (.ref b1), .unset]) rfl k) ?_
  show Go _ _ _ _ _ _ _ T5 (mkF m 105 #[.val (.int p0), .val (.int p1), .val (.int p2), .val (.int p3), .val (.int p4), .val (.ref bA), .val (.ref bS), .val (.int s_), .val (.int e_), .val (.ref b1), .unset] [])
  refine Go.st (fun _ k => XS.aload X5.here hx rfl (hb hby at_105) rfl rfl k) ?_
  show Go _ _ _ _ _ _ _ T5 (mkF m 107 #[.val (.int p0), .val (.int p1), .val (.int p2), .val (.int p3), .val (.int p4), .val (.ref bA), .val (.ref bS), .val (.int s_), .val (.int e_), .val (.ref b1), .unset] [(.ref b1)])
  refine Go.st (fun _ k => XS.aload X5.here hx rfl (hb hby at_107) rfl rfl k) ?_
  show Go _ _ _ _ _ _ _ T5 (mkF m 109 #[.val (.int p0), .val (.int p1), .val (.int p2), .val (.int p3), .val (.int p4), .val (.ref bA), .val (.ref bS), .val (.int s_), .val (.int e_), .val (.ref b1), .unset] [(.ref bS), (.ref b1)])
  refine Go.st (fun _ k => XS.iload X5.here hx rfl (hb hby at_109) rfl k) ?_
  show Go _ _ _ _ _ _ _ T5 (mkF m 111 #[.val (.int p0), .val (.int p1), .val (.int p2), .val (.int p3), .val (.int p4), .val (.ref bA), .val (.ref bS), .val (.int s_), .val (.int e_), .val (.ref b1), .unset] [(.int s_), (.ref bS), (.ref b1)])
  refine Go.st (fun _ k => XS.iload X5.here hx rfl (hb hby at_111) rfl k) ?_
  show Go _ _ _ _ _ _ _ T5 (mkF m 113 #[.val (.int p0), .val (.int p1), .val (.int p2), .val (.int p3), .val (.int p4), .val (.ref bA), .val (.ref bS), .val (.int s_), .val (.int e_), .val (.ref b1), .unset] [(.int e_), (.int s_), (.ref bS), (.ref b1)])
  obtain ⟨cq6, kq6, q6a, q6b, q6c⟩ := isOf hZ e5 A1
  obtain ⟨_, _, ⟨T6, L6, ck6, cn6⟩, -, X6, ⟨Lc6, hQ6, l6, y6, z6⟩, st6⟩ := X5.virtualBack hx (y := (⟨"com/example/grantd/grantd/policy/TextSpan", "set", "(Ljava/lang/String;II)V"⟩ : MethodName)) (z := (⟨"com/example/grantd/grantd/policy/TextSpan", "set", "(Ljava/lang/String;II)V"⟩ : MethodName)) hown (mvT hZ (hw _ (List.mem_of_getElem? (i := 39) rfl))) (mvT hZ (hw _ (List.mem_of_getElem? (i := 40) rfl))) (notFace_of_selects (args := #[]) (mvT hZ (hw _ (List.mem_of_getElem? (i := 42) rfl)))) (mvT hZ (hw _ (List.mem_of_getElem? (i := 42) rfl))) (mvT hZ (hw _ (List.mem_of_getElem? (i := 41) rfl))) (by decide) (backOf (W := 0) (rm8 l Z a0 hw [] b1 bS s_ e_ .null (.int (0 : Int32)) (.int (0 : Int32)) t kb k0 k1 k2 k3 k4 k5 G1 h1 n0 Z1 A1 F_text_b1 F_start_b1 F_end_b1 g_b1 E_bS__1 F_value_bS__1 N_bS__1 hs1 hse hs3 S_CS__1 P_CS (Ne.symm ne2) (Ne.symm ne3)) hZ (hw _ (List.mem_of_getElem? (i := 43) rfl)) (hw _ (List.mem_of_getElem? (i := 34) rfl)) (by decide) (by decide)) q6a q6c (g := (mkF m 113 #[.val (.int p0), .val (.int p1), .val (.int p2), .val (.int p3), .val (.int p4), .val (.ref bA), .val (.ref bS), .val (.int s_), .val (.int e_), .val (.ref b1), .unset] [(.int e_), (.int s_), (.ref bS), (.ref b1)])) rfl (by rw [hml]; rfl) (Steps.refl _) (argsL := [(.ref bS), (.int s_), (.int e_)]) (rest := []) (lenOf pd_19 rfl) rfl (by show 2 * 0 + _ ≤ _; exact Nat.le_of_eq rfl) (hb hby at_113) (fun _ _ => ⟨rfl, e5, (by decide : 5 + 0 ≤ _), (by decide : 31 + 0 ≤ _)⟩)
  dsimp only [Pt.U, Pt.locs, Pt.cells, Pt.slots] at X6 l6 y6 z6 st6 hQ6
  subst l6 y6 z6
  generalize e6 : T6.heap = h6 at hQ6
  obtain ⟨rfl, N6q, K6, EE6, FF_text_6, FF_start_6, FF_end_6⟩ := hQ6
  have N6 := Fr.app N5 N6q
  refine Go.st (fun _ k => st6.trans k) ?_
  have S_CS__6 := own_sta S_CS__1 K6 (allS A1.cell (all0))
  have S_AD__6 := own_sta S_AD__1 K6 (allS A1.cell (all0))
  have S_HI__6 := own_sta S_HI__1 K6 (allS A1.cell (all0))
  have S_LO__6 := own_sta S_LO__1 K6 (allS A1.cell (all0))
  have S_SI__6 := own_staR S_SI__1 K6 (allS A1.cell (all0))
  have E_bS__6 := E_bS__1.keep K6
  have F_value_bS__6 := F_value_bS__1.keep K6 (ninS ne2 (nin0))
  have N_bS__6 := N_bS__1.keep K6 (ninS ne2 (nin0)) (ninS ne3 (nin0))
  have V_bA__6 := V_bA__1.keep K6 (ninS ne4 (nin0))
  have A1__6 := A1.keep K6
  have Z6 : n0 ≤ h6.size := Nat.le_trans Z1 K6.1
  show Go _ _ _ _ _ _ _ T6 (mkF m 116 #[.val (.int p0), .val (.int p1), .val (.int p2), .val (.int p3), .val (.int p4), .val (.ref bA), .val (.ref bS), .val (.int s_), .val (.int e_), .val (.ref b1), .unset] [])
  refine Go.st (fun _ k => XS.aload X6.here hx rfl (hb hby at_116) rfl rfl k) ?_
  show Go _ _ _ _ _ _ _ T6 (mkF m 118 #[.val (.int p0), .val (.int p1), .val (.int p2), .val (.int p3), .val (.int p4), .val (.ref bA), .val (.ref bS), .val (.int s_), .val (.int e_), .val (.ref b1), .unset] [(.ref bA)])
  refine Go.st (fun _ k => XS.iconst X6.here hx rfl (hb hby at_118) k) ?_
  show Go _ _ _ _ _ _ _ T6 (mkF m 119 #[.val (.int p0), .val (.int p1), .val (.int p2), .val (.int p3), .val (.int p4), .val (.ref bA), .val (.ref bS), .val (.int s_), .val (.int e_), .val (.ref b1), .unset] [(.int (0 : Int32)), (.ref bA)])
  refine Go.st (fun _ k => XS.iload X6.here hx rfl (hb hby at_119) rfl k) ?_
  show Go _ _ _ _ _ _ _ T6 (mkF m 121 #[.val (.int p0), .val (.int p1), .val (.int p2), .val (.int p3), .val (.int p4), .val (.ref bA), .val (.ref bS), .val (.int s_), .val (.int e_), .val (.ref b1), .unset] [(.int s_), (.int (0 : Int32)), (.ref bA)])
  refine Go.st (fun _ k => XS.iload X6.here hx rfl (hb hby at_121) rfl k) ?_
  show Go _ _ _ _ _ _ _ T6 (mkF m 123 #[.val (.int p0), .val (.int p1), .val (.int p2), .val (.int p3), .val (.int p4), .val (.ref bA), .val (.ref bS), .val (.int s_), .val (.int e_), .val (.ref b1), .unset] [(.int e_), (.int s_), (.int (0 : Int32)), (.ref bA)])
  obtain ⟨_, _, ⟨T7, L7, ck7, cn7⟩, -, X7, ⟨Lc7, hQ7, l7, y7, z7⟩, st7⟩ := Jvm.LawKit.callS X6 hx (y := (⟨"com/example/grantd/grantd/policy/TextSpanTextHashPinLaw", "term", "([CIII)I"⟩ : MethodName)) hown (mvT hZ (hw _ (List.mem_of_getElem? (i := 68) rfl))) (mvT hZ (hw _ (List.mem_of_getElem? (i := 69) rfl))) (mvT hZ (hw _ (List.mem_of_getElem? (i := 70) rfl))) (mvT hZ (hw _ (List.mem_of_getElem? (i := 71) rfl))) (by decide) (backOf (W := 0) (rm13 l Z a0 hw [] bA (0 : Int32) s_ e_ kc k0 k1 k2 k3 k4 k5 h6 n0 Z6 V_bA__6 (Or.inl rfl) hs3) hZ (hw _ (List.mem_of_getElem? (i := 71) rfl)) (hw _ (List.mem_of_getElem? (i := 70) rfl)) (by decide) (by decide)) (g := (mkF m 123 #[.val (.int p0), .val (.int p1), .val (.int p2), .val (.int p3), .val (.int p4), .val (.ref bA), .val (.ref bS), .val (.int s_), .val (.int e_), .val (.ref b1), .unset] [(.int e_), (.int s_), (.int (0 : Int32)), (.ref bA)])) rfl (by rw [hml]; rfl) (argsL := [(.ref bA), (.int (0 : Int32)), (.int s_), (.int e_)]) (rest := []) (lenOf pd_20 rfl) rfl (by show 2 * 0 + _ ≤ _; exact Nat.le_of_eq rfl) (hb hby at_123) (fun _ _ => ⟨rfl, e6, (by decide : 5 + 1 ≤ _), (by decide : 31 + 6 ≤ _)⟩)
  dsimp only [Pt.U, Pt.locs, Pt.cells, Pt.slots] at X7 l7 y7 z7 st7 hQ7
  subst l7 y7 z7
  generalize e7 : T7.heap = h7 at hQ7
  obtain ⟨rfl, N7q, K7⟩ := hQ7
  have N7 := Fr.app N6 N7q
  refine Go.st st7 ?_
  have S_CS__7 := own_sta S_CS__6 K7 (all0)
  have S_AD__7 := own_sta S_AD__6 K7 (all0)
  have S_HI__7 := own_sta S_HI__6 K7 (all0)
  have S_LO__7 := own_sta S_LO__6 K7 (all0)
  have S_SI__7 := own_staR S_SI__6 K7 (all0)
  have E_bS__7 := E_bS__6.keep K7
  have F_value_bS__7 := F_value_bS__6.keep K7 (nin0)
  have N_bS__7 := N_bS__6.keep K7 (nin0) (nin0)
  have V_bA__7 := V_bA__6.keep K7 (nin0)
  have EE6__7 := EE6.keep K7
  have FF_text_6__7 := FF_text_6.keep K7 (nin0)
  have FF_start_6__7 := FF_start_6.keep K7 (nin0)
  have FF_end_6__7 := FF_end_6.keep K7 (nin0)
  have Z7 : n0 ≤ h7.size := Nat.le_trans Z6 K7.1
  show Go _ _ _ _ _ _ _ T7 (mkF m 126 #[.val (.int p0), .val (.int p1), .val (.int p2), .val (.int p3), .val (.int p4), .val (.ref bA), .val (.ref bS), .val (.int s_), .val (.int e_), .val (.ref b1), .unset] [(.int (termW (0 : Int32) s_ e_ k0 k1 k2 k3 k4 k5))])
  refine Go.st (fun _ k => XS.aload X7.here hx rfl (hb hby at_126) rfl rfl k) ?_
  show Go _ _ _ _ _ _ _ T7 (mkF m 128 #[.val (.int p0), .val (.int p1), .val (.int p2), .val (.int p3), .val (.int p4), .val (.ref bA), .val (.ref bS), .val (.int s_), .val (.int e_), .val (.ref b1), .unset] [(.ref bA), (.int (termW (0 : Int32) s_ e_ k0 k1 k2 k3 k4 k5))])
  refine Go.st (fun _ k => XS.iconst X7.here hx rfl (hb hby at_128) k) ?_
  show Go _ _ _ _ _ _ _ T7 (mkF m 129 #[.val (.int p0), .val (.int p1), .val (.int p2), .val (.int p3), .val (.int p4), .val (.ref bA), .val (.ref bS), .val (.int s_), .val (.int e_), .val (.ref b1), .unset] [(.int (1 : Int32)), (.ref bA), (.int (termW (0 : Int32) s_ e_ k0 k1 k2 k3 k4 k5))])
  refine Go.st (fun _ k => XS.iload X7.here hx rfl (hb hby at_129) rfl k) ?_
  show Go _ _ _ _ _ _ _ T7 (mkF m 131 #[.val (.int p0), .val (.int p1), .val (.int p2), .val (.int p3), .val (.int p4), .val (.ref bA), .val (.ref bS), .val (.int s_), .val (.int e_), .val (.ref b1), .unset] [(.int s_), (.int (1 : Int32)), (.ref bA), (.int (termW (0 : Int32) s_ e_ k0 k1 k2 k3 k4 k5))])
  refine Go.st (fun _ k => XS.iload X7.here hx rfl (hb hby at_131) rfl k) ?_
  show Go _ _ _ _ _ _ _ T7 (mkF m 133 #[.val (.int p0), .val (.int p1), .val (.int p2), .val (.int p3), .val (.int p4), .val (.ref bA), .val (.ref bS), .val (.int s_), .val (.int e_), .val (.ref b1), .unset] [(.int e_), (.int s_), (.int (1 : Int32)), (.ref bA), (.int (termW (0 : Int32) s_ e_ k0 k1 k2 k3 k4 k5))])
  obtain ⟨_, _, ⟨T8, L8, ck8, cn8⟩, -, X8, ⟨Lc8, hQ8, l8, y8, z8⟩, st8⟩ := Jvm.LawKit.callS X7 hx (y := (⟨"com/example/grantd/grantd/policy/TextSpanTextHashPinLaw", "term", "([CIII)I"⟩ : MethodName)) hown (mvT hZ (hw _ (List.mem_of_getElem? (i := 68) rfl))) (mvT hZ (hw _ (List.mem_of_getElem? (i := 69) rfl))) (mvT hZ (hw _ (List.mem_of_getElem? (i := 70) rfl))) (mvT hZ (hw _ (List.mem_of_getElem? (i := 71) rfl))) (by decide) (backOf (W := 1) (rm13 l Z a0 hw [] bA (1 : Int32) s_ e_ kc k0 k1 k2 k3 k4 k5 h7 n0 Z7 V_bA__7 (Or.inr (Or.inl rfl)) hs3) hZ (hw _ (List.mem_of_getElem? (i := 71) rfl)) (hw _ (List.mem_of_getElem? (i := 70) rfl)) (by decide) (by decide)) (g := (mkF m 133 #[.val (.int p0), .val (.int p1), .val (.int p2), .val (.int p3), .val (.int p4), .val (.ref bA), .val (.ref bS), .val (.int s_), .val (.int e_), .val (.ref b1), .unset] [(.int e_), (.int s_), (.int (1 : Int32)), (.ref bA), (.int (termW (0 : Int32) s_ e_ k0 k1 k2 k3 k4 k5))])) rfl (by rw [hml]; rfl) (argsL := [(.ref bA), (.int (1 : Int32)), (.int s_), (.int e_)]) (rest := [(.int (termW (0 : Int32) s_ e_ k0 k1 k2 k3 k4 k5))]) (lenOf pd_20 rfl) rfl (by show 2 * 0 + _ ≤ _; exact Nat.le_of_eq rfl) (hb hby at_133) (fun _ _ => ⟨rfl, e7, (by decide : 6 + 1 ≤ _), (by decide : 37 + 6 ≤ _)⟩)
  dsimp only [Pt.U, Pt.locs, Pt.cells, Pt.slots] at X8 l8 y8 z8 st8 hQ8
  subst l8 y8 z8
  generalize e8 : T8.heap = h8 at hQ8
  obtain ⟨rfl, N8q, K8⟩ := hQ8
  have N8 := Fr.app N7 N8q
  refine Go.st st8 ?_
  have S_CS__8 := own_sta S_CS__7 K8 (all0)
  have S_AD__8 := own_sta S_AD__7 K8 (all0)
  have S_HI__8 := own_sta S_HI__7 K8 (all0)
  have S_LO__8 := own_sta S_LO__7 K8 (all0)
  have S_SI__8 := own_staR S_SI__7 K8 (all0)
  have E_bS__8 := E_bS__7.keep K8
  have F_value_bS__8 := F_value_bS__7.keep K8 (nin0)
  have N_bS__8 := N_bS__7.keep K8 (nin0) (nin0)
  have V_bA__8 := V_bA__7.keep K8 (nin0)
  have EE6__8 := EE6__7.keep K8
  have FF_text_6__8 := FF_text_6__7.keep K8 (nin0)
  have FF_start_6__8 := FF_start_6__7.keep K8 (nin0)
  have FF_end_6__8 := FF_end_6__7.keep K8 (nin0)
  have Z8 : n0 ≤ h8.size := Nat.le_trans Z7 K8.1
  show Go _ _ _ _ _ _ _ T8 (mkF m 136 #[.val (.int p0), .val (.int p1), .val (.int p2), .val (.int p3), .val (.int p4), .val (.ref bA), .val (.ref bS), .val (.int s_), .val (.int e_), .val (.ref b1), .unset] [(.int (termW (1 : Int32) s_ e_ k0 k1 k2 k3 k4 k5)), (.int (termW (0 : Int32) s_ e_ k0 k1 k2 k3 k4 k5))])
  refine Go.st (fun _ k => XS.iadd X8.here hx rfl (hb hby at_136) rfl k) ?_
  show Go _ _ _ _ _ _ _ T8 (mkF m 137 #[.val (.int p0), .val (.int p1), .val (.int p2), .val (.int p3), .val (.int p4), .val (.ref bA), .val (.ref bS), .val (.int s_), .val (.int e_), .val (.ref b1), .unset] [(.int ((termW (0 : Int32) s_ e_ k0 k1 k2 k3 k4 k5) + (termW (1 : Int32) s_ e_ k0 k1 k2 k3 k4 k5)))])
  refine Go.st (fun _ k => XS.aload X8.here hx rfl (hb hby at_137) rfl rfl k) ?_
  show Go _ _ _ _ _ _ _ T8 (mkF m 139 #[.val (.int p0), .val (.int p1), .val (.int p2), .val (.int p3), .val (.int p4), .val (.ref bA), .val (.ref bS), .val (.int s_), .val (.int e_), .val (.ref b1), .unset] [(.ref bA), (.int ((termW (0 : Int32) s_ e_ k0 k1 k2 k3 k4 k5) + (termW (1 : Int32) s_ e_ k0 k1 k2 k3 k4 k5)))])
  refine Go.st (fun _ k => XS.iconst X8.here hx rfl (hb hby at_139) k) ?_
  show Go _ _ _ _ _ _ _ T8 (mkF m 140 #[.val (.int p0), .val (.int p1), .val (.int p2), .val (.int p3), .val (.int p4), .val (.ref bA), .val (.ref bS), .val (.int s_), .val (.int e_), .val (.ref b1), .unset] [(.int (2 : Int32)), (.ref bA), (.int ((termW (0 : Int32) s_ e_ k0 k1 k2 k3 k4 k5) + (termW (1 : Int32) s_ e_ k0 k1 k2 k3 k4 k5)))])
  refine Go.st (fun _ k => XS.iload X8.here hx rfl (hb hby at_140) rfl k) ?_
  show Go _ _ _ _ _ _ _ T8 (mkF m 142 #[.val (.int p0), .val (.int p1), .val (.int p2), .val (.int p3), .val (.int p4), .val (.ref bA), .val (.ref bS), .val (.int s_), .val (.int e_), .val (.ref b1), .unset] [(.int s_), (.int (2 : Int32)), (.ref bA), (.int ((termW (0 : Int32) s_ e_ k0 k1 k2 k3 k4 k5) + (termW (1 : Int32) s_ e_ k0 k1 k2 k3 k4 k5)))])
  refine Go.st (fun _ k => XS.iload X8.here hx rfl (hb hby at_142) rfl k) ?_
  show Go _ _ _ _ _ _ _ T8 (mkF m 144 #[.val (.int p0), .val (.int p1), .val (.int p2), .val (.int p3), .val (.int p4), .val (.ref bA), .val (.ref bS), .val (.int s_), .val (.int e_), .val (.ref b1), .unset] [(.int e_), (.int s_), (.int (2 : Int32)), (.ref bA), (.int ((termW (0 : Int32) s_ e_ k0 k1 k2 k3 k4 k5) + (termW (1 : Int32) s_ e_ k0 k1 k2 k3 k4 k5)))])
  obtain ⟨_, _, ⟨T9, L9, ck9, cn9⟩, -, X9, ⟨Lc9, hQ9, l9, y9, z9⟩, st9⟩ := Jvm.LawKit.callS X8 hx (y := (⟨"com/example/grantd/grantd/policy/TextSpanTextHashPinLaw", "term", "([CIII)I"⟩ : MethodName)) hown (mvT hZ (hw _ (List.mem_of_getElem? (i := 68) rfl))) (mvT hZ (hw _ (List.mem_of_getElem? (i := 69) rfl))) (mvT hZ (hw _ (List.mem_of_getElem? (i := 70) rfl))) (mvT hZ (hw _ (List.mem_of_getElem? (i := 71) rfl))) (by decide) (backOf (W := 1) (rm13 l Z a0 hw [] bA (2 : Int32) s_ e_ kc k0 k1 k2 k3 k4 k5 h8 n0 Z8 V_bA__8 (Or.inr (Or.inr (Or.inl rfl))) hs3) hZ (hw _ (List.mem_of_getElem? (i := 71) rfl)) (hw _ (List.mem_of_getElem? (i := 70) rfl)) (by decide) (by decide)) (g := (mkF m 144 #[.val (.int p0), .val (.int p1), .val (.int p2), .val (.int p3), .val (.int p4), .val (.ref bA), .val (.ref bS), .val (.int s_), .val (.int e_), .val (.ref b1), .unset] [(.int e_), (.int s_), (.int (2 : Int32)), (.ref bA), (.int ((termW (0 : Int32) s_ e_ k0 k1 k2 k3 k4 k5) + (termW (1 : Int32) s_ e_ k0 k1 k2 k3 k4 k5)))])) rfl (by rw [hml]; rfl) (argsL := [(.ref bA), (.int (2 : Int32)), (.int s_), (.int e_)]) (rest := [(.int ((termW (0 : Int32) s_ e_ k0 k1 k2 k3 k4 k5) + (termW (1 : Int32) s_ e_ k0 k1 k2 k3 k4 k5)))]) (lenOf pd_20 rfl) rfl (by show 2 * 0 + _ ≤ _; exact Nat.le_of_eq rfl) (hb hby at_144) (fun _ _ => ⟨rfl, e8, (by decide : 7 + 1 ≤ _), (by decide : 43 + 6 ≤ _)⟩)
  dsimp only [Pt.U, Pt.locs, Pt.cells, Pt.slots] at X9 l9 y9 z9 st9 hQ9
  subst l9 y9 z9
  generalize e9 : T9.heap = h9 at hQ9
  obtain ⟨rfl, N9q, K9⟩ := hQ9
  have N9 := Fr.app N8 N9q
  refine Go.st st9 ?_
  have S_CS__9 := own_sta S_CS__8 K9 (all0)
  have S_AD__9 := own_sta S_AD__8 K9 (all0)
  have S_HI__9 := own_sta S_HI__8 K9 (all0)
  have S_LO__9 := own_sta S_LO__8 K9 (all0)
  have S_SI__9 := own_staR S_SI__8 K9 (all0)
  have E_bS__9 := E_bS__8.keep K9
  have F_value_bS__9 := F_value_bS__8.keep K9 (nin0)
  have N_bS__9 := N_bS__8.keep K9 (nin0) (nin0)
  have V_bA__9 := V_bA__8.keep K9 (nin0)
  have EE6__9 := EE6__8.keep K9
  have FF_text_6__9 := FF_text_6__8.keep K9 (nin0)
  have FF_start_6__9 := FF_start_6__8.keep K9 (nin0)
  have FF_end_6__9 := FF_end_6__8.keep K9 (nin0)
  have Z9 : n0 ≤ h9.size := Nat.le_trans Z8 K9.1
  show Go _ _ _ _ _ _ _ T9 (mkF m 147 #[.val (.int p0), .val (.int p1), .val (.int p2), .val (.int p3), .val (.int p4), .val (.ref bA), .val (.ref bS), .val (.int s_), .val (.int e_), .val (.ref b1), .unset] [(.int (termW (2 : Int32) s_ e_ k0 k1 k2 k3 k4 k5)), (.int ((termW (0 : Int32) s_ e_ k0 k1 k2 k3 k4 k5) + (termW (1 : Int32) s_ e_ k0 k1 k2 k3 k4 k5)))])
  refine Go.st (fun _ k => XS.iadd X9.here hx rfl (hb hby at_147) rfl k) ?_
  show Go _ _ _ _ _ _ _ T9 (mkF m 148 #[.val (.int p0), .val (.int p1), .val (.int p2), .val (.int p3), .val (.int p4), .val (.ref bA), .val (.ref bS), .val (.int s_), .val (.int e_), .val (.ref b1), .unset] [(.int (((termW (0 : Int32) s_ e_ k0 k1 k2 k3 k4 k5) + (termW (1 : Int32) s_ e_ k0 k1 k2 k3 k4 k5)) + (termW (2 : Int32) s_ e_ k0 k1 k2 k3 k4 k5)))])
  refine Go.st (fun _ k => XS.aload X9.here hx rfl (hb hby at_148) rfl rfl k) ?_
  show Go _ _ _ _ _ _ _ T9 (mkF m 150 #[.val (.int p0), .val (.int p1), .val (.int p2), .val (.int p3), .val (.int p4), .val (.ref bA), .val (.ref bS), .val (.int s_), .val (.int e_), .val (.ref b1), .unset] [(.ref bA), (.int (((termW (0 : Int32) s_ e_ k0 k1 k2 k3 k4 k5) + (termW (1 : Int32) s_ e_ k0 k1 k2 k3 k4 k5)) + (termW (2 : Int32) s_ e_ k0 k1 k2 k3 k4 k5)))])
  refine Go.st (fun _ k => XS.iconst X9.here hx rfl (hb hby at_150) k) ?_
  show Go _ _ _ _ _ _ _ T9 (mkF m 151 #[.val (.int p0), .val (.int p1), .val (.int p2), .val (.int p3), .val (.int p4), .val (.ref bA), .val (.ref bS), .val (.int s_), .val (.int e_), .val (.ref b1), .unset] [(.int (3 : Int32)), (.ref bA), (.int (((termW (0 : Int32) s_ e_ k0 k1 k2 k3 k4 k5) + (termW (1 : Int32) s_ e_ k0 k1 k2 k3 k4 k5)) + (termW (2 : Int32) s_ e_ k0 k1 k2 k3 k4 k5)))])
  refine Go.st (fun _ k => XS.iload X9.here hx rfl (hb hby at_151) rfl k) ?_
  show Go _ _ _ _ _ _ _ T9 (mkF m 153 #[.val (.int p0), .val (.int p1), .val (.int p2), .val (.int p3), .val (.int p4), .val (.ref bA), .val (.ref bS), .val (.int s_), .val (.int e_), .val (.ref b1), .unset] [(.int s_), (.int (3 : Int32)), (.ref bA), (.int (((termW (0 : Int32) s_ e_ k0 k1 k2 k3 k4 k5) + (termW (1 : Int32) s_ e_ k0 k1 k2 k3 k4 k5)) + (termW (2 : Int32) s_ e_ k0 k1 k2 k3 k4 k5)))])
  refine Go.st (fun _ k => XS.iload X9.here hx rfl (hb hby at_153) rfl k) ?_
  show Go _ _ _ _ _ _ _ T9 (mkF m 155 #[.val (.int p0), .val (.int p1), .val (.int p2), .val (.int p3), .val (.int p4), .val (.ref bA), .val (.ref bS), .val (.int s_), .val (.int e_), .val (.ref b1), .unset] [(.int e_), (.int s_), (.int (3 : Int32)), (.ref bA), (.int (((termW (0 : Int32) s_ e_ k0 k1 k2 k3 k4 k5) + (termW (1 : Int32) s_ e_ k0 k1 k2 k3 k4 k5)) + (termW (2 : Int32) s_ e_ k0 k1 k2 k3 k4 k5)))])
  obtain ⟨_, _, ⟨T10, L10, ck10, cn10⟩, -, X10, ⟨Lc10, hQ10, l10, y10, z10⟩, st10⟩ := Jvm.LawKit.callS X9 hx (y := (⟨"com/example/grantd/grantd/policy/TextSpanTextHashPinLaw", "term", "([CIII)I"⟩ : MethodName)) hown (mvT hZ (hw _ (List.mem_of_getElem? (i := 68) rfl))) (mvT hZ (hw _ (List.mem_of_getElem? (i := 69) rfl))) (mvT hZ (hw _ (List.mem_of_getElem? (i := 70) rfl))) (mvT hZ (hw _ (List.mem_of_getElem? (i := 71) rfl))) (by decide) (backOf (W := 1) (rm13 l Z a0 hw [] bA (3 : Int32) s_ e_ kc k0 k1 k2 k3 k4 k5 h9 n0 Z9 V_bA__9 (Or.inr (Or.inr (Or.inr (Or.inl rfl)))) hs3) hZ (hw _ (List.mem_of_getElem? (i := 71) rfl)) (hw _ (List.mem_of_getElem? (i := 70) rfl)) (by decide) (by decide)) (g := (mkF m 155 #[.val (.int p0), .val (.int p1), .val (.int p2), .val (.int p3), .val (.int p4), .val (.ref bA), .val (.ref bS), .val (.int s_), .val (.int e_), .val (.ref b1), .unset] [(.int e_), (.int s_), (.int (3 : Int32)), (.ref bA), (.int (((termW (0 : Int32) s_ e_ k0 k1 k2 k3 k4 k5) + (termW (1 : Int32) s_ e_ k0 k1 k2 k3 k4 k5)) + (termW (2 : Int32) s_ e_ k0 k1 k2 k3 k4 k5)))])) rfl (by rw [hml]; rfl) (argsL := [(.ref bA), (.int (3 : Int32)), (.int s_), (.int e_)]) (rest := [(.int (((termW (0 : Int32) s_ e_ k0 k1 k2 k3 k4 k5) + (termW (1 : Int32) s_ e_ k0 k1 k2 k3 k4 k5)) + (termW (2 : Int32) s_ e_ k0 k1 k2 k3 k4 k5)))]) (lenOf pd_20 rfl) rfl (by show 2 * 0 + _ ≤ _; exact Nat.le_of_eq rfl) (hb hby at_155) (fun _ _ => ⟨rfl, e9, (by decide : 8 + 1 ≤ _), (by decide : 49 + 6 ≤ _)⟩)
  dsimp only [Pt.U, Pt.locs, Pt.cells, Pt.slots] at X10 l10 y10 z10 st10 hQ10
  subst l10 y10 z10
  generalize e10 : T10.heap = h10 at hQ10
  obtain ⟨rfl, N10q, K10⟩ := hQ10
  have N10 := Fr.app N9 N10q
  refine Go.st st10 ?_
  have S_CS__10 := own_sta S_CS__9 K10 (all0)
  have S_AD__10 := own_sta S_AD__9 K10 (all0)
  have S_HI__10 := own_sta S_HI__9 K10 (all0)
  have S_LO__10 := own_sta S_LO__9 K10 (all0)
  have S_SI__10 := own_staR S_SI__9 K10 (all0)
  have E_bS__10 := E_bS__9.keep K10
  have F_value_bS__10 := F_value_bS__9.keep K10 (nin0)
  have N_bS__10 := N_bS__9.keep K10 (nin0) (nin0)
  have V_bA__10 := V_bA__9.keep K10 (nin0)
  have EE6__10 := EE6__9.keep K10
  have FF_text_6__10 := FF_text_6__9.keep K10 (nin0)
  have FF_start_6__10 := FF_start_6__9.keep K10 (nin0)
  have FF_end_6__10 := FF_end_6__9.keep K10 (nin0)
  have Z10 : n0 ≤ h10.size := Nat.le_trans Z9 K10.1
  show Go _ _ _ _ _ _ _ T10 (mkF m 158 #[.val (.int p0), .val (.int p1), .val (.int p2), .val (.int p3), .val (.int p4), .val (.ref bA), .val (.ref bS), .val (.int s_), .val (.int e_), .val (.ref b1), .unset] [(.int (termW (3 : Int32) s_ e_ k0 k1 k2 k3 k4 k5)), (.int (((termW (0 : Int32) s_ e_ k0 k1 k2 k3 k4 k5) + (termW (1 : Int32) s_ e_ k0 k1 k2 k3 k4 k5)) + (termW (2 : Int32) s_ e_ k0 k1 k2 k3 k4 k5)))])
  refine Go.st (fun _ k => XS.iadd X10.here hx rfl (hb hby at_158) rfl k) ?_
  show Go _ _ _ _ _ _ _ T10 (mkF m 159 #[.val (.int p0), .val (.int p1), .val (.int p2), .val (.int p3), .val (.int p4), .val (.ref bA), .val (.ref bS), .val (.int s_), .val (.int e_), .val (.ref b1), .unset] [(.int ((((termW (0 : Int32) s_ e_ k0 k1 k2 k3 k4 k5) + (termW (1 : Int32) s_ e_ k0 k1 k2 k3 k4 k5)) + (termW (2 : Int32) s_ e_ k0 k1 k2 k3 k4 k5)) + (termW (3 : Int32) s_ e_ k0 k1 k2 k3 k4 k5)))])
  refine Go.st (fun _ k => XS.aload X10.here hx rfl (hb hby at_159) rfl rfl k) ?_
  show Go _ _ _ _ _ _ _ T10 (mkF m 161 #[.val (.int p0), .val (.int p1), .val (.int p2), .val (.int p3), .val (.int p4), .val (.ref bA), .val (.ref bS), .val (.int s_), .val (.int e_), .val (.ref b1), .unset] [(.ref bA), (.int ((((termW (0 : Int32) s_ e_ k0 k1 k2 k3 k4 k5) + (termW (1 : Int32) s_ e_ k0 k1 k2 k3 k4 k5)) + (termW (2 : Int32) s_ e_ k0 k1 k2 k3 k4 k5)) + (termW (3 : Int32) s_ e_ k0 k1 k2 k3 k4 k5)))])
  refine Go.st (fun _ k => XS.iconst X10.here hx rfl (hb hby at_161) k) ?_
  show Go _ _ _ _ _ _ _ T10 (mkF m 162 #[.val (.int p0), .val (.int p1), .val (.int p2), .val (.int p3), .val (.int p4), .val (.ref bA), .val (.ref bS), .val (.int s_), .val (.int e_), .val (.ref b1), .unset] [(.int (4 : Int32)), (.ref bA), (.int ((((termW (0 : Int32) s_ e_ k0 k1 k2 k3 k4 k5) + (termW (1 : Int32) s_ e_ k0 k1 k2 k3 k4 k5)) + (termW (2 : Int32) s_ e_ k0 k1 k2 k3 k4 k5)) + (termW (3 : Int32) s_ e_ k0 k1 k2 k3 k4 k5)))])
  refine Go.st (fun _ k => XS.iload X10.here hx rfl (hb hby at_162) rfl k) ?_
  show Go _ _ _ _ _ _ _ T10 (mkF m 164 #[.val (.int p0), .val (.int p1), .val (.int p2), .val (.int p3), .val (.int p4), .val (.ref bA), .val (.ref bS), .val (.int s_), .val (.int e_), .val (.ref b1), .unset] [(.int s_), (.int (4 : Int32)), (.ref bA), (.int ((((termW (0 : Int32) s_ e_ k0 k1 k2 k3 k4 k5) + (termW (1 : Int32) s_ e_ k0 k1 k2 k3 k4 k5)) + (termW (2 : Int32) s_ e_ k0 k1 k2 k3 k4 k5)) + (termW (3 : Int32) s_ e_ k0 k1 k2 k3 k4 k5)))])
  refine Go.st (fun _ k => XS.iload X10.here hx rfl (hb hby at_164) rfl k) ?_
  show Go _ _ _ _ _ _ _ T10 (mkF m 166 #[.val (.int p0), .val (.int p1), .val (.int p2), .val (.int p3), .val (.int p4), .val (.ref bA), .val (.ref bS), .val (.int s_), .val (.int e_), .val (.ref b1), .unset] [(.int e_), (.int s_), (.int (4 : Int32)), (.ref bA), (.int ((((termW (0 : Int32) s_ e_ k0 k1 k2 k3 k4 k5) + (termW (1 : Int32) s_ e_ k0 k1 k2 k3 k4 k5)) + (termW (2 : Int32) s_ e_ k0 k1 k2 k3 k4 k5)) + (termW (3 : Int32) s_ e_ k0 k1 k2 k3 k4 k5)))])
  obtain ⟨_, _, ⟨T11, L11, ck11, cn11⟩, -, X11, ⟨Lc11, hQ11, l11, y11, z11⟩, st11⟩ := Jvm.LawKit.callS X10 hx (y := (⟨"com/example/grantd/grantd/policy/TextSpanTextHashPinLaw", "term", "([CIII)I"⟩ : MethodName)) hown (mvT hZ (hw _ (List.mem_of_getElem? (i := 68) rfl))) (mvT hZ (hw _ (List.mem_of_getElem? (i := 69) rfl))) (mvT hZ (hw _ (List.mem_of_getElem? (i := 70) rfl))) (mvT hZ (hw _ (List.mem_of_getElem? (i := 71) rfl))) (by decide) (backOf (W := 1) (rm13 l Z a0 hw [] bA (4 : Int32) s_ e_ kc k0 k1 k2 k3 k4 k5 h10 n0 Z10 V_bA__10 (Or.inr (Or.inr (Or.inr (Or.inr (Or.inl rfl))))) hs3) hZ (hw _ (List.mem_of_getElem? (i := 71) rfl)) (hw _ (List.mem_of_getElem? (i := 70) rfl)) (by decide) (by decide)) (g := (mkF m 166 #[.val (.int p0), .val (.int p1), .val (.int p2), .val (.int p3), .val (.int p4), .val (.ref bA), .val (.ref bS), .val (.int s_), .val (.int e_), .val (.ref b1), .unset] [(.int e_), (.int s_), (.int (4 : Int32)), (.ref bA), (.int ((((termW (0 : Int32) s_ e_ k0 k1 k2 k3 k4 k5) + (termW (1 : Int32) s_ e_ k0 k1 k2 k3 k4 k5)) + (termW (2 : Int32) s_ e_ k0 k1 k2 k3 k4 k5)) + (termW (3 : Int32) s_ e_ k0 k1 k2 k3 k4 k5)))])) rfl (by rw [hml]; rfl) (argsL := [(.ref bA), (.int (4 : Int32)), (.int s_), (.int e_)]) (rest := [(.int ((((termW (0 : Int32) s_ e_ k0 k1 k2 k3 k4 k5) + (termW (1 : Int32) s_ e_ k0 k1 k2 k3 k4 k5)) + (termW (2 : Int32) s_ e_ k0 k1 k2 k3 k4 k5)) + (termW (3 : Int32) s_ e_ k0 k1 k2 k3 k4 k5)))]) (lenOf pd_20 rfl) rfl (by show 2 * 0 + _ ≤ _; exact Nat.le_of_eq rfl) (hb hby at_166) (fun _ _ => ⟨rfl, e10, (by decide : 9 + 1 ≤ _), (by decide : 55 + 6 ≤ _)⟩)
  dsimp only [Pt.U, Pt.locs, Pt.cells, Pt.slots] at X11 l11 y11 z11 st11 hQ11
  subst l11 y11 z11
  generalize e11 : T11.heap = h11 at hQ11
  obtain ⟨rfl, N11q, K11⟩ := hQ11
  have N11 := Fr.app N10 N11q
  refine Go.st st11 ?_
  have S_CS__11 := own_sta S_CS__10 K11 (all0)
  have S_AD__11 := own_sta S_AD__10 K11 (all0)
  have S_HI__11 := own_sta S_HI__10 K11 (all0)
  have S_LO__11 := own_sta S_LO__10 K11 (all0)
  have S_SI__11 := own_staR S_SI__10 K11 (all0)
  have E_bS__11 := E_bS__10.keep K11
  have F_value_bS__11 := F_value_bS__10.keep K11 (nin0)
  have N_bS__11 := N_bS__10.keep K11 (nin0) (nin0)
  have V_bA__11 := V_bA__10.keep K11 (nin0)
  have EE6__11 := EE6__10.keep K11
  have FF_text_6__11 := FF_text_6__10.keep K11 (nin0)
  have FF_start_6__11 := FF_start_6__10.keep K11 (nin0)
  have FF_end_6__11 := FF_end_6__10.keep K11 (nin0)
  have Z11 : n0 ≤ h11.size := Nat.le_trans Z10 K11.1
  show Go _ _ _ _ _ _ _ T11 (mkF m 169 #[.val (.int p0), .val (.int p1), .val (.int p2), .val (.int p3), .val (.int p4), .val (.ref bA), .val (.ref bS), .val (.int s_), .val (.int e_), .val (.ref b1), .unset] [(.int (termW (4 : Int32) s_ e_ k0 k1 k2 k3 k4 k5)), (.int ((((termW (0 : Int32) s_ e_ k0 k1 k2 k3 k4 k5) + (termW (1 : Int32) s_ e_ k0 k1 k2 k3 k4 k5)) + (termW (2 : Int32) s_ e_ k0 k1 k2 k3 k4 k5)) + (termW (3 : Int32) s_ e_ k0 k1 k2 k3 k4 k5)))])
  refine Go.st (fun _ k => XS.iadd X11.here hx rfl (hb hby at_169) rfl k) ?_
  show Go _ _ _ _ _ _ _ T11 (mkF m 170 #[.val (.int p0), .val (.int p1), .val (.int p2), .val (.int p3), .val (.int p4), .val (.ref bA), .val (.ref bS), .val (.int s_), .val (.int e_), .val (.ref b1), .unset] [(.int (((((termW (0 : Int32) s_ e_ k0 k1 k2 k3 k4 k5) + (termW (1 : Int32) s_ e_ k0 k1 k2 k3 k4 k5)) + (termW (2 : Int32) s_ e_ k0 k1 k2 k3 k4 k5)) + (termW (3 : Int32) s_ e_ k0 k1 k2 k3 k4 k5)) + (termW (4 : Int32) s_ e_ k0 k1 k2 k3 k4 k5)))])
  refine Go.st (fun _ k => XS.aload X11.here hx rfl (hb hby at_170) rfl rfl k) ?_
  show Go _ _ _ _ _ _ _ T11 (mkF m 172 #[.val (.int p0), .val (.int p1), .val (.int p2), .val (.int p3), .val (.int p4), .val (.ref bA), .val (.ref bS), .val (.int s_), .val (.int e_), .val (.ref b1), .unset] [(.ref bA), (.int (((((termW (0 : Int32) s_ e_ k0 k1 k2 k3 k4 k5) + (termW (1 : Int32) s_ e_ k0 k1 k2 k3 k4 k5)) + (termW (2 : Int32) s_ e_ k0 k1 k2 k3 k4 k5)) + (termW (3 : Int32) s_ e_ k0 k1 k2 k3 k4 k5)) + (termW (4 : Int32) s_ e_ k0 k1 k2 k3 k4 k5)))])
  refine Go.st (fun _ k => XS.iconst X11.here hx rfl (hb hby at_172) k) ?_
  show Go _ _ _ _ _ _ _ T11 (mkF m 173 #[.val (.int p0), .val (.int p1), .val (.int p2), .val (.int p3), .val (.int p4), .val (.ref bA), .val (.ref bS), .val (.int s_), .val (.int e_), .val (.ref b1), .unset] [(.int (5 : Int32)), (.ref bA), (.int (((((termW (0 : Int32) s_ e_ k0 k1 k2 k3 k4 k5) + (termW (1 : Int32) s_ e_ k0 k1 k2 k3 k4 k5)) + (termW (2 : Int32) s_ e_ k0 k1 k2 k3 k4 k5)) + (termW (3 : Int32) s_ e_ k0 k1 k2 k3 k4 k5)) + (termW (4 : Int32) s_ e_ k0 k1 k2 k3 k4 k5)))])
  refine Go.st (fun _ k => XS.iload X11.here hx rfl (hb hby at_173) rfl k) ?_
  show Go _ _ _ _ _ _ _ T11 (mkF m 175 #[.val (.int p0), .val (.int p1), .val (.int p2), .val (.int p3), .val (.int p4), .val (.ref bA), .val (.ref bS), .val (.int s_), .val (.int e_), .val (.ref b1), .unset] [(.int s_), (.int (5 : Int32)), (.ref bA), (.int (((((termW (0 : Int32) s_ e_ k0 k1 k2 k3 k4 k5) + (termW (1 : Int32) s_ e_ k0 k1 k2 k3 k4 k5)) + (termW (2 : Int32) s_ e_ k0 k1 k2 k3 k4 k5)) + (termW (3 : Int32) s_ e_ k0 k1 k2 k3 k4 k5)) + (termW (4 : Int32) s_ e_ k0 k1 k2 k3 k4 k5)))])
  refine Go.st (fun _ k => XS.iload X11.here hx rfl (hb hby at_175) rfl k) ?_
  show Go _ _ _ _ _ _ _ T11 (mkF m 177 #[.val (.int p0), .val (.int p1), .val (.int p2), .val (.int p3), .val (.int p4), .val (.ref bA), .val (.ref bS), .val (.int s_), .val (.int e_), .val (.ref b1), .unset] [(.int e_), (.int s_), (.int (5 : Int32)), (.ref bA), (.int (((((termW (0 : Int32) s_ e_ k0 k1 k2 k3 k4 k5) + (termW (1 : Int32) s_ e_ k0 k1 k2 k3 k4 k5)) + (termW (2 : Int32) s_ e_ k0 k1 k2 k3 k4 k5)) + (termW (3 : Int32) s_ e_ k0 k1 k2 k3 k4 k5)) + (termW (4 : Int32) s_ e_ k0 k1 k2 k3 k4 k5)))])
  obtain ⟨_, _, ⟨T12, L12, ck12, cn12⟩, -, X12, ⟨Lc12, hQ12, l12, y12, z12⟩, st12⟩ := Jvm.LawKit.callS X11 hx (y := (⟨"com/example/grantd/grantd/policy/TextSpanTextHashPinLaw", "term", "([CIII)I"⟩ : MethodName)) hown (mvT hZ (hw _ (List.mem_of_getElem? (i := 68) rfl))) (mvT hZ (hw _ (List.mem_of_getElem? (i := 69) rfl))) (mvT hZ (hw _ (List.mem_of_getElem? (i := 70) rfl))) (mvT hZ (hw _ (List.mem_of_getElem? (i := 71) rfl))) (by decide) (backOf (W := 1) (rm13 l Z a0 hw [] bA (5 : Int32) s_ e_ kc k0 k1 k2 k3 k4 k5 h11 n0 Z11 V_bA__11 (Or.inr (Or.inr (Or.inr (Or.inr (Or.inr (rfl)))))) hs3) hZ (hw _ (List.mem_of_getElem? (i := 71) rfl)) (hw _ (List.mem_of_getElem? (i := 70) rfl)) (by decide) (by decide)) (g := (mkF m 177 #[.val (.int p0), .val (.int p1), .val (.int p2), .val (.int p3), .val (.int p4), .val (.ref bA), .val (.ref bS), .val (.int s_), .val (.int e_), .val (.ref b1), .unset] [(.int e_), (.int s_), (.int (5 : Int32)), (.ref bA), (.int (((((termW (0 : Int32) s_ e_ k0 k1 k2 k3 k4 k5) + (termW (1 : Int32) s_ e_ k0 k1 k2 k3 k4 k5)) + (termW (2 : Int32) s_ e_ k0 k1 k2 k3 k4 k5)) + (termW (3 : Int32) s_ e_ k0 k1 k2 k3 k4 k5)) + (termW (4 : Int32) s_ e_ k0 k1 k2 k3 k4 k5)))])) rfl (by rw [hml]; rfl) (argsL := [(.ref bA), (.int (5 : Int32)), (.int s_), (.int e_)]) (rest := [(.int (((((termW (0 : Int32) s_ e_ k0 k1 k2 k3 k4 k5) + (termW (1 : Int32) s_ e_ k0 k1 k2 k3 k4 k5)) + (termW (2 : Int32) s_ e_ k0 k1 k2 k3 k4 k5)) + (termW (3 : Int32) s_ e_ k0 k1 k2 k3 k4 k5)) + (termW (4 : Int32) s_ e_ k0 k1 k2 k3 k4 k5)))]) (lenOf pd_20 rfl) rfl (by show 2 * 0 + _ ≤ _; exact Nat.le_of_eq rfl) (hb hby at_177) (fun _ _ => ⟨rfl, e11, (by decide : 10 + 1 ≤ _), (by decide : 61 + 6 ≤ _)⟩)
  dsimp only [Pt.U, Pt.locs, Pt.cells, Pt.slots] at X12 l12 y12 z12 st12 hQ12
  subst l12 y12 z12
  generalize e12 : T12.heap = h12 at hQ12
  obtain ⟨rfl, N12q, K12⟩ := hQ12
  have N12 := Fr.app N11 N12q
  refine Go.st st12 ?_
  have S_CS__12 := own_sta S_CS__11 K12 (all0)
  have S_AD__12 := own_sta S_AD__11 K12 (all0)
  have S_HI__12 := own_sta S_HI__11 K12 (all0)
  have S_LO__12 := own_sta S_LO__11 K12 (all0)
  have S_SI__12 := own_staR S_SI__11 K12 (all0)
  have E_bS__12 := E_bS__11.keep K12
  have F_value_bS__12 := F_value_bS__11.keep K12 (nin0)
  have N_bS__12 := N_bS__11.keep K12 (nin0) (nin0)
  have V_bA__12 := V_bA__11.keep K12 (nin0)
  have EE6__12 := EE6__11.keep K12
  have FF_text_6__12 := FF_text_6__11.keep K12 (nin0)
  have FF_start_6__12 := FF_start_6__11.keep K12 (nin0)
  have FF_end_6__12 := FF_end_6__11.keep K12 (nin0)
  have Z12 : n0 ≤ h12.size := Nat.le_trans Z11 K12.1
  show Go _ _ _ _ _ _ _ T12 (mkF m 180 #[.val (.int p0), .val (.int p1), .val (.int p2), .val (.int p3), .val (.int p4), .val (.ref bA), .val (.ref bS), .val (.int s_), .val (.int e_), .val (.ref b1), .unset] [(.int (termW (5 : Int32) s_ e_ k0 k1 k2 k3 k4 k5)), (.int (((((termW (0 : Int32) s_ e_ k0 k1 k2 k3 k4 k5) + (termW (1 : Int32) s_ e_ k0 k1 k2 k3 k4 k5)) + (termW (2 : Int32) s_ e_ k0 k1 k2 k3 k4 k5)) + (termW (3 : Int32) s_ e_ k0 k1 k2 k3 k4 k5)) + (termW (4 : Int32) s_ e_ k0 k1 k2 k3 k4 k5)))])
  refine Go.st (fun _ k => XS.iadd X12.here hx rfl (hb hby at_180) rfl k) ?_
  show Go _ _ _ _ _ _ _ T12 (mkF m 181 #[.val (.int p0), .val (.int p1), .val (.int p2), .val (.int p3), .val (.int p4), .val (.ref bA), .val (.ref bS), .val (.int s_), .val (.int e_), .val (.ref b1), .unset] [(.int ((((((termW (0 : Int32) s_ e_ k0 k1 k2 k3 k4 k5) + (termW (1 : Int32) s_ e_ k0 k1 k2 k3 k4 k5)) + (termW (2 : Int32) s_ e_ k0 k1 k2 k3 k4 k5)) + (termW (3 : Int32) s_ e_ k0 k1 k2 k3 k4 k5)) + (termW (4 : Int32) s_ e_ k0 k1 k2 k3 k4 k5)) + (termW (5 : Int32) s_ e_ k0 k1 k2 k3 k4 k5)))])
  refine Go.st (fun _ k => XS.istore X12.here hx rfl (hb hby at_181) rfl (l' := #[.val (.int p0), .val (.int p1), .val (.int p2), .val (.int p3), .val (.int p4), .val (.ref bA), .val (.ref bS), .val (.int s_), .val (.int e_), .val (.ref b1), .val (.int ((((((termW (0 : Int32) s_ e_ k0 k1 k2 k3 k4 k5) + (termW (1 : Int32) s_ e_ k0 k1 k2 k3 k4 k5)) + (termW (2 : Int32) s_ e_ k0 k1 k2 k3 k4 k5)) + (termW (3 : Int32) s_ e_ k0 k1 k2 k3 k4 k5)) + (termW (4 : Int32) s_ e_ k0 k1 k2 k3 k4 k5)) + (termW (5 : Int32) s_ e_ k0 k1 k2 k3 k4 k5)))]) rfl k) ?_
  show Go _ _ _ _ _ _ _ T12 (mkF m 183 #[.val (.int p0), .val (.int p1), .val (.int p2), .val (.int p3), .val (.int p4), .val (.ref bA), .val (.ref bS), .val (.int s_), .val (.int e_), .val (.ref b1), .val (.int ((((((termW (0 : Int32) s_ e_ k0 k1 k2 k3 k4 k5) + (termW (1 : Int32) s_ e_ k0 k1 k2 k3 k4 k5)) + (termW (2 : Int32) s_ e_ k0 k1 k2 k3 k4 k5)) + (termW (3 : Int32) s_ e_ k0 k1 k2 k3 k4 k5)) + (termW (4 : Int32) s_ e_ k0 k1 k2 k3 k4 k5)) + (termW (5 : Int32) s_ e_ k0 k1 k2 k3 k4 k5)))] [])
  refine Go.st (fun _ k => XS.aload X12.here hx rfl (hb hby at_183) rfl rfl k) ?_
  show Go _ _ _ _ _ _ _ T12 (mkF m 185 #[.val (.int p0), .val (.int p1), .val (.int p2), .val (.int p3), .val (.int p4), .val (.ref bA), .val (.ref bS), .val (.int s_), .val (.int e_), .val (.ref b1), .val (.int ((((((termW (0 : Int32) s_ e_ k0 k1 k2 k3 k4 k5) + (termW (1 : Int32) s_ e_ k0 k1 k2 k3 k4 k5)) + (termW (2 : Int32) s_ e_ k0 k1 k2 k3 k4 k5)) + (termW (3 : Int32) s_ e_ k0 k1 k2 k3 k4 k5)) + (termW (4 : Int32) s_ e_ k0 k1 k2 k3 k4 k5)) + (termW (5 : Int32) s_ e_ k0 k1 k2 k3 k4 k5)))] [(.ref b1)])
  obtain ⟨cq13, kq13, q13a, q13b, q13c⟩ := isOf hZ e12 EE6__12
  obtain ⟨_, _, ⟨T13, L13, ck13, cn13⟩, -, X13, ⟨Lc13, hQ13, l13, y13, z13⟩, st13⟩ := X12.virtualBack hx (y := (⟨"com/example/grantd/grantd/policy/TextSpan", "textHash", "()I"⟩ : MethodName)) (z := (⟨"com/example/grantd/grantd/policy/TextSpan", "textHash", "()I"⟩ : MethodName)) hown (mvT hZ (hw _ (List.mem_of_getElem? (i := 75) rfl))) (mvT hZ (hw _ (List.mem_of_getElem? (i := 76) rfl))) (notFace_of_selects (args := #[]) (mvT hZ (hw _ (List.mem_of_getElem? (i := 78) rfl)))) (mvT hZ (hw _ (List.mem_of_getElem? (i := 78) rfl))) (mvT hZ (hw _ (List.mem_of_getElem? (i := 77) rfl))) (by decide) (backOf (W := 0) (rm14 l Z a0 hw [] b1 bS s_ e_ t kb k0 k1 k2 k3 k4 k5 G1 (hashW s_ e_ k0 k1 k2 k3 k4 k5) h12 n0 Z12 FF_text_6__12 FF_start_6__12 FF_end_6__12 E_bS__12 F_value_bS__12 N_bS__12 hW hs3 S_CS__12 P_CS S_AD__12 S_HI__12 S_LO__12 S_SI__12 V_s rfl) hZ (hw _ (List.mem_of_getElem? (i := 79) rfl)) (hw _ (List.mem_of_getElem? (i := 34) rfl)) (by decide) (by decide)) q13a q13c (g := (mkF m 185 #[.val (.int p0), .val (.int p1), .val (.int p2), .val (.int p3), .val (.int p4), .val (.ref bA), .val (.ref bS), .val (.int s_), .val (.int e_), .val (.ref b1), .val (.int ((((((termW (0 : Int32) s_ e_ k0 k1 k2 k3 k4 k5) + (termW (1 : Int32) s_ e_ k0 k1 k2 k3 k4 k5)) + (termW (2 : Int32) s_ e_ k0 k1 k2 k3 k4 k5)) + (termW (3 : Int32) s_ e_ k0 k1 k2 k3 k4 k5)) + (termW (4 : Int32) s_ e_ k0 k1 k2 k3 k4 k5)) + (termW (5 : Int32) s_ e_ k0 k1 k2 k3 k4 k5)))] [(.ref b1)])) rfl (by rw [hml]; rfl) (Steps.refl _) (argsL := []) (rest := []) (lenOf pd_15 rfl) rfl (by show 2 * 0 + _ ≤ _; exact Nat.le_of_eq rfl) (hb hby at_185) (fun _ _ => ⟨rfl, e12, (by decide : 11 + 0 ≤ _), (by decide : 67 + 0 ≤ _)⟩)
  dsimp only [Pt.U, Pt.locs, Pt.cells, Pt.slots] at X13 l13 y13 z13 st13 hQ13
  subst l13 y13 z13
  obtain ⟨rfl, N13q, e13⟩ := hQ13
  have N13 := Fr.app N12 N13q
  refine Go.st (fun _ k => st13.trans k) ?_
  show Go _ _ _ _ _ _ _ T13 (mkF m 188 #[.val (.int p0), .val (.int p1), .val (.int p2), .val (.int p3), .val (.int p4), .val (.ref bA), .val (.ref bS), .val (.int s_), .val (.int e_), .val (.ref b1), .val (.int ((((((termW (0 : Int32) s_ e_ k0 k1 k2 k3 k4 k5) + (termW (1 : Int32) s_ e_ k0 k1 k2 k3 k4 k5)) + (termW (2 : Int32) s_ e_ k0 k1 k2 k3 k4 k5)) + (termW (3 : Int32) s_ e_ k0 k1 k2 k3 k4 k5)) + (termW (4 : Int32) s_ e_ k0 k1 k2 k3 k4 k5)) + (termW (5 : Int32) s_ e_ k0 k1 k2 k3 k4 k5)))] [(.int (hashW s_ e_ k0 k1 k2 k3 k4 k5))])
  refine Go.st (fun _ k => XS.iload X13.here hx rfl (hb hby at_188) rfl k) ?_
  show Go _ _ _ _ _ _ _ T13 (mkF m 190 #[.val (.int p0), .val (.int p1), .val (.int p2), .val (.int p3), .val (.int p4), .val (.ref bA), .val (.ref bS), .val (.int s_), .val (.int e_), .val (.ref b1), .val (.int ((((((termW (0 : Int32) s_ e_ k0 k1 k2 k3 k4 k5) + (termW (1 : Int32) s_ e_ k0 k1 k2 k3 k4 k5)) + (termW (2 : Int32) s_ e_ k0 k1 k2 k3 k4 k5)) + (termW (3 : Int32) s_ e_ k0 k1 k2 k3 k4 k5)) + (termW (4 : Int32) s_ e_ k0 k1 k2 k3 k4 k5)) + (termW (5 : Int32) s_ e_ k0 k1 k2 k3 k4 k5)))] [(.int ((((((termW (0 : Int32) s_ e_ k0 k1 k2 k3 k4 k5) + (termW (1 : Int32) s_ e_ k0 k1 k2 k3 k4 k5)) + (termW (2 : Int32) s_ e_ k0 k1 k2 k3 k4 k5)) + (termW (3 : Int32) s_ e_ k0 k1 k2 k3 k4 k5)) + (termW (4 : Int32) s_ e_ k0 k1 k2 k3 k4 k5)) + (termW (5 : Int32) s_ e_ k0 k1 k2 k3 k4 k5))), (.int (hashW s_ e_ k0 k1 k2 k3 k4 k5))])
  refine Go.st (fun _ k => XS.icmpNo X13.here hx rfl (hb hby at_190) rfl (teq (own_hash V_s V_e hse)).2 k) ?_
  show Go _ _ _ _ _ _ _ T13 (mkF m 193 #[.val (.int p0), .val (.int p1), .val (.int p2), .val (.int p3), .val (.int p4), .val (.ref bA), .val (.ref bS), .val (.int s_), .val (.int e_), .val (.ref b1), .val (.int ((((((termW (0 : Int32) s_ e_ k0 k1 k2 k3 k4 k5) + (termW (1 : Int32) s_ e_ k0 k1 k2 k3 k4 k5)) + (termW (2 : Int32) s_ e_ k0 k1 k2 k3 k4 k5)) + (termW (3 : Int32) s_ e_ k0 k1 k2 k3 k4 k5)) + (termW (4 : Int32) s_ e_ k0 k1 k2 k3 k4 k5)) + (termW (5 : Int32) s_ e_ k0 k1 k2 k3 k4 k5)))] [])
  refine Go.st (fun _ k => XS.iconst X13.here hx rfl (hb hby at_193) k) ?_
  show Go _ _ _ _ _ _ _ T13 (mkF m 194 #[.val (.int p0), .val (.int p1), .val (.int p2), .val (.int p3), .val (.int p4), .val (.ref bA), .val (.ref bS), .val (.int s_), .val (.int e_), .val (.ref b1), .val (.int ((((((termW (0 : Int32) s_ e_ k0 k1 k2 k3 k4 k5) + (termW (1 : Int32) s_ e_ k0 k1 k2 k3 k4 k5)) + (termW (2 : Int32) s_ e_ k0 k1 k2 k3 k4 k5)) + (termW (3 : Int32) s_ e_ k0 k1 k2 k3 k4 k5)) + (termW (4 : Int32) s_ e_ k0 k1 k2 k3 k4 k5)) + (termW (5 : Int32) s_ e_ k0 k1 k2 k3 k4 k5)))] [(.int (1 : Int32))])
  refine Go.st (fun _ k => XS.goto X13.here hx rfl (pc0 := 194) (pc' := 198) rfl (hb hby at_194) (by decide) (by decide) k) ?_
  show Go _ _ _ _ _ _ _ T13 (mkF m 198 #[.val (.int p0), .val (.int p1), .val (.int p2), .val (.int p3), .val (.int p4), .val (.ref bA), .val (.ref bS), .val (.int s_), .val (.int e_), .val (.ref b1), .val (.int ((((((termW (0 : Int32) s_ e_ k0 k1 k2 k3 k4 k5) + (termW (1 : Int32) s_ e_ k0 k1 k2 k3 k4 k5)) + (termW (2 : Int32) s_ e_ k0 k1 k2 k3 k4 k5)) + (termW (3 : Int32) s_ e_ k0 k1 k2 k3 k4 k5)) + (termW (4 : Int32) s_ e_ k0 k1 k2 k3 k4 k5)) + (termW (5 : Int32) s_ e_ k0 k1 k2 k3 k4 k5)))] [(.int (1 : Int32))])
  refine Go.ret X13 hlk (v := some (.int (1 : Int32))) (fun h => by rw [hret] at h; cases h) (fun fs hr => retN X13 hx (t := .boolean) hret (by simp) (hb hby at_198) hr) ?_ (by decide) (by decide)
  show Q0 Z p0 p1 p2 p3 p4 G1 h0 n0 (some (.int (1 : Int32))) T13.heap _
  rw [e13]
  exact ⟨rfl, N13⟩
theorem ef_0 (m : MethodId) (p0 : Int32) (p1 : Int32) (p2 : Int32) (p3 : Int32) (p4 : Int32) : entryFrame m #[(.int p0), (.int p1), (.int p2), (.int p3), (.int p4)] maxLocals = mkF m 0 #[.val (.int p0), .val (.int p1), .val (.int p2), .val (.int p3), .val (.int p4), .unset, .unset, .unset, .unset, .unset, .unset] [] := by first | (simp [entryFrame, mkF, argsToLocals, Value.category, maxLocals]; done) | rfl
set_option maxRecDepth 65536 in
set_option maxHeartbeats 40000000 in
theorem rm0 (l : Launch) (Z : State) (a0 : Array Value) (hw : ∀ d ∈ tables_1, d.before a0 Z = true) (ws : List Jvm.Cond) (p0 : Int32) (p1 : Int32) (p2 : Int32) (p3 : Int32) (p4 : Int32) (G1 : Int32) (h0 : Heap) (n0 : Nat) (Z0 : n0 ≤ h0.size) (S_CS : Sta Z h0 "java/lang/String" "COMPACT_STRINGS" "Z" (.int G1)) (P_CS : ¬ G1 = (0 : Int32)) (S_AD : Sta Z h0 "java/lang/StringUTF16" "$assertionsDisabled" "Z" (.int (1 : Int32))) (S_HI : Sta Z h0 "java/lang/StringUTF16" "HI_BYTE_SHIFT" "I" (.int (0 : Int32))) (S_LO : Sta Z h0 "java/lang/StringUTF16" "LO_BYTE_SHIFT" "I" (.int (8 : Int32))) (S_SI : StaR Z h0 "jdk/internal/util/Preconditions" "SIOOBE_FORMATTER" "Ljava/util/function/BiFunction;") :
    MetFree l x (head1 (Jvm.Cond.code x code maxLocals ret :: ws) room_1) (fun a U => a = #[(.int p0), (.int p1), (.int p2), (.int p3), (.int p4)] ∧ Z.Warmed39 U.vm ∧ U.heap = h0) (fun _ _ _ _ _ => True) (fun _ U o U' => ∃ v L, o = .returned v ∧ Q0 Z p0 p1 p2 p3 p4 G1 h0 n0 v U'.heap L ∧ FrameEnd U o U' L room_1.cells room_1.slots) := by
  refine MetFree.of_bodySF (plainFor_of_name pn_com_example_grantd_grantd_policy_TextSpanTextHashPinLaw) hisR ?_
  intro p e s m args below meth c s₁ Bd hml0 hP hK
  obtain ⟨rfl, hZ, hh⟩ := hP
  have hx := Bd.exec
  have hby := Bd.bytes
  have hlk : meth.locks = false := BodyLoose.notSynchronized Bd
  have hret := Bd.returns
  have hml : c.maxLocals = 11 := hml0
  have hown : s.vm.findClass "com/example/grantd/grantd/policy/TextSpanTextHashPinLaw" = some m.cls := findClass_of_methodNamed Bd.named
  have hnm := (name_of_methodNamed Bd.named Bd.method).1
  have X0 : Stand p l e room_1 s m #[(.int p0), (.int p1), (.int p2), (.int p3), (.int p4)] below meth c s₁ [] 0 0 := Stand.of_body Bd
  have e0 : s₁.heap = h0 := by rw [← hh, Bd.state]; rfl
  have N0 := Fr.nil n0
  refine Go.start (Q := Q0 Z p0 p1 p2 p3 p4 G1 h0 n0) (ef_0 m p0 p1 p2 p3 p4) ?_
  have hW : Wide16 (nar .char ((p0 &&& (65535 : Int32)).toUInt32.toUInt16.toUInt32.toInt32)) (nar .char (((p0.toUInt32 >>> ((16 : Int32) &&& 31).toUInt32).toInt32).toUInt32.toUInt16.toUInt32.toInt32)) (nar .char ((p1 &&& (65535 : Int32)).toUInt32.toUInt16.toUInt32.toInt32)) (nar .char (((p1.toUInt32 >>> ((16 : Int32) &&& 31).toUInt32).toInt32).toUInt32.toUInt16.toUInt32.toInt32)) (nar .char ((p2 &&& (65535 : Int32)).toUInt32.toUInt16.toUInt32.toInt32)) (nar .char (((p2.toUInt32 >>> ((16 : Int32) &&& 31).toUInt32).toInt32).toUInt32.toUInt16.toUInt32.toInt32)) := ⟨own_wc _, own_wc _, own_wc _, own_wc _, own_wc _, own_wc _⟩
  show Go _ _ _ _ _ _ _ s₁ (mkF m 0 #[.val (.int p0), .val (.int p1), .val (.int p2), .val (.int p3), .val (.int p4), .unset, .unset, .unset, .unset, .unset, .unset] [])
  refine Go.st (fun _ k => XS.bipush X0.here hx rfl (hb hby at_0) k) ?_
  show Go _ _ _ _ _ _ _ s₁ (mkF m 2 #[.val (.int p0), .val (.int p1), .val (.int p2), .val (.int p3), .val (.int p4), .unset, .unset, .unset, .unset, .unset, .unset] [(.int (6 : Int32))])
  obtain ⟨T1, h1, ck1, X1, e1, E1, A1, st1⟩ := newP X0 hx hZ (hw _ (List.mem_of_getElem? (i := 0) rfl)) e0 (g := (mkF m 2 #[.val (.int p0), .val (.int p1), .val (.int p2), .val (.int p3), .val (.int p4), .unset, .unset, .unset, .unset, .unset, .unset] [(.int (6 : Int32))])) rfl (hb hby at_2) rfl (by decide) (cap := 6) (by decide) (by decide) (by decide) (by decide)
  obtain ⟨b1, g1⟩ : ∃ z, z = h0.size := ⟨_, rfl⟩
  rw [← g1] at A1 st1
  have g_b1 : n0 ≤ b1 := Nat.le_trans Z0 (Nat.le_of_eq g1.symm)
  have S_CS__1 := S_CS.ext E1
  have S_AD__1 := S_AD.ext E1
  have S_HI__1 := S_HI.ext E1
  have S_LO__1 := S_LO.ext E1
  have S_SI__1 := S_SI.ext E1
  have Z1 : n0 ≤ h1.size := Nat.le_trans Z0 E1.1
  have V_b1 : Arv Z h1 b1 ck1 .char (6 : Int32) [(.int (0 : Int32)), (.int (0 : Int32)), (.int (0 : Int32)), (.int (0 : Int32)), (.int (0 : Int32)), (.int (0 : Int32))] (.int (0 : Int32)) := (Arv.new A1 (by decide)).pad (pad_rep [] (.int (0 : Int32)) 6)
  refine Go.st st1 ?_
  show Go _ _ _ _ _ _ _ T1 (mkF m 4 #[.val (.int p0), .val (.int p1), .val (.int p2), .val (.int p3), .val (.int p4), .unset, .unset, .unset, .unset, .unset, .unset] [(.ref b1)])
  refine Go.st (fun _ k => XS.astore X1.here hx rfl (hb hby at_4) rfl rfl (l' := #[.val (.int p0), .val (.int p1), .val (.int p2), .val (.int p3), .val (.int p4), .val (.ref b1), .unset, .unset, .unset, .unset, .unset]) rfl k) ?_
  show Go _ _ _ _ _ _ _ T1 (mkF m 6 #[.val (.int p0), .val (.int p1), .val (.int p2), .val (.int p3), .val (.int p4), .val (.ref b1), .unset, .unset, .unset, .unset, .unset] [])
  refine Go.st (fun _ k => XS.aload X1.here hx rfl (hb hby at_6) rfl rfl k) ?_
  show Go _ _ _ _ _ _ _ T1 (mkF m 8 #[.val (.int p0), .val (.int p1), .val (.int p2), .val (.int p3), .val (.int p4), .val (.ref b1), .unset, .unset, .unset, .unset, .unset] [(.ref b1)])
  refine Go.st (fun _ k => XS.iconst X1.here hx rfl (hb hby at_8) k) ?_
  show Go _ _ _ _ _ _ _ T1 (mkF m 9 #[.val (.int p0), .val (.int p1), .val (.int p2), .val (.int p3), .val (.int p4), .val (.ref b1), .unset, .unset, .unset, .unset, .unset] [(.int (0 : Int32)), (.ref b1)])
  refine Go.st (fun _ k => XS.iloadN X1.here hx rfl (hb hby at_9) rfl k) ?_
  show Go _ _ _ _ _ _ _ T1 (mkF m 10 #[.val (.int p0), .val (.int p1), .val (.int p2), .val (.int p3), .val (.int p4), .val (.ref b1), .unset, .unset, .unset, .unset, .unset] [(.int p0), (.int (0 : Int32)), (.ref b1)])
  refine Go.st (fun _ k => Jvm.Stand.ldcI X1 hx hown (mvT hZ (hw _ (List.mem_of_getElem? (i := 1) rfl))) rfl (hb hby at_10) k) ?_
  show Go _ _ _ _ _ _ _ T1 (mkF m 12 #[.val (.int p0), .val (.int p1), .val (.int p2), .val (.int p3), .val (.int p4), .val (.ref b1), .unset, .unset, .unset, .unset, .unset] [(.int (65535 : Int32)), (.int p0), (.int (0 : Int32)), (.ref b1)])
  refine Go.st (fun _ k => XS.iand X1.here hx rfl (hb hby at_12) rfl k) ?_
  show Go _ _ _ _ _ _ _ T1 (mkF m 13 #[.val (.int p0), .val (.int p1), .val (.int p2), .val (.int p3), .val (.int p4), .val (.ref b1), .unset, .unset, .unset, .unset, .unset] [(.int (p0 &&& (65535 : Int32))), (.int (0 : Int32)), (.ref b1)])
  refine Go.st (fun _ k => XS.i2c X1.here hx rfl (hb hby at_13) rfl k) ?_
  show Go _ _ _ _ _ _ _ T1 (mkF m 14 #[.val (.int p0), .val (.int p1), .val (.int p2), .val (.int p3), .val (.int p4), .val (.ref b1), .unset, .unset, .unset, .unset, .unset] [(.int ((p0 &&& (65535 : Int32)).toUInt32.toUInt16.toUInt32.toInt32)), (.int (0 : Int32)), (.ref b1)])
  obtain ⟨cl2, Ar2, qq2, SS2, NN2, HH2, GG2⟩ := id V_b1
  have hin3 : ¬ ((0 : Int32) < 0 ∨ cl2.slots.size ≤ ((0 : Int32)).toNatClampNeg) := inb_of SS2 ⟨by decide, by decide⟩
  obtain ⟨T4, h4, X4, e4, W4, st4⟩ := stC X1 hx hZ e1 Ar2 (j := (0 : Int32)) hin3 (g := (mkF m 14 #[.val (.int p0), .val (.int p1), .val (.int p2), .val (.int p3), .val (.int p4), .val (.ref b1), .unset, .unset, .unset, .unset, .unset] [(.int ((p0 &&& (65535 : Int32)).toUInt32.toUInt16.toUInt32.toInt32)), (.int (0 : Int32)), (.ref b1)])) rfl rfl (hb hby at_14)
  have V_b1__4 : Arv Z h4 b1 ck1 .char (6 : Int32) [(.int (nar .char ((p0 &&& (65535 : Int32)).toUInt32.toUInt16.toUInt32.toInt32))), (.int (0 : Int32)), (.int (0 : Int32)), (.int (0 : Int32)), (.int (0 : Int32)), (.int (0 : Int32))] (.int (0 : Int32)) := Arv.set Ar2 qq2 SS2 NN2 HH2 GG2 (fits_nar_char _) W4 0 rfl (Nat.le_of_ble_eq_true rfl)
  have S_CS__4 := S_CS__1.wr W4
  have S_AD__4 := S_AD__1.wr W4
  have S_HI__4 := S_HI__1.wr W4
  have S_LO__4 := S_LO__1.wr W4
  have S_SI__4 := S_SI__1.wr W4
  have Z4 : n0 ≤ h4.size := Nat.le_trans Z1 (Keep.of_wr W4).1
  have N4 := Fr.snoc X4 N0 g_b1
  refine Go.st st4 ?_
  show Go _ _ _ _ _ _ _ T4 (mkF m 15 #[.val (.int p0), .val (.int p1), .val (.int p2), .val (.int p3), .val (.int p4), .val (.ref b1), .unset, .unset, .unset, .unset, .unset] [])
  refine Go.st (fun _ k => XS.aload X4.here hx rfl (hb hby at_15) rfl rfl k) ?_
  show Go _ _ _ _ _ _ _ T4 (mkF m 17 #[.val (.int p0), .val (.int p1), .val (.int p2), .val (.int p3), .val (.int p4), .val (.ref b1), .unset, .unset, .unset, .unset, .unset] [(.ref b1)])
  refine Go.st (fun _ k => XS.iconst X4.here hx rfl (hb hby at_17) k) ?_
  show Go _ _ _ _ _ _ _ T4 (mkF m 18 #[.val (.int p0), .val (.int p1), .val (.int p2), .val (.int p3), .val (.int p4), .val (.ref b1), .unset, .unset, .unset, .unset, .unset] [(.int (1 : Int32)), (.ref b1)])
  refine Go.st (fun _ k => XS.iloadN X4.here hx rfl (hb hby at_18) rfl k) ?_
  show Go _ _ _ _ _ _ _ T4 (mkF m 19 #[.val (.int p0), .val (.int p1), .val (.int p2), .val (.int p3), .val (.int p4), .val (.ref b1), .unset, .unset, .unset, .unset, .unset] [(.int p0), (.int (1 : Int32)), (.ref b1)])
  refine Go.st (fun _ k => XS.bipush X4.here hx rfl (hb hby at_19) k) ?_
  show Go _ _ _ _ _ _ _ T4 (mkF m 21 #[.val (.int p0), .val (.int p1), .val (.int p2), .val (.int p3), .val (.int p4), .val (.ref b1), .unset, .unset, .unset, .unset, .unset] [(.int (16 : Int32)), (.int p0), (.int (1 : Int32)), (.ref b1)])
  refine Go.st (fun _ k => XS.iushr X4.here hx rfl (hb hby at_21) rfl k) ?_
  show Go _ _ _ _ _ _ _ T4 (mkF m 22 #[.val (.int p0), .val (.int p1), .val (.int p2), .val (.int p3), .val (.int p4), .val (.ref b1), .unset, .unset, .unset, .unset, .unset] [(.int ((p0.toUInt32 >>> ((16 : Int32) &&& 31).toUInt32).toInt32)), (.int (1 : Int32)), (.ref b1)])
  refine Go.st (fun _ k => XS.i2c X4.here hx rfl (hb hby at_22) rfl k) ?_
  show Go _ _ _ _ _ _ _ T4 (mkF m 23 #[.val (.int p0), .val (.int p1), .val (.int p2), .val (.int p3), .val (.int p4), .val (.ref b1), .unset, .unset, .unset, .unset, .unset] [(.int (((p0.toUInt32 >>> ((16 : Int32) &&& 31).toUInt32).toInt32).toUInt32.toUInt16.toUInt32.toInt32)), (.int (1 : Int32)), (.ref b1)])
  obtain ⟨cl5, Ar5, qq5, SS5, NN5, HH5, GG5⟩ := id V_b1__4
  have hin6 : ¬ ((1 : Int32) < 0 ∨ cl5.slots.size ≤ ((1 : Int32)).toNatClampNeg) := inb_of SS5 ⟨by decide, by decide⟩
  obtain ⟨T7, h7, X7, e7, W7, st7⟩ := stC X4 hx hZ e4 Ar5 (j := (1 : Int32)) hin6 (g := (mkF m 23 #[.val (.int p0), .val (.int p1), .val (.int p2), .val (.int p3), .val (.int p4), .val (.ref b1), .unset, .unset, .unset, .unset, .unset] [(.int (((p0.toUInt32 >>> ((16 : Int32) &&& 31).toUInt32).toInt32).toUInt32.toUInt16.toUInt32.toInt32)), (.int (1 : Int32)), (.ref b1)])) rfl rfl (hb hby at_23)
  have V_b1__7 : Arv Z h7 b1 ck1 .char (6 : Int32) [(.int (nar .char ((p0 &&& (65535 : Int32)).toUInt32.toUInt16.toUInt32.toInt32))), (.int (nar .char (((p0.toUInt32 >>> ((16 : Int32) &&& 31).toUInt32).toInt32).toUInt32.toUInt16.toUInt32.toInt32))), (.int (0 : Int32)), (.int (0 : Int32)), (.int (0 : Int32)), (.int (0 : Int32))] (.int (0 : Int32)) := Arv.set Ar5 qq5 SS5 NN5 HH5 GG5 (fits_nar_char _) W7 1 rfl (Nat.le_of_ble_eq_true rfl)
  have S_CS__7 := S_CS__4.wr W7
  have S_AD__7 := S_AD__4.wr W7
  have S_HI__7 := S_HI__4.wr W7
  have S_LO__7 := S_LO__4.wr W7
  have S_SI__7 := S_SI__4.wr W7
  have Z7 : n0 ≤ h7.size := Nat.le_trans Z4 (Keep.of_wr W7).1
  have N7 := Fr.snoc X7 N4 g_b1
  refine Go.st st7 ?_
  show Go _ _ _ _ _ _ _ T7 (mkF m 24 #[.val (.int p0), .val (.int p1), .val (.int p2), .val (.int p3), .val (.int p4), .val (.ref b1), .unset, .unset, .unset, .unset, .unset] [])
  refine Go.st (fun _ k => XS.aload X7.here hx rfl (hb hby at_24) rfl rfl k) ?_
  show Go _ _ _ _ _ _ _ T7 (mkF m 26 #[.val (.int p0), .val (.int p1), .val (.int p2), .val (.int p3), .val (.int p4), .val (.ref b1), .unset, .unset, .unset, .unset, .unset] [(.ref b1)])
  refine Go.st (fun _ k => XS.iconst X7.here hx rfl (hb hby at_26) k) ?_
  show Go _ _ _ _ _ _ _ T7 (mkF m 27 #[.val (.int p0), .val (.int p1), .val (.int p2), .val (.int p3), .val (.int p4), .val (.ref b1), .unset, .unset, .unset, .unset, .unset] [(.int (2 : Int32)), (.ref b1)])
  refine Go.st (fun _ k => XS.iloadN X7.here hx rfl (hb hby at_27) rfl k) ?_
  show Go _ _ _ _ _ _ _ T7 (mkF m 28 #[.val (.int p0), .val (.int p1), .val (.int p2), .val (.int p3), .val (.int p4), .val (.ref b1), .unset, .unset, .unset, .unset, .unset] [(.int p1), (.int (2 : Int32)), (.ref b1)])
  refine Go.st (fun _ k => Jvm.Stand.ldcI X7 hx hown (mvT hZ (hw _ (List.mem_of_getElem? (i := 1) rfl))) rfl (hb hby at_28) k) ?_
  show Go _ _ _ _ _ _ _ T7 (mkF m 30 #[.val (.int p0), .val (.int p1), .val (.int p2), .val (.int p3), .val (.int p4), .val (.ref b1), .unset, .unset, .unset, .unset, .unset] [(.int (65535 : Int32)), (.int p1), (.int (2 : Int32)), (.ref b1)])
  refine Go.st (fun _ k => XS.iand X7.here hx rfl (hb hby at_30) rfl k) ?_
  show Go _ _ _ _ _ _ _ T7 (mkF m 31 #[.val (.int p0), .val (.int p1), .val (.int p2), .val (.int p3), .val (.int p4), .val (.ref b1), .unset, .unset, .unset, .unset, .unset] [(.int (p1 &&& (65535 : Int32))), (.int (2 : Int32)), (.ref b1)])
  refine Go.st (fun _ k => XS.i2c X7.here hx rfl (hb hby at_31) rfl k) ?_
  show Go _ _ _ _ _ _ _ T7 (mkF m 32 #[.val (.int p0), .val (.int p1), .val (.int p2), .val (.int p3), .val (.int p4), .val (.ref b1), .unset, .unset, .unset, .unset, .unset] [(.int ((p1 &&& (65535 : Int32)).toUInt32.toUInt16.toUInt32.toInt32)), (.int (2 : Int32)), (.ref b1)])
  obtain ⟨cl8, Ar8, qq8, SS8, NN8, HH8, GG8⟩ := id V_b1__7
  have hin9 : ¬ ((2 : Int32) < 0 ∨ cl8.slots.size ≤ ((2 : Int32)).toNatClampNeg) := inb_of SS8 ⟨by decide, by decide⟩
  obtain ⟨T10, h10, X10, e10, W10, st10⟩ := stC X7 hx hZ e7 Ar8 (j := (2 : Int32)) hin9 (g := (mkF m 32 #[.val (.int p0), .val (.int p1), .val (.int p2), .val (.int p3), .val (.int p4), .val (.ref b1), .unset, .unset, .unset, .unset, .unset] [(.int ((p1 &&& (65535 : Int32)).toUInt32.toUInt16.toUInt32.toInt32)), (.int (2 : Int32)), (.ref b1)])) rfl rfl (hb hby at_32)
  have V_b1__10 : Arv Z h10 b1 ck1 .char (6 : Int32) [(.int (nar .char ((p0 &&& (65535 : Int32)).toUInt32.toUInt16.toUInt32.toInt32))), (.int (nar .char (((p0.toUInt32 >>> ((16 : Int32) &&& 31).toUInt32).toInt32).toUInt32.toUInt16.toUInt32.toInt32))), (.int (nar .char ((p1 &&& (65535 : Int32)).toUInt32.toUInt16.toUInt32.toInt32))), (.int (0 : Int32)), (.int (0 : Int32)), (.int (0 : Int32))] (.int (0 : Int32)) := Arv.set Ar8 qq8 SS8 NN8 HH8 GG8 (fits_nar_char _) W10 2 rfl (Nat.le_of_ble_eq_true rfl)
  have S_CS__10 := S_CS__7.wr W10
  have S_AD__10 := S_AD__7.wr W10
  have S_HI__10 := S_HI__7.wr W10
  have S_LO__10 := S_LO__7.wr W10
  have S_SI__10 := S_SI__7.wr W10
  have Z10 : n0 ≤ h10.size := Nat.le_trans Z7 (Keep.of_wr W10).1
  have N10 := Fr.snoc X10 N7 g_b1
  refine Go.st st10 ?_
  show Go _ _ _ _ _ _ _ T10 (mkF m 33 #[.val (.int p0), .val (.int p1), .val (.int p2), .val (.int p3), .val (.int p4), .val (.ref b1), .unset, .unset, .unset, .unset, .unset] [])
  refine Go.st (fun _ k => XS.aload X10.here hx rfl (hb hby at_33) rfl rfl k) ?_
  show Go _ _ _ _ _ _ _ T10 (mkF m 35 #[.val (.int p0), .val (.int p1), .val (.int p2), .val (.int p3), .val (.int p4), .val (.ref b1), .unset, .unset, .unset, .unset, .unset] [(.ref b1)])
  refine Go.st (fun _ k => XS.iconst X10.here hx rfl (hb hby at_35) k) ?_
  show Go _ _ _ _ _ _ _ T10 (mkF m 36 #[.val (.int p0), .val (.int p1), .val (.int p2), .val (.int p3), .val (.int p4), .val (.ref b1), .unset, .unset, .unset, .unset, .unset] [(.int (3 : Int32)), (.ref b1)])
  refine Go.st (fun _ k => XS.iloadN X10.here hx rfl (hb hby at_36) rfl k) ?_
  show Go _ _ _ _ _ _ _ T10 (mkF m 37 #[.val (.int p0), .val (.int p1), .val (.int p2), .val (.int p3), .val (.int p4), .val (.ref b1), .unset, .unset, .unset, .unset, .unset] [(.int p1), (.int (3 : Int32)), (.ref b1)])
  refine Go.st (fun _ k => XS.bipush X10.here hx rfl (hb hby at_37) k) ?_
  show Go _ _ _ _ _ _ _ T10 (mkF m 39 #[.val (.int p0), .val (.int p1), .val (.int p2), .val (.int p3), .val (.int p4), .val (.ref b1), .unset, .unset, .unset, .unset, .unset] [(.int (16 : Int32)), (.int p1), (.int (3 : Int32)), (.ref b1)])
  refine Go.st (fun _ k => XS.iushr X10.here hx rfl (hb hby at_39) rfl k) ?_
  show Go _ _ _ _ _ _ _ T10 (mkF m 40 #[.val (.int p0), .val (.int p1), .val (.int p2), .val (.int p3), .val (.int p4), .val (.ref b1), .unset, .unset, .unset, .unset, .unset] [(.int ((p1.toUInt32 >>> ((16 : Int32) &&& 31).toUInt32).toInt32)), (.int (3 : Int32)), (.ref b1)])
  refine Go.st (fun _ k => XS.i2c X10.here hx rfl (hb hby at_40) rfl k) ?_
  show Go _ _ _ _ _ _ _ T10 (mkF m 41 #[.val (.int p0), .val (.int p1), .val (.int p2), .val (.int p3), .val (.int p4), .val (.ref b1), .unset, .unset, .unset, .unset, .unset] [(.int (((p1.toUInt32 >>> ((16 : Int32) &&& 31).toUInt32).toInt32).toUInt32.toUInt16.toUInt32.toInt32)), (.int (3 : Int32)), (.ref b1)])
  obtain ⟨cl11, Ar11, qq11, SS11, NN11, HH11, GG11⟩ := id V_b1__10
  have hin12 : ¬ ((3 : Int32) < 0 ∨ cl11.slots.size ≤ ((3 : Int32)).toNatClampNeg) := inb_of SS11 ⟨by decide, by decide⟩
  obtain ⟨T13, h13, X13, e13, W13, st13⟩ := stC X10 hx hZ e10 Ar11 (j := (3 : Int32)) hin12 (g := (mkF m 41 #[.val (.int p0), .val (.int p1), .val (.int p2), .val (.int p3), .val (.int p4), .val (.ref b1), .unset, .unset, .unset, .unset, .unset] [(.int (((p1.toUInt32 >>> ((16 : Int32) &&& 31).toUInt32).toInt32).toUInt32.toUInt16.toUInt32.toInt32)), (.int (3 : Int32)), (.ref b1)])) rfl rfl (hb hby at_41)
  have V_b1__13 : Arv Z h13 b1 ck1 .char (6 : Int32) [(.int (nar .char ((p0 &&& (65535 : Int32)).toUInt32.toUInt16.toUInt32.toInt32))), (.int (nar .char (((p0.toUInt32 >>> ((16 : Int32) &&& 31).toUInt32).toInt32).toUInt32.toUInt16.toUInt32.toInt32))), (.int (nar .char ((p1 &&& (65535 : Int32)).toUInt32.toUInt16.toUInt32.toInt32))), (.int (nar .char (((p1.toUInt32 >>> ((16 : Int32) &&& 31).toUInt32).toInt32).toUInt32.toUInt16.toUInt32.toInt32))), (.int (0 : Int32)), (.int (0 : Int32))] (.int (0 : Int32)) := Arv.set Ar11 qq11 SS11 NN11 HH11 GG11 (fits_nar_char _) W13 3 rfl (Nat.le_of_ble_eq_true rfl)
  have S_CS__13 := S_CS__10.wr W13
  have S_AD__13 := S_AD__10.wr W13
  have S_HI__13 := S_HI__10.wr W13
  have S_LO__13 := S_LO__10.wr W13
  have S_SI__13 := S_SI__10.wr W13
  have Z13 : n0 ≤ h13.size := Nat.le_trans Z10 (Keep.of_wr W13).1
  have N13 := Fr.snoc X13 N10 g_b1
  refine Go.st st13 ?_
  show Go _ _ _ _ _ _ _ T13 (mkF m 42 #[.val (.int p0), .val (.int p1), .val (.int p2), .val (.int p3), .val (.int p4), .val (.ref b1), .unset, .unset, .unset, .unset, .unset] [])
  refine Go.st (fun _ k => XS.aload X13.here hx rfl (hb hby at_42) rfl rfl k) ?_
  show Go _ _ _ _ _ _ _ T13 (mkF m 44 #[.val (.int p0), .val (.int p1), .val (.int p2), .val (.int p3), .val (.int p4), .val (.ref b1), .unset, .unset, .unset, .unset, .unset] [(.ref b1)])
  refine Go.st (fun _ k => XS.iconst X13.here hx rfl (hb hby at_44) k) ?_
  show Go _ _ _ _ _ _ _ T13 (mkF m 45 #[.val (.int p0), .val (.int p1), .val (.int p2), .val (.int p3), .val (.int p4), .val (.ref b1), .unset, .unset, .unset, .unset, .unset] [(.int (4 : Int32)), (.ref b1)])
  refine Go.st (fun _ k => XS.iloadN X13.here hx rfl (hb hby at_45) rfl k) ?_
  show Go _ _ _ _ _ _ _ T13 (mkF m 46 #[.val (.int p0), .val (.int p1), .val (.int p2), .val (.int p3), .val (.int p4), .val (.ref b1), .unset, .unset, .unset, .unset, .unset] [(.int p2), (.int (4 : Int32)), (.ref b1)])
  refine Go.st (fun _ k => Jvm.Stand.ldcI X13 hx hown (mvT hZ (hw _ (List.mem_of_getElem? (i := 1) rfl))) rfl (hb hby at_46) k) ?_
  show Go _ _ _ _ _ _ _ T13 (mkF m 48 #[.val (.int p0), .val (.int p1), .val (.int p2), .val (.int p3), .val (.int p4), .val (.ref b1), .unset, .unset, .unset, .unset, .unset] [(.int (65535 : Int32)), (.int p2), (.int (4 : Int32)), (.ref b1)])
  refine Go.st (fun _ k => XS.iand X13.here hx rfl (hb hby at_48) rfl k) ?_
  show Go _ _ _ _ _ _ _ T13 (mkF m 49 #[.val (.int p0), .val (.int p1), .val (.int p2), .val (.int p3), .val (.int p4), .val (.ref b1), .unset, .unset, .unset, .unset, .unset] [(.int (p2 &&& (65535 : Int32))), (.int (4 : Int32)), (.ref b1)])
  refine Go.st (fun _ k => XS.i2c X13.here hx rfl (hb hby at_49) rfl k) ?_
  show Go _ _ _ _ _ _ _ T13 (mkF m 50 #[.val (.int p0), .val (.int p1), .val (.int p2), .val (.int p3), .val (.int p4), .val (.ref b1), .unset, .unset, .unset, .unset, .unset] [(.int ((p2 &&& (65535 : Int32)).toUInt32.toUInt16.toUInt32.toInt32)), (.int (4 : Int32)), (.ref b1)])
  obtain ⟨cl14, Ar14, qq14, SS14, NN14, HH14, GG14⟩ := id V_b1__13
  have hin15 : ¬ ((4 : Int32) < 0 ∨ cl14.slots.size ≤ ((4 : Int32)).toNatClampNeg) := inb_of SS14 ⟨by decide, by decide⟩
  obtain ⟨T16, h16, X16, e16, W16, st16⟩ := stC X13 hx hZ e13 Ar14 (j := (4 : Int32)) hin15 (g := (mkF m 50 #[.val (.int p0), .val (.int p1), .val (.int p2), .val (.int p3), .val (.int p4), .val (.ref b1), .unset, .unset, .unset, .unset, .unset] [(.int ((p2 &&& (65535 : Int32)).toUInt32.toUInt16.toUInt32.toInt32)), (.int (4 : Int32)), (.ref b1)])) rfl rfl (hb hby at_50)
  have V_b1__16 : Arv Z h16 b1 ck1 .char (6 : Int32) [(.int (nar .char ((p0 &&& (65535 : Int32)).toUInt32.toUInt16.toUInt32.toInt32))), (.int (nar .char (((p0.toUInt32 >>> ((16 : Int32) &&& 31).toUInt32).toInt32).toUInt32.toUInt16.toUInt32.toInt32))), (.int (nar .char ((p1 &&& (65535 : Int32)).toUInt32.toUInt16.toUInt32.toInt32))), (.int (nar .char (((p1.toUInt32 >>> ((16 : Int32) &&& 31).toUInt32).toInt32).toUInt32.toUInt16.toUInt32.toInt32))), (.int (nar .char ((p2 &&& (65535 : Int32)).toUInt32.toUInt16.toUInt32.toInt32))), (.int (0 : Int32))] (.int (0 : Int32)) := Arv.set Ar14 qq14 SS14 NN14 HH14 GG14 (fits_nar_char _) W16 4 rfl (Nat.le_of_ble_eq_true rfl)
  have S_CS__16 := S_CS__13.wr W16
  have S_AD__16 := S_AD__13.wr W16
  have S_HI__16 := S_HI__13.wr W16
  have S_LO__16 := S_LO__13.wr W16
  have S_SI__16 := S_SI__13.wr W16
  have Z16 : n0 ≤ h16.size := Nat.le_trans Z13 (Keep.of_wr W16).1
  have N16 := Fr.snoc X16 N13 g_b1
  refine Go.st st16 ?_
  show Go _ _ _ _ _ _ _ T16 (mkF m 51 #[.val (.int p0), .val (.int p1), .val (.int p2), .val (.int p3), .val (.int p4), .val (.ref b1), .unset, .unset, .unset, .unset, .unset] [])
  refine Go.st (fun _ k => XS.aload X16.here hx rfl (hb hby at_51) rfl rfl k) ?_
  show Go _ _ _ _ _ _ _ T16 (mkF m 53 #[.val (.int p0), .val (.int p1), .val (.int p2), .val (.int p3), .val (.int p4), .val (.ref b1), .unset, .unset, .unset, .unset, .unset] [(.ref b1)])
  refine Go.st (fun _ k => XS.iconst X16.here hx rfl (hb hby at_53) k) ?_
  show Go _ _ _ _ _ _ _ T16 (mkF m 54 #[.val (.int p0), .val (.int p1), .val (.int p2), .val (.int p3), .val (.int p4), .val (.ref b1), .unset, .unset, .unset, .unset, .unset] [(.int (5 : Int32)), (.ref b1)])
  refine Go.st (fun _ k => XS.iloadN X16.here hx rfl (hb hby at_54) rfl k) ?_
  show Go _ _ _ _ _ _ _ T16 (mkF m 55 #[.val (.int p0), .val (.int p1), .val (.int p2), .val (.int p3), .val (.int p4), .val (.ref b1), .unset, .unset, .unset, .unset, .unset] [(.int p2), (.int (5 : Int32)), (.ref b1)])
  refine Go.st (fun _ k => XS.bipush X16.here hx rfl (hb hby at_55) k) ?_
  show Go _ _ _ _ _ _ _ T16 (mkF m 57 #[.val (.int p0), .val (.int p1), .val (.int p2), .val (.int p3), .val (.int p4), .val (.ref b1), .unset, .unset, .unset, .unset, .unset] [(.int (16 : Int32)), (.int p2), (.int (5 : Int32)), (.ref b1)])
  refine Go.st (fun _ k => XS.iushr X16.here hx rfl (hb hby at_57) rfl k) ?_
  show Go _ _ _ _ _ _ _ T16 (mkF m 58 #[.val (.int p0), .val (.int p1), .val (.int p2), .val (.int p3), .val (.int p4), .val (.ref b1), .unset, .unset, .unset, .unset, .unset] [(.int ((p2.toUInt32 >>> ((16 : Int32) &&& 31).toUInt32).toInt32)), (.int (5 : Int32)), (.ref b1)])
  refine Go.st (fun _ k => XS.i2c X16.here hx rfl (hb hby at_58) rfl k) ?_
  show Go _ _ _ _ _ _ _ T16 (mkF m 59 #[.val (.int p0), .val (.int p1), .val (.int p2), .val (.int p3), .val (.int p4), .val (.ref b1), .unset, .unset, .unset, .unset, .unset] [(.int (((p2.toUInt32 >>> ((16 : Int32) &&& 31).toUInt32).toInt32).toUInt32.toUInt16.toUInt32.toInt32)), (.int (5 : Int32)), (.ref b1)])
  obtain ⟨cl17, Ar17, qq17, SS17, NN17, HH17, GG17⟩ := id V_b1__16
  have hin18 : ¬ ((5 : Int32) < 0 ∨ cl17.slots.size ≤ ((5 : Int32)).toNatClampNeg) := inb_of SS17 ⟨by decide, by decide⟩
  obtain ⟨T19, h19, X19, e19, W19, st19⟩ := stC X16 hx hZ e16 Ar17 (j := (5 : Int32)) hin18 (g := (mkF m 59 #[.val (.int p0), .val (.int p1), .val (.int p2), .val (.int p3), .val (.int p4), .val (.ref b1), .unset, .unset, .unset, .unset, .unset] [(.int (((p2.toUInt32 >>> ((16 : Int32) &&& 31).toUInt32).toInt32).toUInt32.toUInt16.toUInt32.toInt32)), (.int (5 : Int32)), (.ref b1)])) rfl rfl (hb hby at_59)
  have V_b1__19 : Arv Z h19 b1 ck1 .char (6 : Int32) [(.int (nar .char ((p0 &&& (65535 : Int32)).toUInt32.toUInt16.toUInt32.toInt32))), (.int (nar .char (((p0.toUInt32 >>> ((16 : Int32) &&& 31).toUInt32).toInt32).toUInt32.toUInt16.toUInt32.toInt32))), (.int (nar .char ((p1 &&& (65535 : Int32)).toUInt32.toUInt16.toUInt32.toInt32))), (.int (nar .char (((p1.toUInt32 >>> ((16 : Int32) &&& 31).toUInt32).toInt32).toUInt32.toUInt16.toUInt32.toInt32))), (.int (nar .char ((p2 &&& (65535 : Int32)).toUInt32.toUInt16.toUInt32.toInt32))), (.int (nar .char (((p2.toUInt32 >>> ((16 : Int32) &&& 31).toUInt32).toInt32).toUInt32.toUInt16.toUInt32.toInt32)))] (.int (0 : Int32)) := Arv.set Ar17 qq17 SS17 NN17 HH17 GG17 (fits_nar_char _) W19 5 rfl (Nat.le_of_ble_eq_true rfl)
  have S_CS__19 := S_CS__16.wr W19
  have S_AD__19 := S_AD__16.wr W19
  have S_HI__19 := S_HI__16.wr W19
  have S_LO__19 := S_LO__16.wr W19
  have S_SI__19 := S_SI__16.wr W19
  have Z19 : n0 ≤ h19.size := Nat.le_trans Z16 (Keep.of_wr W19).1
  have N19 := Fr.snoc X19 N16 g_b1
  refine Go.st st19 ?_
  show Go _ _ _ _ _ _ _ T19 (mkF m 60 #[.val (.int p0), .val (.int p1), .val (.int p2), .val (.int p3), .val (.int p4), .val (.ref b1), .unset, .unset, .unset, .unset, .unset] [])
  obtain ⟨T20, h20, X20, e20, E20, A20, D20, -, st20⟩ := newO X19 hx hZ hown (hw _ (List.mem_of_getElem? (i := 2) rfl)) (hw _ (List.mem_of_getElem? (i := 3) rfl)) (hw _ (List.mem_of_getElem? (i := 4) rfl)) e19 (g := (mkF m 60 #[.val (.int p0), .val (.int p1), .val (.int p2), .val (.int p3), .val (.int p4), .val (.ref b1), .unset, .unset, .unset, .unset, .unset] [])) rfl (hb hby at_60) (by decide) (by decide)
  obtain ⟨b20, g20⟩ : ∃ z, z = h19.size := ⟨_, rfl⟩
  rw [← g20] at A20 D20 st20
  have ne21 : b1 ≠ b20 := Nat.ne_of_lt (Nat.lt_of_lt_of_le V_b1__19.lt (Nat.le_of_eq g20.symm))
  have g_b20 : n0 ≤ b20 := Nat.le_trans Z19 (Nat.le_of_eq g20.symm)
  have S_CS__20 := S_CS__19.ext E20
  have S_AD__20 := S_AD__19.ext E20
  have S_HI__20 := S_HI__19.ext E20
  have S_LO__20 := S_LO__19.ext E20
  have S_SI__20 := S_SI__19.ext E20
  have V_b1__20 := V_b1__19.ext E20
  have Z20 : n0 ≤ h20.size := Nat.le_trans Z19 E20.1
  have F_coder_b20 : Fld Z h20 b20 "java/lang/String" "coder" "B" (.int (0 : Int32)) := D20 (Or.inr (hw _ (List.mem_of_getElem? (i := 28) rfl))) (ty := .byte) (by decide)
  have F_value_b20 : Fld Z h20 b20 "java/lang/String" "value" "[B" .null := D20 (Or.inr (hw _ (List.mem_of_getElem? (i := 30) rfl))) (ty := (.array .byte)) (by decide)
  refine Go.st st20 ?_
  show Go _ _ _ _ _ _ _ T20 (mkF m 63 #[.val (.int p0), .val (.int p1), .val (.int p2), .val (.int p3), .val (.int p4), .val (.ref b1), .unset, .unset, .unset, .unset, .unset] [(.ref b20)])
  refine Go.st (fun _ k => XS.dup X20.here hx rfl (hb hby at_63) rfl rfl k) ?_
  show Go _ _ _ _ _ _ _ T20 (mkF m 64 #[.val (.int p0), .val (.int p1), .val (.int p2), .val (.int p3), .val (.int p4), .val (.ref b1), .unset, .unset, .unset, .unset, .unset] [(.ref b20), (.ref b20)])
  refine Go.st (fun _ k => XS.aload X20.here hx rfl (hb hby at_64) rfl rfl k) ?_
  show Go _ _ _ _ _ _ _ T20 (mkF m 66 #[.val (.int p0), .val (.int p1), .val (.int p2), .val (.int p3), .val (.int p4), .val (.ref b1), .unset, .unset, .unset, .unset, .unset] [(.ref b1), (.ref b20), (.ref b20)])
  obtain ⟨_, _, ⟨T22, L22, ck22, cn22⟩, -, X22, ⟨Lc22, hQ22, l22, y22, z22⟩, st22⟩ := X20.specialBack hx (y := (⟨"java/lang/String", "<init>", "([C)V"⟩ : MethodName)) rfl hown (mvT hZ (hw _ (List.mem_of_getElem? (i := 5) rfl))) (mvT hZ (hw _ (List.mem_of_getElem? (i := 6) rfl))) (mvT hZ (hw _ (List.mem_of_getElem? (i := 7) rfl))) (by decide) (backOf (W := 1) (rm1 l Z a0 hw [] b20 b1 ck1 (nar .char ((p0 &&& (65535 : Int32)).toUInt32.toUInt16.toUInt32.toInt32)) (nar .char (((p0.toUInt32 >>> ((16 : Int32) &&& 31).toUInt32).toInt32).toUInt32.toUInt16.toUInt32.toInt32)) (nar .char ((p1 &&& (65535 : Int32)).toUInt32.toUInt16.toUInt32.toInt32)) (nar .char (((p1.toUInt32 >>> ((16 : Int32) &&& 31).toUInt32).toInt32).toUInt32.toUInt16.toUInt32.toInt32)) (nar .char ((p2 &&& (65535 : Int32)).toUInt32.toUInt16.toUInt32.toInt32)) (nar .char (((p2.toUInt32 >>> ((16 : Int32) &&& 31).toUInt32).toInt32).toUInt32.toUInt16.toUInt32.toInt32)) .null (.int (0 : Int32)) G1 h20 n0 Z20 A20 F_value_b20 F_coder_b20 g_b20 V_b1__20 hW S_CS__20 P_CS S_AD__20 S_HI__20 S_LO__20 (Ne.symm ne21)) hZ (hw _ (List.mem_of_getElem? (i := 7) rfl)) (hw _ (List.mem_of_getElem? (i := 4) rfl)) (by decide) (by decide)) (g := (mkF m 66 #[.val (.int p0), .val (.int p1), .val (.int p2), .val (.int p3), .val (.int p4), .val (.ref b1), .unset, .unset, .unset, .unset, .unset] [(.ref b1), (.ref b20), (.ref b20)])) rfl (by rw [hml]; rfl) (Steps.refl _) (a := b20) (argsL := [(.ref b1)]) (rest := [(.ref b20)]) (lenOf pd_21 rfl) rfl (by show 2 * 0 + _ ≤ _; exact Nat.le_of_eq rfl) (hb hby at_66) (fun _ _ => ⟨rfl, e20, (by decide : 2 + 2 ≤ _), (by decide : 10 + 18 ≤ _)⟩)
  dsimp only [Pt.U, Pt.locs, Pt.cells, Pt.slots] at X22 l22 y22 z22 st22 hQ22
  subst l22 y22 z22
  generalize e22 : T22.heap = h22 at hQ22
  obtain ⟨rfl, N22q, K22, EE22, t22, kb22, szt22, FF22, NN22⟩ := hQ22
  have N22 := Fr.app N19 N22q
  refine Go.st (fun _ k => st22.trans k) ?_
  have ltx22 := A20.lt
  have ne23 : b1 ≠ t22 := Nat.ne_of_lt (Nat.lt_of_lt_of_le V_b1__20.lt szt22)
  have ne24 : b20 ≠ t22 := Nat.ne_of_lt (Nat.lt_of_lt_of_le A20.lt szt22)
  have g_t22 : n0 ≤ t22 := Nat.le_trans Z20 szt22
  have S_CS__22 := own_sta S_CS__20 K22 (allS A20.cell (all0))
  have S_AD__22 := own_sta S_AD__20 K22 (allS A20.cell (all0))
  have S_HI__22 := own_sta S_HI__20 K22 (allS A20.cell (all0))
  have S_LO__22 := own_sta S_LO__20 K22 (allS A20.cell (all0))
  have S_SI__22 := own_staR S_SI__20 K22 (allS A20.cell (all0))
  have V_b1__22 := V_b1__20.keep K22 (ninS ne21 (nin0))
  have A20__22 := A20.keep K22
  have Z22 : n0 ≤ h22.size := Nat.le_trans Z20 K22.1
  show Go _ _ _ _ _ _ _ T22 (mkF m 69 #[.val (.int p0), .val (.int p1), .val (.int p2), .val (.int p3), .val (.int p4), .val (.ref b1), .unset, .unset, .unset, .unset, .unset] [(.ref b20)])
  refine Go.st (fun _ k => XS.astore X22.here hx rfl (hb hby at_69) rfl rfl (l' := #[.val (.int p0), .val (.int p1), .val (.int p2), .val (.int p3), .val (.int p4), .val (.ref b1), .val (.ref b20), .unset, .unset, .unset, .unset]) rfl k) ?_
  show Go _ _ _ _ _ _ _ T22 (mkF m 71 #[.val (.int p0), .val (.int p1), .val (.int p2), .val (.int p3), .val (.int p4), .val (.ref b1), .val (.ref b20), .unset, .unset, .unset, .unset] [])
  refine Go.st (fun _ k => XS.iloadN X22.here hx rfl (hb hby at_71) rfl k) ?_
  show Go _ _ _ _ _ _ _ T22 (mkF m 72 #[.val (.int p0), .val (.int p1), .val (.int p2), .val (.int p3), .val (.int p4), .val (.ref b1), .val (.ref b20), .unset, .unset, .unset, .unset] [(.int p3)])
  refine Go.st (fun _ k => Jvm.Stand.ldcI X22 hx hown (mvT hZ (hw _ (List.mem_of_getElem? (i := 31) rfl))) rfl (hb hby at_72) k) ?_
  show Go _ _ _ _ _ _ _ T22 (mkF m 74 #[.val (.int p0), .val (.int p1), .val (.int p2), .val (.int p3), .val (.int p4), .val (.ref b1), .val (.ref b20), .unset, .unset, .unset, .unset] [(.int (2147483647 : Int32)), (.int p3)])
  refine Go.st (fun _ k => XS.iand X22.here hx rfl (hb hby at_74) rfl k) ?_
  show Go _ _ _ _ _ _ _ T22 (mkF m 75 #[.val (.int p0), .val (.int p1), .val (.int p2), .val (.int p3), .val (.int p4), .val (.ref b1), .val (.ref b20), .unset, .unset, .unset, .unset] [(.int (p3 &&& (2147483647 : Int32)))])
  refine Go.st (fun _ k => XS.bipush X22.here hx rfl (hb hby at_75) k) ?_
  show Go _ _ _ _ _ _ _ T22 (mkF m 77 #[.val (.int p0), .val (.int p1), .val (.int p2), .val (.int p3), .val (.int p4), .val (.ref b1), .val (.ref b20), .unset, .unset, .unset, .unset] [(.int (7 : Int32)), (.int (p3 &&& (2147483647 : Int32)))])
  refine Go.st (fun _ k => iremM (g := (mkF m 77 #[.val (.int p0), .val (.int p1), .val (.int p2), .val (.int p3), .val (.int p4), .val (.ref b1), .val (.ref b20), .unset, .unset, .unset, .unset] [(.int (7 : Int32)), (.int (p3 &&& (2147483647 : Int32)))])) X22 hx rfl (hb hby at_77) rfl (by decide) k) ?_
  show Go _ _ _ _ _ _ _ T22 (mkF m 78 #[.val (.int p0), .val (.int p1), .val (.int p2), .val (.int p3), .val (.int p4), .val (.ref b1), .val (.ref b20), .unset, .unset, .unset, .unset] [(.int ((p3 &&& (2147483647 : Int32)) % (7 : Int32)))])
  rcases own_mod7 p3 with hk25 | hk25 | hk25 | hk25 | hk25 | hk25 | hk25
  · rw [hk25]
    show Go _ _ _ _ _ _ _ T22 (mkF m 78 #[.val (.int p0), .val (.int p1), .val (.int p2), .val (.int p3), .val (.int p4), .val (.ref b1), .val (.ref b20), .unset, .unset, .unset, .unset] [(.int (0 : Int32))])
    refine Go.st (fun _ k => XS.istore X22.here hx rfl (hb hby at_78) rfl (l' := #[.val (.int p0), .val (.int p1), .val (.int p2), .val (.int p3), .val (.int p4), .val (.ref b1), .val (.ref b20), .val (.int (0 : Int32)), .unset, .unset, .unset]) rfl k) ?_
    show Go _ _ _ _ _ _ _ T22 (mkF m 80 #[.val (.int p0), .val (.int p1), .val (.int p2), .val (.int p3), .val (.int p4), .val (.ref b1), .val (.ref b20), .val (.int (0 : Int32)), .unset, .unset, .unset] [])
    refine Go.st (fun _ k => XS.iload X22.here hx rfl (hb hby at_80) rfl k) ?_
    show Go _ _ _ _ _ _ _ T22 (mkF m 82 #[.val (.int p0), .val (.int p1), .val (.int p2), .val (.int p3), .val (.int p4), .val (.ref b1), .val (.ref b20), .val (.int (0 : Int32)), .unset, .unset, .unset] [(.int (0 : Int32))])
    refine Go.st (fun _ k => XS.iload X22.here hx rfl (hb hby at_82) rfl k) ?_
    show Go _ _ _ _ _ _ _ T22 (mkF m 84 #[.val (.int p0), .val (.int p1), .val (.int p2), .val (.int p3), .val (.int p4), .val (.ref b1), .val (.ref b20), .val (.int (0 : Int32)), .unset, .unset, .unset] [(.int p4), (.int (0 : Int32))])
    refine Go.st (fun _ k => Jvm.Stand.ldcI X22 hx hown (mvT hZ (hw _ (List.mem_of_getElem? (i := 31) rfl))) rfl (hb hby at_84) k) ?_
    show Go _ _ _ _ _ _ _ T22 (mkF m 86 #[.val (.int p0), .val (.int p1), .val (.int p2), .val (.int p3), .val (.int p4), .val (.ref b1), .val (.ref b20), .val (.int (0 : Int32)), .unset, .unset, .unset] [(.int (2147483647 : Int32)), (.int p4), (.int (0 : Int32))])
    refine Go.st (fun _ k => XS.iand X22.here hx rfl (hb hby at_86) rfl k) ?_
    show Go _ _ _ _ _ _ _ T22 (mkF m 87 #[.val (.int p0), .val (.int p1), .val (.int p2), .val (.int p3), .val (.int p4), .val (.ref b1), .val (.ref b20), .val (.int (0 : Int32)), .unset, .unset, .unset] [(.int (p4 &&& (2147483647 : Int32))), (.int (0 : Int32))])
    refine Go.st (fun _ k => XS.bipush X22.here hx rfl (hb hby at_87) k) ?_
    show Go _ _ _ _ _ _ _ T22 (mkF m 89 #[.val (.int p0), .val (.int p1), .val (.int p2), .val (.int p3), .val (.int p4), .val (.ref b1), .val (.ref b20), .val (.int (0 : Int32)), .unset, .unset, .unset] [(.int (7 : Int32)), (.int (p4 &&& (2147483647 : Int32))), (.int (0 : Int32))])
    refine Go.st (fun _ k => XS.iload X22.here hx rfl (hb hby at_89) rfl k) ?_
    show Go _ _ _ _ _ _ _ T22 (mkF m 91 #[.val (.int p0), .val (.int p1), .val (.int p2), .val (.int p3), .val (.int p4), .val (.ref b1), .val (.ref b20), .val (.int (0 : Int32)), .unset, .unset, .unset] [(.int (0 : Int32)), (.int (7 : Int32)), (.int (p4 &&& (2147483647 : Int32))), (.int (0 : Int32))])
    refine Go.st (fun _ k => XS.isub X22.here hx rfl (hb hby at_91) rfl k) ?_
    show Go _ _ _ _ _ _ _ T22 (mkF m 92 #[.val (.int p0), .val (.int p1), .val (.int p2), .val (.int p3), .val (.int p4), .val (.ref b1), .val (.ref b20), .val (.int (0 : Int32)), .unset, .unset, .unset] [(.int ((7 : Int32) - (0 : Int32))), (.int (p4 &&& (2147483647 : Int32))), (.int (0 : Int32))])
    refine Go.fr (f' := (mkF m 92 #[.val (.int p0), .val (.int p1), .val (.int p2), .val (.int p3), .val (.int p4), .val (.ref b1), .val (.ref b20), .val (.int (0 : Int32)), .unset, .unset, .unset] [(.int (7 : Int32)), (.int (p4 &&& (2147483647 : Int32))), (.int (0 : Int32))])) (by rw [show ((7 : Int32) - (0 : Int32)) = (7 : Int32) from by decide +kernel]) ?_
    show Go _ _ _ _ _ _ _ T22 (mkF m 92 #[.val (.int p0), .val (.int p1), .val (.int p2), .val (.int p3), .val (.int p4), .val (.ref b1), .val (.ref b20), .val (.int (0 : Int32)), .unset, .unset, .unset] [(.int (7 : Int32)), (.int (p4 &&& (2147483647 : Int32))), (.int (0 : Int32))])
    refine Go.st (fun _ k => iremM (g := (mkF m 92 #[.val (.int p0), .val (.int p1), .val (.int p2), .val (.int p3), .val (.int p4), .val (.ref b1), .val (.ref b20), .val (.int (0 : Int32)), .unset, .unset, .unset] [(.int (7 : Int32)), (.int (p4 &&& (2147483647 : Int32))), (.int (0 : Int32))])) X22 hx rfl (hb hby at_92) rfl (by decide) k) ?_
    show Go _ _ _ _ _ _ _ T22 (mkF m 93 #[.val (.int p0), .val (.int p1), .val (.int p2), .val (.int p3), .val (.int p4), .val (.ref b1), .val (.ref b20), .val (.int (0 : Int32)), .unset, .unset, .unset] [(.int ((p4 &&& (2147483647 : Int32)) % (7 : Int32))), (.int (0 : Int32))])
    refine Go.st (fun _ k => XS.iadd X22.here hx rfl (hb hby at_93) rfl k) ?_
    show Go _ _ _ _ _ _ _ T22 (mkF m 94 #[.val (.int p0), .val (.int p1), .val (.int p2), .val (.int p3), .val (.int p4), .val (.ref b1), .val (.ref b20), .val (.int (0 : Int32)), .unset, .unset, .unset] [(.int ((0 : Int32) + ((p4 &&& (2147483647 : Int32)) % (7 : Int32))))])
    refine Go.st (fun _ k => XS.istore X22.here hx rfl (hb hby at_94) rfl (l' := #[.val (.int p0), .val (.int p1), .val (.int p2), .val (.int p3), .val (.int p4), .val (.ref b1), .val (.ref b20), .val (.int (0 : Int32)), .val (.int ((0 : Int32) + ((p4 &&& (2147483647 : Int32)) % (7 : Int32)))), .unset, .unset]) rfl k) ?_
    show Go _ _ _ _ _ _ _ T22 (mkF m 96 #[.val (.int p0), .val (.int p1), .val (.int p2), .val (.int p3), .val (.int p4), .val (.ref b1), .val (.ref b20), .val (.int (0 : Int32)), .val (.int ((0 : Int32) + ((p4 &&& (2147483647 : Int32)) % (7 : Int32)))), .unset, .unset] [])
    have hev := own_ev (0 : Int32) (7 : Int32) p4 (by decide) (by decide) (by decide)
    exact tl_0 l Z a0 hw p0 p1 p2 p3 p4 G1 b1 b20 (0 : Int32) ((0 : Int32) + ((p4 &&& (2147483647 : Int32)) % (7 : Int32))) t22 kb22 ck1 (nar .char ((p0 &&& (65535 : Int32)).toUInt32.toUInt16.toUInt32.toInt32)) (nar .char (((p0.toUInt32 >>> ((16 : Int32) &&& 31).toUInt32).toInt32).toUInt32.toUInt16.toUInt32.toInt32)) (nar .char ((p1 &&& (65535 : Int32)).toUInt32.toUInt16.toUInt32.toInt32)) (nar .char (((p1.toUInt32 >>> ((16 : Int32) &&& 31).toUInt32).toInt32).toUInt32.toUInt16.toUInt32.toInt32)) (nar .char ((p2 &&& (65535 : Int32)).toUInt32.toUInt16.toUInt32.toInt32)) (nar .char (((p2.toUInt32 >>> ((16 : Int32) &&& 31).toUInt32).toInt32).toUInt32.toUInt16.toUInt32.toInt32)) h0 h22 n0 X22 hx hZ hby hml hown hnm hlk hret e22 N22 Z22 S_CS__22 P_CS S_AD__22 S_HI__22 S_LO__22 S_SI__22 EE22 FF22 NN22 V_b1__22 hW (Or.inl rfl) hev.1 hev.2.1 (by decide) hev.2.2
  · rw [hk25]
    show Go _ _ _ _ _ _ _ T22 (mkF m 78 #[.val (.int p0), .val (.int p1), .val (.int p2), .val (.int p3), .val (.int p4), .val (.ref b1), .val (.ref b20), .unset, .unset, .unset, .unset] [(.int (1 : Int32))])
    refine Go.st (fun _ k => XS.istore X22.here hx rfl (hb hby at_78) rfl (l' := #[.val (.int p0), .val (.int p1), .val (.int p2), .val (.int p3), .val (.int p4), .val (.ref b1), .val (.ref b20), .val (.int (1 : Int32)), .unset, .unset, .unset]) rfl k) ?_
    show Go _ _ _ _ _ _ _ T22 (mkF m 80 #[.val (.int p0), .val (.int p1), .val (.int p2), .val (.int p3), .val (.int p4), .val (.ref b1), .val (.ref b20), .val (.int (1 : Int32)), .unset, .unset, .unset] [])
    refine Go.st (fun _ k => XS.iload X22.here hx rfl (hb hby at_80) rfl k) ?_
    show Go _ _ _ _ _ _ _ T22 (mkF m 82 #[.val (.int p0), .val (.int p1), .val (.int p2), .val (.int p3), .val (.int p4), .val (.ref b1), .val (.ref b20), .val (.int (1 : Int32)), .unset, .unset, .unset] [(.int (1 : Int32))])
    refine Go.st (fun _ k => XS.iload X22.here hx rfl (hb hby at_82) rfl k) ?_
    show Go _ _ _ _ _ _ _ T22 (mkF m 84 #[.val (.int p0), .val (.int p1), .val (.int p2), .val (.int p3), .val (.int p4), .val (.ref b1), .val (.ref b20), .val (.int (1 : Int32)), .unset, .unset, .unset] [(.int p4), (.int (1 : Int32))])
    refine Go.st (fun _ k => Jvm.Stand.ldcI X22 hx hown (mvT hZ (hw _ (List.mem_of_getElem? (i := 31) rfl))) rfl (hb hby at_84) k) ?_
    show Go _ _ _ _ _ _ _ T22 (mkF m 86 #[.val (.int p0), .val (.int p1), .val (.int p2), .val (.int p3), .val (.int p4), .val (.ref b1), .val (.ref b20), .val (.int (1 : Int32)), .unset, .unset, .unset] [(.int (2147483647 : Int32)), (.int p4), (.int (1 : Int32))])
    refine Go.st (fun _ k => XS.iand X22.here hx rfl (hb hby at_86) rfl k) ?_
    show Go _ _ _ _ _ _ _ T22 (mkF m 87 #[.val (.int p0), .val (.int p1), .val (.int p2), .val (.int p3), .val (.int p4), .val (.ref b1), .val (.ref b20), .val (.int (1 : Int32)), .unset, .unset, .unset] [(.int (p4 &&& (2147483647 : Int32))), (.int (1 : Int32))])
    refine Go.st (fun _ k => XS.bipush X22.here hx rfl (hb hby at_87) k) ?_
    show Go _ _ _ _ _ _ _ T22 (mkF m 89 #[.val (.int p0), .val (.int p1), .val (.int p2), .val (.int p3), .val (.int p4), .val (.ref b1), .val (.ref b20), .val (.int (1 : Int32)), .unset, .unset, .unset] [(.int (7 : Int32)), (.int (p4 &&& (2147483647 : Int32))), (.int (1 : Int32))])
    refine Go.st (fun _ k => XS.iload X22.here hx rfl (hb hby at_89) rfl k) ?_
    show Go _ _ _ _ _ _ _ T22 (mkF m 91 #[.val (.int p0), .val (.int p1), .val (.int p2), .val (.int p3), .val (.int p4), .val (.ref b1), .val (.ref b20), .val (.int (1 : Int32)), .unset, .unset, .unset] [(.int (1 : Int32)), (.int (7 : Int32)), (.int (p4 &&& (2147483647 : Int32))), (.int (1 : Int32))])
    refine Go.st (fun _ k => XS.isub X22.here hx rfl (hb hby at_91) rfl k) ?_
    show Go _ _ _ _ _ _ _ T22 (mkF m 92 #[.val (.int p0), .val (.int p1), .val (.int p2), .val (.int p3), .val (.int p4), .val (.ref b1), .val (.ref b20), .val (.int (1 : Int32)), .unset, .unset, .unset] [(.int ((7 : Int32) - (1 : Int32))), (.int (p4 &&& (2147483647 : Int32))), (.int (1 : Int32))])
    refine Go.fr (f' := (mkF m 92 #[.val (.int p0), .val (.int p1), .val (.int p2), .val (.int p3), .val (.int p4), .val (.ref b1), .val (.ref b20), .val (.int (1 : Int32)), .unset, .unset, .unset] [(.int (6 : Int32)), (.int (p4 &&& (2147483647 : Int32))), (.int (1 : Int32))])) (by rw [show ((7 : Int32) - (1 : Int32)) = (6 : Int32) from by decide +kernel]) ?_
    show Go _ _ _ _ _ _ _ T22 (mkF m 92 #[.val (.int p0), .val (.int p1), .val (.int p2), .val (.int p3), .val (.int p4), .val (.ref b1), .val (.ref b20), .val (.int (1 : Int32)), .unset, .unset, .unset] [(.int (6 : Int32)), (.int (p4 &&& (2147483647 : Int32))), (.int (1 : Int32))])
    refine Go.st (fun _ k => iremM (g := (mkF m 92 #[.val (.int p0), .val (.int p1), .val (.int p2), .val (.int p3), .val (.int p4), .val (.ref b1), .val (.ref b20), .val (.int (1 : Int32)), .unset, .unset, .unset] [(.int (6 : Int32)), (.int (p4 &&& (2147483647 : Int32))), (.int (1 : Int32))])) X22 hx rfl (hb hby at_92) rfl (by decide) k) ?_
    show Go _ _ _ _ _ _ _ T22 (mkF m 93 #[.val (.int p0), .val (.int p1), .val (.int p2), .val (.int p3), .val (.int p4), .val (.ref b1), .val (.ref b20), .val (.int (1 : Int32)), .unset, .unset, .unset] [(.int ((p4 &&& (2147483647 : Int32)) % (6 : Int32))), (.int (1 : Int32))])
    refine Go.st (fun _ k => XS.iadd X22.here hx rfl (hb hby at_93) rfl k) ?_
    show Go _ _ _ _ _ _ _ T22 (mkF m 94 #[.val (.int p0), .val (.int p1), .val (.int p2), .val (.int p3), .val (.int p4), .val (.ref b1), .val (.ref b20), .val (.int (1 : Int32)), .unset, .unset, .unset] [(.int ((1 : Int32) + ((p4 &&& (2147483647 : Int32)) % (6 : Int32))))])
    refine Go.st (fun _ k => XS.istore X22.here hx rfl (hb hby at_94) rfl (l' := #[.val (.int p0), .val (.int p1), .val (.int p2), .val (.int p3), .val (.int p4), .val (.ref b1), .val (.ref b20), .val (.int (1 : Int32)), .val (.int ((1 : Int32) + ((p4 &&& (2147483647 : Int32)) % (6 : Int32)))), .unset, .unset]) rfl k) ?_
    show Go _ _ _ _ _ _ _ T22 (mkF m 96 #[.val (.int p0), .val (.int p1), .val (.int p2), .val (.int p3), .val (.int p4), .val (.ref b1), .val (.ref b20), .val (.int (1 : Int32)), .val (.int ((1 : Int32) + ((p4 &&& (2147483647 : Int32)) % (6 : Int32)))), .unset, .unset] [])
    have hev := own_ev (1 : Int32) (6 : Int32) p4 (by decide) (by decide) (by decide)
    exact tl_0 l Z a0 hw p0 p1 p2 p3 p4 G1 b1 b20 (1 : Int32) ((1 : Int32) + ((p4 &&& (2147483647 : Int32)) % (6 : Int32))) t22 kb22 ck1 (nar .char ((p0 &&& (65535 : Int32)).toUInt32.toUInt16.toUInt32.toInt32)) (nar .char (((p0.toUInt32 >>> ((16 : Int32) &&& 31).toUInt32).toInt32).toUInt32.toUInt16.toUInt32.toInt32)) (nar .char ((p1 &&& (65535 : Int32)).toUInt32.toUInt16.toUInt32.toInt32)) (nar .char (((p1.toUInt32 >>> ((16 : Int32) &&& 31).toUInt32).toInt32).toUInt32.toUInt16.toUInt32.toInt32)) (nar .char ((p2 &&& (65535 : Int32)).toUInt32.toUInt16.toUInt32.toInt32)) (nar .char (((p2.toUInt32 >>> ((16 : Int32) &&& 31).toUInt32).toInt32).toUInt32.toUInt16.toUInt32.toInt32)) h0 h22 n0 X22 hx hZ hby hml hown hnm hlk hret e22 N22 Z22 S_CS__22 P_CS S_AD__22 S_HI__22 S_LO__22 S_SI__22 EE22 FF22 NN22 V_b1__22 hW (Or.inr (Or.inl rfl)) hev.1 hev.2.1 (by decide) hev.2.2
  · rw [hk25]
    show Go _ _ _ _ _ _ _ T22 (mkF m 78 #[.val (.int p0), .val (.int p1), .val (.int p2), .val (.int p3), .val (.int p4), .val (.ref b1), .val (.ref b20), .unset, .unset, .unset, .unset] [(.int (2 : Int32))])
    refine Go.st (fun _ k => XS.istore X22.here hx rfl (hb hby at_78) rfl (l' := #[.val (.int p0), .val (.int p1), .val (.int p2), .val (.int p3), .val (.int p4), .val (.ref b1), .val (.ref b20), .val (.int (2 : Int32)), .unset, .unset, .unset]) rfl k) ?_
    show Go _ _ _ _ _ _ _ T22 (mkF m 80 #[.val (.int p0), .val (.int p1), .val (.int p2), .val (.int p3), .val (.int p4), .val (.ref b1), .val (.ref b20), .val (.int (2 : Int32)), .unset, .unset, .unset] [])
    refine Go.st (fun _ k => XS.iload X22.here hx rfl (hb hby at_80) rfl k) ?_
    show Go _ _ _ _ _ _ _ T22 (mkF m 82 #[.val (.int p0), .val (.int p1), .val (.int p2), .val (.int p3), .val (.int p4), .val (.ref b1), .val (.ref b20), .val (.int (2 : Int32)), .unset, .unset, .unset] [(.int (2 : Int32))])
    refine Go.st (fun _ k => XS.iload X22.here hx rfl (hb hby at_82) rfl k) ?_
    show Go _ _ _ _ _ _ _ T22 (mkF m 84 #[.val (.int p0), .val (.int p1), .val (.int p2), .val (.int p3), .val (.int p4), .val (.ref b1), .val (.ref b20), .val (.int (2 : Int32)), .unset, .unset, .unset] [(.int p4), (.int (2 : Int32))])
    refine Go.st (fun _ k => Jvm.Stand.ldcI X22 hx hown (mvT hZ (hw _ (List.mem_of_getElem? (i := 31) rfl))) rfl (hb hby at_84) k) ?_
    show Go _ _ _ _ _ _ _ T22 (mkF m 86 #[.val (.int p0), .val (.int p1), .val (.int p2), .val (.int p3), .val (.int p4), .val (.ref b1), .val (.ref b20), .val (.int (2 : Int32)), .unset, .unset, .unset] [(.int (2147483647 : Int32)), (.int p4), (.int (2 : Int32))])
    refine Go.st (fun _ k => XS.iand X22.here hx rfl (hb hby at_86) rfl k) ?_
    show Go _ _ _ _ _ _ _ T22 (mkF m 87 #[.val (.int p0), .val (.int p1), .val (.int p2), .val (.int p3), .val (.int p4), .val (.ref b1), .val (.ref b20), .val (.int (2 : Int32)), .unset, .unset, .unset] [(.int (p4 &&& (2147483647 : Int32))), (.int (2 : Int32))])
    refine Go.st (fun _ k => XS.bipush X22.here hx rfl (hb hby at_87) k) ?_
    show Go _ _ _ _ _ _ _ T22 (mkF m 89 #[.val (.int p0), .val (.int p1), .val (.int p2), .val (.int p3), .val (.int p4), .val (.ref b1), .val (.ref b20), .val (.int (2 : Int32)), .unset, .unset, .unset] [(.int (7 : Int32)), (.int (p4 &&& (2147483647 : Int32))), (.int (2 : Int32))])
    refine Go.st (fun _ k => XS.iload X22.here hx rfl (hb hby at_89) rfl k) ?_
    show Go _ _ _ _ _ _ _ T22 (mkF m 91 #[.val (.int p0), .val (.int p1), .val (.int p2), .val (.int p3), .val (.int p4), .val (.ref b1), .val (.ref b20), .val (.int (2 : Int32)), .unset, .unset, .unset] [(.int (2 : Int32)), (.int (7 : Int32)), (.int (p4 &&& (2147483647 : Int32))), (.int (2 : Int32))])
    refine Go.st (fun _ k => XS.isub X22.here hx rfl (hb hby at_91) rfl k) ?_
    show Go _ _ _ _ _ _ _ T22 (mkF m 92 #[.val (.int p0), .val (.int p1), .val (.int p2), .val (.int p3), .val (.int p4), .val (.ref b1), .val (.ref b20), .val (.int (2 : Int32)), .unset, .unset, .unset] [(.int ((7 : Int32) - (2 : Int32))), (.int (p4 &&& (2147483647 : Int32))), (.int (2 : Int32))])
    refine Go.fr (f' := (mkF m 92 #[.val (.int p0), .val (.int p1), .val (.int p2), .val (.int p3), .val (.int p4), .val (.ref b1), .val (.ref b20), .val (.int (2 : Int32)), .unset, .unset, .unset] [(.int (5 : Int32)), (.int (p4 &&& (2147483647 : Int32))), (.int (2 : Int32))])) (by rw [show ((7 : Int32) - (2 : Int32)) = (5 : Int32) from by decide +kernel]) ?_
    show Go _ _ _ _ _ _ _ T22 (mkF m 92 #[.val (.int p0), .val (.int p1), .val (.int p2), .val (.int p3), .val (.int p4), .val (.ref b1), .val (.ref b20), .val (.int (2 : Int32)), .unset, .unset, .unset] [(.int (5 : Int32)), (.int (p4 &&& (2147483647 : Int32))), (.int (2 : Int32))])
    refine Go.st (fun _ k => iremM (g := (mkF m 92 #[.val (.int p0), .val (.int p1), .val (.int p2), .val (.int p3), .val (.int p4), .val (.ref b1), .val (.ref b20), .val (.int (2 : Int32)), .unset, .unset, .unset] [(.int (5 : Int32)), (.int (p4 &&& (2147483647 : Int32))), (.int (2 : Int32))])) X22 hx rfl (hb hby at_92) rfl (by decide) k) ?_
    show Go _ _ _ _ _ _ _ T22 (mkF m 93 #[.val (.int p0), .val (.int p1), .val (.int p2), .val (.int p3), .val (.int p4), .val (.ref b1), .val (.ref b20), .val (.int (2 : Int32)), .unset, .unset, .unset] [(.int ((p4 &&& (2147483647 : Int32)) % (5 : Int32))), (.int (2 : Int32))])
    refine Go.st (fun _ k => XS.iadd X22.here hx rfl (hb hby at_93) rfl k) ?_
    show Go _ _ _ _ _ _ _ T22 (mkF m 94 #[.val (.int p0), .val (.int p1), .val (.int p2), .val (.int p3), .val (.int p4), .val (.ref b1), .val (.ref b20), .val (.int (2 : Int32)), .unset, .unset, .unset] [(.int ((2 : Int32) + ((p4 &&& (2147483647 : Int32)) % (5 : Int32))))])
    refine Go.st (fun _ k => XS.istore X22.here hx rfl (hb hby at_94) rfl (l' := #[.val (.int p0), .val (.int p1), .val (.int p2), .val (.int p3), .val (.int p4), .val (.ref b1), .val (.ref b20), .val (.int (2 : Int32)), .val (.int ((2 : Int32) + ((p4 &&& (2147483647 : Int32)) % (5 : Int32)))), .unset, .unset]) rfl k) ?_
    show Go _ _ _ _ _ _ _ T22 (mkF m 96 #[.val (.int p0), .val (.int p1), .val (.int p2), .val (.int p3), .val (.int p4), .val (.ref b1), .val (.ref b20), .val (.int (2 : Int32)), .val (.int ((2 : Int32) + ((p4 &&& (2147483647 : Int32)) % (5 : Int32)))), .unset, .unset] [])
    have hev := own_ev (2 : Int32) (5 : Int32) p4 (by decide) (by decide) (by decide)
    exact tl_0 l Z a0 hw p0 p1 p2 p3 p4 G1 b1 b20 (2 : Int32) ((2 : Int32) + ((p4 &&& (2147483647 : Int32)) % (5 : Int32))) t22 kb22 ck1 (nar .char ((p0 &&& (65535 : Int32)).toUInt32.toUInt16.toUInt32.toInt32)) (nar .char (((p0.toUInt32 >>> ((16 : Int32) &&& 31).toUInt32).toInt32).toUInt32.toUInt16.toUInt32.toInt32)) (nar .char ((p1 &&& (65535 : Int32)).toUInt32.toUInt16.toUInt32.toInt32)) (nar .char (((p1.toUInt32 >>> ((16 : Int32) &&& 31).toUInt32).toInt32).toUInt32.toUInt16.toUInt32.toInt32)) (nar .char ((p2 &&& (65535 : Int32)).toUInt32.toUInt16.toUInt32.toInt32)) (nar .char (((p2.toUInt32 >>> ((16 : Int32) &&& 31).toUInt32).toInt32).toUInt32.toUInt16.toUInt32.toInt32)) h0 h22 n0 X22 hx hZ hby hml hown hnm hlk hret e22 N22 Z22 S_CS__22 P_CS S_AD__22 S_HI__22 S_LO__22 S_SI__22 EE22 FF22 NN22 V_b1__22 hW (Or.inr (Or.inr (Or.inl rfl))) hev.1 hev.2.1 (by decide) hev.2.2
  · rw [hk25]
    show Go _ _ _ _ _ _ _ T22 (mkF m 78 #[.val (.int p0), .val (.int p1), .val (.int p2), .val (.int p3), .val (.int p4), .val (.ref b1), .val (.ref b20), .unset, .unset, .unset, .unset] [(.int (3 : Int32))])
    refine Go.st (fun _ k => XS.istore X22.here hx rfl (hb hby at_78) rfl (l' := #[.val (.int p0), .val (.int p1), .val (.int p2), .val (.int p3), .val (.int p4), .val (.ref b1), .val (.ref b20), .val (.int (3 : Int32)), .unset, .unset, .unset]) rfl k) ?_
    show Go _ _ _ _ _ _ _ T22 (mkF m 80 #[.val (.int p0), .val (.int p1), .val (.int p2), .val (.int p3), .val (.int p4), .val (.ref b1), .val (.ref b20), .val (.int (3 : Int32)), .unset, .unset, .unset] [])
    refine Go.st (fun _ k => XS.iload X22.here hx rfl (hb hby at_80) rfl k) ?_
    show Go _ _ _ _ _ _ _ T22 (mkF m 82 #[.val (.int p0), .val (.int p1), .val (.int p2), .val (.int p3), .val (.int p4), .val (.ref b1), .val (.ref b20), .val (.int (3 : Int32)), .unset, .unset, .unset] [(.int (3 : Int32))])
    refine Go.st (fun _ k => XS.iload X22.here hx rfl (hb hby at_82) rfl k) ?_
    show Go _ _ _ _ _ _ _ T22 (mkF m 84 #[.val (.int p0), .val (.int p1), .val (.int p2), .val (.int p3), .val (.int p4), .val (.ref b1), .val (.ref b20), .val (.int (3 : Int32)), .unset, .unset, .unset] [(.int p4), (.int (3 : Int32))])
    refine Go.st (fun _ k => Jvm.Stand.ldcI X22 hx hown (mvT hZ (hw _ (List.mem_of_getElem? (i := 31) rfl))) rfl (hb hby at_84) k) ?_
    show Go _ _ _ _ _ _ _ T22 (mkF m 86 #[.val (.int p0), .val (.int p1), .val (.int p2), .val (.int p3), .val (.int p4), .val (.ref b1), .val (.ref b20), .val (.int (3 : Int32)), .unset, .unset, .unset] [(.int (2147483647 : Int32)), (.int p4), (.int (3 : Int32))])
    refine Go.st (fun _ k => XS.iand X22.here hx rfl (hb hby at_86) rfl k) ?_
    show Go _ _ _ _ _ _ _ T22 (mkF m 87 #[.val (.int p0), .val (.int p1), .val (.int p2), .val (.int p3), .val (.int p4), .val (.ref b1), .val (.ref b20), .val (.int (3 : Int32)), .unset, .unset, .unset] [(.int (p4 &&& (2147483647 : Int32))), (.int (3 : Int32))])
    refine Go.st (fun _ k => XS.bipush X22.here hx rfl (hb hby at_87) k) ?_
    show Go _ _ _ _ _ _ _ T22 (mkF m 89 #[.val (.int p0), .val (.int p1), .val (.int p2), .val (.int p3), .val (.int p4), .val (.ref b1), .val (.ref b20), .val (.int (3 : Int32)), .unset, .unset, .unset] [(.int (7 : Int32)), (.int (p4 &&& (2147483647 : Int32))), (.int (3 : Int32))])
    refine Go.st (fun _ k => XS.iload X22.here hx rfl (hb hby at_89) rfl k) ?_
    show Go _ _ _ _ _ _ _ T22 (mkF m 91 #[.val (.int p0), .val (.int p1), .val (.int p2), .val (.int p3), .val (.int p4), .val (.ref b1), .val (.ref b20), .val (.int (3 : Int32)), .unset, .unset, .unset] [(.int (3 : Int32)), (.int (7 : Int32)), (.int (p4 &&& (2147483647 : Int32))), (.int (3 : Int32))])
    refine Go.st (fun _ k => XS.isub X22.here hx rfl (hb hby at_91) rfl k) ?_
    show Go _ _ _ _ _ _ _ T22 (mkF m 92 #[.val (.int p0), .val (.int p1), .val (.int p2), .val (.int p3), .val (.int p4), .val (.ref b1), .val (.ref b20), .val (.int (3 : Int32)), .unset, .unset, .unset] [(.int ((7 : Int32) - (3 : Int32))), (.int (p4 &&& (2147483647 : Int32))), (.int (3 : Int32))])
    refine Go.fr (f' := (mkF m 92 #[.val (.int p0), .val (.int p1), .val (.int p2), .val (.int p3), .val (.int p4), .val (.ref b1), .val (.ref b20), .val (.int (3 : Int32)), .unset, .unset, .unset] [(.int (4 : Int32)), (.int (p4 &&& (2147483647 : Int32))), (.int (3 : Int32))])) (by rw [show ((7 : Int32) - (3 : Int32)) = (4 : Int32) from by decide +kernel]) ?_
    show Go _ _ _ _ _ _ _ T22 (mkF m 92 #[.val (.int p0), .val (.int p1), .val (.int p2), .val (.int p3), .val (.int p4), .val (.ref b1), .val (.ref b20), .val (.int (3 : Int32)), .unset, .unset, .unset] [(.int (4 : Int32)), (.int (p4 &&& (2147483647 : Int32))), (.int (3 : Int32))])
    refine Go.st (fun _ k => iremM (g := (mkF m 92 #[.val (.int p0), .val (.int p1), .val (.int p2), .val (.int p3), .val (.int p4), .val (.ref b1), .val (.ref b20), .val (.int (3 : Int32)), .unset, .unset, .unset] [(.int (4 : Int32)), (.int (p4 &&& (2147483647 : Int32))), (.int (3 : Int32))])) X22 hx rfl (hb hby at_92) rfl (by decide) k) ?_
    show Go _ _ _ _ _ _ _ T22 (mkF m 93 #[.val (.int p0), .val (.int p1), .val (.int p2), .val (.int p3), .val (.int p4), .val (.ref b1), .val (.ref b20), .val (.int (3 : Int32)), .unset, .unset, .unset] [(.int ((p4 &&& (2147483647 : Int32)) % (4 : Int32))), (.int (3 : Int32))])
    refine Go.st (fun _ k => XS.iadd X22.here hx rfl (hb hby at_93) rfl k) ?_
    show Go _ _ _ _ _ _ _ T22 (mkF m 94 #[.val (.int p0), .val (.int p1), .val (.int p2), .val (.int p3), .val (.int p4), .val (.ref b1), .val (.ref b20), .val (.int (3 : Int32)), .unset, .unset, .unset] [(.int ((3 : Int32) + ((p4 &&& (2147483647 : Int32)) % (4 : Int32))))])
    refine Go.st (fun _ k => XS.istore X22.here hx rfl (hb hby at_94) rfl (l' := #[.val (.int p0), .val (.int p1), .val (.int p2), .val (.int p3), .val (.int p4), .val (.ref b1), .val (.ref b20), .val (.int (3 : Int32)), .val (.int ((3 : Int32) + ((p4 &&& (2147483647 : Int32)) % (4 : Int32)))), .unset, .unset]) rfl k) ?_
    show Go _ _ _ _ _ _ _ T22 (mkF m 96 #[.val (.int p0), .val (.int p1), .val (.int p2), .val (.int p3), .val (.int p4), .val (.ref b1), .val (.ref b20), .val (.int (3 : Int32)), .val (.int ((3 : Int32) + ((p4 &&& (2147483647 : Int32)) % (4 : Int32)))), .unset, .unset] [])
    have hev := own_ev (3 : Int32) (4 : Int32) p4 (by decide) (by decide) (by decide)
    exact tl_0 l Z a0 hw p0 p1 p2 p3 p4 G1 b1 b20 (3 : Int32) ((3 : Int32) + ((p4 &&& (2147483647 : Int32)) % (4 : Int32))) t22 kb22 ck1 (nar .char ((p0 &&& (65535 : Int32)).toUInt32.toUInt16.toUInt32.toInt32)) (nar .char (((p0.toUInt32 >>> ((16 : Int32) &&& 31).toUInt32).toInt32).toUInt32.toUInt16.toUInt32.toInt32)) (nar .char ((p1 &&& (65535 : Int32)).toUInt32.toUInt16.toUInt32.toInt32)) (nar .char (((p1.toUInt32 >>> ((16 : Int32) &&& 31).toUInt32).toInt32).toUInt32.toUInt16.toUInt32.toInt32)) (nar .char ((p2 &&& (65535 : Int32)).toUInt32.toUInt16.toUInt32.toInt32)) (nar .char (((p2.toUInt32 >>> ((16 : Int32) &&& 31).toUInt32).toInt32).toUInt32.toUInt16.toUInt32.toInt32)) h0 h22 n0 X22 hx hZ hby hml hown hnm hlk hret e22 N22 Z22 S_CS__22 P_CS S_AD__22 S_HI__22 S_LO__22 S_SI__22 EE22 FF22 NN22 V_b1__22 hW (Or.inr (Or.inr (Or.inr (Or.inl rfl)))) hev.1 hev.2.1 (by decide) hev.2.2
  · rw [hk25]
    show Go _ _ _ _ _ _ _ T22 (mkF m 78 #[.val (.int p0), .val (.int p1), .val (.int p2), .val (.int p3), .val (.int p4), .val (.ref b1), .val (.ref b20), .unset, .unset, .unset, .unset] [(.int (4 : Int32))])
    refine Go.st (fun _ k => XS.istore X22.here hx rfl (hb hby at_78) rfl (l' := #[.val (.int p0), .val (.int p1), .val (.int p2), .val (.int p3), .val (.int p4), .val (.ref b1), .val (.ref b20), .val (.int (4 : Int32)), .unset, .unset, .unset]) rfl k) ?_
    show Go _ _ _ _ _ _ _ T22 (mkF m 80 #[.val (.int p0), .val (.int p1), .val (.int p2), .val (.int p3), .val (.int p4), .val (.ref b1), .val (.ref b20), .val (.int (4 : Int32)), .unset, .unset, .unset] [])
    refine Go.st (fun _ k => XS.iload X22.here hx rfl (hb hby at_80) rfl k) ?_
    show Go _ _ _ _ _ _ _ T22 (mkF m 82 #[.val (.int p0), .val (.int p1), .val (.int p2), .val (.int p3), .val (.int p4), .val (.ref b1), .val (.ref b20), .val (.int (4 : Int32)), .unset, .unset, .unset] [(.int (4 : Int32))])
    refine Go.st (fun _ k => XS.iload X22.here hx rfl (hb hby at_82) rfl k) ?_
    show Go _ _ _ _ _ _ _ T22 (mkF m 84 #[.val (.int p0), .val (.int p1), .val (.int p2), .val (.int p3), .val (.int p4), .val (.ref b1), .val (.ref b20), .val (.int (4 : Int32)), .unset, .unset, .unset] [(.int p4), (.int (4 : Int32))])
    refine Go.st (fun _ k => Jvm.Stand.ldcI X22 hx hown (mvT hZ (hw _ (List.mem_of_getElem? (i := 31) rfl))) rfl (hb hby at_84) k) ?_
    show Go _ _ _ _ _ _ _ T22 (mkF m 86 #[.val (.int p0), .val (.int p1), .val (.int p2), .val (.int p3), .val (.int p4), .val (.ref b1), .val (.ref b20), .val (.int (4 : Int32)), .unset, .unset, .unset] [(.int (2147483647 : Int32)), (.int p4), (.int (4 : Int32))])
    refine Go.st (fun _ k => XS.iand X22.here hx rfl (hb hby at_86) rfl k) ?_
    show Go _ _ _ _ _ _ _ T22 (mkF m 87 #[.val (.int p0), .val (.int p1), .val (.int p2), .val (.int p3), .val (.int p4), .val (.ref b1), .val (.ref b20), .val (.int (4 : Int32)), .unset, .unset, .unset] [(.int (p4 &&& (2147483647 : Int32))), (.int (4 : Int32))])
    refine Go.st (fun _ k => XS.bipush X22.here hx rfl (hb hby at_87) k) ?_
    show Go _ _ _ _ _ _ _ T22 (mkF m 89 #[.val (.int p0), .val (.int p1), .val (.int p2), .val (.int p3), .val (.int p4), .val (.ref b1), .val (.ref b20), .val (.int (4 : Int32)), .unset, .unset, .unset] [(.int (7 : Int32)), (.int (p4 &&& (2147483647 : Int32))), (.int (4 : Int32))])
    refine Go.st (fun _ k => XS.iload X22.here hx rfl (hb hby at_89) rfl k) ?_
    show Go _ _ _ _ _ _ _ T22 (mkF m 91 #[.val (.int p0), .val (.int p1), .val (.int p2), .val (.int p3), .val (.int p4), .val (.ref b1), .val (.ref b20), .val (.int (4 : Int32)), .unset, .unset, .unset] [(.int (4 : Int32)), (.int (7 : Int32)), (.int (p4 &&& (2147483647 : Int32))), (.int (4 : Int32))])
    refine Go.st (fun _ k => XS.isub X22.here hx rfl (hb hby at_91) rfl k) ?_
    show Go _ _ _ _ _ _ _ T22 (mkF m 92 #[.val (.int p0), .val (.int p1), .val (.int p2), .val (.int p3), .val (.int p4), .val (.ref b1), .val (.ref b20), .val (.int (4 : Int32)), .unset, .unset, .unset] [(.int ((7 : Int32) - (4 : Int32))), (.int (p4 &&& (2147483647 : Int32))), (.int (4 : Int32))])
    refine Go.fr (f' := (mkF m 92 #[.val (.int p0), .val (.int p1), .val (.int p2), .val (.int p3), .val (.int p4), .val (.ref b1), .val (.ref b20), .val (.int (4 : Int32)), .unset, .unset, .unset] [(.int (3 : Int32)), (.int (p4 &&& (2147483647 : Int32))), (.int (4 : Int32))])) (by rw [show ((7 : Int32) - (4 : Int32)) = (3 : Int32) from by decide +kernel]) ?_
    show Go _ _ _ _ _ _ _ T22 (mkF m 92 #[.val (.int p0), .val (.int p1), .val (.int p2), .val (.int p3), .val (.int p4), .val (.ref b1), .val (.ref b20), .val (.int (4 : Int32)), .unset, .unset, .unset] [(.int (3 : Int32)), (.int (p4 &&& (2147483647 : Int32))), (.int (4 : Int32))])
    refine Go.st (fun _ k => iremM (g := (mkF m 92 #[.val (.int p0), .val (.int p1), .val (.int p2), .val (.int p3), .val (.int p4), .val (.ref b1), .val (.ref b20), .val (.int (4 : Int32)), .unset, .unset, .unset] [(.int (3 : Int32)), (.int (p4 &&& (2147483647 : Int32))), (.int (4 : Int32))])) X22 hx rfl (hb hby at_92) rfl (by decide) k) ?_
    show Go _ _ _ _ _ _ _ T22 (mkF m 93 #[.val (.int p0), .val (.int p1), .val (.int p2), .val (.int p3), .val (.int p4), .val (.ref b1), .val (.ref b20), .val (.int (4 : Int32)), .unset, .unset, .unset] [(.int ((p4 &&& (2147483647 : Int32)) % (3 : Int32))), (.int (4 : Int32))])
    refine Go.st (fun _ k => XS.iadd X22.here hx rfl (hb hby at_93) rfl k) ?_
    show Go _ _ _ _ _ _ _ T22 (mkF m 94 #[.val (.int p0), .val (.int p1), .val (.int p2), .val (.int p3), .val (.int p4), .val (.ref b1), .val (.ref b20), .val (.int (4 : Int32)), .unset, .unset, .unset] [(.int ((4 : Int32) + ((p4 &&& (2147483647 : Int32)) % (3 : Int32))))])
    refine Go.st (fun _ k => XS.istore X22.here hx rfl (hb hby at_94) rfl (l' := #[.val (.int p0), .val (.int p1), .val (.int p2), .val (.int p3), .val (.int p4), .val (.ref b1), .val (.ref b20), .val (.int (4 : Int32)), .val (.int ((4 : Int32) + ((p4 &&& (2147483647 : Int32)) % (3 : Int32)))), .unset, .unset]) rfl k) ?_
    show Go _ _ _ _ _ _ _ T22 (mkF m 96 #[.val (.int p0), .val (.int p1), .val (.int p2), .val (.int p3), .val (.int p4), .val (.ref b1), .val (.ref b20), .val (.int (4 : Int32)), .val (.int ((4 : Int32) + ((p4 &&& (2147483647 : Int32)) % (3 : Int32)))), .unset, .unset] [])
    have hev := own_ev (4 : Int32) (3 : Int32) p4 (by decide) (by decide) (by decide)
    exact tl_0 l Z a0 hw p0 p1 p2 p3 p4 G1 b1 b20 (4 : Int32) ((4 : Int32) + ((p4 &&& (2147483647 : Int32)) % (3 : Int32))) t22 kb22 ck1 (nar .char ((p0 &&& (65535 : Int32)).toUInt32.toUInt16.toUInt32.toInt32)) (nar .char (((p0.toUInt32 >>> ((16 : Int32) &&& 31).toUInt32).toInt32).toUInt32.toUInt16.toUInt32.toInt32)) (nar .char ((p1 &&& (65535 : Int32)).toUInt32.toUInt16.toUInt32.toInt32)) (nar .char (((p1.toUInt32 >>> ((16 : Int32) &&& 31).toUInt32).toInt32).toUInt32.toUInt16.toUInt32.toInt32)) (nar .char ((p2 &&& (65535 : Int32)).toUInt32.toUInt16.toUInt32.toInt32)) (nar .char (((p2.toUInt32 >>> ((16 : Int32) &&& 31).toUInt32).toInt32).toUInt32.toUInt16.toUInt32.toInt32)) h0 h22 n0 X22 hx hZ hby hml hown hnm hlk hret e22 N22 Z22 S_CS__22 P_CS S_AD__22 S_HI__22 S_LO__22 S_SI__22 EE22 FF22 NN22 V_b1__22 hW (Or.inr (Or.inr (Or.inr (Or.inr (Or.inl rfl))))) hev.1 hev.2.1 (by decide) hev.2.2
  · rw [hk25]
    show Go _ _ _ _ _ _ _ T22 (mkF m 78 #[.val (.int p0), .val (.int p1), .val (.int p2), .val (.int p3), .val (.int p4), .val (.ref b1), .val (.ref b20), .unset, .unset, .unset, .unset] [(.int (5 : Int32))])
    refine Go.st (fun _ k => XS.istore X22.here hx rfl (hb hby at_78) rfl (l' := #[.val (.int p0), .val (.int p1), .val (.int p2), .val (.int p3), .val (.int p4), .val (.ref b1), .val (.ref b20), .val (.int (5 : Int32)), .unset, .unset, .unset]) rfl k) ?_
    show Go _ _ _ _ _ _ _ T22 (mkF m 80 #[.val (.int p0), .val (.int p1), .val (.int p2), .val (.int p3), .val (.int p4), .val (.ref b1), .val (.ref b20), .val (.int (5 : Int32)), .unset, .unset, .unset] [])
    refine Go.st (fun _ k => XS.iload X22.here hx rfl (hb hby at_80) rfl k) ?_
    show Go _ _ _ _ _ _ _ T22 (mkF m 82 #[.val (.int p0), .val (.int p1), .val (.int p2), .val (.int p3), .val (.int p4), .val (.ref b1), .val (.ref b20), .val (.int (5 : Int32)), .unset, .unset, .unset] [(.int (5 : Int32))])
    refine Go.st (fun _ k => XS.iload X22.here hx rfl (hb hby at_82) rfl k) ?_
    show Go _ _ _ _ _ _ _ T22 (mkF m 84 #[.val (.int p0), .val (.int p1), .val (.int p2), .val (.int p3), .val (.int p4), .val (.ref b1), .val (.ref b20), .val (.int (5 : Int32)), .unset, .unset, .unset] [(.int p4), (.int (5 : Int32))])
    refine Go.st (fun _ k => Jvm.Stand.ldcI X22 hx hown (mvT hZ (hw _ (List.mem_of_getElem? (i := 31) rfl))) rfl (hb hby at_84) k) ?_
    show Go _ _ _ _ _ _ _ T22 (mkF m 86 #[.val (.int p0), .val (.int p1), .val (.int p2), .val (.int p3), .val (.int p4), .val (.ref b1), .val (.ref b20), .val (.int (5 : Int32)), .unset, .unset, .unset] [(.int (2147483647 : Int32)), (.int p4), (.int (5 : Int32))])
    refine Go.st (fun _ k => XS.iand X22.here hx rfl (hb hby at_86) rfl k) ?_
    show Go _ _ _ _ _ _ _ T22 (mkF m 87 #[.val (.int p0), .val (.int p1), .val (.int p2), .val (.int p3), .val (.int p4), .val (.ref b1), .val (.ref b20), .val (.int (5 : Int32)), .unset, .unset, .unset] [(.int (p4 &&& (2147483647 : Int32))), (.int (5 : Int32))])
    refine Go.st (fun _ k => XS.bipush X22.here hx rfl (hb hby at_87) k) ?_
    show Go _ _ _ _ _ _ _ T22 (mkF m 89 #[.val (.int p0), .val (.int p1), .val (.int p2), .val (.int p3), .val (.int p4), .val (.ref b1), .val (.ref b20), .val (.int (5 : Int32)), .unset, .unset, .unset] [(.int (7 : Int32)), (.int (p4 &&& (2147483647 : Int32))), (.int (5 : Int32))])
    refine Go.st (fun _ k => XS.iload X22.here hx rfl (hb hby at_89) rfl k) ?_
    show Go _ _ _ _ _ _ _ T22 (mkF m 91 #[.val (.int p0), .val (.int p1), .val (.int p2), .val (.int p3), .val (.int p4), .val (.ref b1), .val (.ref b20), .val (.int (5 : Int32)), .unset, .unset, .unset] [(.int (5 : Int32)), (.int (7 : Int32)), (.int (p4 &&& (2147483647 : Int32))), (.int (5 : Int32))])
    refine Go.st (fun _ k => XS.isub X22.here hx rfl (hb hby at_91) rfl k) ?_
    show Go _ _ _ _ _ _ _ T22 (mkF m 92 #[.val (.int p0), .val (.int p1), .val (.int p2), .val (.int p3), .val (.int p4), .val (.ref b1), .val (.ref b20), .val (.int (5 : Int32)), .unset, .unset, .unset] [(.int ((7 : Int32) - (5 : Int32))), (.int (p4 &&& (2147483647 : Int32))), (.int (5 : Int32))])
    refine Go.fr (f' := (mkF m 92 #[.val (.int p0), .val (.int p1), .val (.int p2), .val (.int p3), .val (.int p4), .val (.ref b1), .val (.ref b20), .val (.int (5 : Int32)), .unset, .unset, .unset] [(.int (2 : Int32)), (.int (p4 &&& (2147483647 : Int32))), (.int (5 : Int32))])) (by rw [show ((7 : Int32) - (5 : Int32)) = (2 : Int32) from by decide +kernel]) ?_
    show Go _ _ _ _ _ _ _ T22 (mkF m 92 #[.val (.int p0), .val (.int p1), .val (.int p2), .val (.int p3), .val (.int p4), .val (.ref b1), .val (.ref b20), .val (.int (5 : Int32)), .unset, .unset, .unset] [(.int (2 : Int32)), (.int (p4 &&& (2147483647 : Int32))), (.int (5 : Int32))])
    refine Go.st (fun _ k => iremM (g := (mkF m 92 #[.val (.int p0), .val (.int p1), .val (.int p2), .val (.int p3), .val (.int p4), .val (.ref b1), .val (.ref b20), .val (.int (5 : Int32)), .unset, .unset, .unset] [(.int (2 : Int32)), (.int (p4 &&& (2147483647 : Int32))), (.int (5 : Int32))])) X22 hx rfl (hb hby at_92) rfl (by decide) k) ?_
    show Go _ _ _ _ _ _ _ T22 (mkF m 93 #[.val (.int p0), .val (.int p1), .val (.int p2), .val (.int p3), .val (.int p4), .val (.ref b1), .val (.ref b20), .val (.int (5 : Int32)), .unset, .unset, .unset] [(.int ((p4 &&& (2147483647 : Int32)) % (2 : Int32))), (.int (5 : Int32))])
    refine Go.st (fun _ k => XS.iadd X22.here hx rfl (hb hby at_93) rfl k) ?_
    show Go _ _ _ _ _ _ _ T22 (mkF m 94 #[.val (.int p0), .val (.int p1), .val (.int p2), .val (.int p3), .val (.int p4), .val (.ref b1), .val (.ref b20), .val (.int (5 : Int32)), .unset, .unset, .unset] [(.int ((5 : Int32) + ((p4 &&& (2147483647 : Int32)) % (2 : Int32))))])
    refine Go.st (fun _ k => XS.istore X22.here hx rfl (hb hby at_94) rfl (l' := #[.val (.int p0), .val (.int p1), .val (.int p2), .val (.int p3), .val (.int p4), .val (.ref b1), .val (.ref b20), .val (.int (5 : Int32)), .val (.int ((5 : Int32) + ((p4 &&& (2147483647 : Int32)) % (2 : Int32)))), .unset, .unset]) rfl k) ?_
    show Go _ _ _ _ _ _ _ T22 (mkF m 96 #[.val (.int p0), .val (.int p1), .val (.int p2), .val (.int p3), .val (.int p4), .val (.ref b1), .val (.ref b20), .val (.int (5 : Int32)), .val (.int ((5 : Int32) + ((p4 &&& (2147483647 : Int32)) % (2 : Int32)))), .unset, .unset] [])
    have hev := own_ev (5 : Int32) (2 : Int32) p4 (by decide) (by decide) (by decide)
    exact tl_0 l Z a0 hw p0 p1 p2 p3 p4 G1 b1 b20 (5 : Int32) ((5 : Int32) + ((p4 &&& (2147483647 : Int32)) % (2 : Int32))) t22 kb22 ck1 (nar .char ((p0 &&& (65535 : Int32)).toUInt32.toUInt16.toUInt32.toInt32)) (nar .char (((p0.toUInt32 >>> ((16 : Int32) &&& 31).toUInt32).toInt32).toUInt32.toUInt16.toUInt32.toInt32)) (nar .char ((p1 &&& (65535 : Int32)).toUInt32.toUInt16.toUInt32.toInt32)) (nar .char (((p1.toUInt32 >>> ((16 : Int32) &&& 31).toUInt32).toInt32).toUInt32.toUInt16.toUInt32.toInt32)) (nar .char ((p2 &&& (65535 : Int32)).toUInt32.toUInt16.toUInt32.toInt32)) (nar .char (((p2.toUInt32 >>> ((16 : Int32) &&& 31).toUInt32).toInt32).toUInt32.toUInt16.toUInt32.toInt32)) h0 h22 n0 X22 hx hZ hby hml hown hnm hlk hret e22 N22 Z22 S_CS__22 P_CS S_AD__22 S_HI__22 S_LO__22 S_SI__22 EE22 FF22 NN22 V_b1__22 hW (Or.inr (Or.inr (Or.inr (Or.inr (Or.inr (Or.inl rfl)))))) hev.1 hev.2.1 (by decide) hev.2.2
  · rw [hk25]
    show Go _ _ _ _ _ _ _ T22 (mkF m 78 #[.val (.int p0), .val (.int p1), .val (.int p2), .val (.int p3), .val (.int p4), .val (.ref b1), .val (.ref b20), .unset, .unset, .unset, .unset] [(.int (6 : Int32))])
    refine Go.st (fun _ k => XS.istore X22.here hx rfl (hb hby at_78) rfl (l' := #[.val (.int p0), .val (.int p1), .val (.int p2), .val (.int p3), .val (.int p4), .val (.ref b1), .val (.ref b20), .val (.int (6 : Int32)), .unset, .unset, .unset]) rfl k) ?_
    show Go _ _ _ _ _ _ _ T22 (mkF m 80 #[.val (.int p0), .val (.int p1), .val (.int p2), .val (.int p3), .val (.int p4), .val (.ref b1), .val (.ref b20), .val (.int (6 : Int32)), .unset, .unset, .unset] [])
    refine Go.st (fun _ k => XS.iload X22.here hx rfl (hb hby at_80) rfl k) ?_
    show Go _ _ _ _ _ _ _ T22 (mkF m 82 #[.val (.int p0), .val (.int p1), .val (.int p2), .val (.int p3), .val (.int p4), .val (.ref b1), .val (.ref b20), .val (.int (6 : Int32)), .unset, .unset, .unset] [(.int (6 : Int32))])
    refine Go.st (fun _ k => XS.iload X22.here hx rfl (hb hby at_82) rfl k) ?_
    show Go _ _ _ _ _ _ _ T22 (mkF m 84 #[.val (.int p0), .val (.int p1), .val (.int p2), .val (.int p3), .val (.int p4), .val (.ref b1), .val (.ref b20), .val (.int (6 : Int32)), .unset, .unset, .unset] [(.int p4), (.int (6 : Int32))])
    refine Go.st (fun _ k => Jvm.Stand.ldcI X22 hx hown (mvT hZ (hw _ (List.mem_of_getElem? (i := 31) rfl))) rfl (hb hby at_84) k) ?_
    show Go _ _ _ _ _ _ _ T22 (mkF m 86 #[.val (.int p0), .val (.int p1), .val (.int p2), .val (.int p3), .val (.int p4), .val (.ref b1), .val (.ref b20), .val (.int (6 : Int32)), .unset, .unset, .unset] [(.int (2147483647 : Int32)), (.int p4), (.int (6 : Int32))])
    refine Go.st (fun _ k => XS.iand X22.here hx rfl (hb hby at_86) rfl k) ?_
    show Go _ _ _ _ _ _ _ T22 (mkF m 87 #[.val (.int p0), .val (.int p1), .val (.int p2), .val (.int p3), .val (.int p4), .val (.ref b1), .val (.ref b20), .val (.int (6 : Int32)), .unset, .unset, .unset] [(.int (p4 &&& (2147483647 : Int32))), (.int (6 : Int32))])
    refine Go.st (fun _ k => XS.bipush X22.here hx rfl (hb hby at_87) k) ?_
    show Go _ _ _ _ _ _ _ T22 (mkF m 89 #[.val (.int p0), .val (.int p1), .val (.int p2), .val (.int p3), .val (.int p4), .val (.ref b1), .val (.ref b20), .val (.int (6 : Int32)), .unset, .unset, .unset] [(.int (7 : Int32)), (.int (p4 &&& (2147483647 : Int32))), (.int (6 : Int32))])
    refine Go.st (fun _ k => XS.iload X22.here hx rfl (hb hby at_89) rfl k) ?_
    show Go _ _ _ _ _ _ _ T22 (mkF m 91 #[.val (.int p0), .val (.int p1), .val (.int p2), .val (.int p3), .val (.int p4), .val (.ref b1), .val (.ref b20), .val (.int (6 : Int32)), .unset, .unset, .unset] [(.int (6 : Int32)), (.int (7 : Int32)), (.int (p4 &&& (2147483647 : Int32))), (.int (6 : Int32))])
    refine Go.st (fun _ k => XS.isub X22.here hx rfl (hb hby at_91) rfl k) ?_
    show Go _ _ _ _ _ _ _ T22 (mkF m 92 #[.val (.int p0), .val (.int p1), .val (.int p2), .val (.int p3), .val (.int p4), .val (.ref b1), .val (.ref b20), .val (.int (6 : Int32)), .unset, .unset, .unset] [(.int ((7 : Int32) - (6 : Int32))), (.int (p4 &&& (2147483647 : Int32))), (.int (6 : Int32))])
    refine Go.fr (f' := (mkF m 92 #[.val (.int p0), .val (.int p1), .val (.int p2), .val (.int p3), .val (.int p4), .val (.ref b1), .val (.ref b20), .val (.int (6 : Int32)), .unset, .unset, .unset] [(.int (1 : Int32)), (.int (p4 &&& (2147483647 : Int32))), (.int (6 : Int32))])) (by rw [show ((7 : Int32) - (6 : Int32)) = (1 : Int32) from by decide +kernel]) ?_
    show Go _ _ _ _ _ _ _ T22 (mkF m 92 #[.val (.int p0), .val (.int p1), .val (.int p2), .val (.int p3), .val (.int p4), .val (.ref b1), .val (.ref b20), .val (.int (6 : Int32)), .unset, .unset, .unset] [(.int (1 : Int32)), (.int (p4 &&& (2147483647 : Int32))), (.int (6 : Int32))])
    refine Go.st (fun _ k => iremM (g := (mkF m 92 #[.val (.int p0), .val (.int p1), .val (.int p2), .val (.int p3), .val (.int p4), .val (.ref b1), .val (.ref b20), .val (.int (6 : Int32)), .unset, .unset, .unset] [(.int (1 : Int32)), (.int (p4 &&& (2147483647 : Int32))), (.int (6 : Int32))])) X22 hx rfl (hb hby at_92) rfl (by decide) k) ?_
    show Go _ _ _ _ _ _ _ T22 (mkF m 93 #[.val (.int p0), .val (.int p1), .val (.int p2), .val (.int p3), .val (.int p4), .val (.ref b1), .val (.ref b20), .val (.int (6 : Int32)), .unset, .unset, .unset] [(.int ((p4 &&& (2147483647 : Int32)) % (1 : Int32))), (.int (6 : Int32))])
    refine Go.st (fun _ k => XS.iadd X22.here hx rfl (hb hby at_93) rfl k) ?_
    show Go _ _ _ _ _ _ _ T22 (mkF m 94 #[.val (.int p0), .val (.int p1), .val (.int p2), .val (.int p3), .val (.int p4), .val (.ref b1), .val (.ref b20), .val (.int (6 : Int32)), .unset, .unset, .unset] [(.int ((6 : Int32) + ((p4 &&& (2147483647 : Int32)) % (1 : Int32))))])
    refine Go.st (fun _ k => XS.istore X22.here hx rfl (hb hby at_94) rfl (l' := #[.val (.int p0), .val (.int p1), .val (.int p2), .val (.int p3), .val (.int p4), .val (.ref b1), .val (.ref b20), .val (.int (6 : Int32)), .val (.int ((6 : Int32) + ((p4 &&& (2147483647 : Int32)) % (1 : Int32)))), .unset, .unset]) rfl k) ?_
    show Go _ _ _ _ _ _ _ T22 (mkF m 96 #[.val (.int p0), .val (.int p1), .val (.int p2), .val (.int p3), .val (.int p4), .val (.ref b1), .val (.ref b20), .val (.int (6 : Int32)), .val (.int ((6 : Int32) + ((p4 &&& (2147483647 : Int32)) % (1 : Int32)))), .unset, .unset] [])
    have hev := own_ev (6 : Int32) (1 : Int32) p4 (by decide) (by decide) (by decide)
    exact tl_0 l Z a0 hw p0 p1 p2 p3 p4 G1 b1 b20 (6 : Int32) ((6 : Int32) + ((p4 &&& (2147483647 : Int32)) % (1 : Int32))) t22 kb22 ck1 (nar .char ((p0 &&& (65535 : Int32)).toUInt32.toUInt16.toUInt32.toInt32)) (nar .char (((p0.toUInt32 >>> ((16 : Int32) &&& 31).toUInt32).toInt32).toUInt32.toUInt16.toUInt32.toInt32)) (nar .char ((p1 &&& (65535 : Int32)).toUInt32.toUInt16.toUInt32.toInt32)) (nar .char (((p1.toUInt32 >>> ((16 : Int32) &&& 31).toUInt32).toInt32).toUInt32.toUInt16.toUInt32.toInt32)) (nar .char ((p2 &&& (65535 : Int32)).toUInt32.toUInt16.toUInt32.toInt32)) (nar .char (((p2.toUInt32 >>> ((16 : Int32) &&& 31).toUInt32).toInt32).toUInt32.toUInt16.toUInt32.toInt32)) h0 h22 n0 X22 hx hZ hby hml hown hnm hlk hret e22 N22 Z22 S_CS__22 P_CS S_AD__22 S_HI__22 S_LO__22 S_SI__22 EE22 FF22 NN22 V_b1__22 hW (Or.inr (Or.inr (Or.inr (Or.inr (Or.inr (Or.inr (rfl))))))) hev.1 hev.2.1 (by decide) hev.2.2
set_option maxRecDepth 65536 in
set_option maxHeartbeats 40000000 in
theorem comes_1 {Post : Tables → Env → Array Value → State → Outcome → State → Prop} (hpost : ∀ tb e args s v u, (limb_1_1.after args s (.returned v) u = true ∧ limb_1_2.after args s (.returned v) u = true ∧ True) → FrameEnd s (.returned v) u (Jvm.fieldLocs frame_1_writes args s ++ Jvm.arrayLocs frame_1_arrays args s ++ Jvm.staticLocs frame_1_statics s) 32 256 → Post tb e args s (.returned v) u) :
    ArmFor flags0 classFile x code maxLocals ret World_1 tables_1 room_1 Calls_1 rest_1 Pre_1 Post := by
  intro l hfl _ _ p e ha hc hk s m args below hf hA hF happ hP
  obtain ⟨hcalls, hrest, hpre⟩ := hP
  obtain ⟨-, -, -, hnamed, -, -, -, hat⟩ := (Spec.applies_iff hf).mp happ
  obtain ⟨hg, hn⟩ := and_e (Cond.before_iff.mp (show (Jvm.Cond.and given_1 narrow_1).before args s = true from hpre))
  obtain ⟨g1, g2⟩ := and_e hg
  obtain ⟨g3, g4⟩ := and_e g2
  obtain ⟨g5, g6⟩ := and_e g4
  obtain ⟨g7, g8⟩ := and_e g6
  obtain ⟨g9, g10⟩ := and_e g8
  obtain ⟨w0, w1, w2, w3, w4, rfl⟩ : ∃ w0 w1 w2 w3 w4 : Value, args = #[w0, w1, w2, w3, w4] := by
    have hs : args.size = 5 := by simpa [Cond.value, given_1] using g1
    obtain ⟨L⟩ := args
    match L, hs with
    | [w0, w1, w2, w3, w4], _ => exact ⟨w0, w1, w2, w3, w4, rfl⟩
  have hw := fun d (hd : d ∈ tables_1) => atoms_spec (ws := Jvm.Cond.code x code maxLocals ret :: tables_1) hat d (List.mem_cons_of_mem _ hd)
  have hfit : Fit s := fun {y c} hc i hi => by
    obtain ⟨ha, rfl⟩ := Array.getElem?_eq_some_iff.mp hc
    have q := List.all_eq_true.mp ((Array.all_eq_true_iff_forall_mem.mp hF) _ (Array.getElem_mem ha)) i (List.mem_range.mpr hi)
    simpa [Array.getElem?_eq_getElem hi] using q
  obtain ⟨hsets, hown0⟩ := atoms_of _ (rest_1_c_eq ▸ (show rest_1_c.before _ s = true from hrest))
  obtain ⟨i0, ei0⟩ := is_v g3
  obtain rfl : w0 = (.int i0) := Option.some.inj ei0
  obtain ⟨i1, ei1⟩ := is_v g5
  obtain rfl : w1 = (.int i1) := Option.some.inj ei1
  obtain ⟨i2, ei2⟩ := is_v g7
  obtain rfl : w2 = (.int i2) := Option.some.inj ei2
  obtain ⟨i3, ei3⟩ := is_v g9
  obtain rfl : w3 = (.int i3) := Option.some.inj ei3
  obtain ⟨i4, ei4⟩ := is_v g10
  obtain rfl : w4 = (.int i4) := Option.some.inj ei4
  have n3 := not_v (Cond.before_iff.mp (hsets _ (List.mem_of_getElem? (i := 2) rfl)))
  obtain ⟨G1, e6⟩ := is_v (Cond.before_iff.mp (hsets _ (List.mem_of_getElem? (i := 1) rfl)))
  have S_CS : Sta s s.heap "java/lang/String" "COMPACT_STRINGS" "Z" (.int G1) := Sta.start e6 (Or.inl (hsets _ (List.mem_of_getElem? (i := 0) rfl)))
  have P_CS : ¬ (G1 = (0 : Int32)) := gotF (Cond.eq_ints e6 (Term.int_eval (0))) n3
  have S_AD := Sta.start (Cond.eq_int (hsets _ (List.mem_of_getElem? (i := 12) rfl)) rfl) (Or.inl (hsets _ (List.mem_of_getElem? (i := 11) rfl)))
  have S_HI := Sta.start (Cond.eq_int (hsets _ (List.mem_of_getElem? (i := 15) rfl)) rfl) (Or.inl (hsets _ (List.mem_of_getElem? (i := 14) rfl)))
  have S_LO := Sta.start (Cond.eq_int (hsets _ (List.mem_of_getElem? (i := 18) rfl)) rfl) (Or.inl (hsets _ (List.mem_of_getElem? (i := 17) rfl)))
  obtain ⟨vS, evS, hvS⟩ := isR_v (Cond.before_iff.mp (hsets _ (List.mem_of_getElem? (i := 8) rfl)))
  have S_S0 := Sta.start evS (Or.inl (hsets _ (List.mem_of_getElem? (i := 7) rfl)))
  have S_SI : StaR s s.heap "jdk/internal/util/Preconditions" "SIOOBE_FORMATTER" "Ljava/util/function/BiFunction;" := by
    rcases ref_cases hvS with rfl | ⟨a, rfl⟩
    · exact Or.inl S_S0
    · exact Or.inr ⟨a, S_S0⟩
  obtain ⟨n, o, h1, h2, h3, _, L, rfl, ⟨rfl, N⟩, hq⟩ := rm0 l s _ hw tables_1 i0 i1 i2 i3 i4 G1 s.heap s.heap.size (Nat.le_refl _) S_CS P_CS S_AD S_HI S_LO S_SI p e ha hc hk s m _ below hf ((Spec.applies_iff_loose hf).mp happ).1 ⟨rfl, State.Warmed39.refl s, rfl⟩ trivial
  refine ⟨n, _, h1, h2, h3, hpost _ _ _ _ _ _ ⟨Cond.after_iff.mpr rfl, Cond.after_iff.mpr (eq_i res_at (Term.int_eval (1)) rfl), trivial⟩ ⟨hq.1, hq.2.1, (hq.2.2.sift fun y hy => Or.inr (N y hy)).mono (by decide) (by decide)⟩⟩
theorem main_1_1 : Claimed_1_1 := comes_1 fun _ _ _ _ _ _ h hF => ⟨h.1, hF⟩
theorem main_1_2 : Claimed_1_2 := comes_1 fun _ _ _ _ _ _ h hF => ⟨h.2.1, hF⟩
end Jvm.Pilot.@@N@@
namespace Jvm.Pilot.@@N@@
open Jvm Jvm.ClassFile Sem Op Lib Jvm.Free Jvm.Stand Jvm.Pilot.@@N@@.Jvm.D
/-! MADE BY PROGRAM (witnessworld.py) out of the Statement's table words and the real class files: 21 classes; the members and pool entries that the words name. The judged class is class 1, her method 2. -/
namespace start1
open Jvm.ClassFile
def u (s : String) : CpInfo := .utf8 (stringToUtf16 s)
/-- a pool by its gaps: so many unusable entries, then the entry; so many at the end -/
def gap : Nat → List CpInfo → List CpInfo
  | 0, r => r
  | n + 1, r => .unusable :: gap n r
def poolList (es : List (Nat × CpInfo)) (last : Nat) : List CpInfo := es.foldr (fun e r => gap e.1 (e.2 :: r)) (gap last [])
def pool (es : List (Nat × CpInfo)) (last : Nat) : Array CpInfo := ⟨poolList es last⟩
def fileOf (pool : Array CpInfo) (this : Nat) (attrs : Array Attribute := #[]) (ms : Array MethodInfo := #[]) (fl : Nat := 33) (sup : Nat := 0) (ifs : Array Nat := #[]) (fds : Array FieldInfo := #[]) : ClassFile where
  minorVersion := 0
  majorVersion := 65
  constantPool := pool
  accessFlags := fl
  thisClass := this
  superClass := sup
  interfaces := ifs
  fields := fds
  methods := ms
  attributes := attrs
def plain (name : String) (sup : Option ClassId) : Class where
  name := name
  kind := .ordinary
  loader := none
  accessFlags := 33
  super := sup
  interfaces := #[]
  cf := none
  fields := #[]
  methods := #[]
  instanceTypes := #[]
  staticTypes := #[]
  resolved := #[]
  callSites := []
  init := .initialized
  statics := none
  mirror := none

def pool0 : Array CpInfo := pool [(5, u "<init>"), (0, u "()V"), (1, .class_ 10), (1, u "java/lang/Object")] 113

def k0c0 : Code := { maxStack := 0, maxLocals := 1, code := object_method_1_code, exceptionTable := #[], attributes := #[] }
def k0m0 : Method := { name := "<init>", desc := "()V", sig := { parameters := [], returnType := none }, accessFlags := 1, code := some k0c0 }
/-- java/lang/Object -/
def k0 : Class := { plain "java/lang/Object" none with
  accessFlags := 33
  interfaces := #[]
  cf := some (fileOf pool0 8 #[] #[{ accessFlags := 1, nameIndex := 5, descriptorIndex := 6, attributes := #[] }] 33 0 #[] #[])
  fields := #[]
  methods := #[k0m0]
  instanceTypes := #[]
  staticTypes := #[]
  resolved := Array.replicate 124 none
  statics := none }

def pool1 : Array CpInfo := pool [(2, .class_ 4), (0, .nameAndType 5 6), (0, u "java/lang/Object"), (0, u "<init>"), (0, u "()V"), (0, .integer 923521), (0, .integer 28629151), (0, .integer 65535), (0, .class_ 11), (0, u "java/lang/String"), (0, .methodref 10 13), (0, .nameAndType 5 14), (0, u "([C)V"), (0, .integer 2147483647), (0, .class_ 17), (0, u "com/example/grantd/grantd/policy/TextSpan"), (0, .methodref 16 3), (0, .methodref 16 20), (0, .nameAndType 21 22), (0, u "set"), (0, u "(Ljava/lang/String;II)V"), (0, .methodref 24 25), (0, .class_ 26), (0, .nameAndType 27 28), (0, u "com/example/grantd/grantd/policy/TextSpanTextHashPinLaw"), (0, u "term"), (0, u "([CIII)I"), (0, .methodref 16 30), (0, .nameAndType 31 32), (0, u "textHash"), (0, u "()I"), (5, u "law"), (0, u "(IIIII)Z")] 4

def k1m0 : Method := { name := "<init>", desc := "()V", sig := { parameters := [], returnType := none }, accessFlags := 1, code := none }
def k1c1 : Code := { maxStack := 4, maxLocals := 5, code := method_2_code, exceptionTable := #[], attributes := #[] }
def k1m1 : Method := { name := "term", desc := "([CIII)I", sig := { parameters := [(.array .char), .int, .int, .int], returnType := some .int }, accessFlags := 10, code := some k1c1 }
def k1c2 : Code := { maxStack := 5, maxLocals := 11, code := code, exceptionTable := #[], attributes := #[] }
def k1m2 : Method := { name := "law", desc := "(IIIII)Z", sig := { parameters := [.int, .int, .int, .int, .int], returnType := some .boolean }, accessFlags := 9, code := some k1c2 }
/-- com/example/grantd/grantd/policy/TextSpanTextHashPinLaw -/
def k1 : Class := { plain "com/example/grantd/grantd/policy/TextSpanTextHashPinLaw" (some 0) with
  accessFlags := 49
  interfaces := #[]
  cf := some (fileOf pool1 24 #[] #[{ accessFlags := 1, nameIndex := 5, descriptorIndex := 6, attributes := #[] }, { accessFlags := 10, nameIndex := 27, descriptorIndex := 28, attributes := #[] }, { accessFlags := 9, nameIndex := 38, descriptorIndex := 39, attributes := #[] }] 49 2 #[] #[])
  fields := #[]
  methods := #[k1m0, k1m1, k1m2]
  instanceTypes := #[]
  staticTypes := #[]
  resolved := Array.replicate 44 none
  statics := none }

def pool2 : Array CpInfo := pool [(1, .class_ 2), (0, u "java/io/Serializable"), (0, .class_ 4), (0, u "java/lang/Object")] 2

/-- java/io/Serializable -/
def k2 : Class := { plain "java/io/Serializable" (some 0) with
  accessFlags := 1537
  interfaces := #[]
  cf := some (fileOf pool2 1 #[] #[] 1537 3 #[] #[])
  fields := #[]
  methods := #[]
  instanceTypes := #[]
  staticTypes := #[]
  resolved := Array.replicate 7 none
  statics := none }

def pool3 : Array CpInfo := pool [(1, .class_ 2), (0, u "java/lang/Comparable"), (0, .class_ 4), (0, u "java/lang/Object")] 7

/-- java/lang/Comparable -/
def k3 : Class := { plain "java/lang/Comparable" (some 0) with
  accessFlags := 1537
  interfaces := #[]
  cf := some (fileOf pool3 1 #[] #[] 1537 3 #[] #[])
  fields := #[]
  methods := #[]
  instanceTypes := #[]
  staticTypes := #[]
  resolved := Array.replicate 12 none
  statics := none }

def pool4 : Array CpInfo := pool [(2, .class_ 4), (1, u "java/lang/CharSequence"), (42, .class_ 48), (0, u "java/lang/CharSequence$1CodePointIterator"), (10, .class_ 60), (0, u "java/lang/CharSequence$1CharIterator"), (5, .class_ 67), (0, u "java/lang/Object")] 63

/-- java/lang/CharSequence -/
def k4 : Class := { plain "java/lang/CharSequence" (some 0) with
  accessFlags := 1537
  interfaces := #[]
  cf := some (fileOf pool4 2 #[.nestMembers #[47, 59]] #[] 1537 66 #[] #[])
  fields := #[]
  methods := #[]
  instanceTypes := #[]
  staticTypes := #[]
  resolved := Array.replicate 131 none
  statics := none }

def pool5 : Array CpInfo := pool [(1, .class_ 2), (0, u "java/lang/constant/Constable"), (0, .class_ 4), (0, u "java/lang/Object")] 6

/-- java/lang/constant/Constable -/
def k5 : Class := { plain "java/lang/constant/Constable" (some 0) with
  accessFlags := 1537
  interfaces := #[]
  cf := some (fileOf pool5 1 #[] #[] 1537 3 #[] #[])
  fields := #[]
  methods := #[]
  instanceTypes := #[]
  staticTypes := #[]
  resolved := Array.replicate 11 none
  statics := none }

def pool6 : Array CpInfo := pool [(1, .class_ 2), (0, u "java/lang/constant/ConstantDesc"), (0, .class_ 4), (0, u "java/lang/Object")] 32

/-- java/lang/constant/ConstantDesc -/
def k6 : Class := { plain "java/lang/constant/ConstantDesc" (some 0) with
  accessFlags := 1537
  interfaces := #[]
  cf := some (fileOf pool6 1 #[] #[] 1537 3 #[] #[])
  fields := #[]
  methods := #[]
  instanceTypes := #[]
  staticTypes := #[]
  resolved := Array.replicate 37 none
  statics := none }

def pool7 : Array CpInfo := pool [(1, .methodref 2 3), (0, .class_ 4), (0, .nameAndType 5 6), (0, u "java/lang/Object"), (0, u "<init>"), (0, u "()V"), (2, .fieldref 10 11), (0, .class_ 12), (0, .nameAndType 13 14), (0, u "java/lang/String"), (0, u "value"), (0, u "[B"), (0, .fieldref 10 16), (0, .nameAndType 17 18), (0, u "coder"), (0, u "B"), (2, u "hash"), (0, u "I"), (2, u "hashIsZero"), (0, u "Z"), (0, .methodref 10 28), (0, .nameAndType 5 29), (0, u "([CIILjava/lang/Void;)V"), (8, .fieldref 10 39), (0, .nameAndType 40 26), (0, u "COMPACT_STRINGS"), (1, .class_ 44), (1, u "java/lang/StringUTF16"), (0, u "compress"), (1, .methodref 42 48), (0, .nameAndType 49 50), (0, u "coderFromArrayLen"), (0, u "([BI)B"), (56, .class_ 109), (1, u "java/lang/StringLatin1"), (32, u "()Z"), (34, .methodref 42 178), (0, .nameAndType 45 179), (0, u "([CII)[B"), (154, u "()I"), (0, .methodref 10 336), (0, .nameAndType 17 337), (0, u "()B"), (25, u "([BI)C"), (27, u "(II)V"), (35, u "(I)C"), (64, .methodref 10 493), (0, .nameAndType 494 142), (0, u "isLatin1"), (0, .methodref 107 496), (0, .nameAndType 497 363), (0, u "charAt"), (0, .methodref 42 496), (2, u "checkIndex"), (5, u "length"), (67, .class_ 576), (0, u "java/lang/CharSequence"), (22, u "CASE_INSENSITIVE_ORDER"), (0, u "Ljava/util/Comparator;"), (409, u "([C)V"), (42, .fieldref 1054 1055), (0, .class_ 1056), (0, .nameAndType 1057 1058), (0, u "jdk/internal/util/Preconditions"), (0, u "SIOOBE_FORMATTER"), (0, u "Ljava/util/function/BiFunction;"), (0, .methodref 1054 1060), (0, .nameAndType 501 1061), (0, u "(IILjava/util/function/BiFunction;)I"), (39, u "serialPersistentFields"), (0, u "[Ljava/io/ObjectStreamField;"), (0, .class_ 1104), (0, u "java/lang/String$CaseInsensitiveComparator"), (1, .class_ 1107), (0, u "java/io/Serializable"), (0, .class_ 1109), (0, u "java/lang/Comparable"), (0, .class_ 1111), (0, u "java/lang/constant/Constable"), (0, .class_ 1113), (0, u "java/lang/constant/ConstantDesc"), (2, u "serialVersionUID"), (0, u "J"), (3, u "REPL"), (0, u "C"), (2, u "LATIN1"), (1, u "UTF16")] 323

def k7m0 : Method := { name := "<init>", desc := "()V", sig := { parameters := [], returnType := none }, accessFlags := 1, code := none }
def k7c1 : Code := { maxStack := 5, maxLocals := 2, code := jdk_42_method_3_code, exceptionTable := #[], attributes := #[] }
def k7m1 : Method := { name := "<init>", desc := "([C)V", sig := { parameters := [(.array .char)], returnType := none }, accessFlags := 1, code := some k7c1 }
def k7c2 : Code := { maxStack := 2, maxLocals := 1, code := jdk_42_method_54_code, exceptionTable := #[], attributes := #[] }
def k7m2 : Method := { name := "length", desc := "()I", sig := { parameters := [], returnType := some .int }, accessFlags := 1, code := some k7c2 }
def k7c3 : Code := { maxStack := 2, maxLocals := 2, code := jdk_42_method_56_code, exceptionTable := #[], attributes := #[] }
def k7m3 : Method := { name := "charAt", desc := "(I)C", sig := { parameters := [.int], returnType := some .char }, accessFlags := 1, code := some k7c3 }
def k7c4 : Code := { maxStack := 4, maxLocals := 6, code := jdk_42_method_149_code, exceptionTable := #[], attributes := #[] }
def k7m4 : Method := { name := "<init>", desc := "([CIILjava/lang/Void;)V", sig := { parameters := [(.array .char), .int, .int, (.object "java/lang/Void")], returnType := none }, accessFlags := 2, code := some k7c4 }
def k7c5 : Code := { maxStack := 1, maxLocals := 1, code := jdk_42_method_152_code, exceptionTable := #[], attributes := #[] }
def k7m5 : Method := { name := "coder", desc := "()B", sig := { parameters := [], returnType := some .byte }, accessFlags := 0, code := some k7c5 }
def k7c6 : Code := { maxStack := 1, maxLocals := 1, code := jdk_42_method_154_code, exceptionTable := #[], attributes := #[] }
def k7m6 : Method := { name := "isLatin1", desc := "()Z", sig := { parameters := [], returnType := some .boolean }, accessFlags := 0, code := some k7c6 }
def k7c7 : Code := { maxStack := 3, maxLocals := 2, code := jdk_42_method_155_code, exceptionTable := #[], attributes := #[] }
def k7m7 : Method := { name := "checkIndex", desc := "(II)V", sig := { parameters := [.int, .int], returnType := none }, accessFlags := 8, code := some k7c7 }
/-- java/lang/String -/
def k7 : Class := { plain "java/lang/String" (some 0) with
  accessFlags := 49
  interfaces := #[2, 3, 4, 5, 6]
  cf := some (fileOf pool7 10 #[.nestMembers #[1103]] #[{ accessFlags := 1, nameIndex := 5, descriptorIndex := 6, attributes := #[] }, { accessFlags := 1, nameIndex := 5, descriptorIndex := 1010, attributes := #[] }, { accessFlags := 1, nameIndex := 507, descriptorIndex := 334, attributes := #[] }, { accessFlags := 1, nameIndex := 497, descriptorIndex := 427, attributes := #[] }, { accessFlags := 2, nameIndex := 5, descriptorIndex := 29, attributes := #[] }, { accessFlags := 0, nameIndex := 17, descriptorIndex := 337, attributes := #[] }, { accessFlags := 0, nameIndex := 494, descriptorIndex := 142, attributes := #[] }, { accessFlags := 8, nameIndex := 501, descriptorIndex := 391, attributes := #[] }] 49 2 #[1106, 1108, 575, 1110, 1112] #[{ accessFlags := 18, nameIndex := 13, descriptorIndex := 14, attributes := #[] }, { accessFlags := 18, nameIndex := 17, descriptorIndex := 18, attributes := #[] }, { accessFlags := 2, nameIndex := 21, descriptorIndex := 22, attributes := #[] }, { accessFlags := 2, nameIndex := 25, descriptorIndex := 26, attributes := #[] }, { accessFlags := 26, nameIndex := 1116, descriptorIndex := 1117, attributes := #[] }, { accessFlags := 24, nameIndex := 40, descriptorIndex := 26, attributes := #[] }, { accessFlags := 26, nameIndex := 1101, descriptorIndex := 1102, attributes := #[] }, { accessFlags := 26, nameIndex := 1121, descriptorIndex := 1122, attributes := #[] }, { accessFlags := 25, nameIndex := 599, descriptorIndex := 600, attributes := #[] }, { accessFlags := 24, nameIndex := 1125, descriptorIndex := 18, attributes := #[] }, { accessFlags := 24, nameIndex := 1127, descriptorIndex := 18, attributes := #[] }])
  fields := #[{ name := "value", type := (.array .byte), accessFlags := 18, slot := 0, constantValue := 0 }, { name := "coder", type := .byte, accessFlags := 18, slot := 1, constantValue := 0 }, { name := "hash", type := .int, accessFlags := 2, slot := 2, constantValue := 0 }, { name := "hashIsZero", type := .boolean, accessFlags := 2, slot := 3, constantValue := 0 }, { name := "serialVersionUID", type := .long, accessFlags := 26, slot := 0, constantValue := 0 }, { name := "COMPACT_STRINGS", type := .boolean, accessFlags := 24, slot := 1, constantValue := 0 }, { name := "serialPersistentFields", type := (.array (.object "java/io/ObjectStreamField")), accessFlags := 26, slot := 2, constantValue := 0 }, { name := "REPL", type := .char, accessFlags := 26, slot := 3, constantValue := 0 }, { name := "CASE_INSENSITIVE_ORDER", type := (.object "java/util/Comparator"), accessFlags := 25, slot := 4, constantValue := 0 }, { name := "LATIN1", type := .byte, accessFlags := 24, slot := 5, constantValue := 0 }, { name := "UTF16", type := .byte, accessFlags := 24, slot := 6, constantValue := 0 }]
  methods := #[k7m0, k7m1, k7m2, k7m3, k7m4, k7m5, k7m6, k7m7]
  instanceTypes := #[(.array .byte), .byte, .int, .boolean]
  staticTypes := #[.long, .boolean, (.array (.object "java/io/ObjectStreamField")), .char, (.object "java/util/Comparator"), .byte, .byte]
  resolved := Array.replicate 1451 none
  statics := some 0 }

def pool8 : Array CpInfo := pool [(3, .class_ 4), (0, u "java/lang/String"), (1, .class_ 8), (1, u "java/lang/Object"), (0, u "<init>"), (0, u "()V"), (0, .methodref 12 13), (0, .class_ 14), (0, .nameAndType 15 16), (0, u "java/lang/StringUTF16"), (0, u "newBytesLength"), (0, u "(I)I"), (3, .integer 1073741823), (23, .fieldref 12 45), (0, .nameAndType 46 47), (0, u "$assertionsDisabled"), (0, u "Z"), (0, .methodref 12 49), (0, .nameAndType 50 51), (0, u "length"), (0, u "([B)I"), (7, .fieldref 12 60), (0, .nameAndType 61 62), (0, u "HI_BYTE_SHIFT"), (0, u "I"), (0, .fieldref 12 64), (0, .nameAndType 65 62), (0, u "LO_BYTE_SHIFT"), (1, .methodref 12 68), (0, .nameAndType 69 70), (0, u "checkIndex"), (0, u "(I[B)V"), (0, .methodref 12 72), (0, .nameAndType 73 74), (0, u "getChar"), (0, u "([BI)C"), (32, .methodref 12 108), (0, .nameAndType 109 110), (0, u "newBytesFor"), (0, u "(I)[B"), (0, .methodref 12 112), (0, .nameAndType 113 114), (0, u "putChar"), (0, u "([BII)V"), (0, .methodref 12 116), (0, .nameAndType 117 118), (0, u "compress"), (0, u "([CI[BII)I"), (0, .methodref 12 120), (0, .nameAndType 121 122), (0, u "toBytes"), (0, u "([CII)[B"), (138, u "coderFromArrayLen"), (0, u "([BI)B"), (106, .class_ 371), (1, u "java/lang/StringUTF16$LinesSpliterator"), (20, u "charAt"), (21, .methodref 3 415), (0, .nameAndType 69 416), (0, u "(II)V"), (13, u "MAX_LENGTH"), (196, .class_ 628), (0, u "java/lang/StringUTF16$CodePointsSpliterator"), (0, .class_ 630), (0, u "java/lang/StringUTF16$CharsSpliterator")] 4

def k8m0 : Method := { name := "<init>", desc := "()V", sig := { parameters := [], returnType := none }, accessFlags := 0, code := none }
def k8c1 : Code := { maxStack := 1, maxLocals := 1, code := jdk_52_method_2_code, exceptionTable := #[], attributes := #[] }
def k8m1 : Method := { name := "newBytesFor", desc := "(I)[B", sig := { parameters := [.int], returnType := some (.array .byte) }, accessFlags := 9, code := some k8c1 }
def k8c2 : Code := { maxStack := 4, maxLocals := 1, code := jdk_52_method_3_code, exceptionTable := #[], attributes := #[] }
def k8m2 : Method := { name := "newBytesLength", desc := "(I)I", sig := { parameters := [.int], returnType := some .int }, accessFlags := 9, code := some k8c2 }
def k8c3 : Code := { maxStack := 4, maxLocals := 3, code := jdk_52_method_4_code, exceptionTable := #[], attributes := #[] }
def k8m3 : Method := { name := "putChar", desc := "([BII)V", sig := { parameters := [(.array .byte), .int, .int], returnType := none }, accessFlags := 8, code := some k8c3 }
def k8c4 : Code := { maxStack := 3, maxLocals := 2, code := jdk_52_method_5_code, exceptionTable := #[], attributes := #[] }
def k8m4 : Method := { name := "getChar", desc := "([BI)C", sig := { parameters := [(.array .byte), .int], returnType := some .char }, accessFlags := 8, code := some k8c4 }
def k8c5 : Code := { maxStack := 2, maxLocals := 1, code := jdk_52_method_6_code, exceptionTable := #[], attributes := #[] }
def k8m5 : Method := { name := "length", desc := "([B)I", sig := { parameters := [(.array .byte)], returnType := some .int }, accessFlags := 9, code := some k8c5 }
def k8c6 : Code := { maxStack := 4, maxLocals := 5, code := jdk_52_method_14_code, exceptionTable := #[], attributes := #[] }
def k8m6 : Method := { name := "toBytes", desc := "([CII)[B", sig := { parameters := [(.array .char), .int, .int], returnType := some (.array .byte) }, accessFlags := 9, code := some k8c6 }
def k8c7 : Code := { maxStack := 2, maxLocals := 2, code := jdk_52_method_15_code, exceptionTable := #[], attributes := #[] }
def k8m7 : Method := { name := "coderFromArrayLen", desc := "([BI)B", sig := { parameters := [(.array .byte), .int], returnType := some .byte }, accessFlags := 8, code := some k8c7 }
def k8c8 : Code := { maxStack := 5, maxLocals := 6, code := jdk_52_method_16_code, exceptionTable := #[], attributes := #[] }
def k8m8 : Method := { name := "compress", desc := "([CII)[B", sig := { parameters := [(.array .char), .int, .int], returnType := some (.array .byte) }, accessFlags := 9, code := some k8c8 }
def k8c9 : Code := { maxStack := 3, maxLocals := 7, code := jdk_52_method_21_code, exceptionTable := #[], attributes := #[] }
def k8m9 : Method := { name := "compress", desc := "([CI[BII)I", sig := { parameters := [(.array .char), .int, (.array .byte), .int, .int], returnType := some .int }, accessFlags := 9, code := some k8c9 }
def k8c10 : Code := { maxStack := 2, maxLocals := 2, code := jdk_52_method_83_code, exceptionTable := #[], attributes := #[] }
def k8m10 : Method := { name := "charAt", desc := "([BI)C", sig := { parameters := [(.array .byte), .int], returnType := some .char }, accessFlags := 9, code := some k8c10 }
def k8c11 : Code := { maxStack := 2, maxLocals := 2, code := jdk_52_method_91_code, exceptionTable := #[], attributes := #[] }
def k8m11 : Method := { name := "checkIndex", desc := "(I[B)V", sig := { parameters := [.int, (.array .byte)], returnType := none }, accessFlags := 9, code := some k8c11 }
/-- java/lang/StringUTF16 -/
def k8 : Class := { plain "java/lang/StringUTF16" (some 0) with
  accessFlags := 48
  interfaces := #[]
  cf := some (fileOf pool8 12 #[.nestMembers #[627, 629, 369]] #[{ accessFlags := 0, nameIndex := 9, descriptorIndex := 10, attributes := #[] }, { accessFlags := 9, nameIndex := 109, descriptorIndex := 110, attributes := #[] }, { accessFlags := 9, nameIndex := 15, descriptorIndex := 16, attributes := #[] }, { accessFlags := 8, nameIndex := 113, descriptorIndex := 114, attributes := #[] }, { accessFlags := 8, nameIndex := 73, descriptorIndex := 74, attributes := #[] }, { accessFlags := 9, nameIndex := 50, descriptorIndex := 51, attributes := #[] }, { accessFlags := 9, nameIndex := 121, descriptorIndex := 122, attributes := #[] }, { accessFlags := 8, nameIndex := 261, descriptorIndex := 262, attributes := #[] }, { accessFlags := 9, nameIndex := 117, descriptorIndex := 122, attributes := #[] }, { accessFlags := 9, nameIndex := 117, descriptorIndex := 118, attributes := #[] }, { accessFlags := 9, nameIndex := 392, descriptorIndex := 74, attributes := #[] }, { accessFlags := 9, nameIndex := 69, descriptorIndex := 70, attributes := #[] }] 48 6 #[] #[{ accessFlags := 26, nameIndex := 61, descriptorIndex := 62, attributes := #[] }, { accessFlags := 26, nameIndex := 65, descriptorIndex := 62, attributes := #[] }, { accessFlags := 24, nameIndex := 430, descriptorIndex := 62, attributes := #[] }, { accessFlags := 4120, nameIndex := 46, descriptorIndex := 47, attributes := #[] }])
  fields := #[{ name := "HI_BYTE_SHIFT", type := .int, accessFlags := 26, slot := 0, constantValue := 0 }, { name := "LO_BYTE_SHIFT", type := .int, accessFlags := 26, slot := 1, constantValue := 0 }, { name := "MAX_LENGTH", type := .int, accessFlags := 24, slot := 2, constantValue := 0 }, { name := "$assertionsDisabled", type := .boolean, accessFlags := 4120, slot := 3, constantValue := 0 }]
  methods := #[k8m0, k8m1, k8m2, k8m3, k8m4, k8m5, k8m6, k8m7, k8m8, k8m9, k8m10, k8m11]
  instanceTypes := #[]
  staticTypes := #[.int, .int, .int, .boolean]
  resolved := Array.replicate 635 none
  statics := some 1 }

def pool9 : Array CpInfo := pool [(1, .methodref 2 3), (0, .class_ 4), (0, .nameAndType 5 6), (0, u "java/lang/Object"), (0, u "<init>"), (0, u "()V"), (0, .class_ 8), (0, u "com/example/grantd/grantd/policy/TextSpan"), (1, .methodref 11 12), (0, .class_ 13), (0, .nameAndType 14 15), (0, u "java/lang/String"), (0, u "length"), (0, u "()I"), (2, u "set"), (0, u "(Ljava/lang/String;II)V"), (0, .methodref 21 22), (0, .class_ 23), (0, .nameAndType 24 25), (0, u "java/util/Objects"), (0, u "checkFromToIndex"), (0, u "(III)I"), (0, .fieldref 7 27), (0, .nameAndType 28 29), (0, u "text"), (0, u "Ljava/lang/String;"), (0, .fieldref 7 31), (0, .nameAndType 32 33), (0, u "start"), (0, u "I"), (0, .fieldref 7 35), (0, .nameAndType 36 33), (0, u "end"), (0, .methodref 11 38), (0, .nameAndType 39 40), (0, u "charAt"), (0, u "(I)C"), (16, .class_ 58), (0, u "java/lang/CharSequence"), (4, u "textHash")] 3

def k9c0 : Code := { maxStack := 1, maxLocals := 1, code := prog_89_method_1_code, exceptionTable := #[], attributes := #[] }
def k9m0 : Method := { name := "<init>", desc := "()V", sig := { parameters := [], returnType := none }, accessFlags := 0, code := some k9c0 }
def k9c1 : Code := { maxStack := 3, maxLocals := 4, code := prog_89_method_3_code, exceptionTable := #[], attributes := #[] }
def k9m1 : Method := { name := "set", desc := "(Ljava/lang/String;II)V", sig := { parameters := [(.object "java/lang/String"), .int, .int], returnType := none }, accessFlags := 0, code := some k9c1 }
def k9c2 : Code := { maxStack := 3, maxLocals := 3, code := prog_89_method_7_code, exceptionTable := #[], attributes := #[] }
def k9m2 : Method := { name := "textHash", desc := "()I", sig := { parameters := [], returnType := some .int }, accessFlags := 0, code := some k9c2 }
/-- com/example/grantd/grantd/policy/TextSpan -/
def k9 : Class := { plain "com/example/grantd/grantd/policy/TextSpan" (some 0) with
  accessFlags := 32
  interfaces := #[4]
  cf := some (fileOf pool9 7 #[] #[{ accessFlags := 0, nameIndex := 5, descriptorIndex := 6, attributes := #[] }, { accessFlags := 0, nameIndex := 18, descriptorIndex := 19, attributes := #[] }, { accessFlags := 0, nameIndex := 63, descriptorIndex := 15, attributes := #[] }] 32 2 #[57] #[{ accessFlags := 2, nameIndex := 28, descriptorIndex := 29, attributes := #[] }, { accessFlags := 2, nameIndex := 32, descriptorIndex := 33, attributes := #[] }, { accessFlags := 2, nameIndex := 36, descriptorIndex := 33, attributes := #[] }])
  fields := #[{ name := "text", type := (.object "java/lang/String"), accessFlags := 2, slot := 0, constantValue := 0 }, { name := "start", type := .int, accessFlags := 2, slot := 1, constantValue := 0 }, { name := "end", type := .int, accessFlags := 2, slot := 2, constantValue := 0 }]
  methods := #[k9m0, k9m1, k9m2]
  instanceTypes := #[(.object "java/lang/String"), .int, .int]
  staticTypes := #[]
  resolved := Array.replicate 67 none
  statics := none }

def pool10 : Array CpInfo := pool [(2, .class_ 4), (1, u "java/lang/Object"), (0, u "<init>"), (0, u "()V"), (35, .class_ 44), (1, u "java/util/Objects"), (61, .class_ 108), (1, u "jdk/internal/util/Preconditions"), (2, .methodref 106 112), (0, .nameAndType 113 114), (0, u "checkFromToIndex"), (0, u "(IIILjava/util/function/BiFunction;)I"), (60, u "(III)I")] 8

def k10m0 : Method := { name := "<init>", desc := "()V", sig := { parameters := [], returnType := none }, accessFlags := 2, code := none }
def k10c1 : Code := { maxStack := 4, maxLocals := 3, code := jdk_31_method_18_code, exceptionTable := #[], attributes := #[] }
def k10m1 : Method := { name := "checkFromToIndex", desc := "(III)I", sig := { parameters := [.int, .int, .int], returnType := some .int }, accessFlags := 9, code := some k10c1 }
/-- java/util/Objects -/
def k10 : Class := { plain "java/util/Objects" (some 0) with
  accessFlags := 49
  interfaces := #[]
  cf := some (fileOf pool10 42 #[] #[{ accessFlags := 2, nameIndex := 5, descriptorIndex := 6, attributes := #[] }, { accessFlags := 9, nameIndex := 113, descriptorIndex := 175, attributes := #[] }] 49 2 #[] #[])
  fields := #[]
  methods := #[k10m0, k10m1]
  instanceTypes := #[]
  staticTypes := #[]
  resolved := Array.replicate 184 none
  statics := none }

def pool11 : Array CpInfo := pool [(2, .class_ 4), (1, u "java/lang/Object"), (0, u "<init>"), (0, u "()V"), (17, .class_ 26), (1, u "jdk/internal/util/Preconditions"), (6, u "checkIndex"), (13, u "checkFromToIndex"), (7, .class_ 56), (0, u "jdk/internal/util/Preconditions$4"), (57, .class_ 115), (0, u "jdk/internal/util/Preconditions$1"), (7, u "SIOOBE_FORMATTER"), (0, u "Ljava/util/function/BiFunction;"), (0, .class_ 126), (0, u "jdk/internal/util/Preconditions$2"), (3, u "AIOOBE_FORMATTER"), (0, .class_ 132), (0, u "jdk/internal/util/Preconditions$3"), (3, u "IOOBE_FORMATTER"), (41, u "(IILjava/util/function/BiFunction;)I"), (4, u "(IIILjava/util/function/BiFunction;)I")] 10

def k11m0 : Method := { name := "<init>", desc := "()V", sig := { parameters := [], returnType := none }, accessFlags := 1, code := none }
def k11c1 : Code := { maxStack := 3, maxLocals := 3, code := jdk_41_method_11_code, exceptionTable := #[], attributes := #[] }
def k11m1 : Method := { name := "checkIndex", desc := "(IILjava/util/function/BiFunction;)I", sig := { parameters := [.int, .int, (.object "java/util/function/BiFunction")], returnType := some .int }, accessFlags := 9, code := some k11c1 }
def k11c2 : Code := { maxStack := 4, maxLocals := 4, code := jdk_41_method_12_code, exceptionTable := #[], attributes := #[] }
def k11m2 : Method := { name := "checkFromToIndex", desc := "(IIILjava/util/function/BiFunction;)I", sig := { parameters := [.int, .int, .int, (.object "java/util/function/BiFunction")], returnType := some .int }, accessFlags := 9, code := some k11c2 }
/-- jdk/internal/util/Preconditions -/
def k11 : Class := { plain "jdk/internal/util/Preconditions" (some 0) with
  accessFlags := 33
  interfaces := #[]
  cf := some (fileOf pool11 24 #[.nestMembers #[55, 131, 125, 114]] #[{ accessFlags := 1, nameIndex := 5, descriptorIndex := 6, attributes := #[] }, { accessFlags := 9, nameIndex := 33, descriptorIndex := 178, attributes := #[] }, { accessFlags := 9, nameIndex := 47, descriptorIndex := 183, attributes := #[] }] 33 2 #[] #[{ accessFlags := 25, nameIndex := 123, descriptorIndex := 124, attributes := #[] }, { accessFlags := 25, nameIndex := 130, descriptorIndex := 124, attributes := #[] }, { accessFlags := 25, nameIndex := 136, descriptorIndex := 124, attributes := #[] }])
  fields := #[{ name := "SIOOBE_FORMATTER", type := (.object "java/util/function/BiFunction"), accessFlags := 25, slot := 0, constantValue := 0 }, { name := "AIOOBE_FORMATTER", type := (.object "java/util/function/BiFunction"), accessFlags := 25, slot := 1, constantValue := 0 }, { name := "IOOBE_FORMATTER", type := (.object "java/util/function/BiFunction"), accessFlags := 25, slot := 2, constantValue := 0 }]
  methods := #[k11m0, k11m1, k11m2]
  instanceTypes := #[]
  staticTypes := #[(.object "java/util/function/BiFunction"), (.object "java/util/function/BiFunction"), (.object "java/util/function/BiFunction")]
  resolved := Array.replicate 194 none
  statics := some 2 }

def pool12 : Array CpInfo := pool [(1, .class_ 2), (0, u "java/lang/String"), (1, .class_ 6), (1, u "java/lang/Object"), (0, u "<init>"), (0, u "()V"), (0, .methodref 1 10), (0, .nameAndType 11 12), (0, u "checkIndex"), (0, u "(II)V"), (1, .class_ 16), (1, u "java/lang/StringLatin1"), (36, u "([BI)C"), (67, u "$assertionsDisabled"), (0, u "Z"), (98, .class_ 223), (1, u "java/lang/StringLatin1$LinesSpliterator"), (28, u "charAt"), (137, .class_ 391), (0, u "java/lang/StringLatin1$CharsSpliterator")] 3

def k12m0 : Method := { name := "<init>", desc := "()V", sig := { parameters := [], returnType := none }, accessFlags := 0, code := none }
def k12c1 : Code := { maxStack := 2, maxLocals := 2, code := jdk_43_method_2_code, exceptionTable := #[], attributes := #[] }
def k12m1 : Method := { name := "charAt", desc := "([BI)C", sig := { parameters := [(.array .byte), .int], returnType := some .char }, accessFlags := 9, code := some k12c1 }
/-- java/lang/StringLatin1 -/
def k12 : Class := { plain "java/lang/StringLatin1" (some 0) with
  accessFlags := 48
  interfaces := #[]
  cf := some (fileOf pool12 14 #[.nestMembers #[390, 221]] #[{ accessFlags := 0, nameIndex := 7, descriptorIndex := 8, attributes := #[] }, { accessFlags := 9, nameIndex := 252, descriptorIndex := 53, attributes := #[] }] 48 4 #[] #[{ accessFlags := 4120, nameIndex := 121, descriptorIndex := 122, attributes := #[] }])
  fields := #[{ name := "$assertionsDisabled", type := .boolean, accessFlags := 4120, slot := 0, constantValue := 0 }]
  methods := #[k12m0, k12m1]
  instanceTypes := #[]
  staticTypes := #[.boolean]
  resolved := Array.replicate 395 none
  statics := none }

def pool13 : Array CpInfo := pool [(9, u "<init>"), (6, .class_ 18), (1, u "java/lang/Object"), (0, u "()V"), (1, .class_ 23), (1, u "jdk/internal/util/ArraysSupport"), (0, u "LOG2_ARRAY_LONG_INDEX_SCALE"), (0, u "I"), (2, u "U"), (0, u "Ljdk/internal/misc/Unsafe;"), (8, u "BIG_ENDIAN"), (0, u "Z"), (8, u "LOG2_BYTE_BIT_SIZE"), (4, u "LOG2_ARRAY_INT_INDEX_SCALE"), (54, u "JLA"), (0, u "Ljdk/internal/access/JavaLangAccess;"), (11, u "LOG2_ARRAY_BOOLEAN_INDEX_SCALE"), (9, u "LOG2_ARRAY_BYTE_INDEX_SCALE"), (5, u "LOG2_ARRAY_CHAR_INDEX_SCALE"), (5, u "LOG2_ARRAY_SHORT_INDEX_SCALE"), (18, u "LOG2_ARRAY_FLOAT_INDEX_SCALE"), (24, u "LOG2_ARRAY_DOUBLE_INDEX_SCALE"), (89, u "T_BOOLEAN"), (2, u "T_CHAR"), (1, u "T_FLOAT"), (1, u "T_DOUBLE"), (1, u "T_BYTE"), (1, u "T_SHORT"), (1, u "T_INT"), (1, u "T_LONG"), (1, u "SOFT_MAX_ARRAY_LENGTH")] 83

def k13m0 : Method := { name := "<init>", desc := "()V", sig := { parameters := [], returnType := none }, accessFlags := 2, code := none }
/-- jdk/internal/util/ArraysSupport -/
def k13 : Class := { plain "jdk/internal/util/ArraysSupport" (some 0) with
  accessFlags := 33
  interfaces := #[]
  cf := some (fileOf pool13 21 #[] #[{ accessFlags := 2, nameIndex := 9, descriptorIndex := 19, attributes := #[] }] 33 16 #[] #[{ accessFlags := 24, nameIndex := 28, descriptorIndex := 29, attributes := #[] }, { accessFlags := 26, nameIndex := 38, descriptorIndex := 39, attributes := #[] }, { accessFlags := 25, nameIndex := 121, descriptorIndex := 25, attributes := #[] }, { accessFlags := 25, nameIndex := 131, descriptorIndex := 25, attributes := #[] }, { accessFlags := 25, nameIndex := 137, descriptorIndex := 25, attributes := #[] }, { accessFlags := 25, nameIndex := 143, descriptorIndex := 25, attributes := #[] }, { accessFlags := 25, nameIndex := 53, descriptorIndex := 25, attributes := #[] }, { accessFlags := 25, nameIndex := 24, descriptorIndex := 25, attributes := #[] }, { accessFlags := 25, nameIndex := 162, descriptorIndex := 25, attributes := #[] }, { accessFlags := 25, nameIndex := 187, descriptorIndex := 25, attributes := #[] }, { accessFlags := 26, nameIndex := 48, descriptorIndex := 25, attributes := #[] }, { accessFlags := 25, nameIndex := 277, descriptorIndex := 25, attributes := #[] }, { accessFlags := 25, nameIndex := 280, descriptorIndex := 25, attributes := #[] }, { accessFlags := 25, nameIndex := 282, descriptorIndex := 25, attributes := #[] }, { accessFlags := 25, nameIndex := 284, descriptorIndex := 25, attributes := #[] }, { accessFlags := 25, nameIndex := 286, descriptorIndex := 25, attributes := #[] }, { accessFlags := 25, nameIndex := 288, descriptorIndex := 25, attributes := #[] }, { accessFlags := 25, nameIndex := 290, descriptorIndex := 25, attributes := #[] }, { accessFlags := 25, nameIndex := 292, descriptorIndex := 25, attributes := #[] }, { accessFlags := 26, nameIndex := 108, descriptorIndex := 109, attributes := #[] }, { accessFlags := 25, nameIndex := 294, descriptorIndex := 25, attributes := #[] }])
  fields := #[{ name := "U", type := (.object "jdk/internal/misc/Unsafe"), accessFlags := 24, slot := 0, constantValue := 0 }, { name := "BIG_ENDIAN", type := .boolean, accessFlags := 26, slot := 1, constantValue := 0 }, { name := "LOG2_ARRAY_BOOLEAN_INDEX_SCALE", type := .int, accessFlags := 25, slot := 2, constantValue := 0 }, { name := "LOG2_ARRAY_BYTE_INDEX_SCALE", type := .int, accessFlags := 25, slot := 3, constantValue := 0 }, { name := "LOG2_ARRAY_CHAR_INDEX_SCALE", type := .int, accessFlags := 25, slot := 4, constantValue := 0 }, { name := "LOG2_ARRAY_SHORT_INDEX_SCALE", type := .int, accessFlags := 25, slot := 5, constantValue := 0 }, { name := "LOG2_ARRAY_INT_INDEX_SCALE", type := .int, accessFlags := 25, slot := 6, constantValue := 0 }, { name := "LOG2_ARRAY_LONG_INDEX_SCALE", type := .int, accessFlags := 25, slot := 7, constantValue := 0 }, { name := "LOG2_ARRAY_FLOAT_INDEX_SCALE", type := .int, accessFlags := 25, slot := 8, constantValue := 0 }, { name := "LOG2_ARRAY_DOUBLE_INDEX_SCALE", type := .int, accessFlags := 25, slot := 9, constantValue := 0 }, { name := "LOG2_BYTE_BIT_SIZE", type := .int, accessFlags := 26, slot := 10, constantValue := 0 }, { name := "T_BOOLEAN", type := .int, accessFlags := 25, slot := 11, constantValue := 0 }, { name := "T_CHAR", type := .int, accessFlags := 25, slot := 12, constantValue := 0 }, { name := "T_FLOAT", type := .int, accessFlags := 25, slot := 13, constantValue := 0 }, { name := "T_DOUBLE", type := .int, accessFlags := 25, slot := 14, constantValue := 0 }, { name := "T_BYTE", type := .int, accessFlags := 25, slot := 15, constantValue := 0 }, { name := "T_SHORT", type := .int, accessFlags := 25, slot := 16, constantValue := 0 }, { name := "T_INT", type := .int, accessFlags := 25, slot := 17, constantValue := 0 }, { name := "T_LONG", type := .int, accessFlags := 25, slot := 18, constantValue := 0 }, { name := "JLA", type := (.object "jdk/internal/access/JavaLangAccess"), accessFlags := 26, slot := 19, constantValue := 0 }, { name := "SOFT_MAX_ARRAY_LENGTH", type := .int, accessFlags := 25, slot := 20, constantValue := 0 }]
  methods := #[k13m0]
  instanceTypes := #[]
  staticTypes := #[(.object "jdk/internal/misc/Unsafe"), .boolean, .int, .int, .int, .int, .int, .int, .int, .int, .int, .int, .int, .int, .int, .int, .int, .int, .int, (.object "jdk/internal/access/JavaLangAccess"), .int]
  resolved := Array.replicate 378 none
  statics := none }

def pool14 : Array CpInfo := pool [(1, u "java/lang/Cloneable"), (0, .class_ 1), (0, u "java/lang/Object"), (0, .class_ 3)] 3

/-- java/lang/Cloneable -/
def k14 : Class := { plain "java/lang/Cloneable" (some 0) with
  accessFlags := 1537
  interfaces := #[]
  cf := some (fileOf pool14 2 #[] #[] 1537 4 #[] #[])
  fields := #[]
  methods := #[]
  instanceTypes := #[]
  staticTypes := #[]
  resolved := Array.replicate 8 none
  statics := none }

/-- the primitive byte -/
def k15 : Class := { plain "byte" none with kind := .primitive 'B', accessFlags := 0x411 }
/-- [B -/
def k16 : Class := { plain "[B" (some 0) with kind := .array 15 .byte, interfaces := #[14, 2], accessFlags := 1041 }

/-- the primitive char -/
def k17 : Class := { plain "char" none with kind := .primitive 'C', accessFlags := 0x411 }
/-- [C -/
def k18 : Class := { plain "[C" (some 0) with kind := .array 17 .char, interfaces := #[14, 2], accessFlags := 1041 }

/-- the primitive int -/
def k19 : Class := { plain "int" none with kind := .primitive 'I', accessFlags := 0x411 }
/-- [I -/
def k20 : Class := { plain "[I" (some 0) with kind := .array 19 .int, interfaces := #[14, 2], accessFlags := 1041 }

def heap : Heap := #[{ cls := 7, slots := #[.long 0, .int 1, .null, .int 0, .null, .int 0, .int 0], vm := .statics 7 },
  { cls := 8, slots := #[.int 0, .int 8, .int 0, .int 1], vm := .statics 8 },
  { cls := 11, slots := #[.null, .null, .null], vm := .statics 11 }]
def classes : Array Class := #[k0, k1, k2, k3, k4, k5, k6, k7, k8, k9, k10, k11, k12, k13, k14, k15, k16, k17, k18, k19, k20]
def interned : List (Array UInt16 × Addr) := []
def slotsUsed : Nat := 14
def theMethod : MethodId := ⟨1, 2⟩
def args0 : Array Value := #[.int 5, .int 3, .int 2, .int 1, .int 4]
def aboutOver (below : List Frame) : State where
  vm := { classes := classes, interned := interned.toArray }
  heap := heap
  slotsUsed := slotsUsed
  threads := #[{ frames := .invoking theMethod args0 :: below }]
def below0 : List Frame := [.native { method := ⟨0, 0⟩, args := #[] }]
def about1 : State := aboutOver below0
def p0 : Program := .bare "" "" ""
def e0 : Env := launch0.env 0 0 0
theorem w_frames : about1.frames = Frame.invoking theMethod args0 :: below0 := rfl
set_option maxRecDepth 65536 in
theorem w_args : argsFit about1.vm theMethod args0 = true := by decide +kernel
set_option maxRecDepth 65536 in
theorem w_heap : heapFits about1 = true := by decide +kernel
set_option maxRecDepth 65536 in
theorem w_runnable : about1.curStatus? = some .runnable := by decide +kernel
set_option maxRecDepth 65536 in
theorem w_alone : about1.alone = true := by decide +kernel
set_option maxRecDepth 65536 in
theorem w_named : about1.methodNamed? x = some theMethod := by decide +kernel
set_option maxRecDepth 65536 in
theorem w_hears : about1.hears theMethod below0 = true := by decide +kernel
set_option maxRecDepth 65536 in
theorem w_ripe : about1.ripe theMethod args0 below0 = true := by decide +kernel
theorem w_running : about1.status = .running := rfl
set_option maxRecDepth 65536 in
theorem w_room : about1.hasRoom e0.platform room_1 = true :=
  launch0.hasRoom_least _ room_1 (by decide +kernel) (by decide +kernel) (by decide +kernel) (by decide +kernel) (by decide +kernel) (by decide +kernel)
theorem allAtoms_all (ts : List Jvm.Cond) (a : Array Jvm.Value) (st : Jvm.State) : (allAtoms ts).before a st = ts.all (fun c => c.before a st) := by
  induction ts with
  | nil => rfl
  | cons c t ih =>
    show (Jvm.Cond.and c (allAtoms t)).before a st = _
    rw [Jvm.Cond.before_and, ih, List.all_cons]
def words1 : List Jvm.Cond := Jvm.Cond.code x code maxLocals ret :: tables_1
/-- a 'code' word, met by the world's own term for the bytes: nothing is compared byte by byte -/
theorem code_word {y : MethodName} {bytes : ByteArray} {mx : Nat} {rt : Option FieldType} {a : Array Value} {s : State} {m : MethodId} {meth : Method} {c : Code} (h1 : s.methodNamed? y = some m) (h2 : s.vm.method? m = some meth) (h3 : meth.code = some c) (h4 : c.code = bytes)
    (h5 : (c.maxLocals == mx && c.exceptionTable.isEmpty && decide (c.maxStack ≤ mostOperands) && decide (meth.sig.returnType = rt) && !meth.locks && decide (parseMethodDescriptor y.desc = some meth.sig)) = true) : (Jvm.Cond.code y bytes mx rt).before a s = true := by
  simp only [Bool.and_eq_true, beq_iff_eq, Bool.not_eq_true', decide_eq_true_eq] at h5
  obtain ⟨⟨⟨⟨⟨g1, g2⟩, g3⟩, g4⟩, g5⟩, g6⟩ := h5
  simp [Cond.before, Cond.holds, Cond.value, h1, h2, h3, h4, g1, g2, g3, g4, g5, g6]
def isCode : Jvm.Cond → Bool
  | .code _ _ _ _ => true
  | _ => false
theorem all_split {L : List Jvm.Cond} {P : Jvm.Cond → Bool} (h1 : L.all (fun c => isCode c || P c) = true) (h2 : ∀ c ∈ L.filter isCode, P c = true) : L.all P = true := by
  refine List.all_eq_true.mpr fun c hc => ?_
  have h := List.all_eq_true.mp h1 c hc
  rcases Bool.eq_false_or_eq_true (isCode c) with hi | hi
  · exact h2 c (List.mem_filter.mpr ⟨hc, hi⟩)
  · simpa [hi] using h
set_option maxRecDepth 65536 in
theorem w_c0 : (Jvm.Cond.code x code maxLocals ret).before args0 about1 = true := code_word (m := ⟨1, 2⟩) (meth := k1m2) (c := k1c2) (by decide +kernel) rfl rfl rfl (by decide +kernel)
set_option maxRecDepth 65536 in
theorem w_c1 : (Jvm.Cond.code ({ cls := "java/lang/String", name := "<init>", desc := "([C)V" } : Jvm.MethodName) jdk_42_method_3_code (2 : Nat) (Option.none : Option Jvm.ClassFile.FieldType)).before args0 about1 = true := code_word (m := ⟨7, 1⟩) (meth := k7m1) (c := k7c1) (by decide +kernel) rfl rfl rfl (by decide +kernel)
set_option maxRecDepth 65536 in
theorem w_c2 : (Jvm.Cond.code ({ cls := "java/lang/String", name := "<init>", desc := "([CIILjava/lang/Void;)V" } : Jvm.MethodName) jdk_42_method_149_code (6 : Nat) (Option.none : Option Jvm.ClassFile.FieldType)).before args0 about1 = true := code_word (m := ⟨7, 4⟩) (meth := k7m4) (c := k7c4) (by decide +kernel) rfl rfl rfl (by decide +kernel)
set_option maxRecDepth 65536 in
theorem w_c3 : (Jvm.Cond.code ({ cls := "java/lang/Object", name := "<init>", desc := "()V" } : Jvm.MethodName) object_method_1_code (1 : Nat) (Option.none : Option Jvm.ClassFile.FieldType)).before args0 about1 = true := code_word (m := ⟨0, 0⟩) (meth := k0m0) (c := k0c0) (by decide +kernel) rfl rfl rfl (by decide +kernel)
set_option maxRecDepth 65536 in
theorem w_c4 : (Jvm.Cond.code ({ cls := "java/lang/StringUTF16", name := "compress", desc := "([CII)[B" } : Jvm.MethodName) jdk_52_method_16_code (6 : Nat) (Option.some (Jvm.ClassFile.FieldType.array Jvm.ClassFile.FieldType.byte))).before args0 about1 = true := code_word (m := ⟨8, 8⟩) (meth := k8m8) (c := k8c8) (by decide +kernel) rfl rfl rfl (by decide +kernel)
set_option maxRecDepth 65536 in
theorem w_c5 : (Jvm.Cond.code ({ cls := "java/lang/StringUTF16", name := "compress", desc := "([CI[BII)I" } : Jvm.MethodName) jdk_52_method_21_code (7 : Nat) (Option.some Jvm.ClassFile.FieldType.int)).before args0 about1 = true := code_word (m := ⟨8, 9⟩) (meth := k8m9) (c := k8c9) (by decide +kernel) rfl rfl rfl (by decide +kernel)
set_option maxRecDepth 65536 in
theorem w_c6 : (Jvm.Cond.code ({ cls := "java/lang/StringUTF16", name := "coderFromArrayLen", desc := "([BI)B" } : Jvm.MethodName) jdk_52_method_15_code (2 : Nat) (Option.some Jvm.ClassFile.FieldType.byte)).before args0 about1 = true := code_word (m := ⟨8, 7⟩) (meth := k8m7) (c := k8c7) (by decide +kernel) rfl rfl rfl (by decide +kernel)
set_option maxRecDepth 65536 in
theorem w_c7 : (Jvm.Cond.code ({ cls := "com/example/grantd/grantd/policy/TextSpan", name := "<init>", desc := "()V" } : Jvm.MethodName) prog_89_method_1_code (1 : Nat) (Option.none : Option Jvm.ClassFile.FieldType)).before args0 about1 = true := code_word (m := ⟨9, 0⟩) (meth := k9m0) (c := k9c0) (by decide +kernel) rfl rfl rfl (by decide +kernel)
set_option maxRecDepth 65536 in
theorem w_c8 : (Jvm.Cond.code ({ cls := "com/example/grantd/grantd/policy/TextSpan", name := "set", desc := "(Ljava/lang/String;II)V" } : Jvm.MethodName) prog_89_method_3_code (4 : Nat) (Option.none : Option Jvm.ClassFile.FieldType)).before args0 about1 = true := code_word (m := ⟨9, 1⟩) (meth := k9m1) (c := k9c1) (by decide +kernel) rfl rfl rfl (by decide +kernel)
set_option maxRecDepth 65536 in
theorem w_c9 : (Jvm.Cond.code ({ cls := "java/lang/String", name := "length", desc := "()I" } : Jvm.MethodName) jdk_42_method_54_code (1 : Nat) (Option.some Jvm.ClassFile.FieldType.int)).before args0 about1 = true := code_word (m := ⟨7, 2⟩) (meth := k7m2) (c := k7c2) (by decide +kernel) rfl rfl rfl (by decide +kernel)
set_option maxRecDepth 65536 in
theorem w_c10 : (Jvm.Cond.code ({ cls := "java/lang/String", name := "coder", desc := "()B" } : Jvm.MethodName) jdk_42_method_152_code (1 : Nat) (Option.some Jvm.ClassFile.FieldType.byte)).before args0 about1 = true := code_word (m := ⟨7, 5⟩) (meth := k7m5) (c := k7c5) (by decide +kernel) rfl rfl rfl (by decide +kernel)
set_option maxRecDepth 65536 in
theorem w_c11 : (Jvm.Cond.code ({ cls := "java/util/Objects", name := "checkFromToIndex", desc := "(III)I" } : Jvm.MethodName) jdk_31_method_18_code (3 : Nat) (Option.some Jvm.ClassFile.FieldType.int)).before args0 about1 = true := code_word (m := ⟨10, 1⟩) (meth := k10m1) (c := k10c1) (by decide +kernel) rfl rfl rfl (by decide +kernel)
set_option maxRecDepth 65536 in
theorem w_c12 : (Jvm.Cond.code ({ cls := "jdk/internal/util/Preconditions", name := "checkFromToIndex", desc := "(IIILjava/util/function/BiFunction;)I" } : Jvm.MethodName) jdk_41_method_12_code (4 : Nat) (Option.some Jvm.ClassFile.FieldType.int)).before args0 about1 = true := code_word (m := ⟨11, 2⟩) (meth := k11m2) (c := k11c2) (by decide +kernel) rfl rfl rfl (by decide +kernel)
set_option maxRecDepth 65536 in
theorem w_c13 : (Jvm.Cond.code ({ cls := "com/example/grantd/grantd/policy/TextSpanTextHashPinLaw", name := "term", desc := "([CIII)I" } : Jvm.MethodName) method_2_code (5 : Nat) (Option.some Jvm.ClassFile.FieldType.int)).before args0 about1 = true := code_word (m := ⟨1, 1⟩) (meth := k1m1) (c := k1c1) (by decide +kernel) rfl rfl rfl (by decide +kernel)
set_option maxRecDepth 65536 in
theorem w_c14 : (Jvm.Cond.code ({ cls := "com/example/grantd/grantd/policy/TextSpan", name := "textHash", desc := "()I" } : Jvm.MethodName) prog_89_method_7_code (3 : Nat) (Option.some Jvm.ClassFile.FieldType.int)).before args0 about1 = true := code_word (m := ⟨9, 2⟩) (meth := k9m2) (c := k9c2) (by decide +kernel) rfl rfl rfl (by decide +kernel)
set_option maxRecDepth 65536 in
theorem w_c15 : (Jvm.Cond.code ({ cls := "java/lang/String", name := "charAt", desc := "(I)C" } : Jvm.MethodName) jdk_42_method_56_code (2 : Nat) (Option.some Jvm.ClassFile.FieldType.char)).before args0 about1 = true := code_word (m := ⟨7, 3⟩) (meth := k7m3) (c := k7c3) (by decide +kernel) rfl rfl rfl (by decide +kernel)
set_option maxRecDepth 65536 in
theorem w_c16 : (Jvm.Cond.code ({ cls := "java/lang/String", name := "isLatin1", desc := "()Z" } : Jvm.MethodName) jdk_42_method_154_code (1 : Nat) (Option.some Jvm.ClassFile.FieldType.boolean)).before args0 about1 = true := code_word (m := ⟨7, 6⟩) (meth := k7m6) (c := k7c6) (by decide +kernel) rfl rfl rfl (by decide +kernel)
set_option maxRecDepth 65536 in
theorem w_c17 : (Jvm.Cond.code ({ cls := "java/lang/StringLatin1", name := "charAt", desc := "([BI)C" } : Jvm.MethodName) jdk_43_method_2_code (2 : Nat) (Option.some Jvm.ClassFile.FieldType.char)).before args0 about1 = true := code_word (m := ⟨12, 1⟩) (meth := k12m1) (c := k12c1) (by decide +kernel) rfl rfl rfl (by decide +kernel)
set_option maxRecDepth 65536 in
theorem w_c18 : (Jvm.Cond.code ({ cls := "java/lang/String", name := "checkIndex", desc := "(II)V" } : Jvm.MethodName) jdk_42_method_155_code (2 : Nat) (Option.none : Option Jvm.ClassFile.FieldType)).before args0 about1 = true := code_word (m := ⟨7, 7⟩) (meth := k7m7) (c := k7c7) (by decide +kernel) rfl rfl rfl (by decide +kernel)
set_option maxRecDepth 65536 in
theorem w_c19 : (Jvm.Cond.code ({ cls := "jdk/internal/util/Preconditions", name := "checkIndex", desc := "(IILjava/util/function/BiFunction;)I" } : Jvm.MethodName) jdk_41_method_11_code (3 : Nat) (Option.some Jvm.ClassFile.FieldType.int)).before args0 about1 = true := code_word (m := ⟨11, 1⟩) (meth := k11m1) (c := k11c1) (by decide +kernel) rfl rfl rfl (by decide +kernel)
set_option maxRecDepth 65536 in
theorem w_c20 : (Jvm.Cond.code ({ cls := "java/lang/StringUTF16", name := "toBytes", desc := "([CII)[B" } : Jvm.MethodName) jdk_52_method_14_code (5 : Nat) (Option.some (Jvm.ClassFile.FieldType.array Jvm.ClassFile.FieldType.byte))).before args0 about1 = true := code_word (m := ⟨8, 6⟩) (meth := k8m6) (c := k8c6) (by decide +kernel) rfl rfl rfl (by decide +kernel)
set_option maxRecDepth 65536 in
theorem w_c21 : (Jvm.Cond.code ({ cls := "java/lang/StringUTF16", name := "newBytesFor", desc := "(I)[B" } : Jvm.MethodName) jdk_52_method_2_code (1 : Nat) (Option.some (Jvm.ClassFile.FieldType.array Jvm.ClassFile.FieldType.byte))).before args0 about1 = true := code_word (m := ⟨8, 1⟩) (meth := k8m1) (c := k8c1) (by decide +kernel) rfl rfl rfl (by decide +kernel)
set_option maxRecDepth 65536 in
theorem w_c22 : (Jvm.Cond.code ({ cls := "java/lang/StringUTF16", name := "newBytesLength", desc := "(I)I" } : Jvm.MethodName) jdk_52_method_3_code (1 : Nat) (Option.some Jvm.ClassFile.FieldType.int)).before args0 about1 = true := code_word (m := ⟨8, 2⟩) (meth := k8m2) (c := k8c2) (by decide +kernel) rfl rfl rfl (by decide +kernel)
set_option maxRecDepth 65536 in
theorem w_c23 : (Jvm.Cond.code ({ cls := "java/lang/StringUTF16", name := "putChar", desc := "([BII)V" } : Jvm.MethodName) jdk_52_method_4_code (3 : Nat) (Option.none : Option Jvm.ClassFile.FieldType)).before args0 about1 = true := code_word (m := ⟨8, 3⟩) (meth := k8m3) (c := k8c3) (by decide +kernel) rfl rfl rfl (by decide +kernel)
set_option maxRecDepth 65536 in
theorem w_c24 : (Jvm.Cond.code ({ cls := "java/lang/StringUTF16", name := "getChar", desc := "([BI)C" } : Jvm.MethodName) jdk_52_method_5_code (2 : Nat) (Option.some Jvm.ClassFile.FieldType.char)).before args0 about1 = true := code_word (m := ⟨8, 4⟩) (meth := k8m4) (c := k8c4) (by decide +kernel) rfl rfl rfl (by decide +kernel)
set_option maxRecDepth 65536 in
theorem w_c25 : (Jvm.Cond.code ({ cls := "java/lang/StringUTF16", name := "charAt", desc := "([BI)C" } : Jvm.MethodName) jdk_52_method_83_code (2 : Nat) (Option.some Jvm.ClassFile.FieldType.char)).before args0 about1 = true := code_word (m := ⟨8, 10⟩) (meth := k8m10) (c := k8c10) (by decide +kernel) rfl rfl rfl (by decide +kernel)
set_option maxRecDepth 65536 in
theorem w_c26 : (Jvm.Cond.code ({ cls := "java/lang/StringUTF16", name := "checkIndex", desc := "(I[B)V" } : Jvm.MethodName) jdk_52_method_91_code (2 : Nat) (Option.none : Option Jvm.ClassFile.FieldType)).before args0 about1 = true := code_word (m := ⟨8, 11⟩) (meth := k8m11) (c := k8c11) (by decide +kernel) rfl rfl rfl (by decide +kernel)
set_option maxRecDepth 65536 in
theorem w_c27 : (Jvm.Cond.code ({ cls := "java/lang/StringUTF16", name := "length", desc := "([B)I" } : Jvm.MethodName) jdk_52_method_6_code (1 : Nat) (Option.some Jvm.ClassFile.FieldType.int)).before args0 about1 = true := code_word (m := ⟨8, 5⟩) (meth := k8m5) (c := k8c5) (by decide +kernel) rfl rfl rfl (by decide +kernel)
def codes1 : List Jvm.Cond := [Jvm.Cond.code x code maxLocals ret, Jvm.Cond.code ({ cls := "java/lang/String", name := "<init>", desc := "([C)V" } : Jvm.MethodName) jdk_42_method_3_code (2 : Nat) (Option.none : Option Jvm.ClassFile.FieldType), Jvm.Cond.code ({ cls := "java/lang/String", name := "<init>", desc := "([CIILjava/lang/Void;)V" } : Jvm.MethodName) jdk_42_method_149_code (6 : Nat) (Option.none : Option Jvm.ClassFile.FieldType), Jvm.Cond.code ({ cls := "java/lang/Object", name := "<init>", desc := "()V" } : Jvm.MethodName) object_method_1_code (1 : Nat) (Option.none : Option Jvm.ClassFile.FieldType), Jvm.Cond.code ({ cls := "java/lang/StringUTF16", name := "compress", desc := "([CII)[B" } : Jvm.MethodName) jdk_52_method_16_code (6 : Nat) (Option.some (Jvm.ClassFile.FieldType.array Jvm.ClassFile.FieldType.byte)), Jvm.Cond.code ({ cls := "java/lang/StringUTF16", name := "compress", desc := "([CI[BII)I" } : Jvm.MethodName) jdk_52_method_21_code (7 : Nat) (Option.some Jvm.ClassFile.FieldType.int), Jvm.Cond.code ({ cls := "java/lang/StringUTF16", name := "coderFromArrayLen", desc := "([BI)B" } : Jvm.MethodName) jdk_52_method_15_code (2 : Nat) (Option.some Jvm.ClassFile.FieldType.byte), Jvm.Cond.code ({ cls := "com/example/grantd/grantd/policy/TextSpan", name := "<init>", desc := "()V" } : Jvm.MethodName) prog_89_method_1_code (1 : Nat) (Option.none : Option Jvm.ClassFile.FieldType), Jvm.Cond.code ({ cls := "com/example/grantd/grantd/policy/TextSpan", name := "set", desc := "(Ljava/lang/String;II)V" } : Jvm.MethodName) prog_89_method_3_code (4 : Nat) (Option.none : Option Jvm.ClassFile.FieldType), Jvm.Cond.code ({ cls := "java/lang/String", name := "length", desc := "()I" } : Jvm.MethodName) jdk_42_method_54_code (1 : Nat) (Option.some Jvm.ClassFile.FieldType.int), Jvm.Cond.code ({ cls := "java/lang/String", name := "coder", desc := "()B" } : Jvm.MethodName) jdk_42_method_152_code (1 : Nat) (Option.some Jvm.ClassFile.FieldType.byte), Jvm.Cond.code ({ cls := "java/util/Objects", name := "checkFromToIndex", desc := "(III)I" } : Jvm.MethodName) jdk_31_method_18_code (3 : Nat) (Option.some Jvm.ClassFile.FieldType.int), Jvm.Cond.code ({ cls := "jdk/internal/util/Preconditions", name := "checkFromToIndex", desc := "(IIILjava/util/function/BiFunction;)I" } : Jvm.MethodName) jdk_41_method_12_code (4 : Nat) (Option.some Jvm.ClassFile.FieldType.int), Jvm.Cond.code ({ cls := "com/example/grantd/grantd/policy/TextSpanTextHashPinLaw", name := "term", desc := "([CIII)I" } : Jvm.MethodName) method_2_code (5 : Nat) (Option.some Jvm.ClassFile.FieldType.int), Jvm.Cond.code ({ cls := "com/example/grantd/grantd/policy/TextSpan", name := "textHash", desc := "()I" } : Jvm.MethodName) prog_89_method_7_code (3 : Nat) (Option.some Jvm.ClassFile.FieldType.int), Jvm.Cond.code ({ cls := "java/lang/String", name := "charAt", desc := "(I)C" } : Jvm.MethodName) jdk_42_method_56_code (2 : Nat) (Option.some Jvm.ClassFile.FieldType.char), Jvm.Cond.code ({ cls := "java/lang/String", name := "isLatin1", desc := "()Z" } : Jvm.MethodName) jdk_42_method_154_code (1 : Nat) (Option.some Jvm.ClassFile.FieldType.boolean), Jvm.Cond.code ({ cls := "java/lang/StringLatin1", name := "charAt", desc := "([BI)C" } : Jvm.MethodName) jdk_43_method_2_code (2 : Nat) (Option.some Jvm.ClassFile.FieldType.char), Jvm.Cond.code ({ cls := "java/lang/String", name := "checkIndex", desc := "(II)V" } : Jvm.MethodName) jdk_42_method_155_code (2 : Nat) (Option.none : Option Jvm.ClassFile.FieldType), Jvm.Cond.code ({ cls := "jdk/internal/util/Preconditions", name := "checkIndex", desc := "(IILjava/util/function/BiFunction;)I" } : Jvm.MethodName) jdk_41_method_11_code (3 : Nat) (Option.some Jvm.ClassFile.FieldType.int), Jvm.Cond.code ({ cls := "java/lang/StringUTF16", name := "toBytes", desc := "([CII)[B" } : Jvm.MethodName) jdk_52_method_14_code (5 : Nat) (Option.some (Jvm.ClassFile.FieldType.array Jvm.ClassFile.FieldType.byte)), Jvm.Cond.code ({ cls := "java/lang/StringUTF16", name := "newBytesFor", desc := "(I)[B" } : Jvm.MethodName) jdk_52_method_2_code (1 : Nat) (Option.some (Jvm.ClassFile.FieldType.array Jvm.ClassFile.FieldType.byte)), Jvm.Cond.code ({ cls := "java/lang/StringUTF16", name := "newBytesLength", desc := "(I)I" } : Jvm.MethodName) jdk_52_method_3_code (1 : Nat) (Option.some Jvm.ClassFile.FieldType.int), Jvm.Cond.code ({ cls := "java/lang/StringUTF16", name := "putChar", desc := "([BII)V" } : Jvm.MethodName) jdk_52_method_4_code (3 : Nat) (Option.none : Option Jvm.ClassFile.FieldType), Jvm.Cond.code ({ cls := "java/lang/StringUTF16", name := "getChar", desc := "([BI)C" } : Jvm.MethodName) jdk_52_method_5_code (2 : Nat) (Option.some Jvm.ClassFile.FieldType.char), Jvm.Cond.code ({ cls := "java/lang/StringUTF16", name := "charAt", desc := "([BI)C" } : Jvm.MethodName) jdk_52_method_83_code (2 : Nat) (Option.some Jvm.ClassFile.FieldType.char), Jvm.Cond.code ({ cls := "java/lang/StringUTF16", name := "checkIndex", desc := "(I[B)V" } : Jvm.MethodName) jdk_52_method_91_code (2 : Nat) (Option.none : Option Jvm.ClassFile.FieldType), Jvm.Cond.code ({ cls := "java/lang/StringUTF16", name := "length", desc := "([B)I" } : Jvm.MethodName) jdk_52_method_6_code (1 : Nat) (Option.some Jvm.ClassFile.FieldType.int)]
set_option maxRecDepth 65536 in
theorem codes_eq : words1.filter isCode = codes1 := rfl
theorem w_codes : ∀ c ∈ words1.filter isCode, c.before args0 about1 = true := by
  rw [codes_eq]
  intro c hc
  simp only [codes1, List.mem_cons, List.not_mem_nil, or_false] at hc
  rcases hc with rfl | rfl | rfl | rfl | rfl | rfl | rfl | rfl | rfl | rfl | rfl | rfl | rfl | rfl | rfl | rfl | rfl | rfl | rfl | rfl | rfl | rfl | rfl | rfl | rfl | rfl | rfl | rfl
  · exact w_c0
  · exact w_c1
  · exact w_c2
  · exact w_c3
  · exact w_c4
  · exact w_c5
  · exact w_c6
  · exact w_c7
  · exact w_c8
  · exact w_c9
  · exact w_c10
  · exact w_c11
  · exact w_c12
  · exact w_c13
  · exact w_c14
  · exact w_c15
  · exact w_c16
  · exact w_c17
  · exact w_c18
  · exact w_c19
  · exact w_c20
  · exact w_c21
  · exact w_c22
  · exact w_c23
  · exact w_c24
  · exact w_c25
  · exact w_c26
  · exact w_c27
set_option maxRecDepth 65536 in
theorem w_t1 : (words1.take 24).all (fun c => isCode c || c.before args0 about1) = true := by decide +kernel
set_option maxRecDepth 65536 in
theorem w_t2 : ((words1.drop 24).take 24).all (fun c => isCode c || c.before args0 about1) = true := by decide +kernel
set_option maxRecDepth 65536 in
theorem w_t3 : (((words1.drop 24).drop 24).take 24).all (fun c => isCode c || c.before args0 about1) = true := by decide +kernel
set_option maxRecDepth 65536 in
theorem w_t4 : ((((words1.drop 24).drop 24).drop 24).take 24).all (fun c => isCode c || c.before args0 about1) = true := by decide +kernel
set_option maxRecDepth 65536 in
theorem w_t5 : (((((words1.drop 24).drop 24).drop 24).drop 24).take 24).all (fun c => isCode c || c.before args0 about1) = true := by decide +kernel
set_option maxRecDepth 65536 in
theorem w_t6 : (((((words1.drop 24).drop 24).drop 24).drop 24).drop 24).all (fun c => isCode c || c.before args0 about1) = true := by decide +kernel
theorem w_tables : (allAtoms (Jvm.Cond.code x code maxLocals ret :: tables_1)).before args0 about1 = true := by
  rw [allAtoms_all]
  show words1.all (fun c => c.before args0 about1) = true
  refine all_split ?_ w_codes
  rw [← List.take_append_drop 24 words1, List.all_append, w_t1, ← List.take_append_drop 24 (words1.drop 24), List.all_append, w_t2, ← List.take_append_drop 24 ((words1.drop 24).drop 24), List.all_append, w_t3, ← List.take_append_drop 24 (((words1.drop 24).drop 24).drop 24), List.all_append, w_t4, ← List.take_append_drop 24 ((((words1.drop 24).drop 24).drop 24).drop 24), List.all_append, w_t5, w_t6]
  rfl
set_option maxRecDepth 65536 in
theorem w_rest : rest_1_c.before args0 about1 = true := by decide +kernel
set_option maxRecDepth 65536 in
theorem w_case : (Jvm.Cond.and given_1 narrow_1).before args0 about1 = true := by decide +kernel
theorem w_applies : (headSpec (Jvm.Cond.code x code maxLocals ret :: tables_1) room_1).applies x e0.platform about1 = true :=
  (Spec.applies_iff w_frames).mpr ⟨w_running, w_runnable, w_alone, w_named, w_hears, w_ripe, w_room, w_tables⟩
theorem atStart : AtStart classFile x code maxLocals ret World_1 tables_1 room_1 Calls_1 rest_1 Pre_1 launch0 p0 e0 about1 theMethod args0 below0 :=
  ⟨lists_1, trivial, launch0.admits_env _ _ _, launch0.least_env, fairChoices_fair.cas, fairChoices_fair.clock, w_frames, w_args, w_heap, w_applies, trivial, w_rest, w_case⟩
end start1
theorem witness_1 : WitnessClaimed_1 := ⟨start1.p0, start1.e0, start1.about1, start1.theMethod, start1.args0, start1.below0, start1.atStart⟩
end Jvm.Pilot.@@N@@
