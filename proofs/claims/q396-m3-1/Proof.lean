import JvmDerived
import JvmDerived.Pilot.@@N@@Statement
import JvmDerived.Pilot.@@N@@Code
set_option linter.unusedVariables false
set_option linter.unusedSimpArgs false
namespace Jvm.RoadKit
open Sem ClassFile Op Lib Jvm.Stand Jvm.Free Jvm.LawKit
section Own
variable {p : Program} {l : Launch} {e : Env} {R : Room} {s : State} {m : MethodId} {args : Array Value} {below : List Frame} {meth : Method} {c : Code} {T A B : State} {locs : List Loc} {cells slots K N : Nat} {P : State → Outcome → Prop} {Q : Option Value → Heap → List Loc → Prop}
/-- the run that stands at A comes to an end of which P holds -/
def Go (p : Program) (e : Env) (below : List Frame) (P : State → Outcome → Prop) (A : State) : Prop := ∃ s₂ o, Steps p.tables e below A s₂ ∧ s₂.status = .running ∧ Ended s₂ below o ∧ P s₂ o
def PostW (s : State) (K N : Nat) (Q : Option Value → Heap → List Loc → Prop) : State → Outcome → Prop := fun s₂ o => ∃ v L, o = .returned v ∧ Q v s₂.heap L ∧ FrameEnd s o s₂ L K N
theorem Go.by (h : ∀ t, Steps p.tables e below B t → Steps p.tables e below A t) (k : Go p e below P B) : Go p e below P A := by
  obtain ⟨s₂, o, h1, h2⟩ := k
  exact ⟨s₂, o, h _ h1, h2⟩
theorem Go.to (h : Steps p.tables e below A B) (k : Go p e below P B) : Go p e below P A := Go.by (fun _ q => h.trans q) k
theorem Go.cast {g g' : JFrame} (q : g = g') (k : Go p e below P (T.setTop g')) : Go p e below P (T.setTop g) := q ▸ k
theorem Go.ret (X : Stand p l e R s m args below meth c T locs cells slots) (hx : p.tables.exec = Jvm.exec) (hlk : meth.locks = false) {pc : Nat} {Ls : Array Slot} {w : Value} {t : FieldType} {i : Instr} {rest : List Value} (hret : meth.sig.returnType = some t) (hn : narrow t w = w)
    (hi : (i = .ireturn ∧ (t = .int ∨ t = .boolean ∨ t = .byte ∨ t = .char ∨ t = .short) ∧ ∃ z, w = .int z) ∨ (i = .lreturn ∧ t = .long ∧ ∃ z, w = .long z) ∨ (i = .dreturn ∧ t = .double ∧ ∃ z, w = .double z) ∨ (i = .freturn ∧ t = .float ∧ ∃ z, w = .float z) ∨ (i = .areturn ∧ t.isReference = true ∧ w.isRef = true))
    (hd : decode c.code pc = .ok (i, 1)) (hc : cells ≤ K) (hs : slots ≤ N) (hQ : Q (some w) T.heap locs) : Go p e below (PostW s K N Q) (T.setTop (mkF m pc Ls (w :: rest))) := by
  obtain ⟨fs, hr, hrun, hended, hW, hsame⟩ := X.leave (v := some w) (fun h => by rw [hret] at h; cases h) hlk
  exact ⟨_, _, retOut X hx hret hn hi hd hr, hrun, hended, _, _, rfl, hQ, ⟨_, rfl⟩, hW, hsame.mono hc hs⟩
theorem Go.retZ (X : Stand p l e R s m args below meth c T locs cells slots) (hx : p.tables.exec = Jvm.exec) (hlk : meth.locks = false) {pc : Nat} {Ls : Array Slot} {z : Int32} {t : FieldType} {rest : List Value} (hret : meth.sig.returnType = some t) (ht : t = .boolean ∨ t = .byte ∨ t = .char ∨ t = .short)
    (hd : decode c.code pc = .ok (.ireturn, 1)) (hc : cells ≤ K) (hs : slots ≤ N) (hQ : Q (some (.int (nar t z))) T.heap locs) : Go p e below (PostW s K N Q) (T.setTop (mkF m pc Ls (.int z :: rest))) := by
  obtain ⟨fs, hr, hrun, hended, hW, hsame⟩ := X.leave (v := some (.int (nar t z))) (fun h => by rw [hret] at h; cases h) hlk
  exact ⟨_, _, retN X hx hret ht hd hr, hrun, hended, _, _, rfl, hQ, ⟨_, rfl⟩, hW, hsame.mono hc hs⟩
theorem own_cat {w : Value} (h : w.isRef = true) : w.category = 1 := by cases w <;> first | rfl | (simp [Value.isRef] at h)
theorem own_narR {w : Value} {t : FieldType} (h : w.isRef = true) (ht : t.isReference = true) : narrow t w = w := by cases t <;> first | (cases ht; done) | (cases w <;> first | rfl | (simp [Value.isRef] at h))
theorem own_fitR {w : Value} {t : FieldType} (h : w.isRef = true) (ht : t.isReference = true) : fits t w = true := by cases t <;> first | (cases ht; done) | (cases w <;> first | rfl | (simp [Value.isRef] at h))
theorem Go.retV (X : Stand p l e R s m args below meth c T locs cells slots) (hx : p.tables.exec = Jvm.exec) (hlk : meth.locks = false) {pc : Nat} {Ls : Array Slot} (hret : meth.sig.returnType = none)
    (hd : decode c.code pc = .ok (.return_, 1)) (hc : cells ≤ K) (hs : slots ≤ N) (hQ : Q none T.heap locs) : Go p e below (PostW s K N Q) (T.setTop (mkF m pc Ls [])) := by
  obtain ⟨fs, hr, hrun, hended, hW, hsame⟩ := X.leave (v := none) (fun _ => rfl) hlk
  exact ⟨_, _, X.returnOut hx hret hd hr, hrun, hended, _, _, rfl, hQ, ⟨_, rfl⟩, hW, hsame.mono hc hs⟩
theorem wd {L : List Cond} {a0 : Array Value} {Z : State} (hw : ∀ d ∈ L, d.before a0 Z = true) (i : Nat) {d : Cond} (h : L[i]? = some d) : d.before a0 Z = true := hw d (List.mem_of_getElem? h)
/-- a callee's contract, as the walks here say it -/
abbrev Met (l : Launch) (Z : State) (y : MethodName) (bytes : ByteArray) (maxL : Nat) (ret : Option FieldType) (ws : List Cond) (rm : Room) (as' : Array Value) (h0 : Heap) (Q : Option Value → Heap → List Loc → Prop) : Prop :=
  MetFree l y (head1 (Cond.code y bytes maxL ret :: ws) rm) (fun a U => a = as' ∧ Z.Warmed39 U.vm ∧ U.heap = h0) (fun _ _ _ _ _ => True) (fun _ U o U' => ∃ v L, o = .returned v ∧ Q v U'.heap L ∧ FrameEnd U o U' L rm.cells rm.slots)
theorem Met.enter {Z : State} {y : MethodName} {bytes : ByteArray} {maxL : Nat} {ret : Option FieldType} {ws : List Cond} {rm : Room} {as' : Array Value} {h0 : Heap} {f0 : MethodId → JFrame} (hpl : plainFor y = true) (hf0 : ∀ m, entryFrame m as' maxL = f0 m)
    (body : ∀ (p : Program) (e : Env) (s : State) (m : MethodId) (below : List Frame) (meth : Method) (c : Code) (s₁ : State), p.tables.exec = Jvm.exec → c.code = bytes → c.maxLocals = maxL → s.vm.findClass y.cls = some m.cls → meth.name = y.name → meth.sig.returnType = ret → meth.locks = false → Z.Warmed39 s.vm → Stand p l e rm s m as' below meth c s₁ [] 0 0 → s₁.heap = h0 → Go p e below (PostW s rm.cells rm.slots Q) (s₁.setTop (f0 m))) : Met l Z y bytes maxL ret ws rm as' h0 Q := by
  refine MetFree.of_bodySF hpl hisR ?_
  intro p e s m args below meth c s₁ Bd hml0 hP hK
  obtain ⟨rfl, hZ, hh⟩ := hP
  have q := body p e s m below meth c s₁ Bd.exec Bd.bytes hml0 (findClass_of_methodNamed Bd.named) (name_of_methodNamed Bd.named Bd.method).1 Bd.returns Bd.notSynchronized hZ (Stand.of_body Bd) (by rw [← hh, Bd.state]; rfl)
  rw [← hf0] at q
  exact q
end Own
end Jvm.RoadKit
namespace Jvm.Pilot.@@N@@
open Jvm Jvm.ClassFile Sem Op Lib Jvm.Free Jvm.Stand Jvm.LawKit Jvm.RoadKit Bundle Jvm.Pilot.@@N@@.Jvm.D
theorem own_eqk {args : Array Value} {first s : State} {o : Option Outcome} {idx : List Nat} {t : Term} {k : Int32} (h : (Jvm.Cond.eq t (Term.int k)).value args first o s idx = some true) : t.eval args first o idx s = some (.int k) := by
  obtain ⟨x, y, ex, ey, -, k2⟩ := cmp_v (Or.inl h)
  have e2 : y = .int k := Option.some.inj (ey.symm.trans (Term.int_eval k))
  subst e2
  obtain ⟨z, rfl⟩ := k2
  have := gotT (Cond.eq_ints ex (Term.int_eval k)) h
  rw [ex, this]

theorem own_eqR {args : Array Value} {first s : State} {o : Option Outcome} {idx : List Nat} {t u : Term} {a : Addr} (h : (Jvm.Cond.eq t u).value args first o s idx = some true) (hu : u.eval args first o idx s = some (.ref a)) : t.eval args first o idx s = some (.ref a) := by
  obtain ⟨x, y, ex, ey, k1, k2⟩ := cmp_v (Or.inl h)
  have e2 : y = .ref a := Option.some.inj (ey.symm.trans hu)
  subst e2
  have := gotT (eq_R ex hu k2.2 k2.1) h
  rw [ex, this]
theorem own_sizek {cl : Cell} {args : Array Value} {s : State} {t : Term} {a : Addr} {ty : FieldType} {k : Int32} (ht : t.eval args s none [] s = some (.ref a)) (A : Arr s s.heap a cl ty) (h : (Jvm.Cond.eq (Term.length t) (Term.int k)).value args s none s [] = some true) : cl.slots.size < 2 ^ 31 ∧ cl.slots.size.toInt32 = k := by
  have e := own_eqk h
  have hat : s.arrayAt? a = some cl := A.fin (State.Warmed39.refl s).alike
  by_cases q : cl.slots.size < 2 ^ 31
  · exact ⟨q, Value.int.inj (Option.some.inj ((len_f ht hat q).symm.trans e))⟩
  · simp [Term.eval, ht, hat, q] at e

theorem own_ch (x : Int32) : ¬ (255 : Int32) < (x &&& (255 : Int32)).toUInt32.toUInt16.toUInt32.toInt32 := by
  rw [i2c_mask]
  have q := c_mask x 255 8 (by decide) (by decide)
  have z : (255 : Int32).toInt = 255 := by decide
  rw [Int32.lt_iff_toInt_lt, z]
  omega
theorem own_ch0 (x : Int32) : ¬ (x &&& (255 : Int32)).toUInt32.toUInt16.toUInt32.toInt32 < (0 : Int32) := by
  rw [i2c_mask]
  have q := c_mask x 255 8 (by decide) (by decide)
  have z : (0 : Int32).toInt = 0 := by decide
  rw [Int32.lt_iff_toInt_lt, z]
  omega
theorem own_nar (x : Int32) : nar .char ((x &&& (255 : Int32)).toUInt32.toUInt16.toUInt32.toInt32) = (x &&& (255 : Int32)) := by
  show ((x &&& (255 : Int32)).toUInt32.toUInt16.toUInt32.toInt32).toUInt32.toUInt16.toUInt32.toInt32 = _
  rw [i2c_mask, i2c_mask]
theorem own_chn (x : Int32) : ¬ (255 : Int32) < nar .char ((x &&& (255 : Int32)).toUInt32.toUInt16.toUInt32.toInt32) := by
  rw [own_nar]
  have q := c_mask x 255 8 (by decide) (by decide)
  have z : (255 : Int32).toInt = 255 := by decide
  rw [Int32.lt_iff_toInt_lt, z]
  omega

theorem ef_rm_cmp5_4 (m : MethodId) (x0 : Addr) (x2 : Addr) : entryFrame m #[(.ref x0), (.int 0), (.ref x2), (.int 0), (.int 4)] 7 = mkF m 0 #[.val (.ref x0), .val (.int 0), .val (.ref x2), .val (.int 0), .val (.int 4), .unset, .unset] [] := by first | (simp [entryFrame, mkF, argsToLocals, Value.category]; done) | rfl
theorem d5_0 : decode jdk_52_method_21_code 0 = .ok (.iconst 0, 1) := by decide +kernel
theorem d5_1 : decode jdk_52_method_21_code 1 = .ok (.istore 5, 2) := by decide +kernel
theorem d5_3 : decode jdk_52_method_21_code 3 = .ok (.iload 5, 2) := by decide +kernel
theorem d5_5 : decode jdk_52_method_21_code 5 = .ok (.iload 4, 2) := by decide +kernel
theorem d5_7 : decode jdk_52_method_21_code 7 = .ok (.if_icmp .ge 37, 3) := by decide +kernel
theorem d5_10 : decode jdk_52_method_21_code 10 = .ok (.aload_n 0, 1) := by decide +kernel
theorem d5_11 : decode jdk_52_method_21_code 11 = .ok (.iload_n 1, 1) := by decide +kernel
theorem d5_12 : decode jdk_52_method_21_code 12 = .ok (.caload, 1) := by decide +kernel
theorem d5_13 : decode jdk_52_method_21_code 13 = .ok (.istore 6, 2) := by decide +kernel
theorem d5_15 : decode jdk_52_method_21_code 15 = .ok (.iload 6, 2) := by decide +kernel
theorem d5_17 : decode jdk_52_method_21_code 17 = .ok (.sipush 255, 3) := by decide +kernel
theorem d5_20 : decode jdk_52_method_21_code 20 = .ok (.if_icmp .le 6, 3) := by decide +kernel
theorem d5_26 : decode jdk_52_method_21_code 26 = .ok (.aload_n 2, 1) := by decide +kernel
theorem d5_27 : decode jdk_52_method_21_code 27 = .ok (.iload_n 3, 1) := by decide +kernel
theorem d5_28 : decode jdk_52_method_21_code 28 = .ok (.iload 6, 2) := by decide +kernel
theorem d5_30 : decode jdk_52_method_21_code 30 = .ok (.i2b, 1) := by decide +kernel
theorem d5_31 : decode jdk_52_method_21_code 31 = .ok (.bastore, 1) := by decide +kernel
theorem d5_32 : decode jdk_52_method_21_code 32 = .ok (.iinc 1 1, 3) := by decide +kernel
theorem d5_35 : decode jdk_52_method_21_code 35 = .ok (.iinc 3 1, 3) := by decide +kernel
theorem d5_38 : decode jdk_52_method_21_code 38 = .ok (.iinc 5 1, 3) := by decide +kernel
theorem d5_41 : decode jdk_52_method_21_code 41 = .ok (.goto (-38), 3) := by decide +kernel
theorem d5_44 : decode jdk_52_method_21_code 44 = .ok (.iload 4, 2) := by decide +kernel
theorem d5_46 : decode jdk_52_method_21_code 46 = .ok (.ireturn, 1) := by decide +kernel
theorem pn_java_lang_StringUTF16 : plainName "java/lang/StringUTF16" = true := by first | (simp [plainName, overriddenIn]; done) | decide +kernel
def Q_rm_cmp5_4 (Z : State) (a1 : Addr) (b1 : Addr) (ka : ClassId) (kb : ClassId) (c0 : Int32) (c1 : Int32) (c2 : Int32) (c3 : Int32) (h0 : Heap) (n0 : Nat) (v : Option Value) (h : Heap) (L : List Loc) : Prop := v = some (.int 4) ∧ Fr n0 L ∧ Keep h0 h [b1] ∧ Arv Z h b1 kb .byte (4 : Int32) [(.int (nar .byte (c0.toInt8.toInt32))), (.int (nar .byte (c1.toInt8.toInt32))), (.int (nar .byte (c2.toInt8.toInt32))), (.int (nar .byte (c3.toInt8.toInt32)))] (.int 0)
set_option maxRecDepth 65536 in
set_option maxHeartbeats 40000000 in
theorem rm_cmp5_4 (l : Launch) (Z : State) (a0 : Array Value) (hw : ∀ d ∈ tables_1, d.before a0 Z = true) (ws : List Jvm.Cond) (a1 : Addr) (b1 : Addr) (ka : ClassId) (kb : ClassId) (c0 : Int32) (c1 : Int32) (c2 : Int32) (c3 : Int32) (h0 : Heap) (n0 : Nat) (Z0 : n0 ≤ h0.size) (pr0 : Old Z n0 h0) (pr1 : Arv Z h0 a1 ka .char (4 : Int32) [(.int c0), (.int c1), (.int c2), (.int c3)] (.int 0)) (pr2 : Arv Z h0 b1 kb .byte (4 : Int32) [(.int 0), (.int 0), (.int 0), (.int 0)] (.int 0)) (pr3 : n0 ≤ b1) (pr4 : a1 ≠ b1) (hc0 : ¬ ((255 : Int32) < c0)) (hc1 : ¬ ((255 : Int32) < c1)) (hc2 : ¬ ((255 : Int32) < c2)) (hc3 : ¬ ((255 : Int32) < c3)) :
    Met l Z (⟨"java/lang/StringUTF16", "compress", "([CI[BII)I"⟩ : MethodName) jdk_52_method_21_code 7 (some .int) ws ({ frames := 0, cells := 0, slots := 0, locals := 0 } : Room) #[(.ref a1), (.int 0), (.ref b1), (.int 0), (.int 4)] h0 (Q_rm_cmp5_4 Z a1 b1 ka kb c0 c1 c2 c3 h0 n0) := by
  refine Met.enter (f0 := fun m => mkF m 0 #[.val (.ref a1), .val (.int 0), .val (.ref b1), .val (.int 0), .val (.int 4), .unset, .unset] []) (plainFor_of_name pn_java_lang_StringUTF16) (fun m => ef_rm_cmp5_4 m a1 b1) ?_
  intro p e s m below meth c s₁ hx hby hml hown hnm hret hlk hZ X0 e0
  have hown : s.vm.findClass "java/lang/StringUTF16" = some m.cls := hown
  have hnm : meth.name = "compress" := hnm
  have hml : c.maxLocals = 7 := hml
  have hby : c.code = jdk_52_method_21_code := hby
  have N0 := Fr.nil n0
  refine Go.by (B := (s₁.setTop (mkF m 12 #[.val (.ref a1), .val (.int 0), .val (.ref b1), .val (.int 0), .val (.int 4), .val (.int 0), .unset] [(.int 0), (.ref a1)]))) (fun _ k => XS.iconst X0.here hx rfl (hb hby d5_0) (XS.istore X0.here hx rfl (hb hby d5_1) rfl (l' := #[.val (.ref a1), .val (.int 0), .val (.ref b1), .val (.int 0), .val (.int 4), .val (.int 0), .unset]) rfl (XS.iload X0.here hx rfl (hb hby d5_3) rfl (XS.iload X0.here hx rfl (hb hby d5_5) rfl (XS.icmpNo X0.here hx rfl (hb hby d5_7) rfl (tlt (by decide : (0 : Int32) < (4 : Int32))).2.1 (XS.aloadN X0.here hx rfl (hb hby d5_10) rfl rfl (XS.iloadN X0.here hx rfl (hb hby d5_11) rfl k))))))) ?_
  obtain ⟨cl1, Ar1, q1, S1, N_1, Hs1, G1⟩ := id pr1
  have hin2 : ¬ ((0 : Int32) < 0 ∨ cl1.slots.size ≤ ((0 : Int32)).toNatClampNeg) := inb_of S1 ⟨by decide, by decide⟩
  have hat2 : cl1.slots[((0 : Int32)).toNatClampNeg]? = some (.int c0) := Hs1.at hin2 rfl
  refine Go.by (B := (s₁.setTop (mkF m 13 #[.val (.ref a1), .val (.int 0), .val (.ref b1), .val (.int 0), .val (.int 4), .val (.int 0), .unset] [(.int c0)]))) (fun _ k => X0.caload hx (j := (0 : Int32)) (v := (.int c0)) (by rw [e0]; exact Ar1.1) (State.isArrayOf_alike hZ.alike Ar1.2.1) Ar1.2.2 hin2 hat2 (g := (mkF m 12 #[.val (.ref a1), .val (.int 0), .val (.ref b1), .val (.int 0), .val (.int 4), .val (.int 0), .unset] [(.int 0), (.ref a1)])) rfl rfl (hb hby d5_12) _ k) ?_
  refine Go.by (B := (s₁.setTop (mkF m 31 #[.val (.ref a1), .val (.int 0), .val (.ref b1), .val (.int 0), .val (.int 4), .val (.int 0), .val (.int c0)] [(.int (c0.toInt8.toInt32)), (.int 0), (.ref b1)]))) (fun _ k => XS.istore X0.here hx rfl (hb hby d5_13) rfl (l' := #[.val (.ref a1), .val (.int 0), .val (.ref b1), .val (.int 0), .val (.int 4), .val (.int 0), .val (.int c0)]) rfl (XS.iload X0.here hx rfl (hb hby d5_15) rfl (XS.sipush X0.here hx rfl (hb hby d5_17) (XS.icmpYes X0.here hx rfl (pc0 := 20) (pc' := 26) rfl (hb hby d5_20) rfl (flt hc0).2.2.2 (by decide) (by decide) (XS.aloadN X0.here hx rfl (hb hby d5_26) rfl rfl (XS.iloadN X0.here hx rfl (hb hby d5_27) rfl (XS.iload X0.here hx rfl (hb hby d5_28) rfl (XS.i2b X0.here hx rfl (hb hby d5_30) rfl k)))))))) ?_
  obtain ⟨cl3, Ar3, q3, S3, N_3, Hs3, G3⟩ := id pr2
  have hin4 : ¬ ((0 : Int32) < 0 ∨ cl3.slots.size ≤ ((0 : Int32)).toNatClampNeg) := inb_of S3 ⟨by decide, by decide⟩
  obtain ⟨T4, h4, X4, e4, W4, st4⟩ := stB X0 hx hZ e0 Ar3 (j := (0 : Int32)) hin4 (g := (mkF m 31 #[.val (.ref a1), .val (.int 0), .val (.ref b1), .val (.int 0), .val (.int 4), .val (.int 0), .val (.int c0)] [(.int (c0.toInt8.toInt32)), (.int 0), (.ref b1)])) rfl rfl (hb hby d5_31)
  have O5 := pr0.wr W4 pr3
  have Z5 : n0 ≤ h4.size := Nat.le_trans Z0 (Keep.of_wr W4).1
  have V4 : Arv Z h4 b1 kb .byte (4 : Int32) [(.int (nar .byte (c0.toInt8.toInt32))), (.int 0), (.int 0), (.int 0)] (.int 0) := Arv.set Ar3 q3 S3 N_3 Hs3 G3 (fits_nar_byte _) W4 0 rfl (Nat.le_of_ble_eq_true rfl)
  have N4 := Fr.snoc X4 N0 pr3
  refine Go.by (B := (T4.setTop (mkF m 32 #[.val (.ref a1), .val (.int 0), .val (.ref b1), .val (.int 0), .val (.int 4), .val (.int 0), .val (.int c0)] []))) st4 ?_
  refine Go.by (B := (T4.setTop (mkF m 11 #[.val (.ref a1), .val (.int 1), .val (.ref b1), .val (.int 1), .val (.int 4), .val (.int 1), .val (.int c0)] [(.ref a1)]))) (fun _ k => XS.iinc X4.here hx rfl (hb hby d5_32) rfl (l' := #[.val (.ref a1), .val (.int 1), .val (.ref b1), .val (.int 0), .val (.int 4), .val (.int 0), .val (.int c0)]) rfl (XS.iinc X4.here hx rfl (hb hby d5_35) rfl (l' := #[.val (.ref a1), .val (.int 1), .val (.ref b1), .val (.int 1), .val (.int 4), .val (.int 0), .val (.int c0)]) rfl (XS.iinc X4.here hx rfl (hb hby d5_38) rfl (l' := #[.val (.ref a1), .val (.int 1), .val (.ref b1), .val (.int 1), .val (.int 4), .val (.int 1), .val (.int c0)]) rfl (XS.goto X4.here hx rfl (pc0 := 41) (pc' := 3) rfl (hb hby d5_41) (by decide) (by decide) (XS.iload X4.here hx rfl (hb hby d5_3) rfl (XS.iload X4.here hx rfl (hb hby d5_5) rfl (XS.icmpNo X4.here hx rfl (hb hby d5_7) rfl (tlt (by decide : (1 : Int32) < (4 : Int32))).2.1 (XS.aloadN X4.here hx rfl (hb hby d5_10) rfl rfl k)))))))) ?_
  refine Go.by (B := (T4.setTop (mkF m 12 #[.val (.ref a1), .val (.int 1), .val (.ref b1), .val (.int 1), .val (.int 4), .val (.int 1), .val (.int c0)] [(.int 1), (.ref a1)]))) (fun _ k => XS.iloadN X4.here hx rfl (hb hby d5_11) rfl k) ?_
  obtain ⟨cl6, Ar6, q6, S6, N_6, Hs6, G6⟩ := id (pr1.other W4 pr4)
  have hin7 : ¬ ((1 : Int32) < 0 ∨ cl6.slots.size ≤ ((1 : Int32)).toNatClampNeg) := inb_of S6 ⟨by decide, by decide⟩
  have hat7 : cl6.slots[((1 : Int32)).toNatClampNeg]? = some (.int c1) := Hs6.at hin7 rfl
  refine Go.by (B := (T4.setTop (mkF m 13 #[.val (.ref a1), .val (.int 1), .val (.ref b1), .val (.int 1), .val (.int 4), .val (.int 1), .val (.int c0)] [(.int c1)]))) (fun _ k => X4.caload hx (j := (1 : Int32)) (v := (.int c1)) (by rw [e4]; exact Ar6.1) (State.isArrayOf_alike hZ.alike Ar6.2.1) Ar6.2.2 hin7 hat7 (g := (mkF m 12 #[.val (.ref a1), .val (.int 1), .val (.ref b1), .val (.int 1), .val (.int 4), .val (.int 1), .val (.int c0)] [(.int 1), (.ref a1)])) rfl rfl (hb hby d5_12) _ k) ?_
  refine Go.by (B := (T4.setTop (mkF m 31 #[.val (.ref a1), .val (.int 1), .val (.ref b1), .val (.int 1), .val (.int 4), .val (.int 1), .val (.int c1)] [(.int (c1.toInt8.toInt32)), (.int 1), (.ref b1)]))) (fun _ k => XS.istore X4.here hx rfl (hb hby d5_13) rfl (l' := #[.val (.ref a1), .val (.int 1), .val (.ref b1), .val (.int 1), .val (.int 4), .val (.int 1), .val (.int c1)]) rfl (XS.iload X4.here hx rfl (hb hby d5_15) rfl (XS.sipush X4.here hx rfl (hb hby d5_17) (XS.icmpYes X4.here hx rfl (pc0 := 20) (pc' := 26) rfl (hb hby d5_20) rfl (flt hc1).2.2.2 (by decide) (by decide) (XS.aloadN X4.here hx rfl (hb hby d5_26) rfl rfl (XS.iloadN X4.here hx rfl (hb hby d5_27) rfl (XS.iload X4.here hx rfl (hb hby d5_28) rfl (XS.i2b X4.here hx rfl (hb hby d5_30) rfl k)))))))) ?_
  obtain ⟨cl8, Ar8, q8, S8, N_8, Hs8, G8⟩ := id V4
  have hin9 : ¬ ((1 : Int32) < 0 ∨ cl8.slots.size ≤ ((1 : Int32)).toNatClampNeg) := inb_of S8 ⟨by decide, by decide⟩
  obtain ⟨T9, h9, X9, e9, W9, st9⟩ := stB X4 hx hZ e4 Ar8 (j := (1 : Int32)) hin9 (g := (mkF m 31 #[.val (.ref a1), .val (.int 1), .val (.ref b1), .val (.int 1), .val (.int 4), .val (.int 1), .val (.int c1)] [(.int (c1.toInt8.toInt32)), (.int 1), (.ref b1)])) rfl rfl (hb hby d5_31)
  have O10 := O5.wr W9 pr3
  have Z10 : n0 ≤ h9.size := Nat.le_trans Z5 (Keep.of_wr W9).1
  have V9 : Arv Z h9 b1 kb .byte (4 : Int32) [(.int (nar .byte (c0.toInt8.toInt32))), (.int (nar .byte (c1.toInt8.toInt32))), (.int 0), (.int 0)] (.int 0) := Arv.set Ar8 q8 S8 N_8 Hs8 G8 (fits_nar_byte _) W9 1 rfl (Nat.le_of_ble_eq_true rfl)
  have N9 := Fr.snoc X9 N4 pr3
  refine Go.by (B := (T9.setTop (mkF m 32 #[.val (.ref a1), .val (.int 1), .val (.ref b1), .val (.int 1), .val (.int 4), .val (.int 1), .val (.int c1)] []))) st9 ?_
  refine Go.by (B := (T9.setTop (mkF m 11 #[.val (.ref a1), .val (.int 2), .val (.ref b1), .val (.int 2), .val (.int 4), .val (.int 2), .val (.int c1)] [(.ref a1)]))) (fun _ k => XS.iinc X9.here hx rfl (hb hby d5_32) rfl (l' := #[.val (.ref a1), .val (.int 2), .val (.ref b1), .val (.int 1), .val (.int 4), .val (.int 1), .val (.int c1)]) rfl (XS.iinc X9.here hx rfl (hb hby d5_35) rfl (l' := #[.val (.ref a1), .val (.int 2), .val (.ref b1), .val (.int 2), .val (.int 4), .val (.int 1), .val (.int c1)]) rfl (XS.iinc X9.here hx rfl (hb hby d5_38) rfl (l' := #[.val (.ref a1), .val (.int 2), .val (.ref b1), .val (.int 2), .val (.int 4), .val (.int 2), .val (.int c1)]) rfl (XS.goto X9.here hx rfl (pc0 := 41) (pc' := 3) rfl (hb hby d5_41) (by decide) (by decide) (XS.iload X9.here hx rfl (hb hby d5_3) rfl (XS.iload X9.here hx rfl (hb hby d5_5) rfl (XS.icmpNo X9.here hx rfl (hb hby d5_7) rfl (tlt (by decide : (2 : Int32) < (4 : Int32))).2.1 (XS.aloadN X9.here hx rfl (hb hby d5_10) rfl rfl k)))))))) ?_
  refine Go.by (B := (T9.setTop (mkF m 12 #[.val (.ref a1), .val (.int 2), .val (.ref b1), .val (.int 2), .val (.int 4), .val (.int 2), .val (.int c1)] [(.int 2), (.ref a1)]))) (fun _ k => XS.iloadN X9.here hx rfl (hb hby d5_11) rfl k) ?_
  have f12 := ((pr1.other W4 pr4).other W9 pr4)
  obtain ⟨cl11, Ar11, q11, S11, N_11, Hs11, G11⟩ := id f12
  have hin13 : ¬ ((2 : Int32) < 0 ∨ cl11.slots.size ≤ ((2 : Int32)).toNatClampNeg) := inb_of S11 ⟨by decide, by decide⟩
  have hat13 : cl11.slots[((2 : Int32)).toNatClampNeg]? = some (.int c2) := Hs11.at hin13 rfl
  refine Go.by (B := (T9.setTop (mkF m 13 #[.val (.ref a1), .val (.int 2), .val (.ref b1), .val (.int 2), .val (.int 4), .val (.int 2), .val (.int c1)] [(.int c2)]))) (fun _ k => X9.caload hx (j := (2 : Int32)) (v := (.int c2)) (by rw [e9]; exact Ar11.1) (State.isArrayOf_alike hZ.alike Ar11.2.1) Ar11.2.2 hin13 hat13 (g := (mkF m 12 #[.val (.ref a1), .val (.int 2), .val (.ref b1), .val (.int 2), .val (.int 4), .val (.int 2), .val (.int c1)] [(.int 2), (.ref a1)])) rfl rfl (hb hby d5_12) _ k) ?_
  refine Go.by (B := (T9.setTop (mkF m 31 #[.val (.ref a1), .val (.int 2), .val (.ref b1), .val (.int 2), .val (.int 4), .val (.int 2), .val (.int c2)] [(.int (c2.toInt8.toInt32)), (.int 2), (.ref b1)]))) (fun _ k => XS.istore X9.here hx rfl (hb hby d5_13) rfl (l' := #[.val (.ref a1), .val (.int 2), .val (.ref b1), .val (.int 2), .val (.int 4), .val (.int 2), .val (.int c2)]) rfl (XS.iload X9.here hx rfl (hb hby d5_15) rfl (XS.sipush X9.here hx rfl (hb hby d5_17) (XS.icmpYes X9.here hx rfl (pc0 := 20) (pc' := 26) rfl (hb hby d5_20) rfl (flt hc2).2.2.2 (by decide) (by decide) (XS.aloadN X9.here hx rfl (hb hby d5_26) rfl rfl (XS.iloadN X9.here hx rfl (hb hby d5_27) rfl (XS.iload X9.here hx rfl (hb hby d5_28) rfl (XS.i2b X9.here hx rfl (hb hby d5_30) rfl k)))))))) ?_
  obtain ⟨cl14, Ar14, q14, S14, N_14, Hs14, G14⟩ := id V9
  have hin15 : ¬ ((2 : Int32) < 0 ∨ cl14.slots.size ≤ ((2 : Int32)).toNatClampNeg) := inb_of S14 ⟨by decide, by decide⟩
  obtain ⟨T15, h15, X15, e15, W15, st15⟩ := stB X9 hx hZ e9 Ar14 (j := (2 : Int32)) hin15 (g := (mkF m 31 #[.val (.ref a1), .val (.int 2), .val (.ref b1), .val (.int 2), .val (.int 4), .val (.int 2), .val (.int c2)] [(.int (c2.toInt8.toInt32)), (.int 2), (.ref b1)])) rfl rfl (hb hby d5_31)
  have O16 := O10.wr W15 pr3
  have Z16 : n0 ≤ h15.size := Nat.le_trans Z10 (Keep.of_wr W15).1
  have V15 : Arv Z h15 b1 kb .byte (4 : Int32) [(.int (nar .byte (c0.toInt8.toInt32))), (.int (nar .byte (c1.toInt8.toInt32))), (.int (nar .byte (c2.toInt8.toInt32))), (.int 0)] (.int 0) := Arv.set Ar14 q14 S14 N_14 Hs14 G14 (fits_nar_byte _) W15 2 rfl (Nat.le_of_ble_eq_true rfl)
  have N15 := Fr.snoc X15 N9 pr3
  refine Go.by (B := (T15.setTop (mkF m 32 #[.val (.ref a1), .val (.int 2), .val (.ref b1), .val (.int 2), .val (.int 4), .val (.int 2), .val (.int c2)] []))) st15 ?_
  refine Go.by (B := (T15.setTop (mkF m 11 #[.val (.ref a1), .val (.int 3), .val (.ref b1), .val (.int 3), .val (.int 4), .val (.int 3), .val (.int c2)] [(.ref a1)]))) (fun _ k => XS.iinc X15.here hx rfl (hb hby d5_32) rfl (l' := #[.val (.ref a1), .val (.int 3), .val (.ref b1), .val (.int 2), .val (.int 4), .val (.int 2), .val (.int c2)]) rfl (XS.iinc X15.here hx rfl (hb hby d5_35) rfl (l' := #[.val (.ref a1), .val (.int 3), .val (.ref b1), .val (.int 3), .val (.int 4), .val (.int 2), .val (.int c2)]) rfl (XS.iinc X15.here hx rfl (hb hby d5_38) rfl (l' := #[.val (.ref a1), .val (.int 3), .val (.ref b1), .val (.int 3), .val (.int 4), .val (.int 3), .val (.int c2)]) rfl (XS.goto X15.here hx rfl (pc0 := 41) (pc' := 3) rfl (hb hby d5_41) (by decide) (by decide) (XS.iload X15.here hx rfl (hb hby d5_3) rfl (XS.iload X15.here hx rfl (hb hby d5_5) rfl (XS.icmpNo X15.here hx rfl (hb hby d5_7) rfl (tlt (by decide : (3 : Int32) < (4 : Int32))).2.1 (XS.aloadN X15.here hx rfl (hb hby d5_10) rfl rfl k)))))))) ?_
  refine Go.by (B := (T15.setTop (mkF m 12 #[.val (.ref a1), .val (.int 3), .val (.ref b1), .val (.int 3), .val (.int 4), .val (.int 3), .val (.int c2)] [(.int 3), (.ref a1)]))) (fun _ k => XS.iloadN X15.here hx rfl (hb hby d5_11) rfl k) ?_
  obtain ⟨cl17, Ar17, q17, S17, N_17, Hs17, G17⟩ := id (f12.other W15 pr4)
  have hin18 : ¬ ((3 : Int32) < 0 ∨ cl17.slots.size ≤ ((3 : Int32)).toNatClampNeg) := inb_of S17 ⟨by decide, by decide⟩
  have hat18 : cl17.slots[((3 : Int32)).toNatClampNeg]? = some (.int c3) := Hs17.at hin18 rfl
  refine Go.by (B := (T15.setTop (mkF m 13 #[.val (.ref a1), .val (.int 3), .val (.ref b1), .val (.int 3), .val (.int 4), .val (.int 3), .val (.int c2)] [(.int c3)]))) (fun _ k => X15.caload hx (j := (3 : Int32)) (v := (.int c3)) (by rw [e15]; exact Ar17.1) (State.isArrayOf_alike hZ.alike Ar17.2.1) Ar17.2.2 hin18 hat18 (g := (mkF m 12 #[.val (.ref a1), .val (.int 3), .val (.ref b1), .val (.int 3), .val (.int 4), .val (.int 3), .val (.int c2)] [(.int 3), (.ref a1)])) rfl rfl (hb hby d5_12) _ k) ?_
  refine Go.by (B := (T15.setTop (mkF m 31 #[.val (.ref a1), .val (.int 3), .val (.ref b1), .val (.int 3), .val (.int 4), .val (.int 3), .val (.int c3)] [(.int (c3.toInt8.toInt32)), (.int 3), (.ref b1)]))) (fun _ k => XS.istore X15.here hx rfl (hb hby d5_13) rfl (l' := #[.val (.ref a1), .val (.int 3), .val (.ref b1), .val (.int 3), .val (.int 4), .val (.int 3), .val (.int c3)]) rfl (XS.iload X15.here hx rfl (hb hby d5_15) rfl (XS.sipush X15.here hx rfl (hb hby d5_17) (XS.icmpYes X15.here hx rfl (pc0 := 20) (pc' := 26) rfl (hb hby d5_20) rfl (flt hc3).2.2.2 (by decide) (by decide) (XS.aloadN X15.here hx rfl (hb hby d5_26) rfl rfl (XS.iloadN X15.here hx rfl (hb hby d5_27) rfl (XS.iload X15.here hx rfl (hb hby d5_28) rfl (XS.i2b X15.here hx rfl (hb hby d5_30) rfl k)))))))) ?_
  obtain ⟨cl19, Ar19, q19, S19, N_19, Hs19, G19⟩ := id V15
  have hin20 : ¬ ((3 : Int32) < 0 ∨ cl19.slots.size ≤ ((3 : Int32)).toNatClampNeg) := inb_of S19 ⟨by decide, by decide⟩
  obtain ⟨T20, h20, X20, e20, W20, st20⟩ := stB X15 hx hZ e15 Ar19 (j := (3 : Int32)) hin20 (g := (mkF m 31 #[.val (.ref a1), .val (.int 3), .val (.ref b1), .val (.int 3), .val (.int 4), .val (.int 3), .val (.int c3)] [(.int (c3.toInt8.toInt32)), (.int 3), (.ref b1)])) rfl rfl (hb hby d5_31)
  have O21 := O16.wr W20 pr3
  have Z21 : n0 ≤ h20.size := Nat.le_trans Z16 (Keep.of_wr W20).1
  have V20 : Arv Z h20 b1 kb .byte (4 : Int32) [(.int (nar .byte (c0.toInt8.toInt32))), (.int (nar .byte (c1.toInt8.toInt32))), (.int (nar .byte (c2.toInt8.toInt32))), (.int (nar .byte (c3.toInt8.toInt32)))] (.int 0) := Arv.set Ar19 q19 S19 N_19 Hs19 G19 (fits_nar_byte _) W20 3 rfl (Nat.le_of_ble_eq_true rfl)
  have N20 := Fr.snoc X20 N15 pr3
  refine Go.by (B := (T20.setTop (mkF m 32 #[.val (.ref a1), .val (.int 3), .val (.ref b1), .val (.int 3), .val (.int 4), .val (.int 3), .val (.int c3)] []))) st20 ?_
  refine Go.by (B := (T20.setTop (mkF m 46 #[.val (.ref a1), .val (.int 4), .val (.ref b1), .val (.int 4), .val (.int 4), .val (.int 4), .val (.int c3)] [(.int 4)]))) (fun _ k => XS.iinc X20.here hx rfl (hb hby d5_32) rfl (l' := #[.val (.ref a1), .val (.int 4), .val (.ref b1), .val (.int 3), .val (.int 4), .val (.int 3), .val (.int c3)]) rfl (XS.iinc X20.here hx rfl (hb hby d5_35) rfl (l' := #[.val (.ref a1), .val (.int 4), .val (.ref b1), .val (.int 4), .val (.int 4), .val (.int 3), .val (.int c3)]) rfl (XS.iinc X20.here hx rfl (hb hby d5_38) rfl (l' := #[.val (.ref a1), .val (.int 4), .val (.ref b1), .val (.int 4), .val (.int 4), .val (.int 4), .val (.int c3)]) rfl (XS.goto X20.here hx rfl (pc0 := 41) (pc' := 3) rfl (hb hby d5_41) (by decide) (by decide) (XS.iload X20.here hx rfl (hb hby d5_3) rfl (XS.iload X20.here hx rfl (hb hby d5_5) rfl (XS.icmpYes X20.here hx rfl (pc0 := 7) (pc' := 44) rfl (hb hby d5_7) rfl (flt (by decide : ¬ ((4 : Int32) < (4 : Int32)))).2.1 (by decide) (by decide) (XS.iload X20.here hx rfl (hb hby d5_44) rfl k)))))))) ?_
  refine Go.ret X20 hx hlk (t := .int) hret rfl (Or.inl ⟨rfl, by simp, _, rfl⟩) (hb hby d5_46) (by decide) (by decide) ?_
  rw [e20]
  exact ⟨rfl, N20, (((((Keep.refl h0 [b1]).wr W4 (Or.inl (List.mem_of_getElem? (i := 0) rfl))).wr W9 (Or.inl (List.mem_of_getElem? (i := 0) rfl))).wr W15 (Or.inl (List.mem_of_getElem? (i := 0) rfl))).wr W20 (Or.inl (List.mem_of_getElem? (i := 0) rfl))), V20⟩
theorem ef_rm_cmp3_4 (m : MethodId) (x0 : Addr) : entryFrame m #[(.ref x0), (.int 0), (.int 4)] 6 = mkF m 0 #[.val (.ref x0), .val (.int 0), .val (.int 4), .unset, .unset, .unset] [] := by first | (simp [entryFrame, mkF, argsToLocals, Value.category]; done) | rfl
theorem d4_0 : decode jdk_52_method_16_code 0 = .ok (.iload_n 2, 1) := by decide +kernel
theorem d4_1 : decode jdk_52_method_16_code 1 = .ok (.newarray .byte, 2) := by decide +kernel
theorem d4_3 : decode jdk_52_method_16_code 3 = .ok (.astore_n 3, 1) := by decide +kernel
theorem d4_4 : decode jdk_52_method_16_code 4 = .ok (.aload_n 0, 1) := by decide +kernel
theorem d4_5 : decode jdk_52_method_16_code 5 = .ok (.iload_n 1, 1) := by decide +kernel
theorem d4_6 : decode jdk_52_method_16_code 6 = .ok (.aload_n 3, 1) := by decide +kernel
theorem d4_7 : decode jdk_52_method_16_code 7 = .ok (.iconst 0, 1) := by decide +kernel
theorem d4_8 : decode jdk_52_method_16_code 8 = .ok (.iload_n 2, 1) := by decide +kernel
theorem d4_9 : decode jdk_52_method_16_code 9 = .ok (.invokestatic 115, 3) := by decide +kernel
theorem pd_0 : parseMethodDescriptor "([CI[BII)I" = some ⟨[(.array .char), .int, (.array .byte), .int, .int], some .int⟩ := by decide +kernel
theorem d4_12 : decode jdk_52_method_16_code 12 = .ok (.istore 4, 2) := by decide +kernel
theorem d4_14 : decode jdk_52_method_16_code 14 = .ok (.iload 4, 2) := by decide +kernel
theorem d4_16 : decode jdk_52_method_16_code 16 = .ok (.iload_n 2, 1) := by decide +kernel
theorem d4_17 : decode jdk_52_method_16_code 17 = .ok (.if_icmp .eq 40, 3) := by decide +kernel
theorem d4_57 : decode jdk_52_method_16_code 57 = .ok (.aload_n 3, 1) := by decide +kernel
theorem d4_58 : decode jdk_52_method_16_code 58 = .ok (.areturn, 1) := by decide +kernel
def Q_rm_cmp3_4 (Z : State) (a1 : Addr) (ka : ClassId) (c0 : Int32) (c1 : Int32) (c2 : Int32) (c3 : Int32) (h0 : Heap) (n0 : Nat) (v : Option Value) (h : Heap) (L : List Loc) : Prop := ∃ b : Addr, ∃ k : ClassId, v = some (.ref b) ∧ Fr n0 L ∧ Keep h0 h [] ∧ Arv Z h b k .byte (4 : Int32) [(.int (nar .byte (c0.toInt8.toInt32))), (.int (nar .byte (c1.toInt8.toInt32))), (.int (nar .byte (c2.toInt8.toInt32))), (.int (nar .byte (c3.toInt8.toInt32)))] (.int 0) ∧ h0.size ≤ b
set_option maxRecDepth 65536 in
set_option maxHeartbeats 40000000 in
theorem rm_cmp3_4 (l : Launch) (Z : State) (a0 : Array Value) (hw : ∀ d ∈ tables_1, d.before a0 Z = true) (ws : List Jvm.Cond) (a1 : Addr) (ka : ClassId) (c0 : Int32) (c1 : Int32) (c2 : Int32) (c3 : Int32) (h0 : Heap) (n0 : Nat) (Z0 : n0 ≤ h0.size) (pr0 : Old Z n0 h0) (pr1 : Arv Z h0 a1 ka .char (4 : Int32) [(.int c0), (.int c1), (.int c2), (.int c3)] (.int 0)) (hc0 : ¬ ((255 : Int32) < c0)) (hc1 : ¬ ((255 : Int32) < c1)) (hc2 : ¬ ((255 : Int32) < c2)) (hc3 : ¬ ((255 : Int32) < c3)) :
    Met l Z (⟨"java/lang/StringUTF16", "compress", "([CII)[B"⟩ : MethodName) jdk_52_method_16_code 6 (some (.array .byte)) ws ({ frames := 1, cells := 1, slots := 4, locals := 18 } : Room) #[(.ref a1), (.int 0), (.int 4)] h0 (Q_rm_cmp3_4 Z a1 ka c0 c1 c2 c3 h0 n0) := by
  refine Met.enter (f0 := fun m => mkF m 0 #[.val (.ref a1), .val (.int 0), .val (.int 4), .unset, .unset, .unset] []) (plainFor_of_name pn_java_lang_StringUTF16) (fun m => ef_rm_cmp3_4 m a1) ?_
  intro p e s m below meth c s₁ hx hby hml hown hnm hret hlk hZ X0 e0
  have hown : s.vm.findClass "java/lang/StringUTF16" = some m.cls := hown
  have hnm : meth.name = "compress" := hnm
  have hml : c.maxLocals = 6 := hml
  have hby : c.code = jdk_52_method_16_code := hby
  have N0 := Fr.nil n0
  refine Go.by (B := (s₁.setTop (mkF m 1 #[.val (.ref a1), .val (.int 0), .val (.int 4), .unset, .unset, .unset] [(.int 4)]))) (fun _ k => XS.iloadN X0.here hx rfl (hb hby d4_0) rfl k) ?_
  obtain ⟨T22, h22, k22, X22, e22, E22, A22, st22⟩ := newP X0 hx hZ (wd hw 19 rfl) e0 (g := (mkF m 1 #[.val (.ref a1), .val (.int 0), .val (.int 4), .unset, .unset, .unset] [(.int 4)])) rfl (hb hby d4_1) rfl (by decide) (cap := 4) (by decide) (by decide) (by decide) (by decide)
  obtain ⟨b22, g22⟩ : ∃ z, z = h0.size := ⟨_, rfl⟩
  rw [← g22] at A22 st22
  have sz_b22 : h0.size ≤ b22 := Nat.le_of_eq g22.symm
  have V22 : Arv Z h22 b22 k22 .byte (4 : Int32) [(.int 0), (.int 0), (.int 0), (.int 0)] (.int 0) := (Arv.new A22 (by decide)).pad (pad_rep [] (.int 0) 4)
  have O23 := pr0.ext E22
  have Z23 : n0 ≤ h22.size := Nat.le_trans Z0 E22.1
  refine Go.by (B := (T22.setTop (mkF m 3 #[.val (.ref a1), .val (.int 0), .val (.int 4), .unset, .unset, .unset] [(.ref b22)]))) st22 ?_
  refine Go.by (B := (T22.setTop (mkF m 9 #[.val (.ref a1), .val (.int 0), .val (.int 4), .val (.ref b22), .unset, .unset] [(.int 4), (.int 0), (.ref b22), (.int 0), (.ref a1)]))) (fun _ k => XS.astoreN X22.here hx rfl (hb hby d4_3) rfl rfl (l' := #[.val (.ref a1), .val (.int 0), .val (.int 4), .val (.ref b22), .unset, .unset]) rfl (XS.aloadN X22.here hx rfl (hb hby d4_4) rfl rfl (XS.iloadN X22.here hx rfl (hb hby d4_5) rfl (XS.aloadN X22.here hx rfl (hb hby d4_6) rfl rfl (XS.iconst X22.here hx rfl (hb hby d4_7) (XS.iloadN X22.here hx rfl (hb hby d4_8) rfl k)))))) ?_
  obtain ⟨_, _, ⟨T24, L24, k24, n24⟩, -, X24, ⟨Lc24, hQ24, l24, y24, z24⟩, st24⟩ := Jvm.LawKit.callS X22 hx (y := (⟨"java/lang/StringUTF16", "compress", "([CI[BII)I"⟩ : MethodName)) hown (mvT hZ (wd hw 20 rfl)) (mvT hZ (wd hw 21 rfl)) (mvT hZ (wd hw 17 rfl)) (mvT hZ (wd hw 22 rfl)) (by decide) (backOf (W := 0) (rm_cmp5_4 l Z a0 hw [] a1 b22 ka k22 c0 c1 c2 c3 h22 n0 Z23 O23 (pr1.ext E22) V22 (Nat.le_trans Z0 sz_b22) (Nat.ne_of_lt (Nat.lt_of_lt_of_le pr1.lt sz_b22)) hc0 hc1 hc2 hc3) hZ (wd hw 22 rfl) (wd hw 17 rfl) (by decide) (by decide)) (g := (mkF m 9 #[.val (.ref a1), .val (.int 0), .val (.int 4), .val (.ref b22), .unset, .unset] [(.int 4), (.int 0), (.ref b22), (.int 0), (.ref a1)])) rfl (by rw [hml]; rfl) (argsL := [(.ref a1), (.int 0), (.ref b22), (.int 0), (.int 4)]) (rest := []) (lenOf pd_0 rfl) rfl (by show 2 * 0 + _ ≤ _; exact Nat.le_of_eq rfl) (hb hby d4_9) (fun _ _ => ⟨rfl, e22, Nat.le_of_ble_eq_true rfl, Nat.le_of_ble_eq_true rfl⟩)
  dsimp only [Pt.U, Pt.locs, Pt.cells, Pt.slots] at X24 l24 y24 z24 st24 hQ24
  subst l24 y24 z24
  obtain ⟨rfl, Nq24, K24, p24_0⟩ := hQ24
  have N24 := Fr.app N0 Nq24
  have O25 := O23.keep K24 (allS (Nat.le_trans Z0 sz_b22) all0)
  have Z25 : n0 ≤ T24.heap.size := Nat.le_trans Z23 K24.1
  refine Go.by (B := (T24.setTop (mkF m 12 #[.val (.ref a1), .val (.int 0), .val (.int 4), .val (.ref b22), .unset, .unset] [(.int 4)]))) (fun _ k => st24 _ k) ?_
  refine Go.by (B := (T24.setTop (mkF m 58 #[.val (.ref a1), .val (.int 0), .val (.int 4), .val (.ref b22), .val (.int 4), .unset] [(.ref b22)]))) (fun _ k => XS.istore X24.here hx rfl (hb hby d4_12) rfl (l' := #[.val (.ref a1), .val (.int 0), .val (.int 4), .val (.ref b22), .val (.int 4), .unset]) rfl (XS.iload X24.here hx rfl (hb hby d4_14) rfl (XS.iloadN X24.here hx rfl (hb hby d4_16) rfl (XS.icmpYes X24.here hx rfl (pc0 := 17) (pc' := 57) rfl (hb hby d4_17) rfl (teq (by decide : (4 : Int32) = (4 : Int32))).1 (by decide) (by decide) (XS.aloadN X24.here hx rfl (hb hby d4_57) rfl rfl k))))) ?_
  refine Go.ret X24 hx hlk (t := (.array .byte)) hret rfl (Or.inr (Or.inr (Or.inr (Or.inr ⟨rfl, rfl, rfl⟩)))) (hb hby d4_58) (by decide) (by decide) ?_
  exact ⟨b22, k22, rfl, N24, (((Keep.refl h0 []).ext E22).trans K24 (allS (Or.inr (Nat.le_trans (Nat.le_refl _) sz_b22)) all0)), p24_0, (Nat.le_trans (Nat.le_refl _) sz_b22)⟩
theorem ef_rm_cfal_4 (m : MethodId) (x0 : Addr) : entryFrame m #[(.ref x0), (.int 4)] 2 = mkF m 0 #[.val (.ref x0), .val (.int 4)] [] := by first | (simp [entryFrame, mkF, argsToLocals, Value.category]; done) | rfl
theorem d6_0 : decode jdk_52_method_15_code 0 = .ok (.iload_n 1, 1) := by decide +kernel
theorem d6_1 : decode jdk_52_method_15_code 1 = .ok (.aload_n 0, 1) := by decide +kernel
theorem d6_2 : decode jdk_52_method_15_code 2 = .ok (.arraylength, 1) := by decide +kernel
theorem d6_3 : decode jdk_52_method_15_code 3 = .ok (.isub, 1) := by decide +kernel
theorem d6_4 : decode jdk_52_method_15_code 4 = .ok (.bipush 31, 2) := by decide +kernel
theorem d6_6 : decode jdk_52_method_15_code 6 = .ok (.iushr, 1) := by decide +kernel
theorem d6_7 : decode jdk_52_method_15_code 7 = .ok (.i2b, 1) := by decide +kernel
theorem d6_8 : decode jdk_52_method_15_code 8 = .ok (.ireturn, 1) := by decide +kernel
def Q_rm_cfal_4 (Z : State) (b1 : Addr) (kb : ClassId) (c0 : Int32) (c1 : Int32) (c2 : Int32) (c3 : Int32) (h0 : Heap) (n0 : Nat) (v : Option Value) (h : Heap) (L : List Loc) : Prop := v = some (.int 0) ∧ Fr n0 L ∧ h = h0
set_option maxRecDepth 65536 in
set_option maxHeartbeats 40000000 in
theorem rm_cfal_4 (l : Launch) (Z : State) (a0 : Array Value) (hw : ∀ d ∈ tables_1, d.before a0 Z = true) (ws : List Jvm.Cond) (b1 : Addr) (kb : ClassId) (c0 : Int32) (c1 : Int32) (c2 : Int32) (c3 : Int32) (h0 : Heap) (n0 : Nat) (Z0 : n0 ≤ h0.size) (pr0 : Arv Z h0 b1 kb .byte (4 : Int32) [(.int (nar .byte (c0.toInt8.toInt32))), (.int (nar .byte (c1.toInt8.toInt32))), (.int (nar .byte (c2.toInt8.toInt32))), (.int (nar .byte (c3.toInt8.toInt32)))] (.int 0)) :
    Met l Z (⟨"java/lang/StringUTF16", "coderFromArrayLen", "([BI)B"⟩ : MethodName) jdk_52_method_15_code 2 (some .byte) ws ({ frames := 0, cells := 0, slots := 0, locals := 0 } : Room) #[(.ref b1), (.int 4)] h0 (Q_rm_cfal_4 Z b1 kb c0 c1 c2 c3 h0 n0) := by
  refine Met.enter (f0 := fun m => mkF m 0 #[.val (.ref b1), .val (.int 4)] []) (plainFor_of_name pn_java_lang_StringUTF16) (fun m => ef_rm_cfal_4 m b1) ?_
  intro p e s m below meth c s₁ hx hby hml hown hnm hret hlk hZ X0 e0
  have hown : s.vm.findClass "java/lang/StringUTF16" = some m.cls := hown
  have hnm : meth.name = "coderFromArrayLen" := hnm
  have hml : c.maxLocals = 2 := hml
  have hby : c.code = jdk_52_method_15_code := hby
  have N0 := Fr.nil n0
  refine Go.by (B := (s₁.setTop (mkF m 2 #[.val (.ref b1), .val (.int 4)] [(.ref b1), (.int 4)]))) (fun _ k => XS.iloadN X0.here hx rfl (hb hby d6_0) rfl (XS.aloadN X0.here hx rfl (hb hby d6_1) rfl rfl k)) ?_
  obtain ⟨cl26, Ar26, q26, S26, N_26, Hs26, G26⟩ := id pr0
  refine Go.by (B := (s₁.setTop (mkF m 3 #[.val (.ref b1), .val (.int 4)] [(.int 4), (.int 4)]))) (fun _ k => X0.arraylength hx (by rw [e0]; exact Ar26.1) (State.isArrayOf_alike hZ.alike Ar26.2.1) (g := (mkF m 2 #[.val (.ref b1), .val (.int 4)] [(.ref b1), (.int 4)])) rfl rfl (hb hby d6_2) _ (by rw [len_of S26 N_26]; exact k)) ?_
  refine Go.by (B := (s₁.setTop (mkF m 8 #[.val (.ref b1), .val (.int 4)] [(.int 0)]))) (fun _ k => XS.isub X0.here hx rfl (hb hby d6_3) rfl (XS.bipush X0.here hx rfl (hb hby d6_4) (XS.iushr X0.here hx rfl (hb hby d6_6) rfl (XS.i2b X0.here hx rfl (hb hby d6_7) rfl k)))) ?_
  refine Go.ret X0 hx hlk (t := .byte) hret rfl (Or.inl ⟨rfl, by simp, _, rfl⟩) (hb hby d6_8) (by decide) (by decide) ?_
  rw [e0]
  exact ⟨rfl, N0, rfl⟩
theorem ef_rm_sV_4 (m : MethodId) (x0 : Addr) (x1 : Addr) : entryFrame m #[(.ref x0), (.ref x1), (.int 0), (.int 4), .null] 6 = mkF m 0 #[.val (.ref x0), .val (.ref x1), .val (.int 0), .val (.int 4), .val .null, .unset] [] := by first | (simp [entryFrame, mkF, argsToLocals, Value.category]; done) | rfl
theorem d2_0 : decode jdk_42_method_149_code 0 = .ok (.aload_n 0, 1) := by decide +kernel
theorem d2_1 : decode jdk_42_method_149_code 1 = .ok (.invokespecial 1, 3) := by decide +kernel
theorem d2_4 : decode jdk_42_method_149_code 4 = .ok (.iload_n 3, 1) := by decide +kernel
theorem d2_5 : decode jdk_42_method_149_code 5 = .ok (.ifCond .ne 22, 3) := by decide +kernel
theorem d2_27 : decode jdk_42_method_149_code 27 = .ok (.getstatic 38, 3) := by decide +kernel
theorem d2_30 : decode jdk_42_method_149_code 30 = .ok (.ifCond .eq 28, 3) := by decide +kernel
theorem d2_33 : decode jdk_42_method_149_code 33 = .ok (.aload_n 1, 1) := by decide +kernel
theorem d2_34 : decode jdk_42_method_149_code 34 = .ok (.iload_n 2, 1) := by decide +kernel
theorem d2_35 : decode jdk_42_method_149_code 35 = .ok (.iload_n 3, 1) := by decide +kernel
theorem d2_36 : decode jdk_42_method_149_code 36 = .ok (.invokestatic 177, 3) := by decide +kernel
theorem pd_1 : parseMethodDescriptor "([CII)[B" = some ⟨[(.array .char), .int, .int], some (.array .byte)⟩ := by decide +kernel
theorem d2_39 : decode jdk_42_method_149_code 39 = .ok (.astore 5, 2) := by decide +kernel
theorem d2_41 : decode jdk_42_method_149_code 41 = .ok (.aload_n 0, 1) := by decide +kernel
theorem d2_42 : decode jdk_42_method_149_code 42 = .ok (.aload 5, 2) := by decide +kernel
theorem d2_44 : decode jdk_42_method_149_code 44 = .ok (.iload_n 3, 1) := by decide +kernel
theorem d2_45 : decode jdk_42_method_149_code 45 = .ok (.invokestatic 47, 3) := by decide +kernel
theorem pd_2 : parseMethodDescriptor "([BI)B" = some ⟨[(.array .byte), .int], some .byte⟩ := by decide +kernel
theorem d2_48 : decode jdk_42_method_149_code 48 = .ok (.putfield 15, 3) := by decide +kernel
theorem d2_51 : decode jdk_42_method_149_code 51 = .ok (.aload_n 0, 1) := by decide +kernel
theorem d2_52 : decode jdk_42_method_149_code 52 = .ok (.aload 5, 2) := by decide +kernel
theorem d2_54 : decode jdk_42_method_149_code 54 = .ok (.putfield 9, 3) := by decide +kernel
theorem d2_57 : decode jdk_42_method_149_code 57 = .ok (.return_, 1) := by decide +kernel
theorem pn_java_lang_String : plainName "java/lang/String" = true := by first | (simp [plainName, overriddenIn]; done) | decide +kernel
def Q_rm_sV_4 (Z : State) (a1 : Addr) (v1 : Addr) (ka : ClassId) (c0 : Int32) (c1 : Int32) (c2 : Int32) (c3 : Int32) (cs : Int32) (h0 : Heap) (n0 : Nat) (v : Option Value) (h : Heap) (L : List Loc) : Prop := ∃ t : Addr, ∃ k : ClassId, v = none ∧ Fr n0 L ∧ Keep h0 h [a1] ∧ Exa Z h a1 "java/lang/String" ∧ Fld Z h a1 "java/lang/String" "value" "[B" (.ref t) ∧ Fld Z h a1 "java/lang/String" "coder" "B" (.int 0) ∧ Arv Z h t k .byte (4 : Int32) [(.int (nar .byte (c0.toInt8.toInt32))), (.int (nar .byte (c1.toInt8.toInt32))), (.int (nar .byte (c2.toInt8.toInt32))), (.int (nar .byte (c3.toInt8.toInt32)))] (.int 0) ∧ h0.size ≤ t
set_option maxRecDepth 65536 in
set_option maxHeartbeats 40000000 in
theorem rm_sV_4 (l : Launch) (Z : State) (a0 : Array Value) (hw : ∀ d ∈ tables_1, d.before a0 Z = true) (ws : List Jvm.Cond) (a1 : Addr) (v1 : Addr) (ka : ClassId) (c0 : Int32) (c1 : Int32) (c2 : Int32) (c3 : Int32) (cs : Int32) (h0 : Heap) (n0 : Nat) (Z0 : n0 ≤ h0.size) (pr0 : Old Z n0 h0) (pr1 : Sta Z Z.heap "java/lang/String" "COMPACT_STRINGS" "Z" (.int cs)) (hcs : ¬ (cs = (0 : Int32))) (pr3 : Exa Z h0 a1 "java/lang/String") (pr4 : Fld Z h0 a1 "java/lang/String" "value" "[B" .null) (pr5 : Fld Z h0 a1 "java/lang/String" "coder" "B" (.int 0)) (pr6 : n0 ≤ a1) (pr7 : Arv Z h0 v1 ka .char (4 : Int32) [(.int c0), (.int c1), (.int c2), (.int c3)] (.int 0)) (hc0 : ¬ ((255 : Int32) < c0)) (hc1 : ¬ ((255 : Int32) < c1)) (hc2 : ¬ ((255 : Int32) < c2)) (hc3 : ¬ ((255 : Int32) < c3)) :
    Met l Z (⟨"java/lang/String", "<init>", "([CIILjava/lang/Void;)V"⟩ : MethodName) jdk_42_method_149_code 6 none ws ({ frames := 2, cells := 1, slots := 4, locals := 35 } : Room) #[(.ref a1), (.ref v1), (.int 0), (.int 4), .null] h0 (Q_rm_sV_4 Z a1 v1 ka c0 c1 c2 c3 cs h0 n0) := by
  refine Met.enter (f0 := fun m => mkF m 0 #[.val (.ref a1), .val (.ref v1), .val (.int 0), .val (.int 4), .val .null, .unset] []) (plainFor_of_name pn_java_lang_String) (fun m => ef_rm_sV_4 m a1 v1) ?_
  intro p e s m below meth c s₁ hx hby hml hown hnm hret hlk hZ X0 e0
  have hown : s.vm.findClass "java/lang/String" = some m.cls := hown
  have hnm : meth.name = "<init>" := hnm
  have hml : c.maxLocals = 6 := hml
  have hby : c.code = jdk_42_method_149_code := hby
  have N0 := Fr.nil n0
  refine Go.by (B := (s₁.setTop (mkF m 1 #[.val (.ref a1), .val (.ref v1), .val (.int 0), .val (.int 4), .val .null, .unset] [(.ref a1)]))) (fun _ k => XS.aloadN X0.here hx rfl (hb hby d2_0) rfl rfl k) ?_
  obtain ⟨T27, X27, e27, st27⟩ := initO X0 hx hZ hown (wd hw 11 rfl) (wd hw 12 rfl) (wd hw 13 rfl) e0 (g := (mkF m 1 #[.val (.ref a1), .val (.ref v1), .val (.int 0), .val (.int 4), .val .null, .unset] [(.ref a1)])) rfl (by rw [hml]; rfl) rfl (hb hby d2_1) (by decide) (W := 0) (by show 2 * 0 + _ ≤ _; exact Nat.le_of_eq rfl) (by decide)
  refine Go.by (B := (T27.setTop (mkF m 4 #[.val (.ref a1), .val (.ref v1), .val (.int 0), .val (.int 4), .val .null, .unset] []))) st27 ?_
  refine Go.by (B := (T27.setTop (mkF m 27 #[.val (.ref a1), .val (.ref v1), .val (.int 0), .val (.int 4), .val .null, .unset] []))) (fun _ k => XS.iloadN X27.here hx rfl (hb hby d2_4) rfl (XS.ifYes X27.here hx rfl (pc0 := 5) (pc' := 27) rfl (hb hby d2_5) rfl ((if0 _ _).trans (feq (by decide : ¬ ((4 : Int32) = (0 : Int32)))).2) (by decide) (by decide) k)) ?_
  obtain ⟨T28, X28, e28, st28⟩ := getS2 X27 hx hZ hown (host := "") (Or.inl (wd hw 14 rfl)) Via.refl e27 (pr1.ext pr0.2) (g := (mkF m 27 #[.val (.ref a1), .val (.ref v1), .val (.int 0), .val (.int 4), .val .null, .unset] [])) rfl (hb hby d2_27)
  refine Go.by (B := (T28.setTop (mkF m 30 #[.val (.ref a1), .val (.ref v1), .val (.int 0), .val (.int 4), .val .null, .unset] [(.int cs)]))) st28 ?_
  refine Go.by (B := (T28.setTop (mkF m 36 #[.val (.ref a1), .val (.ref v1), .val (.int 0), .val (.int 4), .val .null, .unset] [(.int 4), (.int 0), (.ref v1)]))) (fun _ k => XS.ifNo X28.here hx rfl (hb hby d2_30) rfl ((if0 _ _).trans (feq hcs).1) (XS.aloadN X28.here hx rfl (hb hby d2_33) rfl rfl (XS.iloadN X28.here hx rfl (hb hby d2_34) rfl (XS.iloadN X28.here hx rfl (hb hby d2_35) rfl k)))) ?_
  obtain ⟨_, _, ⟨T29, L29, k29, n29⟩, -, X29, ⟨Lc29, hQ29, l29, y29, z29⟩, st29⟩ := Jvm.LawKit.callS X28 hx (y := (⟨"java/lang/StringUTF16", "compress", "([CII)[B"⟩ : MethodName)) hown (mvT hZ (wd hw 15 rfl)) (mvT hZ (wd hw 16 rfl)) (mvT hZ (wd hw 17 rfl)) (mvT hZ (wd hw 18 rfl)) (by decide) (backOf (W := 0) (rm_cmp3_4 l Z a0 hw [] v1 ka c0 c1 c2 c3 h0 n0 Z0 pr0 pr7 hc0 hc1 hc2 hc3) hZ (wd hw 18 rfl) (wd hw 17 rfl) (by decide) (by decide)) (g := (mkF m 36 #[.val (.ref a1), .val (.ref v1), .val (.int 0), .val (.int 4), .val .null, .unset] [(.int 4), (.int 0), (.ref v1)])) rfl (by rw [hml]; rfl) (argsL := [(.ref v1), (.int 0), (.int 4)]) (rest := []) (lenOf pd_1 rfl) rfl (by show 2 * 0 + _ ≤ _; exact Nat.le_of_eq rfl) (hb hby d2_36) (fun _ _ => ⟨rfl, e28, Nat.le_of_ble_eq_true rfl, Nat.le_of_ble_eq_true rfl⟩)
  dsimp only [Pt.U, Pt.locs, Pt.cells, Pt.slots] at X29 l29 y29 z29 st29 hQ29
  subst l29 y29 z29
  obtain ⟨b29, k29, rfl, Nq29, K29, p29_0, p29_1⟩ := hQ29
  have N29 := Fr.app N0 Nq29
  have O30 := pr0.keep K29 all0
  have Z30 : n0 ≤ T29.heap.size := Nat.le_trans Z0 K29.1
  have sz_b29 : h0.size ≤ b29 := p29_1
  refine Go.by (B := (T29.setTop (mkF m 39 #[.val (.ref a1), .val (.ref v1), .val (.int 0), .val (.int 4), .val .null, .unset] [(.ref b29)]))) (fun _ k => st29 _ k) ?_
  refine Go.by (B := (T29.setTop (mkF m 45 #[.val (.ref a1), .val (.ref v1), .val (.int 0), .val (.int 4), .val .null, .val (.ref b29)] [(.int 4), (.ref b29), (.ref a1)]))) (fun _ k => XS.astore X29.here hx rfl (hb hby d2_39) rfl rfl (l' := #[.val (.ref a1), .val (.ref v1), .val (.int 0), .val (.int 4), .val .null, .val (.ref b29)]) rfl (XS.aloadN X29.here hx rfl (hb hby d2_41) rfl rfl (XS.aload X29.here hx rfl (hb hby d2_42) rfl rfl (XS.iloadN X29.here hx rfl (hb hby d2_44) rfl k)))) ?_
  obtain ⟨_, _, ⟨T31, L31, k31, n31⟩, -, X31, ⟨Lc31, hQ31, l31, y31, z31⟩, st31⟩ := Jvm.LawKit.callS X29 hx (y := (⟨"java/lang/StringUTF16", "coderFromArrayLen", "([BI)B"⟩ : MethodName)) hown (mvT hZ (wd hw 23 rfl)) (mvT hZ (wd hw 24 rfl)) (mvT hZ (wd hw 17 rfl)) (mvT hZ (wd hw 25 rfl)) (by decide) (backOf (W := 1) (rm_cfal_4 l Z a0 hw [] b29 k29 c0 c1 c2 c3 T29.heap n0 Z30 p29_0) hZ (wd hw 25 rfl) (wd hw 17 rfl) (by decide) (by decide)) (g := (mkF m 45 #[.val (.ref a1), .val (.ref v1), .val (.int 0), .val (.int 4), .val .null, .val (.ref b29)] [(.int 4), (.ref b29), (.ref a1)])) rfl (by rw [hml]; rfl) (argsL := [(.ref b29), (.int 4)]) (rest := [(.ref a1)]) (lenOf pd_2 rfl) rfl (by show 2 * 0 + _ ≤ _; exact Nat.le_of_eq rfl) (hb hby d2_45) (fun _ _ => ⟨rfl, rfl, Nat.le_of_ble_eq_true rfl, Nat.le_of_ble_eq_true rfl⟩)
  dsimp only [Pt.U, Pt.locs, Pt.cells, Pt.slots] at X31 l31 y31 z31 st31 hQ31
  subst l31 y31 z31
  obtain ⟨rfl, Nq31, hh31⟩ := hQ31
  have N31 := Fr.app N29 Nq31
  refine Go.by (B := (T31.setTop (mkF m 48 #[.val (.ref a1), .val (.ref v1), .val (.int 0), .val (.int 4), .val .null, .val (.ref b29)] [(.int 0), (.ref a1)]))) (fun _ k => st31 _ k) ?_
  obtain ⟨T32, h32, X32, e32, W32, st32⟩ := putFN X31 hx hZ hown (wd hw 26 rfl) Via.refl hh31 (pr5.keep K29 nin0) (pr3.keep K29) (Or.inr ⟨(wd hw 27 rfl), rfl, hnm⟩) (wd hw 1 rfl) (ty := .byte) (v' := (.int 0)) (by decide) rfl rfl (g := (mkF m 48 #[.val (.ref a1), .val (.ref v1), .val (.int 0), .val (.int 4), .val .null, .val (.ref b29)] [(.int 0), (.ref a1)])) rfl rfl (hb hby d2_48)
  have N32 := Fr.snoc X32 N31 pr6
  have O33 := O30.wr W32 pr6
  have Z33 : n0 ≤ h32.size := Nat.le_trans Z30 (Keep.of_wr W32).1
  have F32 := (pr5.keep K29 nin0).same W32
  refine Go.by (B := (T32.setTop (mkF m 51 #[.val (.ref a1), .val (.ref v1), .val (.int 0), .val (.int 4), .val .null, .val (.ref b29)] []))) st32 ?_
  refine Go.by (B := (T32.setTop (mkF m 54 #[.val (.ref a1), .val (.ref v1), .val (.int 0), .val (.int 4), .val .null, .val (.ref b29)] [(.ref b29), (.ref a1)]))) (fun _ k => XS.aloadN X32.here hx rfl (hb hby d2_51) rfl rfl (XS.aload X32.here hx rfl (hb hby d2_52) rfl rfl k)) ?_
  have f34 := ((pr4.keep K29 nin0).other W32 (Or.inr (slot_ne (Or.inr (wd hw 29 rfl)) (Or.inr (wd hw 27 rfl)) (by decide) (t := (.array .byte)) (t' := .byte) (by decide) (by decide))))
  obtain ⟨T35, h35, X35, e35, W35, st35⟩ := putF X32 hx hZ hown (host := "") (Or.inl (wd hw 28 rfl)) Via.refl e32 f34 ((pr3.keep K29).wr W32) (Or.inr ⟨(wd hw 29 rfl), rfl, hnm⟩) (wd hw 1 rfl) (ty := (.array .byte)) (by decide) rfl rfl (g := (mkF m 54 #[.val (.ref a1), .val (.ref v1), .val (.int 0), .val (.int 4), .val .null, .val (.ref b29)] [(.ref b29), (.ref a1)])) rfl rfl (hb hby d2_54)
  have N35 := Fr.snoc X35 N32 pr6
  have O36 := O33.wr W35 pr6
  have Z36 : n0 ≤ h35.size := Nat.le_trans Z33 (Keep.of_wr W35).1
  have F35 := f34.same W35
  refine Go.by (B := (T35.setTop (mkF m 57 #[.val (.ref a1), .val (.ref v1), .val (.int 0), .val (.int 4), .val .null, .val (.ref b29)] []))) st35 ?_
  refine Go.retV X35 hx hlk hret (hb hby d2_57) (by decide) (by decide) ?_
  rw [e35]
  exact ⟨b29, k29, rfl, N35, ((((Keep.refl h0 [a1]).trans K29 all0).wr W32 (Or.inl (List.mem_of_getElem? (i := 0) rfl))).wr W35 (Or.inl (List.mem_of_getElem? (i := 0) rfl))), (((pr3.keep K29).wr W32).wr W35), F35, (F32.other W35 (Or.inr (slot_ne (Or.inr (wd hw 27 rfl)) (Or.inr (wd hw 29 rfl)) (by decide) (t := .byte) (t' := (.array .byte)) (by decide) (by decide)))), ((p29_0.other W32 (Ne.symm (Nat.ne_of_lt (Nat.lt_of_lt_of_le pr3.lt sz_b29)))).other W35 (Ne.symm (Nat.ne_of_lt (Nat.lt_of_lt_of_le pr3.lt sz_b29)))), (Nat.le_trans (Nat.le_refl _) sz_b29)⟩
theorem ef_rm_sC_4 (m : MethodId) (x0 : Addr) (x1 : Addr) : entryFrame m #[(.ref x0), (.ref x1)] 2 = mkF m 0 #[.val (.ref x0), .val (.ref x1)] [] := by first | (simp [entryFrame, mkF, argsToLocals, Value.category]; done) | rfl
theorem d1_0 : decode jdk_42_method_3_code 0 = .ok (.aload_n 0, 1) := by decide +kernel
theorem d1_1 : decode jdk_42_method_3_code 1 = .ok (.aload_n 1, 1) := by decide +kernel
theorem d1_2 : decode jdk_42_method_3_code 2 = .ok (.iconst 0, 1) := by decide +kernel
theorem d1_3 : decode jdk_42_method_3_code 3 = .ok (.aload_n 1, 1) := by decide +kernel
theorem d1_4 : decode jdk_42_method_3_code 4 = .ok (.arraylength, 1) := by decide +kernel
theorem d1_5 : decode jdk_42_method_3_code 5 = .ok (.aconst_null, 1) := by decide +kernel
theorem d1_6 : decode jdk_42_method_3_code 6 = .ok (.invokespecial 27, 3) := by decide +kernel
theorem pd_3 : parseMethodDescriptor "([CIILjava/lang/Void;)V" = some ⟨[(.array .char), .int, .int, (.object "java/lang/Void")], none⟩ := by decide +kernel
theorem d1_9 : decode jdk_42_method_3_code 9 = .ok (.return_, 1) := by decide +kernel
def Q_rm_sC_4 (Z : State) (a1 : Addr) (v1 : Addr) (ka : ClassId) (c0 : Int32) (c1 : Int32) (c2 : Int32) (c3 : Int32) (cs : Int32) (h0 : Heap) (n0 : Nat) (v : Option Value) (h : Heap) (L : List Loc) : Prop := ∃ t : Addr, ∃ k : ClassId, v = none ∧ Fr n0 L ∧ Keep h0 h [a1] ∧ Exa Z h a1 "java/lang/String" ∧ Fld Z h a1 "java/lang/String" "value" "[B" (.ref t) ∧ Fld Z h a1 "java/lang/String" "coder" "B" (.int 0) ∧ Arv Z h t k .byte (4 : Int32) [(.int (nar .byte (c0.toInt8.toInt32))), (.int (nar .byte (c1.toInt8.toInt32))), (.int (nar .byte (c2.toInt8.toInt32))), (.int (nar .byte (c3.toInt8.toInt32)))] (.int 0) ∧ h0.size ≤ t
set_option maxRecDepth 65536 in
set_option maxHeartbeats 40000000 in
theorem rm_sC_4 (l : Launch) (Z : State) (a0 : Array Value) (hw : ∀ d ∈ tables_1, d.before a0 Z = true) (ws : List Jvm.Cond) (a1 : Addr) (v1 : Addr) (ka : ClassId) (c0 : Int32) (c1 : Int32) (c2 : Int32) (c3 : Int32) (cs : Int32) (h0 : Heap) (n0 : Nat) (Z0 : n0 ≤ h0.size) (pr0 : Old Z n0 h0) (pr1 : Sta Z Z.heap "java/lang/String" "COMPACT_STRINGS" "Z" (.int cs)) (hcs : ¬ (cs = (0 : Int32))) (pr3 : Exa Z h0 a1 "java/lang/String") (pr4 : Fld Z h0 a1 "java/lang/String" "value" "[B" .null) (pr5 : Fld Z h0 a1 "java/lang/String" "coder" "B" (.int 0)) (pr6 : n0 ≤ a1) (pr7 : Arv Z h0 v1 ka .char (4 : Int32) [(.int c0), (.int c1), (.int c2), (.int c3)] (.int 0)) (hc0 : ¬ ((255 : Int32) < c0)) (hc1 : ¬ ((255 : Int32) < c1)) (hc2 : ¬ ((255 : Int32) < c2)) (hc3 : ¬ ((255 : Int32) < c3)) :
    Met l Z (⟨"java/lang/String", "<init>", "([C)V"⟩ : MethodName) jdk_42_method_3_code 2 none ws ({ frames := 3, cells := 1, slots := 4, locals := 52 } : Room) #[(.ref a1), (.ref v1)] h0 (Q_rm_sC_4 Z a1 v1 ka c0 c1 c2 c3 cs h0 n0) := by
  refine Met.enter (f0 := fun m => mkF m 0 #[.val (.ref a1), .val (.ref v1)] []) (plainFor_of_name pn_java_lang_String) (fun m => ef_rm_sC_4 m a1 v1) ?_
  intro p e s m below meth c s₁ hx hby hml hown hnm hret hlk hZ X0 e0
  have hown : s.vm.findClass "java/lang/String" = some m.cls := hown
  have hnm : meth.name = "<init>" := hnm
  have hml : c.maxLocals = 2 := hml
  have hby : c.code = jdk_42_method_3_code := hby
  have N0 := Fr.nil n0
  refine Go.by (B := (s₁.setTop (mkF m 4 #[.val (.ref a1), .val (.ref v1)] [(.ref v1), (.int 0), (.ref v1), (.ref a1)]))) (fun _ k => XS.aloadN X0.here hx rfl (hb hby d1_0) rfl rfl (XS.aloadN X0.here hx rfl (hb hby d1_1) rfl rfl (XS.iconst X0.here hx rfl (hb hby d1_2) (XS.aloadN X0.here hx rfl (hb hby d1_3) rfl rfl k)))) ?_
  obtain ⟨cl37, Ar37, q37, S37, N_37, Hs37, G37⟩ := id pr7
  refine Go.by (B := (s₁.setTop (mkF m 5 #[.val (.ref a1), .val (.ref v1)] [(.int 4), (.int 0), (.ref v1), (.ref a1)]))) (fun _ k => X0.arraylength hx (by rw [e0]; exact Ar37.1) (State.isArrayOf_alike hZ.alike Ar37.2.1) (g := (mkF m 4 #[.val (.ref a1), .val (.ref v1)] [(.ref v1), (.int 0), (.ref v1), (.ref a1)])) rfl rfl (hb hby d1_4) _ (by rw [len_of S37 N_37]; exact k)) ?_
  refine Go.by (B := (s₁.setTop (mkF m 6 #[.val (.ref a1), .val (.ref v1)] [.null, (.int 4), (.int 0), (.ref v1), (.ref a1)]))) (fun _ k => XS.aconstNull X0.here hx rfl (hb hby d1_5) k) ?_
  obtain ⟨_, _, ⟨T38, L38, k38, n38⟩, -, X38, ⟨Lc38, hQ38, l38, y38, z38⟩, st38⟩ := X0.specialBack hx (y := (⟨"java/lang/String", "<init>", "([CIILjava/lang/Void;)V"⟩ : MethodName)) rfl hown (mvT hZ (wd hw 7 rfl)) (mvT hZ (wd hw 8 rfl)) (mvT hZ (wd hw 10 rfl)) (by decide) (backOf (W := 0) (rm_sV_4 l Z a0 hw [] a1 v1 ka c0 c1 c2 c3 cs h0 n0 Z0 pr0 pr1 hcs pr3 pr4 pr5 pr6 pr7 hc0 hc1 hc2 hc3) hZ (wd hw 10 rfl) (wd hw 2 rfl) (by decide) (by decide)) (g := (mkF m 6 #[.val (.ref a1), .val (.ref v1)] [.null, (.int 4), (.int 0), (.ref v1), (.ref a1)])) rfl (by rw [hml]; rfl) (Steps.refl _) (a := a1) (argsL := [(.ref v1), (.int 0), (.int 4), .null]) (rest := []) (lenOf pd_3 rfl) rfl (by show 2 * 0 + _ ≤ _; exact Nat.le_of_eq rfl) (hb hby d1_6) (fun _ _ => ⟨rfl, e0, Nat.le_of_ble_eq_true rfl, Nat.le_of_ble_eq_true rfl⟩)
  dsimp only [Pt.U, Pt.locs, Pt.cells, Pt.slots] at X38 l38 y38 z38 st38 hQ38
  subst l38 y38 z38
  obtain ⟨t38, k38, rfl, Nq38, K38, p38_0, p38_1, p38_2, p38_3, p38_4⟩ := hQ38
  have N38 := Fr.app N0 Nq38
  have O39 := pr0.keep K38 (allS pr6 all0)
  have Z39 : n0 ≤ T38.heap.size := Nat.le_trans Z0 K38.1
  have sz_t38 : h0.size ≤ t38 := p38_4
  refine Go.by (B := (T38.setTop (mkF m 9 #[.val (.ref a1), .val (.ref v1)] []))) (fun _ k => st38.trans k) ?_
  refine Go.retV X38 hx hlk hret (hb hby d1_9) (by decide) (by decide) ?_
  exact ⟨t38, k38, rfl, N38, ((Keep.refl h0 [a1]).trans K38 (allS (Or.inl (List.mem_of_getElem? (i := 0) rfl)) all0)), p38_0, p38_1, p38_2, p38_3, (Nat.le_trans (Nat.le_refl _) sz_t38)⟩
theorem ef_rm_cmp5_5 (m : MethodId) (x0 : Addr) (x2 : Addr) : entryFrame m #[(.ref x0), (.int 0), (.ref x2), (.int 0), (.int 5)] 7 = mkF m 0 #[.val (.ref x0), .val (.int 0), .val (.ref x2), .val (.int 0), .val (.int 5), .unset, .unset] [] := by first | (simp [entryFrame, mkF, argsToLocals, Value.category]; done) | rfl
def Q_rm_cmp5_5 (Z : State) (a1 : Addr) (b1 : Addr) (ka : ClassId) (kb : ClassId) (c0 : Int32) (c1 : Int32) (c2 : Int32) (c3 : Int32) (c4 : Int32) (h0 : Heap) (n0 : Nat) (v : Option Value) (h : Heap) (L : List Loc) : Prop := v = some (.int 5) ∧ Fr n0 L ∧ Keep h0 h [b1] ∧ Arv Z h b1 kb .byte (5 : Int32) [(.int (nar .byte (c0.toInt8.toInt32))), (.int (nar .byte (c1.toInt8.toInt32))), (.int (nar .byte (c2.toInt8.toInt32))), (.int (nar .byte (c3.toInt8.toInt32))), (.int (nar .byte (c4.toInt8.toInt32)))] (.int 0)
set_option maxRecDepth 65536 in
set_option maxHeartbeats 40000000 in
theorem rm_cmp5_5 (l : Launch) (Z : State) (a0 : Array Value) (hw : ∀ d ∈ tables_1, d.before a0 Z = true) (ws : List Jvm.Cond) (a1 : Addr) (b1 : Addr) (ka : ClassId) (kb : ClassId) (c0 : Int32) (c1 : Int32) (c2 : Int32) (c3 : Int32) (c4 : Int32) (h0 : Heap) (n0 : Nat) (Z0 : n0 ≤ h0.size) (pr0 : Old Z n0 h0) (pr1 : Arv Z h0 a1 ka .char (5 : Int32) [(.int c0), (.int c1), (.int c2), (.int c3), (.int c4)] (.int 0)) (pr2 : Arv Z h0 b1 kb .byte (5 : Int32) [(.int 0), (.int 0), (.int 0), (.int 0), (.int 0)] (.int 0)) (pr3 : n0 ≤ b1) (pr4 : a1 ≠ b1) (hc0 : ¬ ((255 : Int32) < c0)) (hc1 : ¬ ((255 : Int32) < c1)) (hc2 : ¬ ((255 : Int32) < c2)) (hc3 : ¬ ((255 : Int32) < c3)) (hc4 : ¬ ((255 : Int32) < c4)) :
    Met l Z (⟨"java/lang/StringUTF16", "compress", "([CI[BII)I"⟩ : MethodName) jdk_52_method_21_code 7 (some .int) ws ({ frames := 0, cells := 0, slots := 0, locals := 0 } : Room) #[(.ref a1), (.int 0), (.ref b1), (.int 0), (.int 5)] h0 (Q_rm_cmp5_5 Z a1 b1 ka kb c0 c1 c2 c3 c4 h0 n0) := by
  refine Met.enter (f0 := fun m => mkF m 0 #[.val (.ref a1), .val (.int 0), .val (.ref b1), .val (.int 0), .val (.int 5), .unset, .unset] []) (plainFor_of_name pn_java_lang_StringUTF16) (fun m => ef_rm_cmp5_5 m a1 b1) ?_
  intro p e s m below meth c s₁ hx hby hml hown hnm hret hlk hZ X0 e0
  have hown : s.vm.findClass "java/lang/StringUTF16" = some m.cls := hown
  have hnm : meth.name = "compress" := hnm
  have hml : c.maxLocals = 7 := hml
  have hby : c.code = jdk_52_method_21_code := hby
  have N0 := Fr.nil n0
  refine Go.by (B := (s₁.setTop (mkF m 12 #[.val (.ref a1), .val (.int 0), .val (.ref b1), .val (.int 0), .val (.int 5), .val (.int 0), .unset] [(.int 0), (.ref a1)]))) (fun _ k => XS.iconst X0.here hx rfl (hb hby d5_0) (XS.istore X0.here hx rfl (hb hby d5_1) rfl (l' := #[.val (.ref a1), .val (.int 0), .val (.ref b1), .val (.int 0), .val (.int 5), .val (.int 0), .unset]) rfl (XS.iload X0.here hx rfl (hb hby d5_3) rfl (XS.iload X0.here hx rfl (hb hby d5_5) rfl (XS.icmpNo X0.here hx rfl (hb hby d5_7) rfl (tlt (by decide : (0 : Int32) < (5 : Int32))).2.1 (XS.aloadN X0.here hx rfl (hb hby d5_10) rfl rfl (XS.iloadN X0.here hx rfl (hb hby d5_11) rfl k))))))) ?_
  obtain ⟨cl40, Ar40, q40, S40, N_40, Hs40, G40⟩ := id pr1
  have hin41 : ¬ ((0 : Int32) < 0 ∨ cl40.slots.size ≤ ((0 : Int32)).toNatClampNeg) := inb_of S40 ⟨by decide, by decide⟩
  have hat41 : cl40.slots[((0 : Int32)).toNatClampNeg]? = some (.int c0) := Hs40.at hin41 rfl
  refine Go.by (B := (s₁.setTop (mkF m 13 #[.val (.ref a1), .val (.int 0), .val (.ref b1), .val (.int 0), .val (.int 5), .val (.int 0), .unset] [(.int c0)]))) (fun _ k => X0.caload hx (j := (0 : Int32)) (v := (.int c0)) (by rw [e0]; exact Ar40.1) (State.isArrayOf_alike hZ.alike Ar40.2.1) Ar40.2.2 hin41 hat41 (g := (mkF m 12 #[.val (.ref a1), .val (.int 0), .val (.ref b1), .val (.int 0), .val (.int 5), .val (.int 0), .unset] [(.int 0), (.ref a1)])) rfl rfl (hb hby d5_12) _ k) ?_
  refine Go.by (B := (s₁.setTop (mkF m 31 #[.val (.ref a1), .val (.int 0), .val (.ref b1), .val (.int 0), .val (.int 5), .val (.int 0), .val (.int c0)] [(.int (c0.toInt8.toInt32)), (.int 0), (.ref b1)]))) (fun _ k => XS.istore X0.here hx rfl (hb hby d5_13) rfl (l' := #[.val (.ref a1), .val (.int 0), .val (.ref b1), .val (.int 0), .val (.int 5), .val (.int 0), .val (.int c0)]) rfl (XS.iload X0.here hx rfl (hb hby d5_15) rfl (XS.sipush X0.here hx rfl (hb hby d5_17) (XS.icmpYes X0.here hx rfl (pc0 := 20) (pc' := 26) rfl (hb hby d5_20) rfl (flt hc0).2.2.2 (by decide) (by decide) (XS.aloadN X0.here hx rfl (hb hby d5_26) rfl rfl (XS.iloadN X0.here hx rfl (hb hby d5_27) rfl (XS.iload X0.here hx rfl (hb hby d5_28) rfl (XS.i2b X0.here hx rfl (hb hby d5_30) rfl k)))))))) ?_
  obtain ⟨cl42, Ar42, q42, S42, N_42, Hs42, G42⟩ := id pr2
  have hin43 : ¬ ((0 : Int32) < 0 ∨ cl42.slots.size ≤ ((0 : Int32)).toNatClampNeg) := inb_of S42 ⟨by decide, by decide⟩
  obtain ⟨T43, h43, X43, e43, W43, st43⟩ := stB X0 hx hZ e0 Ar42 (j := (0 : Int32)) hin43 (g := (mkF m 31 #[.val (.ref a1), .val (.int 0), .val (.ref b1), .val (.int 0), .val (.int 5), .val (.int 0), .val (.int c0)] [(.int (c0.toInt8.toInt32)), (.int 0), (.ref b1)])) rfl rfl (hb hby d5_31)
  have O44 := pr0.wr W43 pr3
  have Z44 : n0 ≤ h43.size := Nat.le_trans Z0 (Keep.of_wr W43).1
  have V43 : Arv Z h43 b1 kb .byte (5 : Int32) [(.int (nar .byte (c0.toInt8.toInt32))), (.int 0), (.int 0), (.int 0), (.int 0)] (.int 0) := Arv.set Ar42 q42 S42 N_42 Hs42 G42 (fits_nar_byte _) W43 0 rfl (Nat.le_of_ble_eq_true rfl)
  have N43 := Fr.snoc X43 N0 pr3
  refine Go.by (B := (T43.setTop (mkF m 32 #[.val (.ref a1), .val (.int 0), .val (.ref b1), .val (.int 0), .val (.int 5), .val (.int 0), .val (.int c0)] []))) st43 ?_
  refine Go.by (B := (T43.setTop (mkF m 11 #[.val (.ref a1), .val (.int 1), .val (.ref b1), .val (.int 1), .val (.int 5), .val (.int 1), .val (.int c0)] [(.ref a1)]))) (fun _ k => XS.iinc X43.here hx rfl (hb hby d5_32) rfl (l' := #[.val (.ref a1), .val (.int 1), .val (.ref b1), .val (.int 0), .val (.int 5), .val (.int 0), .val (.int c0)]) rfl (XS.iinc X43.here hx rfl (hb hby d5_35) rfl (l' := #[.val (.ref a1), .val (.int 1), .val (.ref b1), .val (.int 1), .val (.int 5), .val (.int 0), .val (.int c0)]) rfl (XS.iinc X43.here hx rfl (hb hby d5_38) rfl (l' := #[.val (.ref a1), .val (.int 1), .val (.ref b1), .val (.int 1), .val (.int 5), .val (.int 1), .val (.int c0)]) rfl (XS.goto X43.here hx rfl (pc0 := 41) (pc' := 3) rfl (hb hby d5_41) (by decide) (by decide) (XS.iload X43.here hx rfl (hb hby d5_3) rfl (XS.iload X43.here hx rfl (hb hby d5_5) rfl (XS.icmpNo X43.here hx rfl (hb hby d5_7) rfl (tlt (by decide : (1 : Int32) < (5 : Int32))).2.1 (XS.aloadN X43.here hx rfl (hb hby d5_10) rfl rfl k)))))))) ?_
  refine Go.by (B := (T43.setTop (mkF m 12 #[.val (.ref a1), .val (.int 1), .val (.ref b1), .val (.int 1), .val (.int 5), .val (.int 1), .val (.int c0)] [(.int 1), (.ref a1)]))) (fun _ k => XS.iloadN X43.here hx rfl (hb hby d5_11) rfl k) ?_
  obtain ⟨cl45, Ar45, q45, S45, N_45, Hs45, G45⟩ := id (pr1.other W43 pr4)
  have hin46 : ¬ ((1 : Int32) < 0 ∨ cl45.slots.size ≤ ((1 : Int32)).toNatClampNeg) := inb_of S45 ⟨by decide, by decide⟩
  have hat46 : cl45.slots[((1 : Int32)).toNatClampNeg]? = some (.int c1) := Hs45.at hin46 rfl
  refine Go.by (B := (T43.setTop (mkF m 13 #[.val (.ref a1), .val (.int 1), .val (.ref b1), .val (.int 1), .val (.int 5), .val (.int 1), .val (.int c0)] [(.int c1)]))) (fun _ k => X43.caload hx (j := (1 : Int32)) (v := (.int c1)) (by rw [e43]; exact Ar45.1) (State.isArrayOf_alike hZ.alike Ar45.2.1) Ar45.2.2 hin46 hat46 (g := (mkF m 12 #[.val (.ref a1), .val (.int 1), .val (.ref b1), .val (.int 1), .val (.int 5), .val (.int 1), .val (.int c0)] [(.int 1), (.ref a1)])) rfl rfl (hb hby d5_12) _ k) ?_
  refine Go.by (B := (T43.setTop (mkF m 31 #[.val (.ref a1), .val (.int 1), .val (.ref b1), .val (.int 1), .val (.int 5), .val (.int 1), .val (.int c1)] [(.int (c1.toInt8.toInt32)), (.int 1), (.ref b1)]))) (fun _ k => XS.istore X43.here hx rfl (hb hby d5_13) rfl (l' := #[.val (.ref a1), .val (.int 1), .val (.ref b1), .val (.int 1), .val (.int 5), .val (.int 1), .val (.int c1)]) rfl (XS.iload X43.here hx rfl (hb hby d5_15) rfl (XS.sipush X43.here hx rfl (hb hby d5_17) (XS.icmpYes X43.here hx rfl (pc0 := 20) (pc' := 26) rfl (hb hby d5_20) rfl (flt hc1).2.2.2 (by decide) (by decide) (XS.aloadN X43.here hx rfl (hb hby d5_26) rfl rfl (XS.iloadN X43.here hx rfl (hb hby d5_27) rfl (XS.iload X43.here hx rfl (hb hby d5_28) rfl (XS.i2b X43.here hx rfl (hb hby d5_30) rfl k)))))))) ?_
  obtain ⟨cl47, Ar47, q47, S47, N_47, Hs47, G47⟩ := id V43
  have hin48 : ¬ ((1 : Int32) < 0 ∨ cl47.slots.size ≤ ((1 : Int32)).toNatClampNeg) := inb_of S47 ⟨by decide, by decide⟩
  obtain ⟨T48, h48, X48, e48, W48, st48⟩ := stB X43 hx hZ e43 Ar47 (j := (1 : Int32)) hin48 (g := (mkF m 31 #[.val (.ref a1), .val (.int 1), .val (.ref b1), .val (.int 1), .val (.int 5), .val (.int 1), .val (.int c1)] [(.int (c1.toInt8.toInt32)), (.int 1), (.ref b1)])) rfl rfl (hb hby d5_31)
  have O49 := O44.wr W48 pr3
  have Z49 : n0 ≤ h48.size := Nat.le_trans Z44 (Keep.of_wr W48).1
  have V48 : Arv Z h48 b1 kb .byte (5 : Int32) [(.int (nar .byte (c0.toInt8.toInt32))), (.int (nar .byte (c1.toInt8.toInt32))), (.int 0), (.int 0), (.int 0)] (.int 0) := Arv.set Ar47 q47 S47 N_47 Hs47 G47 (fits_nar_byte _) W48 1 rfl (Nat.le_of_ble_eq_true rfl)
  have N48 := Fr.snoc X48 N43 pr3
  refine Go.by (B := (T48.setTop (mkF m 32 #[.val (.ref a1), .val (.int 1), .val (.ref b1), .val (.int 1), .val (.int 5), .val (.int 1), .val (.int c1)] []))) st48 ?_
  refine Go.by (B := (T48.setTop (mkF m 11 #[.val (.ref a1), .val (.int 2), .val (.ref b1), .val (.int 2), .val (.int 5), .val (.int 2), .val (.int c1)] [(.ref a1)]))) (fun _ k => XS.iinc X48.here hx rfl (hb hby d5_32) rfl (l' := #[.val (.ref a1), .val (.int 2), .val (.ref b1), .val (.int 1), .val (.int 5), .val (.int 1), .val (.int c1)]) rfl (XS.iinc X48.here hx rfl (hb hby d5_35) rfl (l' := #[.val (.ref a1), .val (.int 2), .val (.ref b1), .val (.int 2), .val (.int 5), .val (.int 1), .val (.int c1)]) rfl (XS.iinc X48.here hx rfl (hb hby d5_38) rfl (l' := #[.val (.ref a1), .val (.int 2), .val (.ref b1), .val (.int 2), .val (.int 5), .val (.int 2), .val (.int c1)]) rfl (XS.goto X48.here hx rfl (pc0 := 41) (pc' := 3) rfl (hb hby d5_41) (by decide) (by decide) (XS.iload X48.here hx rfl (hb hby d5_3) rfl (XS.iload X48.here hx rfl (hb hby d5_5) rfl (XS.icmpNo X48.here hx rfl (hb hby d5_7) rfl (tlt (by decide : (2 : Int32) < (5 : Int32))).2.1 (XS.aloadN X48.here hx rfl (hb hby d5_10) rfl rfl k)))))))) ?_
  refine Go.by (B := (T48.setTop (mkF m 12 #[.val (.ref a1), .val (.int 2), .val (.ref b1), .val (.int 2), .val (.int 5), .val (.int 2), .val (.int c1)] [(.int 2), (.ref a1)]))) (fun _ k => XS.iloadN X48.here hx rfl (hb hby d5_11) rfl k) ?_
  have f51 := ((pr1.other W43 pr4).other W48 pr4)
  obtain ⟨cl50, Ar50, q50, S50, N_50, Hs50, G50⟩ := id f51
  have hin52 : ¬ ((2 : Int32) < 0 ∨ cl50.slots.size ≤ ((2 : Int32)).toNatClampNeg) := inb_of S50 ⟨by decide, by decide⟩
  have hat52 : cl50.slots[((2 : Int32)).toNatClampNeg]? = some (.int c2) := Hs50.at hin52 rfl
  refine Go.by (B := (T48.setTop (mkF m 13 #[.val (.ref a1), .val (.int 2), .val (.ref b1), .val (.int 2), .val (.int 5), .val (.int 2), .val (.int c1)] [(.int c2)]))) (fun _ k => X48.caload hx (j := (2 : Int32)) (v := (.int c2)) (by rw [e48]; exact Ar50.1) (State.isArrayOf_alike hZ.alike Ar50.2.1) Ar50.2.2 hin52 hat52 (g := (mkF m 12 #[.val (.ref a1), .val (.int 2), .val (.ref b1), .val (.int 2), .val (.int 5), .val (.int 2), .val (.int c1)] [(.int 2), (.ref a1)])) rfl rfl (hb hby d5_12) _ k) ?_
  refine Go.by (B := (T48.setTop (mkF m 31 #[.val (.ref a1), .val (.int 2), .val (.ref b1), .val (.int 2), .val (.int 5), .val (.int 2), .val (.int c2)] [(.int (c2.toInt8.toInt32)), (.int 2), (.ref b1)]))) (fun _ k => XS.istore X48.here hx rfl (hb hby d5_13) rfl (l' := #[.val (.ref a1), .val (.int 2), .val (.ref b1), .val (.int 2), .val (.int 5), .val (.int 2), .val (.int c2)]) rfl (XS.iload X48.here hx rfl (hb hby d5_15) rfl (XS.sipush X48.here hx rfl (hb hby d5_17) (XS.icmpYes X48.here hx rfl (pc0 := 20) (pc' := 26) rfl (hb hby d5_20) rfl (flt hc2).2.2.2 (by decide) (by decide) (XS.aloadN X48.here hx rfl (hb hby d5_26) rfl rfl (XS.iloadN X48.here hx rfl (hb hby d5_27) rfl (XS.iload X48.here hx rfl (hb hby d5_28) rfl (XS.i2b X48.here hx rfl (hb hby d5_30) rfl k)))))))) ?_
  obtain ⟨cl53, Ar53, q53, S53, N_53, Hs53, G53⟩ := id V48
  have hin54 : ¬ ((2 : Int32) < 0 ∨ cl53.slots.size ≤ ((2 : Int32)).toNatClampNeg) := inb_of S53 ⟨by decide, by decide⟩
  obtain ⟨T54, h54, X54, e54, W54, st54⟩ := stB X48 hx hZ e48 Ar53 (j := (2 : Int32)) hin54 (g := (mkF m 31 #[.val (.ref a1), .val (.int 2), .val (.ref b1), .val (.int 2), .val (.int 5), .val (.int 2), .val (.int c2)] [(.int (c2.toInt8.toInt32)), (.int 2), (.ref b1)])) rfl rfl (hb hby d5_31)
  have O55 := O49.wr W54 pr3
  have Z55 : n0 ≤ h54.size := Nat.le_trans Z49 (Keep.of_wr W54).1
  have V54 : Arv Z h54 b1 kb .byte (5 : Int32) [(.int (nar .byte (c0.toInt8.toInt32))), (.int (nar .byte (c1.toInt8.toInt32))), (.int (nar .byte (c2.toInt8.toInt32))), (.int 0), (.int 0)] (.int 0) := Arv.set Ar53 q53 S53 N_53 Hs53 G53 (fits_nar_byte _) W54 2 rfl (Nat.le_of_ble_eq_true rfl)
  have N54 := Fr.snoc X54 N48 pr3
  refine Go.by (B := (T54.setTop (mkF m 32 #[.val (.ref a1), .val (.int 2), .val (.ref b1), .val (.int 2), .val (.int 5), .val (.int 2), .val (.int c2)] []))) st54 ?_
  refine Go.by (B := (T54.setTop (mkF m 11 #[.val (.ref a1), .val (.int 3), .val (.ref b1), .val (.int 3), .val (.int 5), .val (.int 3), .val (.int c2)] [(.ref a1)]))) (fun _ k => XS.iinc X54.here hx rfl (hb hby d5_32) rfl (l' := #[.val (.ref a1), .val (.int 3), .val (.ref b1), .val (.int 2), .val (.int 5), .val (.int 2), .val (.int c2)]) rfl (XS.iinc X54.here hx rfl (hb hby d5_35) rfl (l' := #[.val (.ref a1), .val (.int 3), .val (.ref b1), .val (.int 3), .val (.int 5), .val (.int 2), .val (.int c2)]) rfl (XS.iinc X54.here hx rfl (hb hby d5_38) rfl (l' := #[.val (.ref a1), .val (.int 3), .val (.ref b1), .val (.int 3), .val (.int 5), .val (.int 3), .val (.int c2)]) rfl (XS.goto X54.here hx rfl (pc0 := 41) (pc' := 3) rfl (hb hby d5_41) (by decide) (by decide) (XS.iload X54.here hx rfl (hb hby d5_3) rfl (XS.iload X54.here hx rfl (hb hby d5_5) rfl (XS.icmpNo X54.here hx rfl (hb hby d5_7) rfl (tlt (by decide : (3 : Int32) < (5 : Int32))).2.1 (XS.aloadN X54.here hx rfl (hb hby d5_10) rfl rfl k)))))))) ?_
  refine Go.by (B := (T54.setTop (mkF m 12 #[.val (.ref a1), .val (.int 3), .val (.ref b1), .val (.int 3), .val (.int 5), .val (.int 3), .val (.int c2)] [(.int 3), (.ref a1)]))) (fun _ k => XS.iloadN X54.here hx rfl (hb hby d5_11) rfl k) ?_
  obtain ⟨cl56, Ar56, q56, S56, N_56, Hs56, G56⟩ := id (f51.other W54 pr4)
  have hin57 : ¬ ((3 : Int32) < 0 ∨ cl56.slots.size ≤ ((3 : Int32)).toNatClampNeg) := inb_of S56 ⟨by decide, by decide⟩
  have hat57 : cl56.slots[((3 : Int32)).toNatClampNeg]? = some (.int c3) := Hs56.at hin57 rfl
  refine Go.by (B := (T54.setTop (mkF m 13 #[.val (.ref a1), .val (.int 3), .val (.ref b1), .val (.int 3), .val (.int 5), .val (.int 3), .val (.int c2)] [(.int c3)]))) (fun _ k => X54.caload hx (j := (3 : Int32)) (v := (.int c3)) (by rw [e54]; exact Ar56.1) (State.isArrayOf_alike hZ.alike Ar56.2.1) Ar56.2.2 hin57 hat57 (g := (mkF m 12 #[.val (.ref a1), .val (.int 3), .val (.ref b1), .val (.int 3), .val (.int 5), .val (.int 3), .val (.int c2)] [(.int 3), (.ref a1)])) rfl rfl (hb hby d5_12) _ k) ?_
  refine Go.by (B := (T54.setTop (mkF m 31 #[.val (.ref a1), .val (.int 3), .val (.ref b1), .val (.int 3), .val (.int 5), .val (.int 3), .val (.int c3)] [(.int (c3.toInt8.toInt32)), (.int 3), (.ref b1)]))) (fun _ k => XS.istore X54.here hx rfl (hb hby d5_13) rfl (l' := #[.val (.ref a1), .val (.int 3), .val (.ref b1), .val (.int 3), .val (.int 5), .val (.int 3), .val (.int c3)]) rfl (XS.iload X54.here hx rfl (hb hby d5_15) rfl (XS.sipush X54.here hx rfl (hb hby d5_17) (XS.icmpYes X54.here hx rfl (pc0 := 20) (pc' := 26) rfl (hb hby d5_20) rfl (flt hc3).2.2.2 (by decide) (by decide) (XS.aloadN X54.here hx rfl (hb hby d5_26) rfl rfl (XS.iloadN X54.here hx rfl (hb hby d5_27) rfl (XS.iload X54.here hx rfl (hb hby d5_28) rfl (XS.i2b X54.here hx rfl (hb hby d5_30) rfl k)))))))) ?_
  obtain ⟨cl58, Ar58, q58, S58, N_58, Hs58, G58⟩ := id V54
  have hin59 : ¬ ((3 : Int32) < 0 ∨ cl58.slots.size ≤ ((3 : Int32)).toNatClampNeg) := inb_of S58 ⟨by decide, by decide⟩
  obtain ⟨T59, h59, X59, e59, W59, st59⟩ := stB X54 hx hZ e54 Ar58 (j := (3 : Int32)) hin59 (g := (mkF m 31 #[.val (.ref a1), .val (.int 3), .val (.ref b1), .val (.int 3), .val (.int 5), .val (.int 3), .val (.int c3)] [(.int (c3.toInt8.toInt32)), (.int 3), (.ref b1)])) rfl rfl (hb hby d5_31)
  have O60 := O55.wr W59 pr3
  have Z60 : n0 ≤ h59.size := Nat.le_trans Z55 (Keep.of_wr W59).1
  have V59 : Arv Z h59 b1 kb .byte (5 : Int32) [(.int (nar .byte (c0.toInt8.toInt32))), (.int (nar .byte (c1.toInt8.toInt32))), (.int (nar .byte (c2.toInt8.toInt32))), (.int (nar .byte (c3.toInt8.toInt32))), (.int 0)] (.int 0) := Arv.set Ar58 q58 S58 N_58 Hs58 G58 (fits_nar_byte _) W59 3 rfl (Nat.le_of_ble_eq_true rfl)
  have N59 := Fr.snoc X59 N54 pr3
  refine Go.by (B := (T59.setTop (mkF m 32 #[.val (.ref a1), .val (.int 3), .val (.ref b1), .val (.int 3), .val (.int 5), .val (.int 3), .val (.int c3)] []))) st59 ?_
  refine Go.by (B := (T59.setTop (mkF m 11 #[.val (.ref a1), .val (.int 4), .val (.ref b1), .val (.int 4), .val (.int 5), .val (.int 4), .val (.int c3)] [(.ref a1)]))) (fun _ k => XS.iinc X59.here hx rfl (hb hby d5_32) rfl (l' := #[.val (.ref a1), .val (.int 4), .val (.ref b1), .val (.int 3), .val (.int 5), .val (.int 3), .val (.int c3)]) rfl (XS.iinc X59.here hx rfl (hb hby d5_35) rfl (l' := #[.val (.ref a1), .val (.int 4), .val (.ref b1), .val (.int 4), .val (.int 5), .val (.int 3), .val (.int c3)]) rfl (XS.iinc X59.here hx rfl (hb hby d5_38) rfl (l' := #[.val (.ref a1), .val (.int 4), .val (.ref b1), .val (.int 4), .val (.int 5), .val (.int 4), .val (.int c3)]) rfl (XS.goto X59.here hx rfl (pc0 := 41) (pc' := 3) rfl (hb hby d5_41) (by decide) (by decide) (XS.iload X59.here hx rfl (hb hby d5_3) rfl (XS.iload X59.here hx rfl (hb hby d5_5) rfl (XS.icmpNo X59.here hx rfl (hb hby d5_7) rfl (tlt (by decide : (4 : Int32) < (5 : Int32))).2.1 (XS.aloadN X59.here hx rfl (hb hby d5_10) rfl rfl k)))))))) ?_
  refine Go.by (B := (T59.setTop (mkF m 12 #[.val (.ref a1), .val (.int 4), .val (.ref b1), .val (.int 4), .val (.int 5), .val (.int 4), .val (.int c3)] [(.int 4), (.ref a1)]))) (fun _ k => XS.iloadN X59.here hx rfl (hb hby d5_11) rfl k) ?_
  have f62 := ((f51.other W54 pr4).other W59 pr4)
  obtain ⟨cl61, Ar61, q61, S61, N_61, Hs61, G61⟩ := id f62
  have hin63 : ¬ ((4 : Int32) < 0 ∨ cl61.slots.size ≤ ((4 : Int32)).toNatClampNeg) := inb_of S61 ⟨by decide, by decide⟩
  have hat63 : cl61.slots[((4 : Int32)).toNatClampNeg]? = some (.int c4) := Hs61.at hin63 rfl
  refine Go.by (B := (T59.setTop (mkF m 13 #[.val (.ref a1), .val (.int 4), .val (.ref b1), .val (.int 4), .val (.int 5), .val (.int 4), .val (.int c3)] [(.int c4)]))) (fun _ k => X59.caload hx (j := (4 : Int32)) (v := (.int c4)) (by rw [e59]; exact Ar61.1) (State.isArrayOf_alike hZ.alike Ar61.2.1) Ar61.2.2 hin63 hat63 (g := (mkF m 12 #[.val (.ref a1), .val (.int 4), .val (.ref b1), .val (.int 4), .val (.int 5), .val (.int 4), .val (.int c3)] [(.int 4), (.ref a1)])) rfl rfl (hb hby d5_12) _ k) ?_
  refine Go.by (B := (T59.setTop (mkF m 31 #[.val (.ref a1), .val (.int 4), .val (.ref b1), .val (.int 4), .val (.int 5), .val (.int 4), .val (.int c4)] [(.int (c4.toInt8.toInt32)), (.int 4), (.ref b1)]))) (fun _ k => XS.istore X59.here hx rfl (hb hby d5_13) rfl (l' := #[.val (.ref a1), .val (.int 4), .val (.ref b1), .val (.int 4), .val (.int 5), .val (.int 4), .val (.int c4)]) rfl (XS.iload X59.here hx rfl (hb hby d5_15) rfl (XS.sipush X59.here hx rfl (hb hby d5_17) (XS.icmpYes X59.here hx rfl (pc0 := 20) (pc' := 26) rfl (hb hby d5_20) rfl (flt hc4).2.2.2 (by decide) (by decide) (XS.aloadN X59.here hx rfl (hb hby d5_26) rfl rfl (XS.iloadN X59.here hx rfl (hb hby d5_27) rfl (XS.iload X59.here hx rfl (hb hby d5_28) rfl (XS.i2b X59.here hx rfl (hb hby d5_30) rfl k)))))))) ?_
  obtain ⟨cl64, Ar64, q64, S64, N_64, Hs64, G64⟩ := id V59
  have hin65 : ¬ ((4 : Int32) < 0 ∨ cl64.slots.size ≤ ((4 : Int32)).toNatClampNeg) := inb_of S64 ⟨by decide, by decide⟩
  obtain ⟨T65, h65, X65, e65, W65, st65⟩ := stB X59 hx hZ e59 Ar64 (j := (4 : Int32)) hin65 (g := (mkF m 31 #[.val (.ref a1), .val (.int 4), .val (.ref b1), .val (.int 4), .val (.int 5), .val (.int 4), .val (.int c4)] [(.int (c4.toInt8.toInt32)), (.int 4), (.ref b1)])) rfl rfl (hb hby d5_31)
  have O66 := O60.wr W65 pr3
  have Z66 : n0 ≤ h65.size := Nat.le_trans Z60 (Keep.of_wr W65).1
  have V65 : Arv Z h65 b1 kb .byte (5 : Int32) [(.int (nar .byte (c0.toInt8.toInt32))), (.int (nar .byte (c1.toInt8.toInt32))), (.int (nar .byte (c2.toInt8.toInt32))), (.int (nar .byte (c3.toInt8.toInt32))), (.int (nar .byte (c4.toInt8.toInt32)))] (.int 0) := Arv.set Ar64 q64 S64 N_64 Hs64 G64 (fits_nar_byte _) W65 4 rfl (Nat.le_of_ble_eq_true rfl)
  have N65 := Fr.snoc X65 N59 pr3
  refine Go.by (B := (T65.setTop (mkF m 32 #[.val (.ref a1), .val (.int 4), .val (.ref b1), .val (.int 4), .val (.int 5), .val (.int 4), .val (.int c4)] []))) st65 ?_
  refine Go.by (B := (T65.setTop (mkF m 46 #[.val (.ref a1), .val (.int 5), .val (.ref b1), .val (.int 5), .val (.int 5), .val (.int 5), .val (.int c4)] [(.int 5)]))) (fun _ k => XS.iinc X65.here hx rfl (hb hby d5_32) rfl (l' := #[.val (.ref a1), .val (.int 5), .val (.ref b1), .val (.int 4), .val (.int 5), .val (.int 4), .val (.int c4)]) rfl (XS.iinc X65.here hx rfl (hb hby d5_35) rfl (l' := #[.val (.ref a1), .val (.int 5), .val (.ref b1), .val (.int 5), .val (.int 5), .val (.int 4), .val (.int c4)]) rfl (XS.iinc X65.here hx rfl (hb hby d5_38) rfl (l' := #[.val (.ref a1), .val (.int 5), .val (.ref b1), .val (.int 5), .val (.int 5), .val (.int 5), .val (.int c4)]) rfl (XS.goto X65.here hx rfl (pc0 := 41) (pc' := 3) rfl (hb hby d5_41) (by decide) (by decide) (XS.iload X65.here hx rfl (hb hby d5_3) rfl (XS.iload X65.here hx rfl (hb hby d5_5) rfl (XS.icmpYes X65.here hx rfl (pc0 := 7) (pc' := 44) rfl (hb hby d5_7) rfl (flt (by decide : ¬ ((5 : Int32) < (5 : Int32)))).2.1 (by decide) (by decide) (XS.iload X65.here hx rfl (hb hby d5_44) rfl k)))))))) ?_
  refine Go.ret X65 hx hlk (t := .int) hret rfl (Or.inl ⟨rfl, by simp, _, rfl⟩) (hb hby d5_46) (by decide) (by decide) ?_
  rw [e65]
  exact ⟨rfl, N65, ((((((Keep.refl h0 [b1]).wr W43 (Or.inl (List.mem_of_getElem? (i := 0) rfl))).wr W48 (Or.inl (List.mem_of_getElem? (i := 0) rfl))).wr W54 (Or.inl (List.mem_of_getElem? (i := 0) rfl))).wr W59 (Or.inl (List.mem_of_getElem? (i := 0) rfl))).wr W65 (Or.inl (List.mem_of_getElem? (i := 0) rfl))), V65⟩
theorem ef_rm_cmp3_5 (m : MethodId) (x0 : Addr) : entryFrame m #[(.ref x0), (.int 0), (.int 5)] 6 = mkF m 0 #[.val (.ref x0), .val (.int 0), .val (.int 5), .unset, .unset, .unset] [] := by first | (simp [entryFrame, mkF, argsToLocals, Value.category]; done) | rfl
def Q_rm_cmp3_5 (Z : State) (a1 : Addr) (ka : ClassId) (c0 : Int32) (c1 : Int32) (c2 : Int32) (c3 : Int32) (c4 : Int32) (h0 : Heap) (n0 : Nat) (v : Option Value) (h : Heap) (L : List Loc) : Prop := ∃ b : Addr, ∃ k : ClassId, v = some (.ref b) ∧ Fr n0 L ∧ Keep h0 h [] ∧ Arv Z h b k .byte (5 : Int32) [(.int (nar .byte (c0.toInt8.toInt32))), (.int (nar .byte (c1.toInt8.toInt32))), (.int (nar .byte (c2.toInt8.toInt32))), (.int (nar .byte (c3.toInt8.toInt32))), (.int (nar .byte (c4.toInt8.toInt32)))] (.int 0) ∧ h0.size ≤ b
set_option maxRecDepth 65536 in
set_option maxHeartbeats 40000000 in
theorem rm_cmp3_5 (l : Launch) (Z : State) (a0 : Array Value) (hw : ∀ d ∈ tables_1, d.before a0 Z = true) (ws : List Jvm.Cond) (a1 : Addr) (ka : ClassId) (c0 : Int32) (c1 : Int32) (c2 : Int32) (c3 : Int32) (c4 : Int32) (h0 : Heap) (n0 : Nat) (Z0 : n0 ≤ h0.size) (pr0 : Old Z n0 h0) (pr1 : Arv Z h0 a1 ka .char (5 : Int32) [(.int c0), (.int c1), (.int c2), (.int c3), (.int c4)] (.int 0)) (hc0 : ¬ ((255 : Int32) < c0)) (hc1 : ¬ ((255 : Int32) < c1)) (hc2 : ¬ ((255 : Int32) < c2)) (hc3 : ¬ ((255 : Int32) < c3)) (hc4 : ¬ ((255 : Int32) < c4)) :
    Met l Z (⟨"java/lang/StringUTF16", "compress", "([CII)[B"⟩ : MethodName) jdk_52_method_16_code 6 (some (.array .byte)) ws ({ frames := 1, cells := 1, slots := 5, locals := 18 } : Room) #[(.ref a1), (.int 0), (.int 5)] h0 (Q_rm_cmp3_5 Z a1 ka c0 c1 c2 c3 c4 h0 n0) := by
  refine Met.enter (f0 := fun m => mkF m 0 #[.val (.ref a1), .val (.int 0), .val (.int 5), .unset, .unset, .unset] []) (plainFor_of_name pn_java_lang_StringUTF16) (fun m => ef_rm_cmp3_5 m a1) ?_
  intro p e s m below meth c s₁ hx hby hml hown hnm hret hlk hZ X0 e0
  have hown : s.vm.findClass "java/lang/StringUTF16" = some m.cls := hown
  have hnm : meth.name = "compress" := hnm
  have hml : c.maxLocals = 6 := hml
  have hby : c.code = jdk_52_method_16_code := hby
  have N0 := Fr.nil n0
  refine Go.by (B := (s₁.setTop (mkF m 1 #[.val (.ref a1), .val (.int 0), .val (.int 5), .unset, .unset, .unset] [(.int 5)]))) (fun _ k => XS.iloadN X0.here hx rfl (hb hby d4_0) rfl k) ?_
  obtain ⟨T67, h67, k67, X67, e67, E67, A67, st67⟩ := newP X0 hx hZ (wd hw 19 rfl) e0 (g := (mkF m 1 #[.val (.ref a1), .val (.int 0), .val (.int 5), .unset, .unset, .unset] [(.int 5)])) rfl (hb hby d4_1) rfl (by decide) (cap := 5) (by decide) (by decide) (by decide) (by decide)
  obtain ⟨b67, g67⟩ : ∃ z, z = h0.size := ⟨_, rfl⟩
  rw [← g67] at A67 st67
  have sz_b67 : h0.size ≤ b67 := Nat.le_of_eq g67.symm
  have V67 : Arv Z h67 b67 k67 .byte (5 : Int32) [(.int 0), (.int 0), (.int 0), (.int 0), (.int 0)] (.int 0) := (Arv.new A67 (by decide)).pad (pad_rep [] (.int 0) 5)
  have O68 := pr0.ext E67
  have Z68 : n0 ≤ h67.size := Nat.le_trans Z0 E67.1
  refine Go.by (B := (T67.setTop (mkF m 3 #[.val (.ref a1), .val (.int 0), .val (.int 5), .unset, .unset, .unset] [(.ref b67)]))) st67 ?_
  refine Go.by (B := (T67.setTop (mkF m 9 #[.val (.ref a1), .val (.int 0), .val (.int 5), .val (.ref b67), .unset, .unset] [(.int 5), (.int 0), (.ref b67), (.int 0), (.ref a1)]))) (fun _ k => XS.astoreN X67.here hx rfl (hb hby d4_3) rfl rfl (l' := #[.val (.ref a1), .val (.int 0), .val (.int 5), .val (.ref b67), .unset, .unset]) rfl (XS.aloadN X67.here hx rfl (hb hby d4_4) rfl rfl (XS.iloadN X67.here hx rfl (hb hby d4_5) rfl (XS.aloadN X67.here hx rfl (hb hby d4_6) rfl rfl (XS.iconst X67.here hx rfl (hb hby d4_7) (XS.iloadN X67.here hx rfl (hb hby d4_8) rfl k)))))) ?_
  obtain ⟨_, _, ⟨T69, L69, k69, n69⟩, -, X69, ⟨Lc69, hQ69, l69, y69, z69⟩, st69⟩ := Jvm.LawKit.callS X67 hx (y := (⟨"java/lang/StringUTF16", "compress", "([CI[BII)I"⟩ : MethodName)) hown (mvT hZ (wd hw 20 rfl)) (mvT hZ (wd hw 21 rfl)) (mvT hZ (wd hw 17 rfl)) (mvT hZ (wd hw 22 rfl)) (by decide) (backOf (W := 0) (rm_cmp5_5 l Z a0 hw [] a1 b67 ka k67 c0 c1 c2 c3 c4 h67 n0 Z68 O68 (pr1.ext E67) V67 (Nat.le_trans Z0 sz_b67) (Nat.ne_of_lt (Nat.lt_of_lt_of_le pr1.lt sz_b67)) hc0 hc1 hc2 hc3 hc4) hZ (wd hw 22 rfl) (wd hw 17 rfl) (by decide) (by decide)) (g := (mkF m 9 #[.val (.ref a1), .val (.int 0), .val (.int 5), .val (.ref b67), .unset, .unset] [(.int 5), (.int 0), (.ref b67), (.int 0), (.ref a1)])) rfl (by rw [hml]; rfl) (argsL := [(.ref a1), (.int 0), (.ref b67), (.int 0), (.int 5)]) (rest := []) (lenOf pd_0 rfl) rfl (by show 2 * 0 + _ ≤ _; exact Nat.le_of_eq rfl) (hb hby d4_9) (fun _ _ => ⟨rfl, e67, Nat.le_of_ble_eq_true rfl, Nat.le_of_ble_eq_true rfl⟩)
  dsimp only [Pt.U, Pt.locs, Pt.cells, Pt.slots] at X69 l69 y69 z69 st69 hQ69
  subst l69 y69 z69
  obtain ⟨rfl, Nq69, K69, p69_0⟩ := hQ69
  have N69 := Fr.app N0 Nq69
  have O70 := O68.keep K69 (allS (Nat.le_trans Z0 sz_b67) all0)
  have Z70 : n0 ≤ T69.heap.size := Nat.le_trans Z68 K69.1
  refine Go.by (B := (T69.setTop (mkF m 12 #[.val (.ref a1), .val (.int 0), .val (.int 5), .val (.ref b67), .unset, .unset] [(.int 5)]))) (fun _ k => st69 _ k) ?_
  refine Go.by (B := (T69.setTop (mkF m 58 #[.val (.ref a1), .val (.int 0), .val (.int 5), .val (.ref b67), .val (.int 5), .unset] [(.ref b67)]))) (fun _ k => XS.istore X69.here hx rfl (hb hby d4_12) rfl (l' := #[.val (.ref a1), .val (.int 0), .val (.int 5), .val (.ref b67), .val (.int 5), .unset]) rfl (XS.iload X69.here hx rfl (hb hby d4_14) rfl (XS.iloadN X69.here hx rfl (hb hby d4_16) rfl (XS.icmpYes X69.here hx rfl (pc0 := 17) (pc' := 57) rfl (hb hby d4_17) rfl (teq (by decide : (5 : Int32) = (5 : Int32))).1 (by decide) (by decide) (XS.aloadN X69.here hx rfl (hb hby d4_57) rfl rfl k))))) ?_
  refine Go.ret X69 hx hlk (t := (.array .byte)) hret rfl (Or.inr (Or.inr (Or.inr (Or.inr ⟨rfl, rfl, rfl⟩)))) (hb hby d4_58) (by decide) (by decide) ?_
  exact ⟨b67, k67, rfl, N69, (((Keep.refl h0 []).ext E67).trans K69 (allS (Or.inr (Nat.le_trans (Nat.le_refl _) sz_b67)) all0)), p69_0, (Nat.le_trans (Nat.le_refl _) sz_b67)⟩
theorem ef_rm_cfal_5 (m : MethodId) (x0 : Addr) : entryFrame m #[(.ref x0), (.int 5)] 2 = mkF m 0 #[.val (.ref x0), .val (.int 5)] [] := by first | (simp [entryFrame, mkF, argsToLocals, Value.category]; done) | rfl
def Q_rm_cfal_5 (Z : State) (b1 : Addr) (kb : ClassId) (c0 : Int32) (c1 : Int32) (c2 : Int32) (c3 : Int32) (c4 : Int32) (h0 : Heap) (n0 : Nat) (v : Option Value) (h : Heap) (L : List Loc) : Prop := v = some (.int 0) ∧ Fr n0 L ∧ h = h0
set_option maxRecDepth 65536 in
set_option maxHeartbeats 40000000 in
theorem rm_cfal_5 (l : Launch) (Z : State) (a0 : Array Value) (hw : ∀ d ∈ tables_1, d.before a0 Z = true) (ws : List Jvm.Cond) (b1 : Addr) (kb : ClassId) (c0 : Int32) (c1 : Int32) (c2 : Int32) (c3 : Int32) (c4 : Int32) (h0 : Heap) (n0 : Nat) (Z0 : n0 ≤ h0.size) (pr0 : Arv Z h0 b1 kb .byte (5 : Int32) [(.int (nar .byte (c0.toInt8.toInt32))), (.int (nar .byte (c1.toInt8.toInt32))), (.int (nar .byte (c2.toInt8.toInt32))), (.int (nar .byte (c3.toInt8.toInt32))), (.int (nar .byte (c4.toInt8.toInt32)))] (.int 0)) :
    Met l Z (⟨"java/lang/StringUTF16", "coderFromArrayLen", "([BI)B"⟩ : MethodName) jdk_52_method_15_code 2 (some .byte) ws ({ frames := 0, cells := 0, slots := 0, locals := 0 } : Room) #[(.ref b1), (.int 5)] h0 (Q_rm_cfal_5 Z b1 kb c0 c1 c2 c3 c4 h0 n0) := by
  refine Met.enter (f0 := fun m => mkF m 0 #[.val (.ref b1), .val (.int 5)] []) (plainFor_of_name pn_java_lang_StringUTF16) (fun m => ef_rm_cfal_5 m b1) ?_
  intro p e s m below meth c s₁ hx hby hml hown hnm hret hlk hZ X0 e0
  have hown : s.vm.findClass "java/lang/StringUTF16" = some m.cls := hown
  have hnm : meth.name = "coderFromArrayLen" := hnm
  have hml : c.maxLocals = 2 := hml
  have hby : c.code = jdk_52_method_15_code := hby
  have N0 := Fr.nil n0
  refine Go.by (B := (s₁.setTop (mkF m 2 #[.val (.ref b1), .val (.int 5)] [(.ref b1), (.int 5)]))) (fun _ k => XS.iloadN X0.here hx rfl (hb hby d6_0) rfl (XS.aloadN X0.here hx rfl (hb hby d6_1) rfl rfl k)) ?_
  obtain ⟨cl71, Ar71, q71, S71, N_71, Hs71, G71⟩ := id pr0
  refine Go.by (B := (s₁.setTop (mkF m 3 #[.val (.ref b1), .val (.int 5)] [(.int 5), (.int 5)]))) (fun _ k => X0.arraylength hx (by rw [e0]; exact Ar71.1) (State.isArrayOf_alike hZ.alike Ar71.2.1) (g := (mkF m 2 #[.val (.ref b1), .val (.int 5)] [(.ref b1), (.int 5)])) rfl rfl (hb hby d6_2) _ (by rw [len_of S71 N_71]; exact k)) ?_
  refine Go.by (B := (s₁.setTop (mkF m 8 #[.val (.ref b1), .val (.int 5)] [(.int 0)]))) (fun _ k => XS.isub X0.here hx rfl (hb hby d6_3) rfl (XS.bipush X0.here hx rfl (hb hby d6_4) (XS.iushr X0.here hx rfl (hb hby d6_6) rfl (XS.i2b X0.here hx rfl (hb hby d6_7) rfl k)))) ?_
  refine Go.ret X0 hx hlk (t := .byte) hret rfl (Or.inl ⟨rfl, by simp, _, rfl⟩) (hb hby d6_8) (by decide) (by decide) ?_
  rw [e0]
  exact ⟨rfl, N0, rfl⟩
theorem ef_rm_sV_5 (m : MethodId) (x0 : Addr) (x1 : Addr) : entryFrame m #[(.ref x0), (.ref x1), (.int 0), (.int 5), .null] 6 = mkF m 0 #[.val (.ref x0), .val (.ref x1), .val (.int 0), .val (.int 5), .val .null, .unset] [] := by first | (simp [entryFrame, mkF, argsToLocals, Value.category]; done) | rfl
def Q_rm_sV_5 (Z : State) (a1 : Addr) (v1 : Addr) (ka : ClassId) (c0 : Int32) (c1 : Int32) (c2 : Int32) (c3 : Int32) (c4 : Int32) (cs : Int32) (h0 : Heap) (n0 : Nat) (v : Option Value) (h : Heap) (L : List Loc) : Prop := ∃ t : Addr, ∃ k : ClassId, v = none ∧ Fr n0 L ∧ Keep h0 h [a1] ∧ Exa Z h a1 "java/lang/String" ∧ Fld Z h a1 "java/lang/String" "value" "[B" (.ref t) ∧ Fld Z h a1 "java/lang/String" "coder" "B" (.int 0) ∧ Arv Z h t k .byte (5 : Int32) [(.int (nar .byte (c0.toInt8.toInt32))), (.int (nar .byte (c1.toInt8.toInt32))), (.int (nar .byte (c2.toInt8.toInt32))), (.int (nar .byte (c3.toInt8.toInt32))), (.int (nar .byte (c4.toInt8.toInt32)))] (.int 0) ∧ h0.size ≤ t
set_option maxRecDepth 65536 in
set_option maxHeartbeats 40000000 in
theorem rm_sV_5 (l : Launch) (Z : State) (a0 : Array Value) (hw : ∀ d ∈ tables_1, d.before a0 Z = true) (ws : List Jvm.Cond) (a1 : Addr) (v1 : Addr) (ka : ClassId) (c0 : Int32) (c1 : Int32) (c2 : Int32) (c3 : Int32) (c4 : Int32) (cs : Int32) (h0 : Heap) (n0 : Nat) (Z0 : n0 ≤ h0.size) (pr0 : Old Z n0 h0) (pr1 : Sta Z Z.heap "java/lang/String" "COMPACT_STRINGS" "Z" (.int cs)) (hcs : ¬ (cs = (0 : Int32))) (pr3 : Exa Z h0 a1 "java/lang/String") (pr4 : Fld Z h0 a1 "java/lang/String" "value" "[B" .null) (pr5 : Fld Z h0 a1 "java/lang/String" "coder" "B" (.int 0)) (pr6 : n0 ≤ a1) (pr7 : Arv Z h0 v1 ka .char (5 : Int32) [(.int c0), (.int c1), (.int c2), (.int c3), (.int c4)] (.int 0)) (hc0 : ¬ ((255 : Int32) < c0)) (hc1 : ¬ ((255 : Int32) < c1)) (hc2 : ¬ ((255 : Int32) < c2)) (hc3 : ¬ ((255 : Int32) < c3)) (hc4 : ¬ ((255 : Int32) < c4)) :
    Met l Z (⟨"java/lang/String", "<init>", "([CIILjava/lang/Void;)V"⟩ : MethodName) jdk_42_method_149_code 6 none ws ({ frames := 2, cells := 1, slots := 5, locals := 35 } : Room) #[(.ref a1), (.ref v1), (.int 0), (.int 5), .null] h0 (Q_rm_sV_5 Z a1 v1 ka c0 c1 c2 c3 c4 cs h0 n0) := by
  refine Met.enter (f0 := fun m => mkF m 0 #[.val (.ref a1), .val (.ref v1), .val (.int 0), .val (.int 5), .val .null, .unset] []) (plainFor_of_name pn_java_lang_String) (fun m => ef_rm_sV_5 m a1 v1) ?_
  intro p e s m below meth c s₁ hx hby hml hown hnm hret hlk hZ X0 e0
  have hown : s.vm.findClass "java/lang/String" = some m.cls := hown
  have hnm : meth.name = "<init>" := hnm
  have hml : c.maxLocals = 6 := hml
  have hby : c.code = jdk_42_method_149_code := hby
  have N0 := Fr.nil n0
  refine Go.by (B := (s₁.setTop (mkF m 1 #[.val (.ref a1), .val (.ref v1), .val (.int 0), .val (.int 5), .val .null, .unset] [(.ref a1)]))) (fun _ k => XS.aloadN X0.here hx rfl (hb hby d2_0) rfl rfl k) ?_
  obtain ⟨T72, X72, e72, st72⟩ := initO X0 hx hZ hown (wd hw 11 rfl) (wd hw 12 rfl) (wd hw 13 rfl) e0 (g := (mkF m 1 #[.val (.ref a1), .val (.ref v1), .val (.int 0), .val (.int 5), .val .null, .unset] [(.ref a1)])) rfl (by rw [hml]; rfl) rfl (hb hby d2_1) (by decide) (W := 0) (by show 2 * 0 + _ ≤ _; exact Nat.le_of_eq rfl) (by decide)
  refine Go.by (B := (T72.setTop (mkF m 4 #[.val (.ref a1), .val (.ref v1), .val (.int 0), .val (.int 5), .val .null, .unset] []))) st72 ?_
  refine Go.by (B := (T72.setTop (mkF m 27 #[.val (.ref a1), .val (.ref v1), .val (.int 0), .val (.int 5), .val .null, .unset] []))) (fun _ k => XS.iloadN X72.here hx rfl (hb hby d2_4) rfl (XS.ifYes X72.here hx rfl (pc0 := 5) (pc' := 27) rfl (hb hby d2_5) rfl ((if0 _ _).trans (feq (by decide : ¬ ((5 : Int32) = (0 : Int32)))).2) (by decide) (by decide) k)) ?_
  obtain ⟨T73, X73, e73, st73⟩ := getS2 X72 hx hZ hown (host := "") (Or.inl (wd hw 14 rfl)) Via.refl e72 (pr1.ext pr0.2) (g := (mkF m 27 #[.val (.ref a1), .val (.ref v1), .val (.int 0), .val (.int 5), .val .null, .unset] [])) rfl (hb hby d2_27)
  refine Go.by (B := (T73.setTop (mkF m 30 #[.val (.ref a1), .val (.ref v1), .val (.int 0), .val (.int 5), .val .null, .unset] [(.int cs)]))) st73 ?_
  refine Go.by (B := (T73.setTop (mkF m 36 #[.val (.ref a1), .val (.ref v1), .val (.int 0), .val (.int 5), .val .null, .unset] [(.int 5), (.int 0), (.ref v1)]))) (fun _ k => XS.ifNo X73.here hx rfl (hb hby d2_30) rfl ((if0 _ _).trans (feq hcs).1) (XS.aloadN X73.here hx rfl (hb hby d2_33) rfl rfl (XS.iloadN X73.here hx rfl (hb hby d2_34) rfl (XS.iloadN X73.here hx rfl (hb hby d2_35) rfl k)))) ?_
  obtain ⟨_, _, ⟨T74, L74, k74, n74⟩, -, X74, ⟨Lc74, hQ74, l74, y74, z74⟩, st74⟩ := Jvm.LawKit.callS X73 hx (y := (⟨"java/lang/StringUTF16", "compress", "([CII)[B"⟩ : MethodName)) hown (mvT hZ (wd hw 15 rfl)) (mvT hZ (wd hw 16 rfl)) (mvT hZ (wd hw 17 rfl)) (mvT hZ (wd hw 18 rfl)) (by decide) (backOf (W := 0) (rm_cmp3_5 l Z a0 hw [] v1 ka c0 c1 c2 c3 c4 h0 n0 Z0 pr0 pr7 hc0 hc1 hc2 hc3 hc4) hZ (wd hw 18 rfl) (wd hw 17 rfl) (by decide) (by decide)) (g := (mkF m 36 #[.val (.ref a1), .val (.ref v1), .val (.int 0), .val (.int 5), .val .null, .unset] [(.int 5), (.int 0), (.ref v1)])) rfl (by rw [hml]; rfl) (argsL := [(.ref v1), (.int 0), (.int 5)]) (rest := []) (lenOf pd_1 rfl) rfl (by show 2 * 0 + _ ≤ _; exact Nat.le_of_eq rfl) (hb hby d2_36) (fun _ _ => ⟨rfl, e73, Nat.le_of_ble_eq_true rfl, Nat.le_of_ble_eq_true rfl⟩)
  dsimp only [Pt.U, Pt.locs, Pt.cells, Pt.slots] at X74 l74 y74 z74 st74 hQ74
  subst l74 y74 z74
  obtain ⟨b74, k74, rfl, Nq74, K74, p74_0, p74_1⟩ := hQ74
  have N74 := Fr.app N0 Nq74
  have O75 := pr0.keep K74 all0
  have Z75 : n0 ≤ T74.heap.size := Nat.le_trans Z0 K74.1
  have sz_b74 : h0.size ≤ b74 := p74_1
  refine Go.by (B := (T74.setTop (mkF m 39 #[.val (.ref a1), .val (.ref v1), .val (.int 0), .val (.int 5), .val .null, .unset] [(.ref b74)]))) (fun _ k => st74 _ k) ?_
  refine Go.by (B := (T74.setTop (mkF m 45 #[.val (.ref a1), .val (.ref v1), .val (.int 0), .val (.int 5), .val .null, .val (.ref b74)] [(.int 5), (.ref b74), (.ref a1)]))) (fun _ k => XS.astore X74.here hx rfl (hb hby d2_39) rfl rfl (l' := #[.val (.ref a1), .val (.ref v1), .val (.int 0), .val (.int 5), .val .null, .val (.ref b74)]) rfl (XS.aloadN X74.here hx rfl (hb hby d2_41) rfl rfl (XS.aload X74.here hx rfl (hb hby d2_42) rfl rfl (XS.iloadN X74.here hx rfl (hb hby d2_44) rfl k)))) ?_
  obtain ⟨_, _, ⟨T76, L76, k76, n76⟩, -, X76, ⟨Lc76, hQ76, l76, y76, z76⟩, st76⟩ := Jvm.LawKit.callS X74 hx (y := (⟨"java/lang/StringUTF16", "coderFromArrayLen", "([BI)B"⟩ : MethodName)) hown (mvT hZ (wd hw 23 rfl)) (mvT hZ (wd hw 24 rfl)) (mvT hZ (wd hw 17 rfl)) (mvT hZ (wd hw 25 rfl)) (by decide) (backOf (W := 1) (rm_cfal_5 l Z a0 hw [] b74 k74 c0 c1 c2 c3 c4 T74.heap n0 Z75 p74_0) hZ (wd hw 25 rfl) (wd hw 17 rfl) (by decide) (by decide)) (g := (mkF m 45 #[.val (.ref a1), .val (.ref v1), .val (.int 0), .val (.int 5), .val .null, .val (.ref b74)] [(.int 5), (.ref b74), (.ref a1)])) rfl (by rw [hml]; rfl) (argsL := [(.ref b74), (.int 5)]) (rest := [(.ref a1)]) (lenOf pd_2 rfl) rfl (by show 2 * 0 + _ ≤ _; exact Nat.le_of_eq rfl) (hb hby d2_45) (fun _ _ => ⟨rfl, rfl, Nat.le_of_ble_eq_true rfl, Nat.le_of_ble_eq_true rfl⟩)
  dsimp only [Pt.U, Pt.locs, Pt.cells, Pt.slots] at X76 l76 y76 z76 st76 hQ76
  subst l76 y76 z76
  obtain ⟨rfl, Nq76, hh76⟩ := hQ76
  have N76 := Fr.app N74 Nq76
  refine Go.by (B := (T76.setTop (mkF m 48 #[.val (.ref a1), .val (.ref v1), .val (.int 0), .val (.int 5), .val .null, .val (.ref b74)] [(.int 0), (.ref a1)]))) (fun _ k => st76 _ k) ?_
  obtain ⟨T77, h77, X77, e77, W77, st77⟩ := putFN X76 hx hZ hown (wd hw 26 rfl) Via.refl hh76 (pr5.keep K74 nin0) (pr3.keep K74) (Or.inr ⟨(wd hw 27 rfl), rfl, hnm⟩) (wd hw 1 rfl) (ty := .byte) (v' := (.int 0)) (by decide) rfl rfl (g := (mkF m 48 #[.val (.ref a1), .val (.ref v1), .val (.int 0), .val (.int 5), .val .null, .val (.ref b74)] [(.int 0), (.ref a1)])) rfl rfl (hb hby d2_48)
  have N77 := Fr.snoc X77 N76 pr6
  have O78 := O75.wr W77 pr6
  have Z78 : n0 ≤ h77.size := Nat.le_trans Z75 (Keep.of_wr W77).1
  have F77 := (pr5.keep K74 nin0).same W77
  refine Go.by (B := (T77.setTop (mkF m 51 #[.val (.ref a1), .val (.ref v1), .val (.int 0), .val (.int 5), .val .null, .val (.ref b74)] []))) st77 ?_
  refine Go.by (B := (T77.setTop (mkF m 54 #[.val (.ref a1), .val (.ref v1), .val (.int 0), .val (.int 5), .val .null, .val (.ref b74)] [(.ref b74), (.ref a1)]))) (fun _ k => XS.aloadN X77.here hx rfl (hb hby d2_51) rfl rfl (XS.aload X77.here hx rfl (hb hby d2_52) rfl rfl k)) ?_
  have f79 := ((pr4.keep K74 nin0).other W77 (Or.inr (slot_ne (Or.inr (wd hw 29 rfl)) (Or.inr (wd hw 27 rfl)) (by decide) (t := (.array .byte)) (t' := .byte) (by decide) (by decide))))
  obtain ⟨T80, h80, X80, e80, W80, st80⟩ := putF X77 hx hZ hown (host := "") (Or.inl (wd hw 28 rfl)) Via.refl e77 f79 ((pr3.keep K74).wr W77) (Or.inr ⟨(wd hw 29 rfl), rfl, hnm⟩) (wd hw 1 rfl) (ty := (.array .byte)) (by decide) rfl rfl (g := (mkF m 54 #[.val (.ref a1), .val (.ref v1), .val (.int 0), .val (.int 5), .val .null, .val (.ref b74)] [(.ref b74), (.ref a1)])) rfl rfl (hb hby d2_54)
  have N80 := Fr.snoc X80 N77 pr6
  have O81 := O78.wr W80 pr6
  have Z81 : n0 ≤ h80.size := Nat.le_trans Z78 (Keep.of_wr W80).1
  have F80 := f79.same W80
  refine Go.by (B := (T80.setTop (mkF m 57 #[.val (.ref a1), .val (.ref v1), .val (.int 0), .val (.int 5), .val .null, .val (.ref b74)] []))) st80 ?_
  refine Go.retV X80 hx hlk hret (hb hby d2_57) (by decide) (by decide) ?_
  rw [e80]
  exact ⟨b74, k74, rfl, N80, ((((Keep.refl h0 [a1]).trans K74 all0).wr W77 (Or.inl (List.mem_of_getElem? (i := 0) rfl))).wr W80 (Or.inl (List.mem_of_getElem? (i := 0) rfl))), (((pr3.keep K74).wr W77).wr W80), F80, (F77.other W80 (Or.inr (slot_ne (Or.inr (wd hw 27 rfl)) (Or.inr (wd hw 29 rfl)) (by decide) (t := .byte) (t' := (.array .byte)) (by decide) (by decide)))), ((p74_0.other W77 (Ne.symm (Nat.ne_of_lt (Nat.lt_of_lt_of_le pr3.lt sz_b74)))).other W80 (Ne.symm (Nat.ne_of_lt (Nat.lt_of_lt_of_le pr3.lt sz_b74)))), (Nat.le_trans (Nat.le_refl _) sz_b74)⟩
theorem ef_rm_sC_5 (m : MethodId) (x0 : Addr) (x1 : Addr) : entryFrame m #[(.ref x0), (.ref x1)] 2 = mkF m 0 #[.val (.ref x0), .val (.ref x1)] [] := by first | (simp [entryFrame, mkF, argsToLocals, Value.category]; done) | rfl
def Q_rm_sC_5 (Z : State) (a1 : Addr) (v1 : Addr) (ka : ClassId) (c0 : Int32) (c1 : Int32) (c2 : Int32) (c3 : Int32) (c4 : Int32) (cs : Int32) (h0 : Heap) (n0 : Nat) (v : Option Value) (h : Heap) (L : List Loc) : Prop := ∃ t : Addr, ∃ k : ClassId, v = none ∧ Fr n0 L ∧ Keep h0 h [a1] ∧ Exa Z h a1 "java/lang/String" ∧ Fld Z h a1 "java/lang/String" "value" "[B" (.ref t) ∧ Fld Z h a1 "java/lang/String" "coder" "B" (.int 0) ∧ Arv Z h t k .byte (5 : Int32) [(.int (nar .byte (c0.toInt8.toInt32))), (.int (nar .byte (c1.toInt8.toInt32))), (.int (nar .byte (c2.toInt8.toInt32))), (.int (nar .byte (c3.toInt8.toInt32))), (.int (nar .byte (c4.toInt8.toInt32)))] (.int 0) ∧ h0.size ≤ t
set_option maxRecDepth 65536 in
set_option maxHeartbeats 40000000 in
theorem rm_sC_5 (l : Launch) (Z : State) (a0 : Array Value) (hw : ∀ d ∈ tables_1, d.before a0 Z = true) (ws : List Jvm.Cond) (a1 : Addr) (v1 : Addr) (ka : ClassId) (c0 : Int32) (c1 : Int32) (c2 : Int32) (c3 : Int32) (c4 : Int32) (cs : Int32) (h0 : Heap) (n0 : Nat) (Z0 : n0 ≤ h0.size) (pr0 : Old Z n0 h0) (pr1 : Sta Z Z.heap "java/lang/String" "COMPACT_STRINGS" "Z" (.int cs)) (hcs : ¬ (cs = (0 : Int32))) (pr3 : Exa Z h0 a1 "java/lang/String") (pr4 : Fld Z h0 a1 "java/lang/String" "value" "[B" .null) (pr5 : Fld Z h0 a1 "java/lang/String" "coder" "B" (.int 0)) (pr6 : n0 ≤ a1) (pr7 : Arv Z h0 v1 ka .char (5 : Int32) [(.int c0), (.int c1), (.int c2), (.int c3), (.int c4)] (.int 0)) (hc0 : ¬ ((255 : Int32) < c0)) (hc1 : ¬ ((255 : Int32) < c1)) (hc2 : ¬ ((255 : Int32) < c2)) (hc3 : ¬ ((255 : Int32) < c3)) (hc4 : ¬ ((255 : Int32) < c4)) :
    Met l Z (⟨"java/lang/String", "<init>", "([C)V"⟩ : MethodName) jdk_42_method_3_code 2 none ws ({ frames := 3, cells := 1, slots := 5, locals := 52 } : Room) #[(.ref a1), (.ref v1)] h0 (Q_rm_sC_5 Z a1 v1 ka c0 c1 c2 c3 c4 cs h0 n0) := by
  refine Met.enter (f0 := fun m => mkF m 0 #[.val (.ref a1), .val (.ref v1)] []) (plainFor_of_name pn_java_lang_String) (fun m => ef_rm_sC_5 m a1 v1) ?_
  intro p e s m below meth c s₁ hx hby hml hown hnm hret hlk hZ X0 e0
  have hown : s.vm.findClass "java/lang/String" = some m.cls := hown
  have hnm : meth.name = "<init>" := hnm
  have hml : c.maxLocals = 2 := hml
  have hby : c.code = jdk_42_method_3_code := hby
  have N0 := Fr.nil n0
  refine Go.by (B := (s₁.setTop (mkF m 4 #[.val (.ref a1), .val (.ref v1)] [(.ref v1), (.int 0), (.ref v1), (.ref a1)]))) (fun _ k => XS.aloadN X0.here hx rfl (hb hby d1_0) rfl rfl (XS.aloadN X0.here hx rfl (hb hby d1_1) rfl rfl (XS.iconst X0.here hx rfl (hb hby d1_2) (XS.aloadN X0.here hx rfl (hb hby d1_3) rfl rfl k)))) ?_
  obtain ⟨cl82, Ar82, q82, S82, N_82, Hs82, G82⟩ := id pr7
  refine Go.by (B := (s₁.setTop (mkF m 5 #[.val (.ref a1), .val (.ref v1)] [(.int 5), (.int 0), (.ref v1), (.ref a1)]))) (fun _ k => X0.arraylength hx (by rw [e0]; exact Ar82.1) (State.isArrayOf_alike hZ.alike Ar82.2.1) (g := (mkF m 4 #[.val (.ref a1), .val (.ref v1)] [(.ref v1), (.int 0), (.ref v1), (.ref a1)])) rfl rfl (hb hby d1_4) _ (by rw [len_of S82 N_82]; exact k)) ?_
  refine Go.by (B := (s₁.setTop (mkF m 6 #[.val (.ref a1), .val (.ref v1)] [.null, (.int 5), (.int 0), (.ref v1), (.ref a1)]))) (fun _ k => XS.aconstNull X0.here hx rfl (hb hby d1_5) k) ?_
  obtain ⟨_, _, ⟨T83, L83, k83, n83⟩, -, X83, ⟨Lc83, hQ83, l83, y83, z83⟩, st83⟩ := X0.specialBack hx (y := (⟨"java/lang/String", "<init>", "([CIILjava/lang/Void;)V"⟩ : MethodName)) rfl hown (mvT hZ (wd hw 7 rfl)) (mvT hZ (wd hw 8 rfl)) (mvT hZ (wd hw 10 rfl)) (by decide) (backOf (W := 0) (rm_sV_5 l Z a0 hw [] a1 v1 ka c0 c1 c2 c3 c4 cs h0 n0 Z0 pr0 pr1 hcs pr3 pr4 pr5 pr6 pr7 hc0 hc1 hc2 hc3 hc4) hZ (wd hw 10 rfl) (wd hw 2 rfl) (by decide) (by decide)) (g := (mkF m 6 #[.val (.ref a1), .val (.ref v1)] [.null, (.int 5), (.int 0), (.ref v1), (.ref a1)])) rfl (by rw [hml]; rfl) (Steps.refl _) (a := a1) (argsL := [(.ref v1), (.int 0), (.int 5), .null]) (rest := []) (lenOf pd_3 rfl) rfl (by show 2 * 0 + _ ≤ _; exact Nat.le_of_eq rfl) (hb hby d1_6) (fun _ _ => ⟨rfl, e0, Nat.le_of_ble_eq_true rfl, Nat.le_of_ble_eq_true rfl⟩)
  dsimp only [Pt.U, Pt.locs, Pt.cells, Pt.slots] at X83 l83 y83 z83 st83 hQ83
  subst l83 y83 z83
  obtain ⟨t83, k83, rfl, Nq83, K83, p83_0, p83_1, p83_2, p83_3, p83_4⟩ := hQ83
  have N83 := Fr.app N0 Nq83
  have O84 := pr0.keep K83 (allS pr6 all0)
  have Z84 : n0 ≤ T83.heap.size := Nat.le_trans Z0 K83.1
  have sz_t83 : h0.size ≤ t83 := p83_4
  refine Go.by (B := (T83.setTop (mkF m 9 #[.val (.ref a1), .val (.ref v1)] []))) (fun _ k => st83.trans k) ?_
  refine Go.retV X83 hx hlk hret (hb hby d1_9) (by decide) (by decide) ?_
  exact ⟨t83, k83, rfl, N83, ((Keep.refl h0 [a1]).trans K83 (allS (Or.inl (List.mem_of_getElem? (i := 0) rfl)) all0)), p83_0, p83_1, p83_2, p83_3, (Nat.le_trans (Nat.le_refl _) sz_t83)⟩
theorem ef_rm_leq_kk (m : MethodId) (x0 : Addr) (x1 : Addr) : entryFrame m #[(.ref x0), (.ref x1)] 3 = mkF m 0 #[.val (.ref x0), .val (.ref x1), .unset] [] := by first | (simp [entryFrame, mkF, argsToLocals, Value.category]; done) | rfl
theorem d10_0 : decode jdk_43_method_13_code 0 = .ok (.aload_n 0, 1) := by decide +kernel
theorem d10_1 : decode jdk_43_method_13_code 1 = .ok (.arraylength, 1) := by decide +kernel
theorem d10_2 : decode jdk_43_method_13_code 2 = .ok (.aload_n 1, 1) := by decide +kernel
theorem d10_3 : decode jdk_43_method_13_code 3 = .ok (.arraylength, 1) := by decide +kernel
theorem d10_4 : decode jdk_43_method_13_code 4 = .ok (.if_icmp .ne 30, 3) := by decide +kernel
theorem d10_7 : decode jdk_43_method_13_code 7 = .ok (.iconst 0, 1) := by decide +kernel
theorem d10_8 : decode jdk_43_method_13_code 8 = .ok (.istore_n 2, 1) := by decide +kernel
theorem d10_9 : decode jdk_43_method_13_code 9 = .ok (.iload_n 2, 1) := by decide +kernel
theorem d10_10 : decode jdk_43_method_13_code 10 = .ok (.aload_n 0, 1) := by decide +kernel
theorem d10_11 : decode jdk_43_method_13_code 11 = .ok (.arraylength, 1) := by decide +kernel
theorem d10_12 : decode jdk_43_method_13_code 12 = .ok (.if_icmp .ge 20, 3) := by decide +kernel
theorem d10_15 : decode jdk_43_method_13_code 15 = .ok (.aload_n 0, 1) := by decide +kernel
theorem d10_16 : decode jdk_43_method_13_code 16 = .ok (.iload_n 2, 1) := by decide +kernel
theorem d10_17 : decode jdk_43_method_13_code 17 = .ok (.baload, 1) := by decide +kernel
theorem d10_18 : decode jdk_43_method_13_code 18 = .ok (.aload_n 1, 1) := by decide +kernel
theorem d10_19 : decode jdk_43_method_13_code 19 = .ok (.iload_n 2, 1) := by decide +kernel
theorem d10_20 : decode jdk_43_method_13_code 20 = .ok (.baload, 1) := by decide +kernel
theorem d10_21 : decode jdk_43_method_13_code 21 = .ok (.if_icmp .eq 5, 3) := by decide +kernel
theorem d10_26 : decode jdk_43_method_13_code 26 = .ok (.iinc 2 1, 3) := by decide +kernel
theorem d10_29 : decode jdk_43_method_13_code 29 = .ok (.goto (-20), 3) := by decide +kernel
theorem d10_32 : decode jdk_43_method_13_code 32 = .ok (.iconst 1, 1) := by decide +kernel
theorem d10_33 : decode jdk_43_method_13_code 33 = .ok (.ireturn, 1) := by decide +kernel
theorem pn_java_lang_StringLatin1 : plainName "java/lang/StringLatin1" = true := by first | (simp [plainName, overriddenIn]; done) | decide +kernel
def Q_rm_leq_kk (Z : State) (t1 : Addr) (t2 : Addr) (k1 : ClassId) (k2 : ClassId) (h0 : Heap) (n0 : Nat) (v : Option Value) (h : Heap) (L : List Loc) : Prop := v = some (.int 1) ∧ Fr n0 L ∧ h = h0
set_option maxRecDepth 65536 in
set_option maxHeartbeats 40000000 in
theorem rm_leq_kk (l : Launch) (Z : State) (a0 : Array Value) (hw : ∀ d ∈ tables_1, d.before a0 Z = true) (ws : List Jvm.Cond) (t1 : Addr) (t2 : Addr) (k1 : ClassId) (k2 : ClassId) (h0 : Heap) (n0 : Nat) (Z0 : n0 ≤ h0.size) (pr0 : Arv Z h0 t1 k1 .byte (4 : Int32) [(.int 107), (.int 101), (.int 101), (.int 112)] (.int 0)) (pr1 : Arv Z h0 t2 k2 .byte (4 : Int32) [(.int 107), (.int 101), (.int 101), (.int 112)] (.int 0)) :
    Met l Z (⟨"java/lang/StringLatin1", "equals", "([B[B)Z"⟩ : MethodName) jdk_43_method_13_code 3 (some .boolean) ws ({ frames := 0, cells := 0, slots := 0, locals := 0 } : Room) #[(.ref t1), (.ref t2)] h0 (Q_rm_leq_kk Z t1 t2 k1 k2 h0 n0) := by
  refine Met.enter (f0 := fun m => mkF m 0 #[.val (.ref t1), .val (.ref t2), .unset] []) (plainFor_of_name pn_java_lang_StringLatin1) (fun m => ef_rm_leq_kk m t1 t2) ?_
  intro p e s m below meth c s₁ hx hby hml hown hnm hret hlk hZ X0 e0
  have hown : s.vm.findClass "java/lang/StringLatin1" = some m.cls := hown
  have hnm : meth.name = "equals" := hnm
  have hml : c.maxLocals = 3 := hml
  have hby : c.code = jdk_43_method_13_code := hby
  have N0 := Fr.nil n0
  refine Go.by (B := (s₁.setTop (mkF m 1 #[.val (.ref t1), .val (.ref t2), .unset] [(.ref t1)]))) (fun _ k => XS.aloadN X0.here hx rfl (hb hby d10_0) rfl rfl k) ?_
  obtain ⟨cl85, Ar85, q85, S85, N_85, Hs85, G85⟩ := id pr0
  refine Go.by (B := (s₁.setTop (mkF m 2 #[.val (.ref t1), .val (.ref t2), .unset] [(.int 4)]))) (fun _ k => X0.arraylength hx (by rw [e0]; exact Ar85.1) (State.isArrayOf_alike hZ.alike Ar85.2.1) (g := (mkF m 1 #[.val (.ref t1), .val (.ref t2), .unset] [(.ref t1)])) rfl rfl (hb hby d10_1) _ (by rw [len_of S85 N_85]; exact k)) ?_
  refine Go.by (B := (s₁.setTop (mkF m 3 #[.val (.ref t1), .val (.ref t2), .unset] [(.ref t2), (.int 4)]))) (fun _ k => XS.aloadN X0.here hx rfl (hb hby d10_2) rfl rfl k) ?_
  obtain ⟨cl86, Ar86, q86, S86, N_86, Hs86, G86⟩ := id pr1
  refine Go.by (B := (s₁.setTop (mkF m 4 #[.val (.ref t1), .val (.ref t2), .unset] [(.int 4), (.int 4)]))) (fun _ k => X0.arraylength hx (by rw [e0]; exact Ar86.1) (State.isArrayOf_alike hZ.alike Ar86.2.1) (g := (mkF m 3 #[.val (.ref t1), .val (.ref t2), .unset] [(.ref t2), (.int 4)])) rfl rfl (hb hby d10_3) _ (by rw [len_of S86 N_86]; exact k)) ?_
  refine Go.by (B := (s₁.setTop (mkF m 11 #[.val (.ref t1), .val (.ref t2), .val (.int 0)] [(.ref t1), (.int 0)]))) (fun _ k => XS.icmpNo X0.here hx rfl (hb hby d10_4) rfl (teq (by decide : (4 : Int32) = (4 : Int32))).2 (XS.iconst X0.here hx rfl (hb hby d10_7) (XS.istoreN X0.here hx rfl (hb hby d10_8) rfl (l' := #[.val (.ref t1), .val (.ref t2), .val (.int 0)]) rfl (XS.iloadN X0.here hx rfl (hb hby d10_9) rfl (XS.aloadN X0.here hx rfl (hb hby d10_10) rfl rfl k))))) ?_
  obtain ⟨cl87, Ar87, q87, S87, N_87, Hs87, G87⟩ := id pr0
  refine Go.by (B := (s₁.setTop (mkF m 12 #[.val (.ref t1), .val (.ref t2), .val (.int 0)] [(.int 4), (.int 0)]))) (fun _ k => X0.arraylength hx (by rw [e0]; exact Ar87.1) (State.isArrayOf_alike hZ.alike Ar87.2.1) (g := (mkF m 11 #[.val (.ref t1), .val (.ref t2), .val (.int 0)] [(.ref t1), (.int 0)])) rfl rfl (hb hby d10_11) _ (by rw [len_of S87 N_87]; exact k)) ?_
  refine Go.by (B := (s₁.setTop (mkF m 17 #[.val (.ref t1), .val (.ref t2), .val (.int 0)] [(.int 0), (.ref t1)]))) (fun _ k => XS.icmpNo X0.here hx rfl (hb hby d10_12) rfl (tlt (by decide : (0 : Int32) < (4 : Int32))).2.1 (XS.aloadN X0.here hx rfl (hb hby d10_15) rfl rfl (XS.iloadN X0.here hx rfl (hb hby d10_16) rfl k))) ?_
  obtain ⟨cl88, Ar88, q88, S88, N_88, Hs88, G88⟩ := id pr0
  have hin89 : ¬ ((0 : Int32) < 0 ∨ cl88.slots.size ≤ ((0 : Int32)).toNatClampNeg) := inb_of S88 ⟨by decide, by decide⟩
  have hat89 : cl88.slots[((0 : Int32)).toNatClampNeg]? = some (.int 107) := Hs88.at hin89 rfl
  refine Go.by (B := (s₁.setTop (mkF m 18 #[.val (.ref t1), .val (.ref t2), .val (.int 0)] [(.int 107)]))) (fun _ k => X0.baloadBytes hx (j := (0 : Int32)) (v := (.int 107)) (by rw [e0]; exact Ar88.1) (State.isArrayOf_alike hZ.alike Ar88.2.1) Ar88.2.2 hin89 hat89 (g := (mkF m 17 #[.val (.ref t1), .val (.ref t2), .val (.int 0)] [(.int 0), (.ref t1)])) rfl rfl (hb hby d10_17) _ k) ?_
  refine Go.by (B := (s₁.setTop (mkF m 20 #[.val (.ref t1), .val (.ref t2), .val (.int 0)] [(.int 0), (.ref t2), (.int 107)]))) (fun _ k => XS.aloadN X0.here hx rfl (hb hby d10_18) rfl rfl (XS.iloadN X0.here hx rfl (hb hby d10_19) rfl k)) ?_
  obtain ⟨cl90, Ar90, q90, S90, N_90, Hs90, G90⟩ := id pr1
  have hin91 : ¬ ((0 : Int32) < 0 ∨ cl90.slots.size ≤ ((0 : Int32)).toNatClampNeg) := inb_of S90 ⟨by decide, by decide⟩
  have hat91 : cl90.slots[((0 : Int32)).toNatClampNeg]? = some (.int 107) := Hs90.at hin91 rfl
  refine Go.by (B := (s₁.setTop (mkF m 21 #[.val (.ref t1), .val (.ref t2), .val (.int 0)] [(.int 107), (.int 107)]))) (fun _ k => X0.baloadBytes hx (j := (0 : Int32)) (v := (.int 107)) (by rw [e0]; exact Ar90.1) (State.isArrayOf_alike hZ.alike Ar90.2.1) Ar90.2.2 hin91 hat91 (g := (mkF m 20 #[.val (.ref t1), .val (.ref t2), .val (.int 0)] [(.int 0), (.ref t2), (.int 107)])) rfl rfl (hb hby d10_20) _ k) ?_
  refine Go.by (B := (s₁.setTop (mkF m 11 #[.val (.ref t1), .val (.ref t2), .val (.int 1)] [(.ref t1), (.int 1)]))) (fun _ k => XS.icmpYes X0.here hx rfl (pc0 := 21) (pc' := 26) rfl (hb hby d10_21) rfl (teq (by decide : (107 : Int32) = (107 : Int32))).1 (by decide) (by decide) (XS.iinc X0.here hx rfl (hb hby d10_26) rfl (l' := #[.val (.ref t1), .val (.ref t2), .val (.int 1)]) rfl (XS.goto X0.here hx rfl (pc0 := 29) (pc' := 9) rfl (hb hby d10_29) (by decide) (by decide) (XS.iloadN X0.here hx rfl (hb hby d10_9) rfl (XS.aloadN X0.here hx rfl (hb hby d10_10) rfl rfl k))))) ?_
  obtain ⟨cl92, Ar92, q92, S92, N_92, Hs92, G92⟩ := id pr0
  refine Go.by (B := (s₁.setTop (mkF m 12 #[.val (.ref t1), .val (.ref t2), .val (.int 1)] [(.int 4), (.int 1)]))) (fun _ k => X0.arraylength hx (by rw [e0]; exact Ar92.1) (State.isArrayOf_alike hZ.alike Ar92.2.1) (g := (mkF m 11 #[.val (.ref t1), .val (.ref t2), .val (.int 1)] [(.ref t1), (.int 1)])) rfl rfl (hb hby d10_11) _ (by rw [len_of S92 N_92]; exact k)) ?_
  refine Go.by (B := (s₁.setTop (mkF m 17 #[.val (.ref t1), .val (.ref t2), .val (.int 1)] [(.int 1), (.ref t1)]))) (fun _ k => XS.icmpNo X0.here hx rfl (hb hby d10_12) rfl (tlt (by decide : (1 : Int32) < (4 : Int32))).2.1 (XS.aloadN X0.here hx rfl (hb hby d10_15) rfl rfl (XS.iloadN X0.here hx rfl (hb hby d10_16) rfl k))) ?_
  obtain ⟨cl93, Ar93, q93, S93, N_93, Hs93, G93⟩ := id pr0
  have hin94 : ¬ ((1 : Int32) < 0 ∨ cl93.slots.size ≤ ((1 : Int32)).toNatClampNeg) := inb_of S93 ⟨by decide, by decide⟩
  have hat94 : cl93.slots[((1 : Int32)).toNatClampNeg]? = some (.int 101) := Hs93.at hin94 rfl
  refine Go.by (B := (s₁.setTop (mkF m 18 #[.val (.ref t1), .val (.ref t2), .val (.int 1)] [(.int 101)]))) (fun _ k => X0.baloadBytes hx (j := (1 : Int32)) (v := (.int 101)) (by rw [e0]; exact Ar93.1) (State.isArrayOf_alike hZ.alike Ar93.2.1) Ar93.2.2 hin94 hat94 (g := (mkF m 17 #[.val (.ref t1), .val (.ref t2), .val (.int 1)] [(.int 1), (.ref t1)])) rfl rfl (hb hby d10_17) _ k) ?_
  refine Go.by (B := (s₁.setTop (mkF m 20 #[.val (.ref t1), .val (.ref t2), .val (.int 1)] [(.int 1), (.ref t2), (.int 101)]))) (fun _ k => XS.aloadN X0.here hx rfl (hb hby d10_18) rfl rfl (XS.iloadN X0.here hx rfl (hb hby d10_19) rfl k)) ?_
  obtain ⟨cl95, Ar95, q95, S95, N_95, Hs95, G95⟩ := id pr1
  have hin96 : ¬ ((1 : Int32) < 0 ∨ cl95.slots.size ≤ ((1 : Int32)).toNatClampNeg) := inb_of S95 ⟨by decide, by decide⟩
  have hat96 : cl95.slots[((1 : Int32)).toNatClampNeg]? = some (.int 101) := Hs95.at hin96 rfl
  refine Go.by (B := (s₁.setTop (mkF m 21 #[.val (.ref t1), .val (.ref t2), .val (.int 1)] [(.int 101), (.int 101)]))) (fun _ k => X0.baloadBytes hx (j := (1 : Int32)) (v := (.int 101)) (by rw [e0]; exact Ar95.1) (State.isArrayOf_alike hZ.alike Ar95.2.1) Ar95.2.2 hin96 hat96 (g := (mkF m 20 #[.val (.ref t1), .val (.ref t2), .val (.int 1)] [(.int 1), (.ref t2), (.int 101)])) rfl rfl (hb hby d10_20) _ k) ?_
  refine Go.by (B := (s₁.setTop (mkF m 11 #[.val (.ref t1), .val (.ref t2), .val (.int 2)] [(.ref t1), (.int 2)]))) (fun _ k => XS.icmpYes X0.here hx rfl (pc0 := 21) (pc' := 26) rfl (hb hby d10_21) rfl (teq (by decide : (101 : Int32) = (101 : Int32))).1 (by decide) (by decide) (XS.iinc X0.here hx rfl (hb hby d10_26) rfl (l' := #[.val (.ref t1), .val (.ref t2), .val (.int 2)]) rfl (XS.goto X0.here hx rfl (pc0 := 29) (pc' := 9) rfl (hb hby d10_29) (by decide) (by decide) (XS.iloadN X0.here hx rfl (hb hby d10_9) rfl (XS.aloadN X0.here hx rfl (hb hby d10_10) rfl rfl k))))) ?_
  obtain ⟨cl97, Ar97, q97, S97, N_97, Hs97, G97⟩ := id pr0
  refine Go.by (B := (s₁.setTop (mkF m 12 #[.val (.ref t1), .val (.ref t2), .val (.int 2)] [(.int 4), (.int 2)]))) (fun _ k => X0.arraylength hx (by rw [e0]; exact Ar97.1) (State.isArrayOf_alike hZ.alike Ar97.2.1) (g := (mkF m 11 #[.val (.ref t1), .val (.ref t2), .val (.int 2)] [(.ref t1), (.int 2)])) rfl rfl (hb hby d10_11) _ (by rw [len_of S97 N_97]; exact k)) ?_
  refine Go.by (B := (s₁.setTop (mkF m 17 #[.val (.ref t1), .val (.ref t2), .val (.int 2)] [(.int 2), (.ref t1)]))) (fun _ k => XS.icmpNo X0.here hx rfl (hb hby d10_12) rfl (tlt (by decide : (2 : Int32) < (4 : Int32))).2.1 (XS.aloadN X0.here hx rfl (hb hby d10_15) rfl rfl (XS.iloadN X0.here hx rfl (hb hby d10_16) rfl k))) ?_
  obtain ⟨cl98, Ar98, q98, S98, N_98, Hs98, G98⟩ := id pr0
  have hin99 : ¬ ((2 : Int32) < 0 ∨ cl98.slots.size ≤ ((2 : Int32)).toNatClampNeg) := inb_of S98 ⟨by decide, by decide⟩
  have hat99 : cl98.slots[((2 : Int32)).toNatClampNeg]? = some (.int 101) := Hs98.at hin99 rfl
  refine Go.by (B := (s₁.setTop (mkF m 18 #[.val (.ref t1), .val (.ref t2), .val (.int 2)] [(.int 101)]))) (fun _ k => X0.baloadBytes hx (j := (2 : Int32)) (v := (.int 101)) (by rw [e0]; exact Ar98.1) (State.isArrayOf_alike hZ.alike Ar98.2.1) Ar98.2.2 hin99 hat99 (g := (mkF m 17 #[.val (.ref t1), .val (.ref t2), .val (.int 2)] [(.int 2), (.ref t1)])) rfl rfl (hb hby d10_17) _ k) ?_
  refine Go.by (B := (s₁.setTop (mkF m 20 #[.val (.ref t1), .val (.ref t2), .val (.int 2)] [(.int 2), (.ref t2), (.int 101)]))) (fun _ k => XS.aloadN X0.here hx rfl (hb hby d10_18) rfl rfl (XS.iloadN X0.here hx rfl (hb hby d10_19) rfl k)) ?_
  obtain ⟨cl100, Ar100, q100, S100, N_100, Hs100, G100⟩ := id pr1
  have hin101 : ¬ ((2 : Int32) < 0 ∨ cl100.slots.size ≤ ((2 : Int32)).toNatClampNeg) := inb_of S100 ⟨by decide, by decide⟩
  have hat101 : cl100.slots[((2 : Int32)).toNatClampNeg]? = some (.int 101) := Hs100.at hin101 rfl
  refine Go.by (B := (s₁.setTop (mkF m 21 #[.val (.ref t1), .val (.ref t2), .val (.int 2)] [(.int 101), (.int 101)]))) (fun _ k => X0.baloadBytes hx (j := (2 : Int32)) (v := (.int 101)) (by rw [e0]; exact Ar100.1) (State.isArrayOf_alike hZ.alike Ar100.2.1) Ar100.2.2 hin101 hat101 (g := (mkF m 20 #[.val (.ref t1), .val (.ref t2), .val (.int 2)] [(.int 2), (.ref t2), (.int 101)])) rfl rfl (hb hby d10_20) _ k) ?_
  refine Go.by (B := (s₁.setTop (mkF m 11 #[.val (.ref t1), .val (.ref t2), .val (.int 3)] [(.ref t1), (.int 3)]))) (fun _ k => XS.icmpYes X0.here hx rfl (pc0 := 21) (pc' := 26) rfl (hb hby d10_21) rfl (teq (by decide : (101 : Int32) = (101 : Int32))).1 (by decide) (by decide) (XS.iinc X0.here hx rfl (hb hby d10_26) rfl (l' := #[.val (.ref t1), .val (.ref t2), .val (.int 3)]) rfl (XS.goto X0.here hx rfl (pc0 := 29) (pc' := 9) rfl (hb hby d10_29) (by decide) (by decide) (XS.iloadN X0.here hx rfl (hb hby d10_9) rfl (XS.aloadN X0.here hx rfl (hb hby d10_10) rfl rfl k))))) ?_
  obtain ⟨cl102, Ar102, q102, S102, N_102, Hs102, G102⟩ := id pr0
  refine Go.by (B := (s₁.setTop (mkF m 12 #[.val (.ref t1), .val (.ref t2), .val (.int 3)] [(.int 4), (.int 3)]))) (fun _ k => X0.arraylength hx (by rw [e0]; exact Ar102.1) (State.isArrayOf_alike hZ.alike Ar102.2.1) (g := (mkF m 11 #[.val (.ref t1), .val (.ref t2), .val (.int 3)] [(.ref t1), (.int 3)])) rfl rfl (hb hby d10_11) _ (by rw [len_of S102 N_102]; exact k)) ?_
  refine Go.by (B := (s₁.setTop (mkF m 17 #[.val (.ref t1), .val (.ref t2), .val (.int 3)] [(.int 3), (.ref t1)]))) (fun _ k => XS.icmpNo X0.here hx rfl (hb hby d10_12) rfl (tlt (by decide : (3 : Int32) < (4 : Int32))).2.1 (XS.aloadN X0.here hx rfl (hb hby d10_15) rfl rfl (XS.iloadN X0.here hx rfl (hb hby d10_16) rfl k))) ?_
  obtain ⟨cl103, Ar103, q103, S103, N_103, Hs103, G103⟩ := id pr0
  have hin104 : ¬ ((3 : Int32) < 0 ∨ cl103.slots.size ≤ ((3 : Int32)).toNatClampNeg) := inb_of S103 ⟨by decide, by decide⟩
  have hat104 : cl103.slots[((3 : Int32)).toNatClampNeg]? = some (.int 112) := Hs103.at hin104 rfl
  refine Go.by (B := (s₁.setTop (mkF m 18 #[.val (.ref t1), .val (.ref t2), .val (.int 3)] [(.int 112)]))) (fun _ k => X0.baloadBytes hx (j := (3 : Int32)) (v := (.int 112)) (by rw [e0]; exact Ar103.1) (State.isArrayOf_alike hZ.alike Ar103.2.1) Ar103.2.2 hin104 hat104 (g := (mkF m 17 #[.val (.ref t1), .val (.ref t2), .val (.int 3)] [(.int 3), (.ref t1)])) rfl rfl (hb hby d10_17) _ k) ?_
  refine Go.by (B := (s₁.setTop (mkF m 20 #[.val (.ref t1), .val (.ref t2), .val (.int 3)] [(.int 3), (.ref t2), (.int 112)]))) (fun _ k => XS.aloadN X0.here hx rfl (hb hby d10_18) rfl rfl (XS.iloadN X0.here hx rfl (hb hby d10_19) rfl k)) ?_
  obtain ⟨cl105, Ar105, q105, S105, N_105, Hs105, G105⟩ := id pr1
  have hin106 : ¬ ((3 : Int32) < 0 ∨ cl105.slots.size ≤ ((3 : Int32)).toNatClampNeg) := inb_of S105 ⟨by decide, by decide⟩
  have hat106 : cl105.slots[((3 : Int32)).toNatClampNeg]? = some (.int 112) := Hs105.at hin106 rfl
  refine Go.by (B := (s₁.setTop (mkF m 21 #[.val (.ref t1), .val (.ref t2), .val (.int 3)] [(.int 112), (.int 112)]))) (fun _ k => X0.baloadBytes hx (j := (3 : Int32)) (v := (.int 112)) (by rw [e0]; exact Ar105.1) (State.isArrayOf_alike hZ.alike Ar105.2.1) Ar105.2.2 hin106 hat106 (g := (mkF m 20 #[.val (.ref t1), .val (.ref t2), .val (.int 3)] [(.int 3), (.ref t2), (.int 112)])) rfl rfl (hb hby d10_20) _ k) ?_
  refine Go.by (B := (s₁.setTop (mkF m 11 #[.val (.ref t1), .val (.ref t2), .val (.int 4)] [(.ref t1), (.int 4)]))) (fun _ k => XS.icmpYes X0.here hx rfl (pc0 := 21) (pc' := 26) rfl (hb hby d10_21) rfl (teq (by decide : (112 : Int32) = (112 : Int32))).1 (by decide) (by decide) (XS.iinc X0.here hx rfl (hb hby d10_26) rfl (l' := #[.val (.ref t1), .val (.ref t2), .val (.int 4)]) rfl (XS.goto X0.here hx rfl (pc0 := 29) (pc' := 9) rfl (hb hby d10_29) (by decide) (by decide) (XS.iloadN X0.here hx rfl (hb hby d10_9) rfl (XS.aloadN X0.here hx rfl (hb hby d10_10) rfl rfl k))))) ?_
  obtain ⟨cl107, Ar107, q107, S107, N_107, Hs107, G107⟩ := id pr0
  refine Go.by (B := (s₁.setTop (mkF m 12 #[.val (.ref t1), .val (.ref t2), .val (.int 4)] [(.int 4), (.int 4)]))) (fun _ k => X0.arraylength hx (by rw [e0]; exact Ar107.1) (State.isArrayOf_alike hZ.alike Ar107.2.1) (g := (mkF m 11 #[.val (.ref t1), .val (.ref t2), .val (.int 4)] [(.ref t1), (.int 4)])) rfl rfl (hb hby d10_11) _ (by rw [len_of S107 N_107]; exact k)) ?_
  refine Go.by (B := (s₁.setTop (mkF m 33 #[.val (.ref t1), .val (.ref t2), .val (.int 4)] [(.int 1)]))) (fun _ k => XS.icmpYes X0.here hx rfl (pc0 := 12) (pc' := 32) rfl (hb hby d10_12) rfl (flt (by decide : ¬ ((4 : Int32) < (4 : Int32)))).2.1 (by decide) (by decide) (XS.iconst X0.here hx rfl (hb hby d10_32) k)) ?_
  refine Go.ret X0 hx hlk (t := .boolean) hret rfl (Or.inl ⟨rfl, by simp, _, rfl⟩) (hb hby d10_33) (by decide) (by decide) ?_
  rw [e0]
  exact ⟨rfl, N0, rfl⟩
theorem ef_rm_seq_kk (m : MethodId) (x0 : Addr) (x1 : Addr) : entryFrame m #[(.ref x0), (.ref x1)] 3 = mkF m 0 #[.val (.ref x0), .val (.ref x1), .unset] [] := by first | (simp [entryFrame, mkF, argsToLocals, Value.category]; done) | rfl
theorem d9_0 : decode jdk_42_method_66_code 0 = .ok (.aload_n 0, 1) := by decide +kernel
theorem d9_1 : decode jdk_42_method_66_code 1 = .ok (.aload_n 1, 1) := by decide +kernel
theorem d9_2 : decode jdk_42_method_66_code 2 = .ok (.if_acmp .ne 5, 3) := by decide +kernel
theorem d9_5 : decode jdk_42_method_66_code 5 = .ok (.iconst 1, 1) := by decide +kernel
theorem d9_6 : decode jdk_42_method_66_code 6 = .ok (.ireturn, 1) := by decide +kernel
theorem d9_7 : decode jdk_42_method_66_code 7 = .ok (.aload_n 1, 1) := by decide +kernel
theorem d9_8 : decode jdk_42_method_66_code 8 = .ok (.instanceof 10, 3) := by decide +kernel
theorem d9_11 : decode jdk_42_method_66_code 11 = .ok (.ifCond .eq 43, 3) := by decide +kernel
theorem d9_14 : decode jdk_42_method_66_code 14 = .ok (.aload_n 1, 1) := by decide +kernel
theorem d9_15 : decode jdk_42_method_66_code 15 = .ok (.checkcast 10, 3) := by decide +kernel
theorem d9_18 : decode jdk_42_method_66_code 18 = .ok (.astore_n 2, 1) := by decide +kernel
theorem d9_19 : decode jdk_42_method_66_code 19 = .ok (.getstatic 38, 3) := by decide +kernel
theorem d9_22 : decode jdk_42_method_66_code 22 = .ok (.ifCond .eq 14, 3) := by decide +kernel
theorem d9_25 : decode jdk_42_method_66_code 25 = .ok (.aload_n 0, 1) := by decide +kernel
theorem d9_26 : decode jdk_42_method_66_code 26 = .ok (.getfield 15, 3) := by decide +kernel
theorem d9_29 : decode jdk_42_method_66_code 29 = .ok (.aload_n 2, 1) := by decide +kernel
theorem d9_30 : decode jdk_42_method_66_code 30 = .ok (.getfield 15, 3) := by decide +kernel
theorem d9_33 : decode jdk_42_method_66_code 33 = .ok (.if_icmp .ne 21, 3) := by decide +kernel
theorem d9_36 : decode jdk_42_method_66_code 36 = .ok (.aload_n 0, 1) := by decide +kernel
theorem d9_37 : decode jdk_42_method_66_code 37 = .ok (.getfield 9, 3) := by decide +kernel
theorem d9_40 : decode jdk_42_method_66_code 40 = .ok (.aload_n 2, 1) := by decide +kernel
theorem d9_41 : decode jdk_42_method_66_code 41 = .ok (.getfield 9, 3) := by decide +kernel
theorem d9_44 : decode jdk_42_method_66_code 44 = .ok (.invokestatic 541, 3) := by decide +kernel
theorem pd_4 : parseMethodDescriptor "([B[B)Z" = some ⟨[(.array .byte), (.array .byte)], some .boolean⟩ := by decide +kernel
theorem d9_47 : decode jdk_42_method_66_code 47 = .ok (.ifCond .eq 7, 3) := by decide +kernel
theorem d9_50 : decode jdk_42_method_66_code 50 = .ok (.iconst 1, 1) := by decide +kernel
theorem d9_51 : decode jdk_42_method_66_code 51 = .ok (.goto 4, 3) := by decide +kernel
theorem d9_55 : decode jdk_42_method_66_code 55 = .ok (.ireturn, 1) := by decide +kernel
def Q_rm_seq_kk (Z : State) (a1 : Addr) (a2 : Addr) (t1 : Addr) (t2 : Addr) (k1 : ClassId) (k2 : ClassId) (cs : Int32) (h0 : Heap) (n0 : Nat) (v : Option Value) (h : Heap) (L : List Loc) : Prop := v = some (.int 1) ∧ Fr n0 L ∧ h = h0
set_option maxRecDepth 65536 in
set_option maxHeartbeats 40000000 in
theorem rm_seq_kk (l : Launch) (Z : State) (a0 : Array Value) (hw : ∀ d ∈ tables_1, d.before a0 Z = true) (ws : List Jvm.Cond) (a1 : Addr) (a2 : Addr) (t1 : Addr) (t2 : Addr) (k1 : ClassId) (k2 : ClassId) (cs : Int32) (h0 : Heap) (n0 : Nat) (Z0 : n0 ≤ h0.size) (pr0 : Old Z n0 h0) (pr1 : Sta Z Z.heap "java/lang/String" "COMPACT_STRINGS" "Z" (.int cs)) (hcs : ¬ (cs = (0 : Int32))) (pr3 : Exa Z h0 a1 "java/lang/String") (pr4 : Fld Z h0 a1 "java/lang/String" "coder" "B" (.int 0)) (pr5 : Fld Z h0 a1 "java/lang/String" "value" "[B" (.ref t1)) (pr6 : Arv Z h0 t1 k1 .byte (4 : Int32) [(.int 107), (.int 101), (.int 101), (.int 112)] (.int 0)) (pr7 : Exa Z h0 a2 "java/lang/String") (pr8 : Fld Z h0 a2 "java/lang/String" "coder" "B" (.int 0)) (pr9 : Fld Z h0 a2 "java/lang/String" "value" "[B" (.ref t2)) (pr10 : Arv Z h0 t2 k2 .byte (4 : Int32) [(.int 107), (.int 101), (.int 101), (.int 112)] (.int 0)) :
    Met l Z (⟨"java/lang/String", "equals", "(Ljava/lang/Object;)Z"⟩ : MethodName) jdk_42_method_66_code 3 (some .boolean) ws ({ frames := 1, cells := 0, slots := 0, locals := 14 } : Room) #[(.ref a1), (.ref a2)] h0 (Q_rm_seq_kk Z a1 a2 t1 t2 k1 k2 cs h0 n0) := by
  refine Met.enter (f0 := fun m => mkF m 0 #[.val (.ref a1), .val (.ref a2), .unset] []) (plainFor_of_name pn_java_lang_String) (fun m => ef_rm_seq_kk m a1 a2) ?_
  intro p e s m below meth c s₁ hx hby hml hown hnm hret hlk hZ X0 e0
  have hown : s.vm.findClass "java/lang/String" = some m.cls := hown
  have hnm : meth.name = "equals" := hnm
  have hml : c.maxLocals = 3 := hml
  have hby : c.code = jdk_42_method_66_code := hby
  have N0 := Fr.nil n0
  refine Go.by (B := (s₁.setTop (mkF m 2 #[.val (.ref a1), .val (.ref a2), .unset] [(.ref a2), (.ref a1)]))) (fun _ k => XS.aloadN X0.here hx rfl (hb hby d9_0) rfl rfl (XS.aloadN X0.here hx rfl (hb hby d9_1) rfl rfl k)) ?_
  by_cases c108 : a1 = a2
  · skip
    refine Go.by (B := (s₁.setTop (mkF m 6 #[.val (.ref a1), .val (.ref a2), .unset] [(.int 1)]))) (fun _ k => Jvm.RoadKit.acmp (g := (mkF m 2 #[.val (.ref a1), .val (.ref a2), .unset] [(.ref a2), (.ref a1)])) X0 hx rfl rfl rfl (pc0 := 2) (pc' := 5) (same := true) rfl (hb hby d9_2) rfl (decide_eq_true (congrArg Value.ref c108)) (by decide) (by decide) (XS.iconst X0.here hx rfl (hb hby d9_5) k)) ?_
    refine Go.ret X0 hx hlk (t := .boolean) hret rfl (Or.inl ⟨rfl, by simp, _, rfl⟩) (hb hby d9_6) (by decide) (by decide) ?_
    rw [e0]
    exact ⟨rfl, N0, rfl⟩
  · skip
    refine Go.by (B := (s₁.setTop (mkF m 8 #[.val (.ref a1), .val (.ref a2), .unset] [(.ref a2)]))) (fun _ k => Jvm.RoadKit.acmp (g := (mkF m 2 #[.val (.ref a1), .val (.ref a2), .unset] [(.ref a2), (.ref a1)])) X0 hx rfl rfl rfl (pc0 := 2) (pc' := 7) (same := false) rfl (hb hby d9_2) rfl (decide_eq_false fun q => c108 (Value.ref.inj q)) (by decide) (by decide) (XS.aloadN X0.here hx rfl (hb hby d9_7) rfl rfl k)) ?_
    obtain ⟨T109, X109, e109, st109⟩ := instY X0 hx hZ hown (wd hw 59 rfl) e0 (Ins.self pr7) (g := (mkF m 8 #[.val (.ref a1), .val (.ref a2), .unset] [(.ref a2)])) rfl rfl (hb hby d9_8)
    refine Go.by (B := (T109.setTop (mkF m 11 #[.val (.ref a1), .val (.ref a2), .unset] [(.int 1)]))) st109 ?_
    refine Go.by (B := (T109.setTop (mkF m 15 #[.val (.ref a1), .val (.ref a2), .unset] [(.ref a2)]))) (fun _ k => XS.ifNo X109.here hx rfl (hb hby d9_11) rfl ((if0 _ _).trans (feq (by decide : ¬ ((1 : Int32) = (0 : Int32)))).1) (XS.aloadN X109.here hx rfl (hb hby d9_14) rfl rfl k)) ?_
    obtain ⟨T110, X110, e110, st110⟩ := castY X109 hx hZ hown (wd hw 59 rfl) e109 (Ins.self pr7) (g := (mkF m 15 #[.val (.ref a1), .val (.ref a2), .unset] [(.ref a2)])) rfl rfl (hb hby d9_15)
    refine Go.by (B := (T110.setTop (mkF m 18 #[.val (.ref a1), .val (.ref a2), .unset] [(.ref a2)]))) st110 ?_
    refine Go.by (B := (T110.setTop (mkF m 19 #[.val (.ref a1), .val (.ref a2), .val (.ref a2)] []))) (fun _ k => XS.astoreN X110.here hx rfl (hb hby d9_18) rfl rfl (l' := #[.val (.ref a1), .val (.ref a2), .val (.ref a2)]) rfl k) ?_
    obtain ⟨T111, X111, e111, st111⟩ := getS2 X110 hx hZ hown (host := "") (Or.inl (wd hw 14 rfl)) Via.refl e110 (pr1.ext pr0.2) (g := (mkF m 19 #[.val (.ref a1), .val (.ref a2), .val (.ref a2)] [])) rfl (hb hby d9_19)
    refine Go.by (B := (T111.setTop (mkF m 22 #[.val (.ref a1), .val (.ref a2), .val (.ref a2)] [(.int cs)]))) st111 ?_
    refine Go.by (B := (T111.setTop (mkF m 26 #[.val (.ref a1), .val (.ref a2), .val (.ref a2)] [(.ref a1)]))) (fun _ k => XS.ifNo X111.here hx rfl (hb hby d9_22) rfl ((if0 _ _).trans (feq hcs).1) (XS.aloadN X111.here hx rfl (hb hby d9_25) rfl rfl k)) ?_
    obtain ⟨T112, X112, e112, st112⟩ := getF X111 hx hZ hown (host := "") (Or.inl (wd hw 26 rfl)) Via.refl e111 pr4 (g := (mkF m 26 #[.val (.ref a1), .val (.ref a2), .val (.ref a2)] [(.ref a1)])) rfl rfl (hb hby d9_26)
    refine Go.by (B := (T112.setTop (mkF m 29 #[.val (.ref a1), .val (.ref a2), .val (.ref a2)] [(.int 0)]))) st112 ?_
    refine Go.by (B := (T112.setTop (mkF m 30 #[.val (.ref a1), .val (.ref a2), .val (.ref a2)] [(.ref a2), (.int 0)]))) (fun _ k => XS.aloadN X112.here hx rfl (hb hby d9_29) rfl rfl k) ?_
    obtain ⟨T113, X113, e113, st113⟩ := getF X112 hx hZ hown (host := "") (Or.inl (wd hw 26 rfl)) Via.refl e112 pr8 (g := (mkF m 30 #[.val (.ref a1), .val (.ref a2), .val (.ref a2)] [(.ref a2), (.int 0)])) rfl rfl (hb hby d9_30)
    refine Go.by (B := (T113.setTop (mkF m 33 #[.val (.ref a1), .val (.ref a2), .val (.ref a2)] [(.int 0), (.int 0)]))) st113 ?_
    refine Go.by (B := (T113.setTop (mkF m 37 #[.val (.ref a1), .val (.ref a2), .val (.ref a2)] [(.ref a1)]))) (fun _ k => XS.icmpNo X113.here hx rfl (hb hby d9_33) rfl (teq (by decide : (0 : Int32) = (0 : Int32))).2 (XS.aloadN X113.here hx rfl (hb hby d9_36) rfl rfl k)) ?_
    obtain ⟨T114, X114, e114, st114⟩ := getF X113 hx hZ hown (host := "") (Or.inl (wd hw 28 rfl)) Via.refl e113 pr5 (g := (mkF m 37 #[.val (.ref a1), .val (.ref a2), .val (.ref a2)] [(.ref a1)])) rfl rfl (hb hby d9_37)
    refine Go.by (B := (T114.setTop (mkF m 40 #[.val (.ref a1), .val (.ref a2), .val (.ref a2)] [(.ref t1)]))) st114 ?_
    refine Go.by (B := (T114.setTop (mkF m 41 #[.val (.ref a1), .val (.ref a2), .val (.ref a2)] [(.ref a2), (.ref t1)]))) (fun _ k => XS.aloadN X114.here hx rfl (hb hby d9_40) rfl rfl k) ?_
    obtain ⟨T115, X115, e115, st115⟩ := getF X114 hx hZ hown (host := "") (Or.inl (wd hw 28 rfl)) Via.refl e114 pr9 (g := (mkF m 41 #[.val (.ref a1), .val (.ref a2), .val (.ref a2)] [(.ref a2), (.ref t1)])) rfl rfl (hb hby d9_41)
    refine Go.by (B := (T115.setTop (mkF m 44 #[.val (.ref a1), .val (.ref a2), .val (.ref a2)] [(.ref t2), (.ref t1)]))) st115 ?_
    obtain ⟨_, _, ⟨T116, L116, k116, n116⟩, -, X116, ⟨Lc116, hQ116, l116, y116, z116⟩, st116⟩ := Jvm.LawKit.callS X115 hx (y := (⟨"java/lang/StringLatin1", "equals", "([B[B)Z"⟩ : MethodName)) hown (mvT hZ (wd hw 60 rfl)) (mvT hZ (wd hw 61 rfl)) (mvT hZ (wd hw 62 rfl)) (mvT hZ (wd hw 63 rfl)) (by decide) (backOf (W := 0) (rm_leq_kk l Z a0 hw [] t1 t2 k1 k2 h0 n0 Z0 pr6 pr10) hZ (wd hw 63 rfl) (wd hw 62 rfl) (by decide) (by decide)) (g := (mkF m 44 #[.val (.ref a1), .val (.ref a2), .val (.ref a2)] [(.ref t2), (.ref t1)])) rfl (by rw [hml]; rfl) (argsL := [(.ref t1), (.ref t2)]) (rest := []) (lenOf pd_4 rfl) rfl (by show 2 * 0 + _ ≤ _; exact Nat.le_of_eq rfl) (hb hby d9_44) (fun _ _ => ⟨rfl, e115, Nat.le_of_ble_eq_true rfl, Nat.le_of_ble_eq_true rfl⟩)
    dsimp only [Pt.U, Pt.locs, Pt.cells, Pt.slots] at X116 l116 y116 z116 st116 hQ116
    subst l116 y116 z116
    obtain ⟨rfl, Nq116, hh116⟩ := hQ116
    have N116 := Fr.app N0 Nq116
    refine Go.by (B := (T116.setTop (mkF m 47 #[.val (.ref a1), .val (.ref a2), .val (.ref a2)] [(.int 1)]))) (fun _ k => st116 _ k) ?_
    refine Go.by (B := (T116.setTop (mkF m 55 #[.val (.ref a1), .val (.ref a2), .val (.ref a2)] [(.int 1)]))) (fun _ k => XS.ifNo X116.here hx rfl (hb hby d9_47) rfl ((if0 _ _).trans (feq (by decide : ¬ ((1 : Int32) = (0 : Int32)))).1) (XS.iconst X116.here hx rfl (hb hby d9_50) (XS.goto X116.here hx rfl (pc0 := 51) (pc' := 55) rfl (hb hby d9_51) (by decide) (by decide) k))) ?_
    refine Go.ret X116 hx hlk (t := .boolean) hret rfl (Or.inl ⟨rfl, by simp, _, rfl⟩) (hb hby d9_55) (by decide) (by decide) ?_
    rw [hh116]
    exact ⟨rfl, N116, rfl⟩
theorem ef_rm_leq_ka (m : MethodId) (x0 : Addr) (x1 : Addr) : entryFrame m #[(.ref x0), (.ref x1)] 3 = mkF m 0 #[.val (.ref x0), .val (.ref x1), .unset] [] := by first | (simp [entryFrame, mkF, argsToLocals, Value.category]; done) | rfl
theorem d10_34 : decode jdk_43_method_13_code 34 = .ok (.iconst 0, 1) := by decide +kernel
theorem d10_35 : decode jdk_43_method_13_code 35 = .ok (.ireturn, 1) := by decide +kernel
def Q_rm_leq_ka (Z : State) (t1 : Addr) (t2 : Addr) (k1 : ClassId) (k2 : ClassId) (h0 : Heap) (n0 : Nat) (v : Option Value) (h : Heap) (L : List Loc) : Prop := v = some (.int 0) ∧ Fr n0 L ∧ h = h0
set_option maxRecDepth 65536 in
set_option maxHeartbeats 40000000 in
theorem rm_leq_ka (l : Launch) (Z : State) (a0 : Array Value) (hw : ∀ d ∈ tables_1, d.before a0 Z = true) (ws : List Jvm.Cond) (t1 : Addr) (t2 : Addr) (k1 : ClassId) (k2 : ClassId) (h0 : Heap) (n0 : Nat) (Z0 : n0 ≤ h0.size) (pr0 : Arv Z h0 t1 k1 .byte (4 : Int32) [(.int 107), (.int 101), (.int 101), (.int 112)] (.int 0)) (pr1 : Arv Z h0 t2 k2 .byte (5 : Int32) [(.int 97), (.int 112), (.int 112), (.int 108), (.int 121)] (.int 0)) :
    Met l Z (⟨"java/lang/StringLatin1", "equals", "([B[B)Z"⟩ : MethodName) jdk_43_method_13_code 3 (some .boolean) ws ({ frames := 0, cells := 0, slots := 0, locals := 0 } : Room) #[(.ref t1), (.ref t2)] h0 (Q_rm_leq_ka Z t1 t2 k1 k2 h0 n0) := by
  refine Met.enter (f0 := fun m => mkF m 0 #[.val (.ref t1), .val (.ref t2), .unset] []) (plainFor_of_name pn_java_lang_StringLatin1) (fun m => ef_rm_leq_ka m t1 t2) ?_
  intro p e s m below meth c s₁ hx hby hml hown hnm hret hlk hZ X0 e0
  have hown : s.vm.findClass "java/lang/StringLatin1" = some m.cls := hown
  have hnm : meth.name = "equals" := hnm
  have hml : c.maxLocals = 3 := hml
  have hby : c.code = jdk_43_method_13_code := hby
  have N0 := Fr.nil n0
  refine Go.by (B := (s₁.setTop (mkF m 1 #[.val (.ref t1), .val (.ref t2), .unset] [(.ref t1)]))) (fun _ k => XS.aloadN X0.here hx rfl (hb hby d10_0) rfl rfl k) ?_
  obtain ⟨cl117, Ar117, q117, S117, N_117, Hs117, G117⟩ := id pr0
  refine Go.by (B := (s₁.setTop (mkF m 2 #[.val (.ref t1), .val (.ref t2), .unset] [(.int 4)]))) (fun _ k => X0.arraylength hx (by rw [e0]; exact Ar117.1) (State.isArrayOf_alike hZ.alike Ar117.2.1) (g := (mkF m 1 #[.val (.ref t1), .val (.ref t2), .unset] [(.ref t1)])) rfl rfl (hb hby d10_1) _ (by rw [len_of S117 N_117]; exact k)) ?_
  refine Go.by (B := (s₁.setTop (mkF m 3 #[.val (.ref t1), .val (.ref t2), .unset] [(.ref t2), (.int 4)]))) (fun _ k => XS.aloadN X0.here hx rfl (hb hby d10_2) rfl rfl k) ?_
  obtain ⟨cl118, Ar118, q118, S118, N_118, Hs118, G118⟩ := id pr1
  refine Go.by (B := (s₁.setTop (mkF m 4 #[.val (.ref t1), .val (.ref t2), .unset] [(.int 5), (.int 4)]))) (fun _ k => X0.arraylength hx (by rw [e0]; exact Ar118.1) (State.isArrayOf_alike hZ.alike Ar118.2.1) (g := (mkF m 3 #[.val (.ref t1), .val (.ref t2), .unset] [(.ref t2), (.int 4)])) rfl rfl (hb hby d10_3) _ (by rw [len_of S118 N_118]; exact k)) ?_
  refine Go.by (B := (s₁.setTop (mkF m 35 #[.val (.ref t1), .val (.ref t2), .unset] [(.int 0)]))) (fun _ k => XS.icmpYes X0.here hx rfl (pc0 := 4) (pc' := 34) rfl (hb hby d10_4) rfl (feq (by decide : ¬ ((4 : Int32) = (5 : Int32)))).2 (by decide) (by decide) (XS.iconst X0.here hx rfl (hb hby d10_34) k)) ?_
  refine Go.ret X0 hx hlk (t := .boolean) hret rfl (Or.inl ⟨rfl, by simp, _, rfl⟩) (hb hby d10_35) (by decide) (by decide) ?_
  rw [e0]
  exact ⟨rfl, N0, rfl⟩
theorem ef_rm_seq_ka (m : MethodId) (x0 : Addr) (x1 : Addr) : entryFrame m #[(.ref x0), (.ref x1)] 3 = mkF m 0 #[.val (.ref x0), .val (.ref x1), .unset] [] := by first | (simp [entryFrame, mkF, argsToLocals, Value.category]; done) | rfl
theorem d9_54 : decode jdk_42_method_66_code 54 = .ok (.iconst 0, 1) := by decide +kernel
def Q_rm_seq_ka (Z : State) (a1 : Addr) (a2 : Addr) (t1 : Addr) (t2 : Addr) (k1 : ClassId) (k2 : ClassId) (cs : Int32) (h0 : Heap) (n0 : Nat) (v : Option Value) (h : Heap) (L : List Loc) : Prop := v = some (.int 0) ∧ Fr n0 L ∧ h = h0
set_option maxRecDepth 65536 in
set_option maxHeartbeats 40000000 in
theorem rm_seq_ka (l : Launch) (Z : State) (a0 : Array Value) (hw : ∀ d ∈ tables_1, d.before a0 Z = true) (ws : List Jvm.Cond) (a1 : Addr) (a2 : Addr) (t1 : Addr) (t2 : Addr) (k1 : ClassId) (k2 : ClassId) (cs : Int32) (h0 : Heap) (n0 : Nat) (Z0 : n0 ≤ h0.size) (pr0 : Old Z n0 h0) (pr1 : Sta Z Z.heap "java/lang/String" "COMPACT_STRINGS" "Z" (.int cs)) (hcs : ¬ (cs = (0 : Int32))) (pr3 : Exa Z h0 a1 "java/lang/String") (pr4 : Fld Z h0 a1 "java/lang/String" "coder" "B" (.int 0)) (pr5 : Fld Z h0 a1 "java/lang/String" "value" "[B" (.ref t1)) (pr6 : Arv Z h0 t1 k1 .byte (4 : Int32) [(.int 107), (.int 101), (.int 101), (.int 112)] (.int 0)) (pr7 : Exa Z h0 a2 "java/lang/String") (pr8 : Fld Z h0 a2 "java/lang/String" "coder" "B" (.int 0)) (pr9 : Fld Z h0 a2 "java/lang/String" "value" "[B" (.ref t2)) (pr10 : Arv Z h0 t2 k2 .byte (5 : Int32) [(.int 97), (.int 112), (.int 112), (.int 108), (.int 121)] (.int 0)) (pr11 : a1 ≠ a2) :
    Met l Z (⟨"java/lang/String", "equals", "(Ljava/lang/Object;)Z"⟩ : MethodName) jdk_42_method_66_code 3 (some .boolean) ws ({ frames := 1, cells := 0, slots := 0, locals := 14 } : Room) #[(.ref a1), (.ref a2)] h0 (Q_rm_seq_ka Z a1 a2 t1 t2 k1 k2 cs h0 n0) := by
  refine Met.enter (f0 := fun m => mkF m 0 #[.val (.ref a1), .val (.ref a2), .unset] []) (plainFor_of_name pn_java_lang_String) (fun m => ef_rm_seq_ka m a1 a2) ?_
  intro p e s m below meth c s₁ hx hby hml hown hnm hret hlk hZ X0 e0
  have hown : s.vm.findClass "java/lang/String" = some m.cls := hown
  have hnm : meth.name = "equals" := hnm
  have hml : c.maxLocals = 3 := hml
  have hby : c.code = jdk_42_method_66_code := hby
  have N0 := Fr.nil n0
  refine Go.by (B := (s₁.setTop (mkF m 8 #[.val (.ref a1), .val (.ref a2), .unset] [(.ref a2)]))) (fun _ k => XS.aloadN X0.here hx rfl (hb hby d9_0) rfl rfl (XS.aloadN X0.here hx rfl (hb hby d9_1) rfl rfl (Jvm.RoadKit.acmp (g := (mkF m 2 #[.val (.ref a1), .val (.ref a2), .unset] [(.ref a2), (.ref a1)])) X0 hx rfl rfl rfl (pc0 := 2) (pc' := 7) (same := false) rfl (hb hby d9_2) rfl (decide_eq_false fun q => pr11 (Value.ref.inj q)) (by decide) (by decide) (XS.aloadN X0.here hx rfl (hb hby d9_7) rfl rfl k)))) ?_
  obtain ⟨T119, X119, e119, st119⟩ := instY X0 hx hZ hown (wd hw 59 rfl) e0 (Ins.self pr7) (g := (mkF m 8 #[.val (.ref a1), .val (.ref a2), .unset] [(.ref a2)])) rfl rfl (hb hby d9_8)
  refine Go.by (B := (T119.setTop (mkF m 11 #[.val (.ref a1), .val (.ref a2), .unset] [(.int 1)]))) st119 ?_
  refine Go.by (B := (T119.setTop (mkF m 15 #[.val (.ref a1), .val (.ref a2), .unset] [(.ref a2)]))) (fun _ k => XS.ifNo X119.here hx rfl (hb hby d9_11) rfl ((if0 _ _).trans (feq (by decide : ¬ ((1 : Int32) = (0 : Int32)))).1) (XS.aloadN X119.here hx rfl (hb hby d9_14) rfl rfl k)) ?_
  obtain ⟨T120, X120, e120, st120⟩ := castY X119 hx hZ hown (wd hw 59 rfl) e119 (Ins.self pr7) (g := (mkF m 15 #[.val (.ref a1), .val (.ref a2), .unset] [(.ref a2)])) rfl rfl (hb hby d9_15)
  refine Go.by (B := (T120.setTop (mkF m 18 #[.val (.ref a1), .val (.ref a2), .unset] [(.ref a2)]))) st120 ?_
  refine Go.by (B := (T120.setTop (mkF m 19 #[.val (.ref a1), .val (.ref a2), .val (.ref a2)] []))) (fun _ k => XS.astoreN X120.here hx rfl (hb hby d9_18) rfl rfl (l' := #[.val (.ref a1), .val (.ref a2), .val (.ref a2)]) rfl k) ?_
  obtain ⟨T121, X121, e121, st121⟩ := getS2 X120 hx hZ hown (host := "") (Or.inl (wd hw 14 rfl)) Via.refl e120 (pr1.ext pr0.2) (g := (mkF m 19 #[.val (.ref a1), .val (.ref a2), .val (.ref a2)] [])) rfl (hb hby d9_19)
  refine Go.by (B := (T121.setTop (mkF m 22 #[.val (.ref a1), .val (.ref a2), .val (.ref a2)] [(.int cs)]))) st121 ?_
  refine Go.by (B := (T121.setTop (mkF m 26 #[.val (.ref a1), .val (.ref a2), .val (.ref a2)] [(.ref a1)]))) (fun _ k => XS.ifNo X121.here hx rfl (hb hby d9_22) rfl ((if0 _ _).trans (feq hcs).1) (XS.aloadN X121.here hx rfl (hb hby d9_25) rfl rfl k)) ?_
  obtain ⟨T122, X122, e122, st122⟩ := getF X121 hx hZ hown (host := "") (Or.inl (wd hw 26 rfl)) Via.refl e121 pr4 (g := (mkF m 26 #[.val (.ref a1), .val (.ref a2), .val (.ref a2)] [(.ref a1)])) rfl rfl (hb hby d9_26)
  refine Go.by (B := (T122.setTop (mkF m 29 #[.val (.ref a1), .val (.ref a2), .val (.ref a2)] [(.int 0)]))) st122 ?_
  refine Go.by (B := (T122.setTop (mkF m 30 #[.val (.ref a1), .val (.ref a2), .val (.ref a2)] [(.ref a2), (.int 0)]))) (fun _ k => XS.aloadN X122.here hx rfl (hb hby d9_29) rfl rfl k) ?_
  obtain ⟨T123, X123, e123, st123⟩ := getF X122 hx hZ hown (host := "") (Or.inl (wd hw 26 rfl)) Via.refl e122 pr8 (g := (mkF m 30 #[.val (.ref a1), .val (.ref a2), .val (.ref a2)] [(.ref a2), (.int 0)])) rfl rfl (hb hby d9_30)
  refine Go.by (B := (T123.setTop (mkF m 33 #[.val (.ref a1), .val (.ref a2), .val (.ref a2)] [(.int 0), (.int 0)]))) st123 ?_
  refine Go.by (B := (T123.setTop (mkF m 37 #[.val (.ref a1), .val (.ref a2), .val (.ref a2)] [(.ref a1)]))) (fun _ k => XS.icmpNo X123.here hx rfl (hb hby d9_33) rfl (teq (by decide : (0 : Int32) = (0 : Int32))).2 (XS.aloadN X123.here hx rfl (hb hby d9_36) rfl rfl k)) ?_
  obtain ⟨T124, X124, e124, st124⟩ := getF X123 hx hZ hown (host := "") (Or.inl (wd hw 28 rfl)) Via.refl e123 pr5 (g := (mkF m 37 #[.val (.ref a1), .val (.ref a2), .val (.ref a2)] [(.ref a1)])) rfl rfl (hb hby d9_37)
  refine Go.by (B := (T124.setTop (mkF m 40 #[.val (.ref a1), .val (.ref a2), .val (.ref a2)] [(.ref t1)]))) st124 ?_
  refine Go.by (B := (T124.setTop (mkF m 41 #[.val (.ref a1), .val (.ref a2), .val (.ref a2)] [(.ref a2), (.ref t1)]))) (fun _ k => XS.aloadN X124.here hx rfl (hb hby d9_40) rfl rfl k) ?_
  obtain ⟨T125, X125, e125, st125⟩ := getF X124 hx hZ hown (host := "") (Or.inl (wd hw 28 rfl)) Via.refl e124 pr9 (g := (mkF m 41 #[.val (.ref a1), .val (.ref a2), .val (.ref a2)] [(.ref a2), (.ref t1)])) rfl rfl (hb hby d9_41)
  refine Go.by (B := (T125.setTop (mkF m 44 #[.val (.ref a1), .val (.ref a2), .val (.ref a2)] [(.ref t2), (.ref t1)]))) st125 ?_
  obtain ⟨_, _, ⟨T126, L126, k126, n126⟩, -, X126, ⟨Lc126, hQ126, l126, y126, z126⟩, st126⟩ := Jvm.LawKit.callS X125 hx (y := (⟨"java/lang/StringLatin1", "equals", "([B[B)Z"⟩ : MethodName)) hown (mvT hZ (wd hw 60 rfl)) (mvT hZ (wd hw 61 rfl)) (mvT hZ (wd hw 62 rfl)) (mvT hZ (wd hw 63 rfl)) (by decide) (backOf (W := 0) (rm_leq_ka l Z a0 hw [] t1 t2 k1 k2 h0 n0 Z0 pr6 pr10) hZ (wd hw 63 rfl) (wd hw 62 rfl) (by decide) (by decide)) (g := (mkF m 44 #[.val (.ref a1), .val (.ref a2), .val (.ref a2)] [(.ref t2), (.ref t1)])) rfl (by rw [hml]; rfl) (argsL := [(.ref t1), (.ref t2)]) (rest := []) (lenOf pd_4 rfl) rfl (by show 2 * 0 + _ ≤ _; exact Nat.le_of_eq rfl) (hb hby d9_44) (fun _ _ => ⟨rfl, e125, Nat.le_of_ble_eq_true rfl, Nat.le_of_ble_eq_true rfl⟩)
  dsimp only [Pt.U, Pt.locs, Pt.cells, Pt.slots] at X126 l126 y126 z126 st126 hQ126
  subst l126 y126 z126
  obtain ⟨rfl, Nq126, hh126⟩ := hQ126
  have N126 := Fr.app N0 Nq126
  refine Go.by (B := (T126.setTop (mkF m 47 #[.val (.ref a1), .val (.ref a2), .val (.ref a2)] [(.int 0)]))) (fun _ k => st126 _ k) ?_
  refine Go.by (B := (T126.setTop (mkF m 55 #[.val (.ref a1), .val (.ref a2), .val (.ref a2)] [(.int 0)]))) (fun _ k => XS.ifYes X126.here hx rfl (pc0 := 47) (pc' := 54) rfl (hb hby d9_47) rfl ((if0 _ _).trans (teq (by decide : (0 : Int32) = (0 : Int32))).1) (by decide) (by decide) (XS.iconst X126.here hx rfl (hb hby d9_54) k)) ?_
  refine Go.ret X126 hx hlk (t := .boolean) hret rfl (Or.inl ⟨rfl, by simp, _, rfl⟩) (hb hby d9_55) (by decide) (by decide) ?_
  rw [hh126]
  exact ⟨rfl, N126, rfl⟩
theorem ef_rm_leq_aa (m : MethodId) (x0 : Addr) (x1 : Addr) : entryFrame m #[(.ref x0), (.ref x1)] 3 = mkF m 0 #[.val (.ref x0), .val (.ref x1), .unset] [] := by first | (simp [entryFrame, mkF, argsToLocals, Value.category]; done) | rfl
def Q_rm_leq_aa (Z : State) (t1 : Addr) (t2 : Addr) (k1 : ClassId) (k2 : ClassId) (h0 : Heap) (n0 : Nat) (v : Option Value) (h : Heap) (L : List Loc) : Prop := v = some (.int 1) ∧ Fr n0 L ∧ h = h0
set_option maxRecDepth 65536 in
set_option maxHeartbeats 40000000 in
theorem rm_leq_aa (l : Launch) (Z : State) (a0 : Array Value) (hw : ∀ d ∈ tables_1, d.before a0 Z = true) (ws : List Jvm.Cond) (t1 : Addr) (t2 : Addr) (k1 : ClassId) (k2 : ClassId) (h0 : Heap) (n0 : Nat) (Z0 : n0 ≤ h0.size) (pr0 : Arv Z h0 t1 k1 .byte (5 : Int32) [(.int 97), (.int 112), (.int 112), (.int 108), (.int 121)] (.int 0)) (pr1 : Arv Z h0 t2 k2 .byte (5 : Int32) [(.int 97), (.int 112), (.int 112), (.int 108), (.int 121)] (.int 0)) :
    Met l Z (⟨"java/lang/StringLatin1", "equals", "([B[B)Z"⟩ : MethodName) jdk_43_method_13_code 3 (some .boolean) ws ({ frames := 0, cells := 0, slots := 0, locals := 0 } : Room) #[(.ref t1), (.ref t2)] h0 (Q_rm_leq_aa Z t1 t2 k1 k2 h0 n0) := by
  refine Met.enter (f0 := fun m => mkF m 0 #[.val (.ref t1), .val (.ref t2), .unset] []) (plainFor_of_name pn_java_lang_StringLatin1) (fun m => ef_rm_leq_aa m t1 t2) ?_
  intro p e s m below meth c s₁ hx hby hml hown hnm hret hlk hZ X0 e0
  have hown : s.vm.findClass "java/lang/StringLatin1" = some m.cls := hown
  have hnm : meth.name = "equals" := hnm
  have hml : c.maxLocals = 3 := hml
  have hby : c.code = jdk_43_method_13_code := hby
  have N0 := Fr.nil n0
  refine Go.by (B := (s₁.setTop (mkF m 1 #[.val (.ref t1), .val (.ref t2), .unset] [(.ref t1)]))) (fun _ k => XS.aloadN X0.here hx rfl (hb hby d10_0) rfl rfl k) ?_
  obtain ⟨cl127, Ar127, q127, S127, N_127, Hs127, G127⟩ := id pr0
  refine Go.by (B := (s₁.setTop (mkF m 2 #[.val (.ref t1), .val (.ref t2), .unset] [(.int 5)]))) (fun _ k => X0.arraylength hx (by rw [e0]; exact Ar127.1) (State.isArrayOf_alike hZ.alike Ar127.2.1) (g := (mkF m 1 #[.val (.ref t1), .val (.ref t2), .unset] [(.ref t1)])) rfl rfl (hb hby d10_1) _ (by rw [len_of S127 N_127]; exact k)) ?_
  refine Go.by (B := (s₁.setTop (mkF m 3 #[.val (.ref t1), .val (.ref t2), .unset] [(.ref t2), (.int 5)]))) (fun _ k => XS.aloadN X0.here hx rfl (hb hby d10_2) rfl rfl k) ?_
  obtain ⟨cl128, Ar128, q128, S128, N_128, Hs128, G128⟩ := id pr1
  refine Go.by (B := (s₁.setTop (mkF m 4 #[.val (.ref t1), .val (.ref t2), .unset] [(.int 5), (.int 5)]))) (fun _ k => X0.arraylength hx (by rw [e0]; exact Ar128.1) (State.isArrayOf_alike hZ.alike Ar128.2.1) (g := (mkF m 3 #[.val (.ref t1), .val (.ref t2), .unset] [(.ref t2), (.int 5)])) rfl rfl (hb hby d10_3) _ (by rw [len_of S128 N_128]; exact k)) ?_
  refine Go.by (B := (s₁.setTop (mkF m 11 #[.val (.ref t1), .val (.ref t2), .val (.int 0)] [(.ref t1), (.int 0)]))) (fun _ k => XS.icmpNo X0.here hx rfl (hb hby d10_4) rfl (teq (by decide : (5 : Int32) = (5 : Int32))).2 (XS.iconst X0.here hx rfl (hb hby d10_7) (XS.istoreN X0.here hx rfl (hb hby d10_8) rfl (l' := #[.val (.ref t1), .val (.ref t2), .val (.int 0)]) rfl (XS.iloadN X0.here hx rfl (hb hby d10_9) rfl (XS.aloadN X0.here hx rfl (hb hby d10_10) rfl rfl k))))) ?_
  obtain ⟨cl129, Ar129, q129, S129, N_129, Hs129, G129⟩ := id pr0
  refine Go.by (B := (s₁.setTop (mkF m 12 #[.val (.ref t1), .val (.ref t2), .val (.int 0)] [(.int 5), (.int 0)]))) (fun _ k => X0.arraylength hx (by rw [e0]; exact Ar129.1) (State.isArrayOf_alike hZ.alike Ar129.2.1) (g := (mkF m 11 #[.val (.ref t1), .val (.ref t2), .val (.int 0)] [(.ref t1), (.int 0)])) rfl rfl (hb hby d10_11) _ (by rw [len_of S129 N_129]; exact k)) ?_
  refine Go.by (B := (s₁.setTop (mkF m 17 #[.val (.ref t1), .val (.ref t2), .val (.int 0)] [(.int 0), (.ref t1)]))) (fun _ k => XS.icmpNo X0.here hx rfl (hb hby d10_12) rfl (tlt (by decide : (0 : Int32) < (5 : Int32))).2.1 (XS.aloadN X0.here hx rfl (hb hby d10_15) rfl rfl (XS.iloadN X0.here hx rfl (hb hby d10_16) rfl k))) ?_
  obtain ⟨cl130, Ar130, q130, S130, N_130, Hs130, G130⟩ := id pr0
  have hin131 : ¬ ((0 : Int32) < 0 ∨ cl130.slots.size ≤ ((0 : Int32)).toNatClampNeg) := inb_of S130 ⟨by decide, by decide⟩
  have hat131 : cl130.slots[((0 : Int32)).toNatClampNeg]? = some (.int 97) := Hs130.at hin131 rfl
  refine Go.by (B := (s₁.setTop (mkF m 18 #[.val (.ref t1), .val (.ref t2), .val (.int 0)] [(.int 97)]))) (fun _ k => X0.baloadBytes hx (j := (0 : Int32)) (v := (.int 97)) (by rw [e0]; exact Ar130.1) (State.isArrayOf_alike hZ.alike Ar130.2.1) Ar130.2.2 hin131 hat131 (g := (mkF m 17 #[.val (.ref t1), .val (.ref t2), .val (.int 0)] [(.int 0), (.ref t1)])) rfl rfl (hb hby d10_17) _ k) ?_
  refine Go.by (B := (s₁.setTop (mkF m 20 #[.val (.ref t1), .val (.ref t2), .val (.int 0)] [(.int 0), (.ref t2), (.int 97)]))) (fun _ k => XS.aloadN X0.here hx rfl (hb hby d10_18) rfl rfl (XS.iloadN X0.here hx rfl (hb hby d10_19) rfl k)) ?_
  obtain ⟨cl132, Ar132, q132, S132, N_132, Hs132, G132⟩ := id pr1
  have hin133 : ¬ ((0 : Int32) < 0 ∨ cl132.slots.size ≤ ((0 : Int32)).toNatClampNeg) := inb_of S132 ⟨by decide, by decide⟩
  have hat133 : cl132.slots[((0 : Int32)).toNatClampNeg]? = some (.int 97) := Hs132.at hin133 rfl
  refine Go.by (B := (s₁.setTop (mkF m 21 #[.val (.ref t1), .val (.ref t2), .val (.int 0)] [(.int 97), (.int 97)]))) (fun _ k => X0.baloadBytes hx (j := (0 : Int32)) (v := (.int 97)) (by rw [e0]; exact Ar132.1) (State.isArrayOf_alike hZ.alike Ar132.2.1) Ar132.2.2 hin133 hat133 (g := (mkF m 20 #[.val (.ref t1), .val (.ref t2), .val (.int 0)] [(.int 0), (.ref t2), (.int 97)])) rfl rfl (hb hby d10_20) _ k) ?_
  refine Go.by (B := (s₁.setTop (mkF m 11 #[.val (.ref t1), .val (.ref t2), .val (.int 1)] [(.ref t1), (.int 1)]))) (fun _ k => XS.icmpYes X0.here hx rfl (pc0 := 21) (pc' := 26) rfl (hb hby d10_21) rfl (teq (by decide : (97 : Int32) = (97 : Int32))).1 (by decide) (by decide) (XS.iinc X0.here hx rfl (hb hby d10_26) rfl (l' := #[.val (.ref t1), .val (.ref t2), .val (.int 1)]) rfl (XS.goto X0.here hx rfl (pc0 := 29) (pc' := 9) rfl (hb hby d10_29) (by decide) (by decide) (XS.iloadN X0.here hx rfl (hb hby d10_9) rfl (XS.aloadN X0.here hx rfl (hb hby d10_10) rfl rfl k))))) ?_
  obtain ⟨cl134, Ar134, q134, S134, N_134, Hs134, G134⟩ := id pr0
  refine Go.by (B := (s₁.setTop (mkF m 12 #[.val (.ref t1), .val (.ref t2), .val (.int 1)] [(.int 5), (.int 1)]))) (fun _ k => X0.arraylength hx (by rw [e0]; exact Ar134.1) (State.isArrayOf_alike hZ.alike Ar134.2.1) (g := (mkF m 11 #[.val (.ref t1), .val (.ref t2), .val (.int 1)] [(.ref t1), (.int 1)])) rfl rfl (hb hby d10_11) _ (by rw [len_of S134 N_134]; exact k)) ?_
  refine Go.by (B := (s₁.setTop (mkF m 17 #[.val (.ref t1), .val (.ref t2), .val (.int 1)] [(.int 1), (.ref t1)]))) (fun _ k => XS.icmpNo X0.here hx rfl (hb hby d10_12) rfl (tlt (by decide : (1 : Int32) < (5 : Int32))).2.1 (XS.aloadN X0.here hx rfl (hb hby d10_15) rfl rfl (XS.iloadN X0.here hx rfl (hb hby d10_16) rfl k))) ?_
  obtain ⟨cl135, Ar135, q135, S135, N_135, Hs135, G135⟩ := id pr0
  have hin136 : ¬ ((1 : Int32) < 0 ∨ cl135.slots.size ≤ ((1 : Int32)).toNatClampNeg) := inb_of S135 ⟨by decide, by decide⟩
  have hat136 : cl135.slots[((1 : Int32)).toNatClampNeg]? = some (.int 112) := Hs135.at hin136 rfl
  refine Go.by (B := (s₁.setTop (mkF m 18 #[.val (.ref t1), .val (.ref t2), .val (.int 1)] [(.int 112)]))) (fun _ k => X0.baloadBytes hx (j := (1 : Int32)) (v := (.int 112)) (by rw [e0]; exact Ar135.1) (State.isArrayOf_alike hZ.alike Ar135.2.1) Ar135.2.2 hin136 hat136 (g := (mkF m 17 #[.val (.ref t1), .val (.ref t2), .val (.int 1)] [(.int 1), (.ref t1)])) rfl rfl (hb hby d10_17) _ k) ?_
  refine Go.by (B := (s₁.setTop (mkF m 20 #[.val (.ref t1), .val (.ref t2), .val (.int 1)] [(.int 1), (.ref t2), (.int 112)]))) (fun _ k => XS.aloadN X0.here hx rfl (hb hby d10_18) rfl rfl (XS.iloadN X0.here hx rfl (hb hby d10_19) rfl k)) ?_
  obtain ⟨cl137, Ar137, q137, S137, N_137, Hs137, G137⟩ := id pr1
  have hin138 : ¬ ((1 : Int32) < 0 ∨ cl137.slots.size ≤ ((1 : Int32)).toNatClampNeg) := inb_of S137 ⟨by decide, by decide⟩
  have hat138 : cl137.slots[((1 : Int32)).toNatClampNeg]? = some (.int 112) := Hs137.at hin138 rfl
  refine Go.by (B := (s₁.setTop (mkF m 21 #[.val (.ref t1), .val (.ref t2), .val (.int 1)] [(.int 112), (.int 112)]))) (fun _ k => X0.baloadBytes hx (j := (1 : Int32)) (v := (.int 112)) (by rw [e0]; exact Ar137.1) (State.isArrayOf_alike hZ.alike Ar137.2.1) Ar137.2.2 hin138 hat138 (g := (mkF m 20 #[.val (.ref t1), .val (.ref t2), .val (.int 1)] [(.int 1), (.ref t2), (.int 112)])) rfl rfl (hb hby d10_20) _ k) ?_
  refine Go.by (B := (s₁.setTop (mkF m 11 #[.val (.ref t1), .val (.ref t2), .val (.int 2)] [(.ref t1), (.int 2)]))) (fun _ k => XS.icmpYes X0.here hx rfl (pc0 := 21) (pc' := 26) rfl (hb hby d10_21) rfl (teq (by decide : (112 : Int32) = (112 : Int32))).1 (by decide) (by decide) (XS.iinc X0.here hx rfl (hb hby d10_26) rfl (l' := #[.val (.ref t1), .val (.ref t2), .val (.int 2)]) rfl (XS.goto X0.here hx rfl (pc0 := 29) (pc' := 9) rfl (hb hby d10_29) (by decide) (by decide) (XS.iloadN X0.here hx rfl (hb hby d10_9) rfl (XS.aloadN X0.here hx rfl (hb hby d10_10) rfl rfl k))))) ?_
  obtain ⟨cl139, Ar139, q139, S139, N_139, Hs139, G139⟩ := id pr0
  refine Go.by (B := (s₁.setTop (mkF m 12 #[.val (.ref t1), .val (.ref t2), .val (.int 2)] [(.int 5), (.int 2)]))) (fun _ k => X0.arraylength hx (by rw [e0]; exact Ar139.1) (State.isArrayOf_alike hZ.alike Ar139.2.1) (g := (mkF m 11 #[.val (.ref t1), .val (.ref t2), .val (.int 2)] [(.ref t1), (.int 2)])) rfl rfl (hb hby d10_11) _ (by rw [len_of S139 N_139]; exact k)) ?_
  refine Go.by (B := (s₁.setTop (mkF m 17 #[.val (.ref t1), .val (.ref t2), .val (.int 2)] [(.int 2), (.ref t1)]))) (fun _ k => XS.icmpNo X0.here hx rfl (hb hby d10_12) rfl (tlt (by decide : (2 : Int32) < (5 : Int32))).2.1 (XS.aloadN X0.here hx rfl (hb hby d10_15) rfl rfl (XS.iloadN X0.here hx rfl (hb hby d10_16) rfl k))) ?_
  obtain ⟨cl140, Ar140, q140, S140, N_140, Hs140, G140⟩ := id pr0
  have hin141 : ¬ ((2 : Int32) < 0 ∨ cl140.slots.size ≤ ((2 : Int32)).toNatClampNeg) := inb_of S140 ⟨by decide, by decide⟩
  have hat141 : cl140.slots[((2 : Int32)).toNatClampNeg]? = some (.int 112) := Hs140.at hin141 rfl
  refine Go.by (B := (s₁.setTop (mkF m 18 #[.val (.ref t1), .val (.ref t2), .val (.int 2)] [(.int 112)]))) (fun _ k => X0.baloadBytes hx (j := (2 : Int32)) (v := (.int 112)) (by rw [e0]; exact Ar140.1) (State.isArrayOf_alike hZ.alike Ar140.2.1) Ar140.2.2 hin141 hat141 (g := (mkF m 17 #[.val (.ref t1), .val (.ref t2), .val (.int 2)] [(.int 2), (.ref t1)])) rfl rfl (hb hby d10_17) _ k) ?_
  refine Go.by (B := (s₁.setTop (mkF m 20 #[.val (.ref t1), .val (.ref t2), .val (.int 2)] [(.int 2), (.ref t2), (.int 112)]))) (fun _ k => XS.aloadN X0.here hx rfl (hb hby d10_18) rfl rfl (XS.iloadN X0.here hx rfl (hb hby d10_19) rfl k)) ?_
  obtain ⟨cl142, Ar142, q142, S142, N_142, Hs142, G142⟩ := id pr1
  have hin143 : ¬ ((2 : Int32) < 0 ∨ cl142.slots.size ≤ ((2 : Int32)).toNatClampNeg) := inb_of S142 ⟨by decide, by decide⟩
  have hat143 : cl142.slots[((2 : Int32)).toNatClampNeg]? = some (.int 112) := Hs142.at hin143 rfl
  refine Go.by (B := (s₁.setTop (mkF m 21 #[.val (.ref t1), .val (.ref t2), .val (.int 2)] [(.int 112), (.int 112)]))) (fun _ k => X0.baloadBytes hx (j := (2 : Int32)) (v := (.int 112)) (by rw [e0]; exact Ar142.1) (State.isArrayOf_alike hZ.alike Ar142.2.1) Ar142.2.2 hin143 hat143 (g := (mkF m 20 #[.val (.ref t1), .val (.ref t2), .val (.int 2)] [(.int 2), (.ref t2), (.int 112)])) rfl rfl (hb hby d10_20) _ k) ?_
  refine Go.by (B := (s₁.setTop (mkF m 11 #[.val (.ref t1), .val (.ref t2), .val (.int 3)] [(.ref t1), (.int 3)]))) (fun _ k => XS.icmpYes X0.here hx rfl (pc0 := 21) (pc' := 26) rfl (hb hby d10_21) rfl (teq (by decide : (112 : Int32) = (112 : Int32))).1 (by decide) (by decide) (XS.iinc X0.here hx rfl (hb hby d10_26) rfl (l' := #[.val (.ref t1), .val (.ref t2), .val (.int 3)]) rfl (XS.goto X0.here hx rfl (pc0 := 29) (pc' := 9) rfl (hb hby d10_29) (by decide) (by decide) (XS.iloadN X0.here hx rfl (hb hby d10_9) rfl (XS.aloadN X0.here hx rfl (hb hby d10_10) rfl rfl k))))) ?_
  obtain ⟨cl144, Ar144, q144, S144, N_144, Hs144, G144⟩ := id pr0
  refine Go.by (B := (s₁.setTop (mkF m 12 #[.val (.ref t1), .val (.ref t2), .val (.int 3)] [(.int 5), (.int 3)]))) (fun _ k => X0.arraylength hx (by rw [e0]; exact Ar144.1) (State.isArrayOf_alike hZ.alike Ar144.2.1) (g := (mkF m 11 #[.val (.ref t1), .val (.ref t2), .val (.int 3)] [(.ref t1), (.int 3)])) rfl rfl (hb hby d10_11) _ (by rw [len_of S144 N_144]; exact k)) ?_
  refine Go.by (B := (s₁.setTop (mkF m 17 #[.val (.ref t1), .val (.ref t2), .val (.int 3)] [(.int 3), (.ref t1)]))) (fun _ k => XS.icmpNo X0.here hx rfl (hb hby d10_12) rfl (tlt (by decide : (3 : Int32) < (5 : Int32))).2.1 (XS.aloadN X0.here hx rfl (hb hby d10_15) rfl rfl (XS.iloadN X0.here hx rfl (hb hby d10_16) rfl k))) ?_
  obtain ⟨cl145, Ar145, q145, S145, N_145, Hs145, G145⟩ := id pr0
  have hin146 : ¬ ((3 : Int32) < 0 ∨ cl145.slots.size ≤ ((3 : Int32)).toNatClampNeg) := inb_of S145 ⟨by decide, by decide⟩
  have hat146 : cl145.slots[((3 : Int32)).toNatClampNeg]? = some (.int 108) := Hs145.at hin146 rfl
  refine Go.by (B := (s₁.setTop (mkF m 18 #[.val (.ref t1), .val (.ref t2), .val (.int 3)] [(.int 108)]))) (fun _ k => X0.baloadBytes hx (j := (3 : Int32)) (v := (.int 108)) (by rw [e0]; exact Ar145.1) (State.isArrayOf_alike hZ.alike Ar145.2.1) Ar145.2.2 hin146 hat146 (g := (mkF m 17 #[.val (.ref t1), .val (.ref t2), .val (.int 3)] [(.int 3), (.ref t1)])) rfl rfl (hb hby d10_17) _ k) ?_
  refine Go.by (B := (s₁.setTop (mkF m 20 #[.val (.ref t1), .val (.ref t2), .val (.int 3)] [(.int 3), (.ref t2), (.int 108)]))) (fun _ k => XS.aloadN X0.here hx rfl (hb hby d10_18) rfl rfl (XS.iloadN X0.here hx rfl (hb hby d10_19) rfl k)) ?_
  obtain ⟨cl147, Ar147, q147, S147, N_147, Hs147, G147⟩ := id pr1
  have hin148 : ¬ ((3 : Int32) < 0 ∨ cl147.slots.size ≤ ((3 : Int32)).toNatClampNeg) := inb_of S147 ⟨by decide, by decide⟩
  have hat148 : cl147.slots[((3 : Int32)).toNatClampNeg]? = some (.int 108) := Hs147.at hin148 rfl
  refine Go.by (B := (s₁.setTop (mkF m 21 #[.val (.ref t1), .val (.ref t2), .val (.int 3)] [(.int 108), (.int 108)]))) (fun _ k => X0.baloadBytes hx (j := (3 : Int32)) (v := (.int 108)) (by rw [e0]; exact Ar147.1) (State.isArrayOf_alike hZ.alike Ar147.2.1) Ar147.2.2 hin148 hat148 (g := (mkF m 20 #[.val (.ref t1), .val (.ref t2), .val (.int 3)] [(.int 3), (.ref t2), (.int 108)])) rfl rfl (hb hby d10_20) _ k) ?_
  refine Go.by (B := (s₁.setTop (mkF m 11 #[.val (.ref t1), .val (.ref t2), .val (.int 4)] [(.ref t1), (.int 4)]))) (fun _ k => XS.icmpYes X0.here hx rfl (pc0 := 21) (pc' := 26) rfl (hb hby d10_21) rfl (teq (by decide : (108 : Int32) = (108 : Int32))).1 (by decide) (by decide) (XS.iinc X0.here hx rfl (hb hby d10_26) rfl (l' := #[.val (.ref t1), .val (.ref t2), .val (.int 4)]) rfl (XS.goto X0.here hx rfl (pc0 := 29) (pc' := 9) rfl (hb hby d10_29) (by decide) (by decide) (XS.iloadN X0.here hx rfl (hb hby d10_9) rfl (XS.aloadN X0.here hx rfl (hb hby d10_10) rfl rfl k))))) ?_
  obtain ⟨cl149, Ar149, q149, S149, N_149, Hs149, G149⟩ := id pr0
  refine Go.by (B := (s₁.setTop (mkF m 12 #[.val (.ref t1), .val (.ref t2), .val (.int 4)] [(.int 5), (.int 4)]))) (fun _ k => X0.arraylength hx (by rw [e0]; exact Ar149.1) (State.isArrayOf_alike hZ.alike Ar149.2.1) (g := (mkF m 11 #[.val (.ref t1), .val (.ref t2), .val (.int 4)] [(.ref t1), (.int 4)])) rfl rfl (hb hby d10_11) _ (by rw [len_of S149 N_149]; exact k)) ?_
  refine Go.by (B := (s₁.setTop (mkF m 17 #[.val (.ref t1), .val (.ref t2), .val (.int 4)] [(.int 4), (.ref t1)]))) (fun _ k => XS.icmpNo X0.here hx rfl (hb hby d10_12) rfl (tlt (by decide : (4 : Int32) < (5 : Int32))).2.1 (XS.aloadN X0.here hx rfl (hb hby d10_15) rfl rfl (XS.iloadN X0.here hx rfl (hb hby d10_16) rfl k))) ?_
  obtain ⟨cl150, Ar150, q150, S150, N_150, Hs150, G150⟩ := id pr0
  have hin151 : ¬ ((4 : Int32) < 0 ∨ cl150.slots.size ≤ ((4 : Int32)).toNatClampNeg) := inb_of S150 ⟨by decide, by decide⟩
  have hat151 : cl150.slots[((4 : Int32)).toNatClampNeg]? = some (.int 121) := Hs150.at hin151 rfl
  refine Go.by (B := (s₁.setTop (mkF m 18 #[.val (.ref t1), .val (.ref t2), .val (.int 4)] [(.int 121)]))) (fun _ k => X0.baloadBytes hx (j := (4 : Int32)) (v := (.int 121)) (by rw [e0]; exact Ar150.1) (State.isArrayOf_alike hZ.alike Ar150.2.1) Ar150.2.2 hin151 hat151 (g := (mkF m 17 #[.val (.ref t1), .val (.ref t2), .val (.int 4)] [(.int 4), (.ref t1)])) rfl rfl (hb hby d10_17) _ k) ?_
  refine Go.by (B := (s₁.setTop (mkF m 20 #[.val (.ref t1), .val (.ref t2), .val (.int 4)] [(.int 4), (.ref t2), (.int 121)]))) (fun _ k => XS.aloadN X0.here hx rfl (hb hby d10_18) rfl rfl (XS.iloadN X0.here hx rfl (hb hby d10_19) rfl k)) ?_
  obtain ⟨cl152, Ar152, q152, S152, N_152, Hs152, G152⟩ := id pr1
  have hin153 : ¬ ((4 : Int32) < 0 ∨ cl152.slots.size ≤ ((4 : Int32)).toNatClampNeg) := inb_of S152 ⟨by decide, by decide⟩
  have hat153 : cl152.slots[((4 : Int32)).toNatClampNeg]? = some (.int 121) := Hs152.at hin153 rfl
  refine Go.by (B := (s₁.setTop (mkF m 21 #[.val (.ref t1), .val (.ref t2), .val (.int 4)] [(.int 121), (.int 121)]))) (fun _ k => X0.baloadBytes hx (j := (4 : Int32)) (v := (.int 121)) (by rw [e0]; exact Ar152.1) (State.isArrayOf_alike hZ.alike Ar152.2.1) Ar152.2.2 hin153 hat153 (g := (mkF m 20 #[.val (.ref t1), .val (.ref t2), .val (.int 4)] [(.int 4), (.ref t2), (.int 121)])) rfl rfl (hb hby d10_20) _ k) ?_
  refine Go.by (B := (s₁.setTop (mkF m 11 #[.val (.ref t1), .val (.ref t2), .val (.int 5)] [(.ref t1), (.int 5)]))) (fun _ k => XS.icmpYes X0.here hx rfl (pc0 := 21) (pc' := 26) rfl (hb hby d10_21) rfl (teq (by decide : (121 : Int32) = (121 : Int32))).1 (by decide) (by decide) (XS.iinc X0.here hx rfl (hb hby d10_26) rfl (l' := #[.val (.ref t1), .val (.ref t2), .val (.int 5)]) rfl (XS.goto X0.here hx rfl (pc0 := 29) (pc' := 9) rfl (hb hby d10_29) (by decide) (by decide) (XS.iloadN X0.here hx rfl (hb hby d10_9) rfl (XS.aloadN X0.here hx rfl (hb hby d10_10) rfl rfl k))))) ?_
  obtain ⟨cl154, Ar154, q154, S154, N_154, Hs154, G154⟩ := id pr0
  refine Go.by (B := (s₁.setTop (mkF m 12 #[.val (.ref t1), .val (.ref t2), .val (.int 5)] [(.int 5), (.int 5)]))) (fun _ k => X0.arraylength hx (by rw [e0]; exact Ar154.1) (State.isArrayOf_alike hZ.alike Ar154.2.1) (g := (mkF m 11 #[.val (.ref t1), .val (.ref t2), .val (.int 5)] [(.ref t1), (.int 5)])) rfl rfl (hb hby d10_11) _ (by rw [len_of S154 N_154]; exact k)) ?_
  refine Go.by (B := (s₁.setTop (mkF m 33 #[.val (.ref t1), .val (.ref t2), .val (.int 5)] [(.int 1)]))) (fun _ k => XS.icmpYes X0.here hx rfl (pc0 := 12) (pc' := 32) rfl (hb hby d10_12) rfl (flt (by decide : ¬ ((5 : Int32) < (5 : Int32)))).2.1 (by decide) (by decide) (XS.iconst X0.here hx rfl (hb hby d10_32) k)) ?_
  refine Go.ret X0 hx hlk (t := .boolean) hret rfl (Or.inl ⟨rfl, by simp, _, rfl⟩) (hb hby d10_33) (by decide) (by decide) ?_
  rw [e0]
  exact ⟨rfl, N0, rfl⟩
theorem ef_rm_seq_aa (m : MethodId) (x0 : Addr) (x1 : Addr) : entryFrame m #[(.ref x0), (.ref x1)] 3 = mkF m 0 #[.val (.ref x0), .val (.ref x1), .unset] [] := by first | (simp [entryFrame, mkF, argsToLocals, Value.category]; done) | rfl
def Q_rm_seq_aa (Z : State) (a1 : Addr) (a2 : Addr) (t1 : Addr) (t2 : Addr) (k1 : ClassId) (k2 : ClassId) (cs : Int32) (h0 : Heap) (n0 : Nat) (v : Option Value) (h : Heap) (L : List Loc) : Prop := v = some (.int 1) ∧ Fr n0 L ∧ h = h0
set_option maxRecDepth 65536 in
set_option maxHeartbeats 40000000 in
theorem rm_seq_aa (l : Launch) (Z : State) (a0 : Array Value) (hw : ∀ d ∈ tables_1, d.before a0 Z = true) (ws : List Jvm.Cond) (a1 : Addr) (a2 : Addr) (t1 : Addr) (t2 : Addr) (k1 : ClassId) (k2 : ClassId) (cs : Int32) (h0 : Heap) (n0 : Nat) (Z0 : n0 ≤ h0.size) (pr0 : Old Z n0 h0) (pr1 : Sta Z Z.heap "java/lang/String" "COMPACT_STRINGS" "Z" (.int cs)) (hcs : ¬ (cs = (0 : Int32))) (pr3 : Exa Z h0 a1 "java/lang/String") (pr4 : Fld Z h0 a1 "java/lang/String" "coder" "B" (.int 0)) (pr5 : Fld Z h0 a1 "java/lang/String" "value" "[B" (.ref t1)) (pr6 : Arv Z h0 t1 k1 .byte (5 : Int32) [(.int 97), (.int 112), (.int 112), (.int 108), (.int 121)] (.int 0)) (pr7 : Exa Z h0 a2 "java/lang/String") (pr8 : Fld Z h0 a2 "java/lang/String" "coder" "B" (.int 0)) (pr9 : Fld Z h0 a2 "java/lang/String" "value" "[B" (.ref t2)) (pr10 : Arv Z h0 t2 k2 .byte (5 : Int32) [(.int 97), (.int 112), (.int 112), (.int 108), (.int 121)] (.int 0)) :
    Met l Z (⟨"java/lang/String", "equals", "(Ljava/lang/Object;)Z"⟩ : MethodName) jdk_42_method_66_code 3 (some .boolean) ws ({ frames := 1, cells := 0, slots := 0, locals := 14 } : Room) #[(.ref a1), (.ref a2)] h0 (Q_rm_seq_aa Z a1 a2 t1 t2 k1 k2 cs h0 n0) := by
  refine Met.enter (f0 := fun m => mkF m 0 #[.val (.ref a1), .val (.ref a2), .unset] []) (plainFor_of_name pn_java_lang_String) (fun m => ef_rm_seq_aa m a1 a2) ?_
  intro p e s m below meth c s₁ hx hby hml hown hnm hret hlk hZ X0 e0
  have hown : s.vm.findClass "java/lang/String" = some m.cls := hown
  have hnm : meth.name = "equals" := hnm
  have hml : c.maxLocals = 3 := hml
  have hby : c.code = jdk_42_method_66_code := hby
  have N0 := Fr.nil n0
  refine Go.by (B := (s₁.setTop (mkF m 2 #[.val (.ref a1), .val (.ref a2), .unset] [(.ref a2), (.ref a1)]))) (fun _ k => XS.aloadN X0.here hx rfl (hb hby d9_0) rfl rfl (XS.aloadN X0.here hx rfl (hb hby d9_1) rfl rfl k)) ?_
  by_cases c155 : a1 = a2
  · skip
    refine Go.by (B := (s₁.setTop (mkF m 6 #[.val (.ref a1), .val (.ref a2), .unset] [(.int 1)]))) (fun _ k => Jvm.RoadKit.acmp (g := (mkF m 2 #[.val (.ref a1), .val (.ref a2), .unset] [(.ref a2), (.ref a1)])) X0 hx rfl rfl rfl (pc0 := 2) (pc' := 5) (same := true) rfl (hb hby d9_2) rfl (decide_eq_true (congrArg Value.ref c155)) (by decide) (by decide) (XS.iconst X0.here hx rfl (hb hby d9_5) k)) ?_
    refine Go.ret X0 hx hlk (t := .boolean) hret rfl (Or.inl ⟨rfl, by simp, _, rfl⟩) (hb hby d9_6) (by decide) (by decide) ?_
    rw [e0]
    exact ⟨rfl, N0, rfl⟩
  · skip
    refine Go.by (B := (s₁.setTop (mkF m 8 #[.val (.ref a1), .val (.ref a2), .unset] [(.ref a2)]))) (fun _ k => Jvm.RoadKit.acmp (g := (mkF m 2 #[.val (.ref a1), .val (.ref a2), .unset] [(.ref a2), (.ref a1)])) X0 hx rfl rfl rfl (pc0 := 2) (pc' := 7) (same := false) rfl (hb hby d9_2) rfl (decide_eq_false fun q => c155 (Value.ref.inj q)) (by decide) (by decide) (XS.aloadN X0.here hx rfl (hb hby d9_7) rfl rfl k)) ?_
    obtain ⟨T156, X156, e156, st156⟩ := instY X0 hx hZ hown (wd hw 59 rfl) e0 (Ins.self pr7) (g := (mkF m 8 #[.val (.ref a1), .val (.ref a2), .unset] [(.ref a2)])) rfl rfl (hb hby d9_8)
    refine Go.by (B := (T156.setTop (mkF m 11 #[.val (.ref a1), .val (.ref a2), .unset] [(.int 1)]))) st156 ?_
    refine Go.by (B := (T156.setTop (mkF m 15 #[.val (.ref a1), .val (.ref a2), .unset] [(.ref a2)]))) (fun _ k => XS.ifNo X156.here hx rfl (hb hby d9_11) rfl ((if0 _ _).trans (feq (by decide : ¬ ((1 : Int32) = (0 : Int32)))).1) (XS.aloadN X156.here hx rfl (hb hby d9_14) rfl rfl k)) ?_
    obtain ⟨T157, X157, e157, st157⟩ := castY X156 hx hZ hown (wd hw 59 rfl) e156 (Ins.self pr7) (g := (mkF m 15 #[.val (.ref a1), .val (.ref a2), .unset] [(.ref a2)])) rfl rfl (hb hby d9_15)
    refine Go.by (B := (T157.setTop (mkF m 18 #[.val (.ref a1), .val (.ref a2), .unset] [(.ref a2)]))) st157 ?_
    refine Go.by (B := (T157.setTop (mkF m 19 #[.val (.ref a1), .val (.ref a2), .val (.ref a2)] []))) (fun _ k => XS.astoreN X157.here hx rfl (hb hby d9_18) rfl rfl (l' := #[.val (.ref a1), .val (.ref a2), .val (.ref a2)]) rfl k) ?_
    obtain ⟨T158, X158, e158, st158⟩ := getS2 X157 hx hZ hown (host := "") (Or.inl (wd hw 14 rfl)) Via.refl e157 (pr1.ext pr0.2) (g := (mkF m 19 #[.val (.ref a1), .val (.ref a2), .val (.ref a2)] [])) rfl (hb hby d9_19)
    refine Go.by (B := (T158.setTop (mkF m 22 #[.val (.ref a1), .val (.ref a2), .val (.ref a2)] [(.int cs)]))) st158 ?_
    refine Go.by (B := (T158.setTop (mkF m 26 #[.val (.ref a1), .val (.ref a2), .val (.ref a2)] [(.ref a1)]))) (fun _ k => XS.ifNo X158.here hx rfl (hb hby d9_22) rfl ((if0 _ _).trans (feq hcs).1) (XS.aloadN X158.here hx rfl (hb hby d9_25) rfl rfl k)) ?_
    obtain ⟨T159, X159, e159, st159⟩ := getF X158 hx hZ hown (host := "") (Or.inl (wd hw 26 rfl)) Via.refl e158 pr4 (g := (mkF m 26 #[.val (.ref a1), .val (.ref a2), .val (.ref a2)] [(.ref a1)])) rfl rfl (hb hby d9_26)
    refine Go.by (B := (T159.setTop (mkF m 29 #[.val (.ref a1), .val (.ref a2), .val (.ref a2)] [(.int 0)]))) st159 ?_
    refine Go.by (B := (T159.setTop (mkF m 30 #[.val (.ref a1), .val (.ref a2), .val (.ref a2)] [(.ref a2), (.int 0)]))) (fun _ k => XS.aloadN X159.here hx rfl (hb hby d9_29) rfl rfl k) ?_
    obtain ⟨T160, X160, e160, st160⟩ := getF X159 hx hZ hown (host := "") (Or.inl (wd hw 26 rfl)) Via.refl e159 pr8 (g := (mkF m 30 #[.val (.ref a1), .val (.ref a2), .val (.ref a2)] [(.ref a2), (.int 0)])) rfl rfl (hb hby d9_30)
    refine Go.by (B := (T160.setTop (mkF m 33 #[.val (.ref a1), .val (.ref a2), .val (.ref a2)] [(.int 0), (.int 0)]))) st160 ?_
    refine Go.by (B := (T160.setTop (mkF m 37 #[.val (.ref a1), .val (.ref a2), .val (.ref a2)] [(.ref a1)]))) (fun _ k => XS.icmpNo X160.here hx rfl (hb hby d9_33) rfl (teq (by decide : (0 : Int32) = (0 : Int32))).2 (XS.aloadN X160.here hx rfl (hb hby d9_36) rfl rfl k)) ?_
    obtain ⟨T161, X161, e161, st161⟩ := getF X160 hx hZ hown (host := "") (Or.inl (wd hw 28 rfl)) Via.refl e160 pr5 (g := (mkF m 37 #[.val (.ref a1), .val (.ref a2), .val (.ref a2)] [(.ref a1)])) rfl rfl (hb hby d9_37)
    refine Go.by (B := (T161.setTop (mkF m 40 #[.val (.ref a1), .val (.ref a2), .val (.ref a2)] [(.ref t1)]))) st161 ?_
    refine Go.by (B := (T161.setTop (mkF m 41 #[.val (.ref a1), .val (.ref a2), .val (.ref a2)] [(.ref a2), (.ref t1)]))) (fun _ k => XS.aloadN X161.here hx rfl (hb hby d9_40) rfl rfl k) ?_
    obtain ⟨T162, X162, e162, st162⟩ := getF X161 hx hZ hown (host := "") (Or.inl (wd hw 28 rfl)) Via.refl e161 pr9 (g := (mkF m 41 #[.val (.ref a1), .val (.ref a2), .val (.ref a2)] [(.ref a2), (.ref t1)])) rfl rfl (hb hby d9_41)
    refine Go.by (B := (T162.setTop (mkF m 44 #[.val (.ref a1), .val (.ref a2), .val (.ref a2)] [(.ref t2), (.ref t1)]))) st162 ?_
    obtain ⟨_, _, ⟨T163, L163, k163, n163⟩, -, X163, ⟨Lc163, hQ163, l163, y163, z163⟩, st163⟩ := Jvm.LawKit.callS X162 hx (y := (⟨"java/lang/StringLatin1", "equals", "([B[B)Z"⟩ : MethodName)) hown (mvT hZ (wd hw 60 rfl)) (mvT hZ (wd hw 61 rfl)) (mvT hZ (wd hw 62 rfl)) (mvT hZ (wd hw 63 rfl)) (by decide) (backOf (W := 0) (rm_leq_aa l Z a0 hw [] t1 t2 k1 k2 h0 n0 Z0 pr6 pr10) hZ (wd hw 63 rfl) (wd hw 62 rfl) (by decide) (by decide)) (g := (mkF m 44 #[.val (.ref a1), .val (.ref a2), .val (.ref a2)] [(.ref t2), (.ref t1)])) rfl (by rw [hml]; rfl) (argsL := [(.ref t1), (.ref t2)]) (rest := []) (lenOf pd_4 rfl) rfl (by show 2 * 0 + _ ≤ _; exact Nat.le_of_eq rfl) (hb hby d9_44) (fun _ _ => ⟨rfl, e162, Nat.le_of_ble_eq_true rfl, Nat.le_of_ble_eq_true rfl⟩)
    dsimp only [Pt.U, Pt.locs, Pt.cells, Pt.slots] at X163 l163 y163 z163 st163 hQ163
    subst l163 y163 z163
    obtain ⟨rfl, Nq163, hh163⟩ := hQ163
    have N163 := Fr.app N0 Nq163
    refine Go.by (B := (T163.setTop (mkF m 47 #[.val (.ref a1), .val (.ref a2), .val (.ref a2)] [(.int 1)]))) (fun _ k => st163 _ k) ?_
    refine Go.by (B := (T163.setTop (mkF m 55 #[.val (.ref a1), .val (.ref a2), .val (.ref a2)] [(.int 1)]))) (fun _ k => XS.ifNo X163.here hx rfl (hb hby d9_47) rfl ((if0 _ _).trans (feq (by decide : ¬ ((1 : Int32) = (0 : Int32)))).1) (XS.iconst X163.here hx rfl (hb hby d9_50) (XS.goto X163.here hx rfl (pc0 := 51) (pc' := 55) rfl (hb hby d9_51) (by decide) (by decide) k))) ?_
    refine Go.ret X163 hx hlk (t := .boolean) hret rfl (Or.inl ⟨rfl, by simp, _, rfl⟩) (hb hby d9_55) (by decide) (by decide) ?_
    rw [hh163]
    exact ⟨rfl, N163, rfl⟩
theorem ef_rm_values (m : MethodId)  : entryFrame m #[] 0 = mkF m 0 #[] [] := by first | (simp [entryFrame, mkF, argsToLocals, Value.category]; done) | rfl
theorem d8_0 : decode prog_16_method_1_code 0 = .ok (.getstatic 10, 3) := by decide +kernel
theorem d8_3 : decode prog_16_method_1_code 3 = .ok (.invokevirtual 14, 3) := by decide +kernel
theorem d8_6 : decode prog_16_method_1_code 6 = .ok (.checkcast 15, 3) := by decide +kernel
theorem d8_9 : decode prog_16_method_1_code 9 = .ok (.areturn, 1) := by decide +kernel
theorem pn_com_example_aurel_aurel_lifecycle_ExistingSubscribers : plainName "com/example/aurel/aurel/lifecycle/ExistingSubscribers" = true := by first | (simp [plainName, overriddenIn]; done) | decide +kernel
def Q_rm_values (Z : State) (wv : Addr) (kv : ClassId) (w0 : Addr) (w1 : Addr) (h0 : Heap) (n0 : Nat) (v : Option Value) (h : Heap) (L : List Loc) : Prop := ∃ b : Addr, v = some (.ref b) ∧ Fr n0 L ∧ Keep h0 h [] ∧ Arv Z h b kv (.object "com/example/aurel/aurel/lifecycle/ExistingSubscribers") (2 : Int32) [(.ref w0), (.ref w1)] .null ∧ h0.size ≤ b
set_option maxRecDepth 65536 in
set_option maxHeartbeats 40000000 in
theorem rm_values (l : Launch) (Z : State) (a0 : Array Value) (hw : ∀ d ∈ tables_1, d.before a0 Z = true) (ws : List Jvm.Cond) (wv : Addr) (kv : ClassId) (w0 : Addr) (w1 : Addr) (h0 : Heap) (n0 : Nat) (Z0 : n0 ≤ h0.size) (pr0 : Old Z n0 h0) (pr1 : Sta Z Z.heap "com/example/aurel/aurel/lifecycle/ExistingSubscribers" "$VALUES" "[Lcom/example/aurel/aurel/lifecycle/ExistingSubscribers;" (.ref wv)) (pr2 : Exa Z Z.heap wv "[Lcom/example/aurel/aurel/lifecycle/ExistingSubscribers;") (pr3 : Arv Z Z.heap wv kv (.object "com/example/aurel/aurel/lifecycle/ExistingSubscribers") (2 : Int32) [(.ref w0), (.ref w1)] .null) :
    Met l Z (⟨"com/example/aurel/aurel/lifecycle/ExistingSubscribers", "values", "()[Lcom/example/aurel/aurel/lifecycle/ExistingSubscribers;"⟩ : MethodName) prog_16_method_1_code 0 (some (.array (.object "com/example/aurel/aurel/lifecycle/ExistingSubscribers"))) ws ({ frames := 1, cells := 1, slots := 2, locals := 14 } : Room) #[] h0 (Q_rm_values Z wv kv w0 w1 h0 n0) := by
  refine Met.enter (f0 := fun m => mkF m 0 #[] []) (plainFor_of_name pn_com_example_aurel_aurel_lifecycle_ExistingSubscribers) (fun m => ef_rm_values m ) ?_
  intro p e s m below meth c s₁ hx hby hml hown hnm hret hlk hZ X0 e0
  have hown : s.vm.findClass "com/example/aurel/aurel/lifecycle/ExistingSubscribers" = some m.cls := hown
  have hnm : meth.name = "values" := hnm
  have hml : c.maxLocals = 0 := hml
  have hby : c.code = prog_16_method_1_code := hby
  have N0 := Fr.nil n0
  obtain ⟨T164, X164, e164, st164⟩ := getS2 X0 hx hZ hown (host := "") (Or.inl (wd hw 39 rfl)) Via.refl e0 (pr1.ext pr0.2) (g := (mkF m 0 #[] [])) rfl (hb hby d8_0)
  refine Go.by (B := (T164.setTop (mkF m 3 #[] [(.ref wv)]))) st164 ?_
  obtain ⟨T165, h165, X165, e165, E165, V165, A165, st165⟩ := cloneH X164 hx hZ hown (wd hw 41 rfl) (wd hw 42 rfl) (wd hw 46 rfl) (wd hw 44 rfl) (wd hw 45 rfl) (wd hw 47 rfl) e164 (Arv.arh (pr3.ext pr0.2)) (pr2.ext pr0.2) (g := (mkF m 3 #[] [(.ref wv)])) rfl (by rw [hml]; rfl) rfl (hb hby d8_3) (by decide) (W := 0) (cap := 2) (by show 2 * 0 + _ ≤ _; exact Nat.le_of_eq rfl) (by decide) (by decide) (by decide) (by decide)
  obtain ⟨b165, g165⟩ : ∃ z, z = h0.size := ⟨_, rfl⟩
  rw [← g165] at V165 A165 st165
  have sz_b165 : h0.size ≤ b165 := Nat.le_of_eq g165.symm
  have V165' : Arv Z h165 b165 kv (.object "com/example/aurel/aurel/lifecycle/ExistingSubscribers") (2 : Int32) [(.ref w0), (.ref w1)] .null := V165
  have O166 := pr0.ext E165
  have Z166 : n0 ≤ h165.size := Nat.le_trans Z0 E165.1
  refine Go.by (B := (T165.setTop (mkF m 6 #[] [(.ref b165)]))) st165 ?_
  obtain ⟨T167, X167, e167, st167⟩ := castY X165 hx hZ hown (wd hw 50 rfl) e165 (Ins.self A165) (g := (mkF m 6 #[] [(.ref b165)])) rfl rfl (hb hby d8_6)
  refine Go.by (B := (T167.setTop (mkF m 9 #[] [(.ref b165)]))) st167 ?_
  refine Go.ret X167 hx hlk (t := (.array (.object "com/example/aurel/aurel/lifecycle/ExistingSubscribers"))) hret rfl (Or.inr (Or.inr (Or.inr (Or.inr ⟨rfl, rfl, rfl⟩)))) (hb hby d8_9) (by decide) (by decide) ?_
  rw [e167]
  exact ⟨b165, rfl, N0, ((Keep.refl h0 []).ext E165), V165', (Nat.le_trans (Nat.le_refl _) sz_b165)⟩
theorem ef_rm_from_k (m : MethodId) (x0 : Addr) : entryFrame m #[(.ref x0)] 5 = mkF m 0 #[.val (.ref x0), .unset, .unset, .unset, .unset] [] := by first | (simp [entryFrame, mkF, argsToLocals, Value.category]; done) | rfl
theorem d7_0 : decode prog_16_method_4_code 0 = .ok (.invokestatic 33, 3) := by decide +kernel
theorem pd_5 : parseMethodDescriptor "()[Lcom/example/aurel/aurel/lifecycle/ExistingSubscribers;" = some ⟨[], some (.array (.object "com/example/aurel/aurel/lifecycle/ExistingSubscribers"))⟩ := by decide +kernel
theorem d7_3 : decode prog_16_method_4_code 3 = .ok (.astore_n 1, 1) := by decide +kernel
theorem d7_4 : decode prog_16_method_4_code 4 = .ok (.aload_n 1, 1) := by decide +kernel
theorem d7_5 : decode prog_16_method_4_code 5 = .ok (.arraylength, 1) := by decide +kernel
theorem d7_6 : decode prog_16_method_4_code 6 = .ok (.istore_n 2, 1) := by decide +kernel
theorem d7_7 : decode prog_16_method_4_code 7 = .ok (.iconst 0, 1) := by decide +kernel
theorem d7_8 : decode prog_16_method_4_code 8 = .ok (.istore_n 3, 1) := by decide +kernel
theorem d7_9 : decode prog_16_method_4_code 9 = .ok (.iload_n 3, 1) := by decide +kernel
theorem d7_10 : decode prog_16_method_4_code 10 = .ok (.iload_n 2, 1) := by decide +kernel
theorem d7_11 : decode prog_16_method_4_code 11 = .ok (.if_icmp .ge 29, 3) := by decide +kernel
theorem d7_14 : decode prog_16_method_4_code 14 = .ok (.aload_n 1, 1) := by decide +kernel
theorem d7_15 : decode prog_16_method_4_code 15 = .ok (.iload_n 3, 1) := by decide +kernel
theorem d7_16 : decode prog_16_method_4_code 16 = .ok (.aaload, 1) := by decide +kernel
theorem d7_17 : decode prog_16_method_4_code 17 = .ok (.astore 4, 2) := by decide +kernel
theorem d7_19 : decode prog_16_method_4_code 19 = .ok (.aload 4, 2) := by decide +kernel
theorem d7_21 : decode prog_16_method_4_code 21 = .ok (.getfield 29, 3) := by decide +kernel
theorem d7_24 : decode prog_16_method_4_code 24 = .ok (.aload_n 0, 1) := by decide +kernel
theorem d7_25 : decode prog_16_method_4_code 25 = .ok (.invokevirtual 37, 3) := by decide +kernel
theorem pd_6 : parseMethodDescriptor "(Ljava/lang/Object;)Z" = some ⟨[(.object "java/lang/Object")], some .boolean⟩ := by decide +kernel
theorem d7_28 : decode prog_16_method_4_code 28 = .ok (.ifCond .eq 6, 3) := by decide +kernel
theorem d7_31 : decode prog_16_method_4_code 31 = .ok (.aload 4, 2) := by decide +kernel
theorem d7_33 : decode prog_16_method_4_code 33 = .ok (.areturn, 1) := by decide +kernel
def Q_rm_from_k (Z : State) (a1 : Addr) (u1 : Addr) (ku : ClassId) (cs : Int32) (wv : Addr) (kv : ClassId) (w0 : Addr) (w1 : Addr) (s0 : Addr) (t0 : Addr) (kt0 : ClassId) (s1 : Addr) (t1 : Addr) (kt1 : ClassId) (h0 : Heap) (n0 : Nat) (v : Option Value) (h : Heap) (L : List Loc) : Prop := v = some (.ref w0) ∧ Fr n0 L ∧ Keep h0 h []
set_option maxRecDepth 65536 in
set_option maxHeartbeats 40000000 in
theorem rm_from_k (l : Launch) (Z : State) (a0 : Array Value) (hw : ∀ d ∈ tables_1, d.before a0 Z = true) (ws : List Jvm.Cond) (a1 : Addr) (u1 : Addr) (ku : ClassId) (cs : Int32) (wv : Addr) (kv : ClassId) (w0 : Addr) (w1 : Addr) (s0 : Addr) (t0 : Addr) (kt0 : ClassId) (s1 : Addr) (t1 : Addr) (kt1 : ClassId) (h0 : Heap) (n0 : Nat) (Z0 : n0 ≤ h0.size) (pr0 : Old Z n0 h0) (pr1 : Sta Z Z.heap "java/lang/String" "COMPACT_STRINGS" "Z" (.int cs)) (hcs : ¬ (cs = (0 : Int32))) (pr3 : Sta Z Z.heap "com/example/aurel/aurel/lifecycle/ExistingSubscribers" "$VALUES" "[Lcom/example/aurel/aurel/lifecycle/ExistingSubscribers;" (.ref wv)) (pr4 : Exa Z Z.heap wv "[Lcom/example/aurel/aurel/lifecycle/ExistingSubscribers;") (pr5 : Arv Z Z.heap wv kv (.object "com/example/aurel/aurel/lifecycle/ExistingSubscribers") (2 : Int32) [(.ref w0), (.ref w1)] .null) (pr6 : Fld Z Z.heap w0 "com/example/aurel/aurel/lifecycle/ExistingSubscribers" "code" "Ljava/lang/String;" (.ref s0)) (pr7 : Exa Z Z.heap s0 "java/lang/String") (pr8 : Fld Z Z.heap s0 "java/lang/String" "coder" "B" (.int 0)) (pr9 : Fld Z Z.heap s0 "java/lang/String" "value" "[B" (.ref t0)) (pr10 : Arv Z Z.heap t0 kt0 .byte (4 : Int32) [(.int 107), (.int 101), (.int 101), (.int 112)] (.int 0)) (pr11 : Fld Z Z.heap w1 "com/example/aurel/aurel/lifecycle/ExistingSubscribers" "code" "Ljava/lang/String;" (.ref s1)) (pr12 : Exa Z Z.heap s1 "java/lang/String") (pr13 : Fld Z Z.heap s1 "java/lang/String" "coder" "B" (.int 0)) (pr14 : Fld Z Z.heap s1 "java/lang/String" "value" "[B" (.ref t1)) (pr15 : Arv Z Z.heap t1 kt1 .byte (5 : Int32) [(.int 97), (.int 112), (.int 112), (.int 108), (.int 121)] (.int 0)) (pr16 : Exa Z h0 a1 "java/lang/String") (pr17 : Fld Z h0 a1 "java/lang/String" "coder" "B" (.int 0)) (pr18 : Fld Z h0 a1 "java/lang/String" "value" "[B" (.ref u1)) (pr19 : Arv Z h0 u1 ku .byte (4 : Int32) [(.int 107), (.int 101), (.int 101), (.int 112)] (.int 0)) (pr20 : s0 ≠ a1) (pr21 : s1 ≠ a1) :
    Met l Z (⟨"com/example/aurel/aurel/lifecycle/ExistingSubscribers", "fromCode", "(Ljava/lang/String;)Lcom/example/aurel/aurel/lifecycle/ExistingSubscribers;"⟩ : MethodName) prog_16_method_4_code 5 (some (.object "com/example/aurel/aurel/lifecycle/ExistingSubscribers")) ws ({ frames := 2, cells := 1, slots := 2, locals := 28 } : Room) #[(.ref a1)] h0 (Q_rm_from_k Z a1 u1 ku cs wv kv w0 w1 s0 t0 kt0 s1 t1 kt1 h0 n0) := by
  refine Met.enter (f0 := fun m => mkF m 0 #[.val (.ref a1), .unset, .unset, .unset, .unset] []) (plainFor_of_name pn_com_example_aurel_aurel_lifecycle_ExistingSubscribers) (fun m => ef_rm_from_k m a1) ?_
  intro p e s m below meth c s₁ hx hby hml hown hnm hret hlk hZ X0 e0
  have hown : s.vm.findClass "com/example/aurel/aurel/lifecycle/ExistingSubscribers" = some m.cls := hown
  have hnm : meth.name = "fromCode" := hnm
  have hml : c.maxLocals = 5 := hml
  have hby : c.code = prog_16_method_4_code := hby
  have N0 := Fr.nil n0
  obtain ⟨_, _, ⟨T168, L168, k168, n168⟩, -, X168, ⟨Lc168, hQ168, l168, y168, z168⟩, st168⟩ := Jvm.LawKit.callS X0 hx (y := (⟨"com/example/aurel/aurel/lifecycle/ExistingSubscribers", "values", "()[Lcom/example/aurel/aurel/lifecycle/ExistingSubscribers;"⟩ : MethodName)) hown (mvT hZ (wd hw 36 rfl)) (mvT hZ (wd hw 37 rfl)) (mvT hZ (wd hw 31 rfl)) (mvT hZ (wd hw 38 rfl)) (by decide) (backOf (W := 0) (rm_values l Z a0 hw [] wv kv w0 w1 h0 n0 Z0 pr0 pr3 pr4 pr5) hZ (wd hw 38 rfl) (wd hw 31 rfl) (by decide) (by decide)) (g := (mkF m 0 #[.val (.ref a1), .unset, .unset, .unset, .unset] [])) rfl (by rw [hml]; rfl) (argsL := []) (rest := []) (lenOf pd_5 rfl) rfl (by show 2 * 0 + _ ≤ _; exact Nat.le_of_eq rfl) (hb hby d7_0) (fun _ _ => ⟨rfl, e0, Nat.le_of_ble_eq_true rfl, Nat.le_of_ble_eq_true rfl⟩)
  dsimp only [Pt.U, Pt.locs, Pt.cells, Pt.slots] at X168 l168 y168 z168 st168 hQ168
  subst l168 y168 z168
  obtain ⟨b168, rfl, Nq168, K168, p168_0, p168_1⟩ := hQ168
  have N168 := Fr.app N0 Nq168
  have O169 := pr0.keep K168 all0
  have Z169 : n0 ≤ T168.heap.size := Nat.le_trans Z0 K168.1
  have sz_b168 : h0.size ≤ b168 := p168_1
  refine Go.by (B := (T168.setTop (mkF m 3 #[.val (.ref a1), .unset, .unset, .unset, .unset] [(.ref b168)]))) (fun _ k => st168 _ k) ?_
  refine Go.by (B := (T168.setTop (mkF m 5 #[.val (.ref a1), .val (.ref b168), .unset, .unset, .unset] [(.ref b168)]))) (fun _ k => XS.astoreN X168.here hx rfl (hb hby d7_3) rfl rfl (l' := #[.val (.ref a1), .val (.ref b168), .unset, .unset, .unset]) rfl (XS.aloadN X168.here hx rfl (hb hby d7_4) rfl rfl k)) ?_
  obtain ⟨cl170, Ar170, q170, S170, N_170, Hs170, G170⟩ := id p168_0
  refine Go.by (B := (T168.setTop (mkF m 6 #[.val (.ref a1), .val (.ref b168), .unset, .unset, .unset] [(.int 2)]))) (fun _ k => X168.arraylength hx Ar170.1 (State.isArrayOf_alike hZ.alike Ar170.2.1) (g := (mkF m 5 #[.val (.ref a1), .val (.ref b168), .unset, .unset, .unset] [(.ref b168)])) rfl rfl (hb hby d7_5) _ (by rw [len_of S170 N_170]; exact k)) ?_
  refine Go.by (B := (T168.setTop (mkF m 16 #[.val (.ref a1), .val (.ref b168), .val (.int 2), .val (.int 0), .unset] [(.int 0), (.ref b168)]))) (fun _ k => XS.istoreN X168.here hx rfl (hb hby d7_6) rfl (l' := #[.val (.ref a1), .val (.ref b168), .val (.int 2), .unset, .unset]) rfl (XS.iconst X168.here hx rfl (hb hby d7_7) (XS.istoreN X168.here hx rfl (hb hby d7_8) rfl (l' := #[.val (.ref a1), .val (.ref b168), .val (.int 2), .val (.int 0), .unset]) rfl (XS.iloadN X168.here hx rfl (hb hby d7_9) rfl (XS.iloadN X168.here hx rfl (hb hby d7_10) rfl (XS.icmpNo X168.here hx rfl (hb hby d7_11) rfl (tlt (by decide : (0 : Int32) < (2 : Int32))).2.1 (XS.aloadN X168.here hx rfl (hb hby d7_14) rfl rfl (XS.iloadN X168.here hx rfl (hb hby d7_15) rfl k)))))))) ?_
  obtain ⟨cl171, Ar171, q171, S171, N_171, Hs171, G171⟩ := id p168_0
  have hin172 : ¬ ((0 : Int32) < 0 ∨ cl171.slots.size ≤ ((0 : Int32)).toNatClampNeg) := inb_of S171 ⟨by decide, by decide⟩
  have hat172 : cl171.slots[((0 : Int32)).toNatClampNeg]? = some (.ref w0) := Hs171.at hin172 rfl
  refine Go.by (B := (T168.setTop (mkF m 17 #[.val (.ref a1), .val (.ref b168), .val (.int 2), .val (.int 0), .unset] [(.ref w0)]))) (fun _ k => X168.aaload hx (j := (0 : Int32)) (v := (.ref w0)) Ar171.1 (State.isArrayOf_alike hZ.alike Ar171.2.1) rfl Ar171.2.2 hin172 hat172 (g := (mkF m 16 #[.val (.ref a1), .val (.ref b168), .val (.int 2), .val (.int 0), .unset] [(.int 0), (.ref b168)])) rfl rfl (hb hby d7_16) _ k) ?_
  refine Go.by (B := (T168.setTop (mkF m 21 #[.val (.ref a1), .val (.ref b168), .val (.int 2), .val (.int 0), .val (.ref w0)] [(.ref w0)]))) (fun _ k => XS.astore X168.here hx rfl (hb hby d7_17) rfl rfl (l' := #[.val (.ref a1), .val (.ref b168), .val (.int 2), .val (.int 0), .val (.ref w0)]) rfl (XS.aload X168.here hx rfl (hb hby d7_19) rfl rfl k)) ?_
  obtain ⟨T173, X173, e173, st173⟩ := getF X168 hx hZ hown (host := "") (Or.inl (wd hw 52 rfl)) Via.refl rfl (pr6.ext O169.2) (g := (mkF m 21 #[.val (.ref a1), .val (.ref b168), .val (.int 2), .val (.int 0), .val (.ref w0)] [(.ref w0)])) rfl rfl (hb hby d7_21)
  refine Go.by (B := (T173.setTop (mkF m 24 #[.val (.ref a1), .val (.ref b168), .val (.int 2), .val (.int 0), .val (.ref w0)] [(.ref s0)]))) st173 ?_
  refine Go.by (B := (T173.setTop (mkF m 25 #[.val (.ref a1), .val (.ref b168), .val (.int 2), .val (.int 0), .val (.ref w0)] [(.ref a1), (.ref s0)]))) (fun _ k => XS.aloadN X173.here hx rfl (hb hby d7_24) rfl rfl k) ?_
  obtain ⟨cq174, kq174, q174a, q174b, q174c⟩ := isOf hZ e173 (pr7.ext O169.2)
  obtain ⟨_, _, ⟨T174, L174, k174, n174⟩, -, X174, ⟨Lc174, hQ174, l174, y174, z174⟩, st174⟩ := X173.virtualBack hx (y := (⟨"java/lang/String", "equals", "(Ljava/lang/Object;)Z"⟩ : MethodName)) (z := (⟨"java/lang/String", "equals", "(Ljava/lang/Object;)Z"⟩ : MethodName)) hown (mvT hZ (wd hw 54 rfl)) (mvT hZ (wd hw 55 rfl)) (notFace_of_selects (args := #[]) (mvT hZ (wd hw 57 rfl))) (mvT hZ (wd hw 57 rfl)) (mvT hZ (wd hw 56 rfl)) (by decide) (backOf (W := 0) (rm_seq_kk l Z a0 hw [] s0 a1 t0 u1 kt0 ku cs T168.heap n0 Z169 O169 pr1 hcs (pr7.ext O169.2) (pr8.ext O169.2) (pr9.ext O169.2) (pr10.ext O169.2) (pr16.keep K168) (pr17.keep K168 nin0) (pr18.keep K168 nin0) (pr19.keep K168 nin0)) hZ (wd hw 58 rfl) (wd hw 2 rfl) (by decide) (by decide)) q174a q174c (g := (mkF m 25 #[.val (.ref a1), .val (.ref b168), .val (.int 2), .val (.int 0), .val (.ref w0)] [(.ref a1), (.ref s0)])) rfl (by rw [hml]; rfl) (Steps.refl _) (argsL := [(.ref a1)]) (rest := []) (lenOf pd_6 rfl) rfl (by show 2 * 0 + _ ≤ _; exact Nat.le_of_eq rfl) (hb hby d7_25) (fun _ _ => ⟨rfl, e173, Nat.le_of_ble_eq_true rfl, Nat.le_of_ble_eq_true rfl⟩)
  dsimp only [Pt.U, Pt.locs, Pt.cells, Pt.slots] at X174 l174 y174 z174 st174 hQ174
  subst l174 y174 z174
  obtain ⟨rfl, Nq174, hh174⟩ := hQ174
  have N174 := Fr.app N168 Nq174
  refine Go.by (B := (T174.setTop (mkF m 28 #[.val (.ref a1), .val (.ref b168), .val (.int 2), .val (.int 0), .val (.ref w0)] [(.int 1)]))) (fun _ k => st174.trans k) ?_
  refine Go.by (B := (T174.setTop (mkF m 33 #[.val (.ref a1), .val (.ref b168), .val (.int 2), .val (.int 0), .val (.ref w0)] [(.ref w0)]))) (fun _ k => XS.ifNo X174.here hx rfl (hb hby d7_28) rfl ((if0 _ _).trans (feq (by decide : ¬ ((1 : Int32) = (0 : Int32)))).1) (XS.aload X174.here hx rfl (hb hby d7_31) rfl rfl k)) ?_
  refine Go.ret X174 hx hlk (t := (.object "com/example/aurel/aurel/lifecycle/ExistingSubscribers")) hret rfl (Or.inr (Or.inr (Or.inr (Or.inr ⟨rfl, rfl, rfl⟩)))) (hb hby d7_33) (by decide) (by decide) ?_
  rw [hh174]
  exact ⟨rfl, N174, ((Keep.refl h0 []).trans K168 all0)⟩
theorem ef_rm_from_a (m : MethodId) (x0 : Addr) : entryFrame m #[(.ref x0)] 5 = mkF m 0 #[.val (.ref x0), .unset, .unset, .unset, .unset] [] := by first | (simp [entryFrame, mkF, argsToLocals, Value.category]; done) | rfl
theorem d7_34 : decode prog_16_method_4_code 34 = .ok (.iinc 3 1, 3) := by decide +kernel
theorem d7_37 : decode prog_16_method_4_code 37 = .ok (.goto (-28), 3) := by decide +kernel
def Q_rm_from_a (Z : State) (a1 : Addr) (u1 : Addr) (ku : ClassId) (cs : Int32) (wv : Addr) (kv : ClassId) (w0 : Addr) (w1 : Addr) (s0 : Addr) (t0 : Addr) (kt0 : ClassId) (s1 : Addr) (t1 : Addr) (kt1 : ClassId) (h0 : Heap) (n0 : Nat) (v : Option Value) (h : Heap) (L : List Loc) : Prop := v = some (.ref w1) ∧ Fr n0 L ∧ Keep h0 h []
set_option maxRecDepth 65536 in
set_option maxHeartbeats 40000000 in
theorem rm_from_a (l : Launch) (Z : State) (a0 : Array Value) (hw : ∀ d ∈ tables_1, d.before a0 Z = true) (ws : List Jvm.Cond) (a1 : Addr) (u1 : Addr) (ku : ClassId) (cs : Int32) (wv : Addr) (kv : ClassId) (w0 : Addr) (w1 : Addr) (s0 : Addr) (t0 : Addr) (kt0 : ClassId) (s1 : Addr) (t1 : Addr) (kt1 : ClassId) (h0 : Heap) (n0 : Nat) (Z0 : n0 ≤ h0.size) (pr0 : Old Z n0 h0) (pr1 : Sta Z Z.heap "java/lang/String" "COMPACT_STRINGS" "Z" (.int cs)) (hcs : ¬ (cs = (0 : Int32))) (pr3 : Sta Z Z.heap "com/example/aurel/aurel/lifecycle/ExistingSubscribers" "$VALUES" "[Lcom/example/aurel/aurel/lifecycle/ExistingSubscribers;" (.ref wv)) (pr4 : Exa Z Z.heap wv "[Lcom/example/aurel/aurel/lifecycle/ExistingSubscribers;") (pr5 : Arv Z Z.heap wv kv (.object "com/example/aurel/aurel/lifecycle/ExistingSubscribers") (2 : Int32) [(.ref w0), (.ref w1)] .null) (pr6 : Fld Z Z.heap w0 "com/example/aurel/aurel/lifecycle/ExistingSubscribers" "code" "Ljava/lang/String;" (.ref s0)) (pr7 : Exa Z Z.heap s0 "java/lang/String") (pr8 : Fld Z Z.heap s0 "java/lang/String" "coder" "B" (.int 0)) (pr9 : Fld Z Z.heap s0 "java/lang/String" "value" "[B" (.ref t0)) (pr10 : Arv Z Z.heap t0 kt0 .byte (4 : Int32) [(.int 107), (.int 101), (.int 101), (.int 112)] (.int 0)) (pr11 : Fld Z Z.heap w1 "com/example/aurel/aurel/lifecycle/ExistingSubscribers" "code" "Ljava/lang/String;" (.ref s1)) (pr12 : Exa Z Z.heap s1 "java/lang/String") (pr13 : Fld Z Z.heap s1 "java/lang/String" "coder" "B" (.int 0)) (pr14 : Fld Z Z.heap s1 "java/lang/String" "value" "[B" (.ref t1)) (pr15 : Arv Z Z.heap t1 kt1 .byte (5 : Int32) [(.int 97), (.int 112), (.int 112), (.int 108), (.int 121)] (.int 0)) (pr16 : Exa Z h0 a1 "java/lang/String") (pr17 : Fld Z h0 a1 "java/lang/String" "coder" "B" (.int 0)) (pr18 : Fld Z h0 a1 "java/lang/String" "value" "[B" (.ref u1)) (pr19 : Arv Z h0 u1 ku .byte (5 : Int32) [(.int 97), (.int 112), (.int 112), (.int 108), (.int 121)] (.int 0)) (pr20 : s0 ≠ a1) (pr21 : s1 ≠ a1) :
    Met l Z (⟨"com/example/aurel/aurel/lifecycle/ExistingSubscribers", "fromCode", "(Ljava/lang/String;)Lcom/example/aurel/aurel/lifecycle/ExistingSubscribers;"⟩ : MethodName) prog_16_method_4_code 5 (some (.object "com/example/aurel/aurel/lifecycle/ExistingSubscribers")) ws ({ frames := 2, cells := 1, slots := 2, locals := 28 } : Room) #[(.ref a1)] h0 (Q_rm_from_a Z a1 u1 ku cs wv kv w0 w1 s0 t0 kt0 s1 t1 kt1 h0 n0) := by
  refine Met.enter (f0 := fun m => mkF m 0 #[.val (.ref a1), .unset, .unset, .unset, .unset] []) (plainFor_of_name pn_com_example_aurel_aurel_lifecycle_ExistingSubscribers) (fun m => ef_rm_from_a m a1) ?_
  intro p e s m below meth c s₁ hx hby hml hown hnm hret hlk hZ X0 e0
  have hown : s.vm.findClass "com/example/aurel/aurel/lifecycle/ExistingSubscribers" = some m.cls := hown
  have hnm : meth.name = "fromCode" := hnm
  have hml : c.maxLocals = 5 := hml
  have hby : c.code = prog_16_method_4_code := hby
  have N0 := Fr.nil n0
  obtain ⟨_, _, ⟨T175, L175, k175, n175⟩, -, X175, ⟨Lc175, hQ175, l175, y175, z175⟩, st175⟩ := Jvm.LawKit.callS X0 hx (y := (⟨"com/example/aurel/aurel/lifecycle/ExistingSubscribers", "values", "()[Lcom/example/aurel/aurel/lifecycle/ExistingSubscribers;"⟩ : MethodName)) hown (mvT hZ (wd hw 36 rfl)) (mvT hZ (wd hw 37 rfl)) (mvT hZ (wd hw 31 rfl)) (mvT hZ (wd hw 38 rfl)) (by decide) (backOf (W := 0) (rm_values l Z a0 hw [] wv kv w0 w1 h0 n0 Z0 pr0 pr3 pr4 pr5) hZ (wd hw 38 rfl) (wd hw 31 rfl) (by decide) (by decide)) (g := (mkF m 0 #[.val (.ref a1), .unset, .unset, .unset, .unset] [])) rfl (by rw [hml]; rfl) (argsL := []) (rest := []) (lenOf pd_5 rfl) rfl (by show 2 * 0 + _ ≤ _; exact Nat.le_of_eq rfl) (hb hby d7_0) (fun _ _ => ⟨rfl, e0, Nat.le_of_ble_eq_true rfl, Nat.le_of_ble_eq_true rfl⟩)
  dsimp only [Pt.U, Pt.locs, Pt.cells, Pt.slots] at X175 l175 y175 z175 st175 hQ175
  subst l175 y175 z175
  obtain ⟨b175, rfl, Nq175, K175, p175_0, p175_1⟩ := hQ175
  have N175 := Fr.app N0 Nq175
  have O176 := pr0.keep K175 all0
  have Z176 : n0 ≤ T175.heap.size := Nat.le_trans Z0 K175.1
  have sz_b175 : h0.size ≤ b175 := p175_1
  refine Go.by (B := (T175.setTop (mkF m 3 #[.val (.ref a1), .unset, .unset, .unset, .unset] [(.ref b175)]))) (fun _ k => st175 _ k) ?_
  refine Go.by (B := (T175.setTop (mkF m 5 #[.val (.ref a1), .val (.ref b175), .unset, .unset, .unset] [(.ref b175)]))) (fun _ k => XS.astoreN X175.here hx rfl (hb hby d7_3) rfl rfl (l' := #[.val (.ref a1), .val (.ref b175), .unset, .unset, .unset]) rfl (XS.aloadN X175.here hx rfl (hb hby d7_4) rfl rfl k)) ?_
  obtain ⟨cl177, Ar177, q177, S177, N_177, Hs177, G177⟩ := id p175_0
  refine Go.by (B := (T175.setTop (mkF m 6 #[.val (.ref a1), .val (.ref b175), .unset, .unset, .unset] [(.int 2)]))) (fun _ k => X175.arraylength hx Ar177.1 (State.isArrayOf_alike hZ.alike Ar177.2.1) (g := (mkF m 5 #[.val (.ref a1), .val (.ref b175), .unset, .unset, .unset] [(.ref b175)])) rfl rfl (hb hby d7_5) _ (by rw [len_of S177 N_177]; exact k)) ?_
  refine Go.by (B := (T175.setTop (mkF m 16 #[.val (.ref a1), .val (.ref b175), .val (.int 2), .val (.int 0), .unset] [(.int 0), (.ref b175)]))) (fun _ k => XS.istoreN X175.here hx rfl (hb hby d7_6) rfl (l' := #[.val (.ref a1), .val (.ref b175), .val (.int 2), .unset, .unset]) rfl (XS.iconst X175.here hx rfl (hb hby d7_7) (XS.istoreN X175.here hx rfl (hb hby d7_8) rfl (l' := #[.val (.ref a1), .val (.ref b175), .val (.int 2), .val (.int 0), .unset]) rfl (XS.iloadN X175.here hx rfl (hb hby d7_9) rfl (XS.iloadN X175.here hx rfl (hb hby d7_10) rfl (XS.icmpNo X175.here hx rfl (hb hby d7_11) rfl (tlt (by decide : (0 : Int32) < (2 : Int32))).2.1 (XS.aloadN X175.here hx rfl (hb hby d7_14) rfl rfl (XS.iloadN X175.here hx rfl (hb hby d7_15) rfl k)))))))) ?_
  obtain ⟨cl178, Ar178, q178, S178, N_178, Hs178, G178⟩ := id p175_0
  have hin179 : ¬ ((0 : Int32) < 0 ∨ cl178.slots.size ≤ ((0 : Int32)).toNatClampNeg) := inb_of S178 ⟨by decide, by decide⟩
  have hat179 : cl178.slots[((0 : Int32)).toNatClampNeg]? = some (.ref w0) := Hs178.at hin179 rfl
  refine Go.by (B := (T175.setTop (mkF m 17 #[.val (.ref a1), .val (.ref b175), .val (.int 2), .val (.int 0), .unset] [(.ref w0)]))) (fun _ k => X175.aaload hx (j := (0 : Int32)) (v := (.ref w0)) Ar178.1 (State.isArrayOf_alike hZ.alike Ar178.2.1) rfl Ar178.2.2 hin179 hat179 (g := (mkF m 16 #[.val (.ref a1), .val (.ref b175), .val (.int 2), .val (.int 0), .unset] [(.int 0), (.ref b175)])) rfl rfl (hb hby d7_16) _ k) ?_
  refine Go.by (B := (T175.setTop (mkF m 21 #[.val (.ref a1), .val (.ref b175), .val (.int 2), .val (.int 0), .val (.ref w0)] [(.ref w0)]))) (fun _ k => XS.astore X175.here hx rfl (hb hby d7_17) rfl rfl (l' := #[.val (.ref a1), .val (.ref b175), .val (.int 2), .val (.int 0), .val (.ref w0)]) rfl (XS.aload X175.here hx rfl (hb hby d7_19) rfl rfl k)) ?_
  obtain ⟨T180, X180, e180, st180⟩ := getF X175 hx hZ hown (host := "") (Or.inl (wd hw 52 rfl)) Via.refl rfl (pr6.ext O176.2) (g := (mkF m 21 #[.val (.ref a1), .val (.ref b175), .val (.int 2), .val (.int 0), .val (.ref w0)] [(.ref w0)])) rfl rfl (hb hby d7_21)
  refine Go.by (B := (T180.setTop (mkF m 24 #[.val (.ref a1), .val (.ref b175), .val (.int 2), .val (.int 0), .val (.ref w0)] [(.ref s0)]))) st180 ?_
  refine Go.by (B := (T180.setTop (mkF m 25 #[.val (.ref a1), .val (.ref b175), .val (.int 2), .val (.int 0), .val (.ref w0)] [(.ref a1), (.ref s0)]))) (fun _ k => XS.aloadN X180.here hx rfl (hb hby d7_24) rfl rfl k) ?_
  obtain ⟨cq181, kq181, q181a, q181b, q181c⟩ := isOf hZ e180 (pr7.ext O176.2)
  obtain ⟨_, _, ⟨T181, L181, k181, n181⟩, -, X181, ⟨Lc181, hQ181, l181, y181, z181⟩, st181⟩ := X180.virtualBack hx (y := (⟨"java/lang/String", "equals", "(Ljava/lang/Object;)Z"⟩ : MethodName)) (z := (⟨"java/lang/String", "equals", "(Ljava/lang/Object;)Z"⟩ : MethodName)) hown (mvT hZ (wd hw 54 rfl)) (mvT hZ (wd hw 55 rfl)) (notFace_of_selects (args := #[]) (mvT hZ (wd hw 57 rfl))) (mvT hZ (wd hw 57 rfl)) (mvT hZ (wd hw 56 rfl)) (by decide) (backOf (W := 0) (rm_seq_ka l Z a0 hw [] s0 a1 t0 u1 kt0 ku cs T175.heap n0 Z176 O176 pr1 hcs (pr7.ext O176.2) (pr8.ext O176.2) (pr9.ext O176.2) (pr10.ext O176.2) (pr16.keep K175) (pr17.keep K175 nin0) (pr18.keep K175 nin0) (pr19.keep K175 nin0) pr20) hZ (wd hw 58 rfl) (wd hw 2 rfl) (by decide) (by decide)) q181a q181c (g := (mkF m 25 #[.val (.ref a1), .val (.ref b175), .val (.int 2), .val (.int 0), .val (.ref w0)] [(.ref a1), (.ref s0)])) rfl (by rw [hml]; rfl) (Steps.refl _) (argsL := [(.ref a1)]) (rest := []) (lenOf pd_6 rfl) rfl (by show 2 * 0 + _ ≤ _; exact Nat.le_of_eq rfl) (hb hby d7_25) (fun _ _ => ⟨rfl, e180, Nat.le_of_ble_eq_true rfl, Nat.le_of_ble_eq_true rfl⟩)
  dsimp only [Pt.U, Pt.locs, Pt.cells, Pt.slots] at X181 l181 y181 z181 st181 hQ181
  subst l181 y181 z181
  obtain ⟨rfl, Nq181, hh181⟩ := hQ181
  have N181 := Fr.app N175 Nq181
  refine Go.by (B := (T181.setTop (mkF m 28 #[.val (.ref a1), .val (.ref b175), .val (.int 2), .val (.int 0), .val (.ref w0)] [(.int 0)]))) (fun _ k => st181.trans k) ?_
  refine Go.by (B := (T181.setTop (mkF m 16 #[.val (.ref a1), .val (.ref b175), .val (.int 2), .val (.int 1), .val (.ref w0)] [(.int 1), (.ref b175)]))) (fun _ k => XS.ifYes X181.here hx rfl (pc0 := 28) (pc' := 34) rfl (hb hby d7_28) rfl ((if0 _ _).trans (teq (by decide : (0 : Int32) = (0 : Int32))).1) (by decide) (by decide) (XS.iinc X181.here hx rfl (hb hby d7_34) rfl (l' := #[.val (.ref a1), .val (.ref b175), .val (.int 2), .val (.int 1), .val (.ref w0)]) rfl (XS.goto X181.here hx rfl (pc0 := 37) (pc' := 9) rfl (hb hby d7_37) (by decide) (by decide) (XS.iloadN X181.here hx rfl (hb hby d7_9) rfl (XS.iloadN X181.here hx rfl (hb hby d7_10) rfl (XS.icmpNo X181.here hx rfl (hb hby d7_11) rfl (tlt (by decide : (1 : Int32) < (2 : Int32))).2.1 (XS.aloadN X181.here hx rfl (hb hby d7_14) rfl rfl (XS.iloadN X181.here hx rfl (hb hby d7_15) rfl k)))))))) ?_
  obtain ⟨cl182, Ar182, q182, S182, N_182, Hs182, G182⟩ := id p175_0
  have hin183 : ¬ ((1 : Int32) < 0 ∨ cl182.slots.size ≤ ((1 : Int32)).toNatClampNeg) := inb_of S182 ⟨by decide, by decide⟩
  have hat183 : cl182.slots[((1 : Int32)).toNatClampNeg]? = some (.ref w1) := Hs182.at hin183 rfl
  refine Go.by (B := (T181.setTop (mkF m 17 #[.val (.ref a1), .val (.ref b175), .val (.int 2), .val (.int 1), .val (.ref w0)] [(.ref w1)]))) (fun _ k => X181.aaload hx (j := (1 : Int32)) (v := (.ref w1)) (by rw [hh181]; exact Ar182.1) (State.isArrayOf_alike hZ.alike Ar182.2.1) rfl Ar182.2.2 hin183 hat183 (g := (mkF m 16 #[.val (.ref a1), .val (.ref b175), .val (.int 2), .val (.int 1), .val (.ref w0)] [(.int 1), (.ref b175)])) rfl rfl (hb hby d7_16) _ k) ?_
  refine Go.by (B := (T181.setTop (mkF m 21 #[.val (.ref a1), .val (.ref b175), .val (.int 2), .val (.int 1), .val (.ref w1)] [(.ref w1)]))) (fun _ k => XS.astore X181.here hx rfl (hb hby d7_17) rfl rfl (l' := #[.val (.ref a1), .val (.ref b175), .val (.int 2), .val (.int 1), .val (.ref w1)]) rfl (XS.aload X181.here hx rfl (hb hby d7_19) rfl rfl k)) ?_
  obtain ⟨T184, X184, e184, st184⟩ := getF X181 hx hZ hown (host := "") (Or.inl (wd hw 52 rfl)) Via.refl hh181 (pr11.ext O176.2) (g := (mkF m 21 #[.val (.ref a1), .val (.ref b175), .val (.int 2), .val (.int 1), .val (.ref w1)] [(.ref w1)])) rfl rfl (hb hby d7_21)
  refine Go.by (B := (T184.setTop (mkF m 24 #[.val (.ref a1), .val (.ref b175), .val (.int 2), .val (.int 1), .val (.ref w1)] [(.ref s1)]))) st184 ?_
  refine Go.by (B := (T184.setTop (mkF m 25 #[.val (.ref a1), .val (.ref b175), .val (.int 2), .val (.int 1), .val (.ref w1)] [(.ref a1), (.ref s1)]))) (fun _ k => XS.aloadN X184.here hx rfl (hb hby d7_24) rfl rfl k) ?_
  obtain ⟨cq185, kq185, q185a, q185b, q185c⟩ := isOf hZ e184 (pr12.ext O176.2)
  obtain ⟨_, _, ⟨T185, L185, k185, n185⟩, -, X185, ⟨Lc185, hQ185, l185, y185, z185⟩, st185⟩ := X184.virtualBack hx (y := (⟨"java/lang/String", "equals", "(Ljava/lang/Object;)Z"⟩ : MethodName)) (z := (⟨"java/lang/String", "equals", "(Ljava/lang/Object;)Z"⟩ : MethodName)) hown (mvT hZ (wd hw 54 rfl)) (mvT hZ (wd hw 55 rfl)) (notFace_of_selects (args := #[]) (mvT hZ (wd hw 57 rfl))) (mvT hZ (wd hw 57 rfl)) (mvT hZ (wd hw 56 rfl)) (by decide) (backOf (W := 0) (rm_seq_aa l Z a0 hw [] s1 a1 t1 u1 kt1 ku cs T175.heap n0 Z176 O176 pr1 hcs (pr12.ext O176.2) (pr13.ext O176.2) (pr14.ext O176.2) (pr15.ext O176.2) (pr16.keep K175) (pr17.keep K175 nin0) (pr18.keep K175 nin0) (pr19.keep K175 nin0)) hZ (wd hw 58 rfl) (wd hw 2 rfl) (by decide) (by decide)) q185a q185c (g := (mkF m 25 #[.val (.ref a1), .val (.ref b175), .val (.int 2), .val (.int 1), .val (.ref w1)] [(.ref a1), (.ref s1)])) rfl (by rw [hml]; rfl) (Steps.refl _) (argsL := [(.ref a1)]) (rest := []) (lenOf pd_6 rfl) rfl (by show 2 * 0 + _ ≤ _; exact Nat.le_of_eq rfl) (hb hby d7_25) (fun _ _ => ⟨rfl, e184, Nat.le_of_ble_eq_true rfl, Nat.le_of_ble_eq_true rfl⟩)
  dsimp only [Pt.U, Pt.locs, Pt.cells, Pt.slots] at X185 l185 y185 z185 st185 hQ185
  subst l185 y185 z185
  obtain ⟨rfl, Nq185, hh185⟩ := hQ185
  have N185 := Fr.app N181 Nq185
  refine Go.by (B := (T185.setTop (mkF m 28 #[.val (.ref a1), .val (.ref b175), .val (.int 2), .val (.int 1), .val (.ref w1)] [(.int 1)]))) (fun _ k => st185.trans k) ?_
  refine Go.by (B := (T185.setTop (mkF m 33 #[.val (.ref a1), .val (.ref b175), .val (.int 2), .val (.int 1), .val (.ref w1)] [(.ref w1)]))) (fun _ k => XS.ifNo X185.here hx rfl (hb hby d7_28) rfl ((if0 _ _).trans (feq (by decide : ¬ ((1 : Int32) = (0 : Int32)))).1) (XS.aload X185.here hx rfl (hb hby d7_31) rfl rfl k)) ?_
  refine Go.ret X185 hx hlk (t := (.object "com/example/aurel/aurel/lifecycle/ExistingSubscribers")) hret rfl (Or.inr (Or.inr (Or.inr (Or.inr ⟨rfl, rfl, rfl⟩)))) (hb hby d7_33) (by decide) (by decide) ?_
  rw [hh185]
  exact ⟨rfl, N185, ((Keep.refl h0 []).trans K175 all0)⟩
theorem ef_rm_code (m : MethodId) (x0 : Addr) : entryFrame m #[(.ref x0)] 1 = mkF m 0 #[.val (.ref x0)] [] := by first | (simp [entryFrame, mkF, argsToLocals, Value.category]; done) | rfl
theorem d11_0 : decode prog_16_method_5_code 0 = .ok (.aload_n 0, 1) := by decide +kernel
theorem d11_1 : decode prog_16_method_5_code 1 = .ok (.getfield 29, 3) := by decide +kernel
theorem d11_4 : decode prog_16_method_5_code 4 = .ok (.areturn, 1) := by decide +kernel
def Q_rm_code (Z : State) (a1 : Addr) (x1 : Addr) (h0 : Heap) (n0 : Nat) (v : Option Value) (h : Heap) (L : List Loc) : Prop := v = some (.ref x1) ∧ Fr n0 L ∧ h = h0
set_option maxRecDepth 65536 in
set_option maxHeartbeats 40000000 in
theorem rm_code (l : Launch) (Z : State) (a0 : Array Value) (hw : ∀ d ∈ tables_1, d.before a0 Z = true) (ws : List Jvm.Cond) (a1 : Addr) (x1 : Addr) (h0 : Heap) (n0 : Nat) (Z0 : n0 ≤ h0.size) (pr0 : Fld Z h0 a1 "com/example/aurel/aurel/lifecycle/ExistingSubscribers" "code" "Ljava/lang/String;" (.ref x1)) :
    Met l Z (⟨"com/example/aurel/aurel/lifecycle/ExistingSubscribers", "code", "()Ljava/lang/String;"⟩ : MethodName) prog_16_method_5_code 1 (some (.object "java/lang/String")) ws ({ frames := 0, cells := 0, slots := 0, locals := 0 } : Room) #[(.ref a1)] h0 (Q_rm_code Z a1 x1 h0 n0) := by
  refine Met.enter (f0 := fun m => mkF m 0 #[.val (.ref a1)] []) (plainFor_of_name pn_com_example_aurel_aurel_lifecycle_ExistingSubscribers) (fun m => ef_rm_code m a1) ?_
  intro p e s m below meth c s₁ hx hby hml hown hnm hret hlk hZ X0 e0
  have hown : s.vm.findClass "com/example/aurel/aurel/lifecycle/ExistingSubscribers" = some m.cls := hown
  have hnm : meth.name = "code" := hnm
  have hml : c.maxLocals = 1 := hml
  have hby : c.code = prog_16_method_5_code := hby
  have N0 := Fr.nil n0
  refine Go.by (B := (s₁.setTop (mkF m 1 #[.val (.ref a1)] [(.ref a1)]))) (fun _ k => XS.aloadN X0.here hx rfl (hb hby d11_0) rfl rfl k) ?_
  obtain ⟨T186, X186, e186, st186⟩ := getF X0 hx hZ hown (host := "") (Or.inl (wd hw 52 rfl)) Via.refl e0 pr0 (g := (mkF m 1 #[.val (.ref a1)] [(.ref a1)])) rfl rfl (hb hby d11_1)
  refine Go.by (B := (T186.setTop (mkF m 4 #[.val (.ref a1)] [(.ref x1)]))) st186 ?_
  refine Go.ret X186 hx hlk (t := (.object "java/lang/String")) hret rfl (Or.inr (Or.inr (Or.inr (Or.inr ⟨rfl, rfl, rfl⟩)))) (hb hby d11_4) (by decide) (by decide) ?_
  rw [e186]
  exact ⟨rfl, N0, rfl⟩
theorem ef_rm0 (m : MethodId) (x0 : Int32) : entryFrame m #[(.int x0)] maxLocals = mkF m 0 #[.val (.int x0), .unset, .unset, .unset, .unset] [] := by first | (simp [entryFrame, mkF, argsToLocals, Value.category, maxLocals]; done) | rfl
theorem pd_7 : parseMethodDescriptor "([C)V" = some ⟨[(.array .char)], none⟩ := by decide +kernel
theorem pd_8 : parseMethodDescriptor "(Ljava/lang/String;)Lcom/example/aurel/aurel/lifecycle/ExistingSubscribers;" = some ⟨[(.object "java/lang/String")], some (.object "com/example/aurel/aurel/lifecycle/ExistingSubscribers")⟩ := by decide +kernel
theorem pd_9 : parseMethodDescriptor "()Ljava/lang/String;" = some ⟨[], some (.object "java/lang/String")⟩ := by decide +kernel
theorem pn_com_example_aurel_aurel_lifecycle_ExistingSubscribersFromCodePinLaw : plainName "com/example/aurel/aurel/lifecycle/ExistingSubscribersFromCodePinLaw" = true := by first | (simp [plainName, overriddenIn]; done) | decide +kernel
def Q_rm0 (Z : State) (p1 : Int32) (cs : Int32) (wv : Addr) (kv : ClassId) (w0 : Addr) (w1 : Addr) (s0 : Addr) (t0 : Addr) (kt0 : ClassId) (s1 : Addr) (t1 : Addr) (kt1 : ClassId) (h0 : Heap) (n0 : Nat) (v : Option Value) (h : Heap) (L : List Loc) : Prop := v = some (.int 1) ∧ Fr n0 L
set_option maxRecDepth 65536 in
set_option maxHeartbeats 40000000 in
theorem rm0 (l : Launch) (Z : State) (a0 : Array Value) (hw : ∀ d ∈ tables_1, d.before a0 Z = true) (ws : List Jvm.Cond) (p1 : Int32) (cs : Int32) (wv : Addr) (kv : ClassId) (w0 : Addr) (w1 : Addr) (s0 : Addr) (t0 : Addr) (kt0 : ClassId) (s1 : Addr) (t1 : Addr) (kt1 : ClassId) (h0 : Heap) (n0 : Nat) (Z0 : n0 ≤ h0.size) (pr0 : Old Z n0 h0) (pr1 : Sta Z Z.heap "java/lang/String" "COMPACT_STRINGS" "Z" (.int cs)) (hcs : ¬ (cs = (0 : Int32))) (pr3 : Sta Z Z.heap "com/example/aurel/aurel/lifecycle/ExistingSubscribers" "$VALUES" "[Lcom/example/aurel/aurel/lifecycle/ExistingSubscribers;" (.ref wv)) (pr4 : Exa Z Z.heap wv "[Lcom/example/aurel/aurel/lifecycle/ExistingSubscribers;") (pr5 : Arv Z Z.heap wv kv (.object "com/example/aurel/aurel/lifecycle/ExistingSubscribers") (2 : Int32) [(.ref w0), (.ref w1)] .null) (pr6 : Fld Z Z.heap w0 "com/example/aurel/aurel/lifecycle/ExistingSubscribers" "code" "Ljava/lang/String;" (.ref s0)) (pr7 : Exa Z Z.heap s0 "java/lang/String") (pr8 : Fld Z Z.heap s0 "java/lang/String" "coder" "B" (.int 0)) (pr9 : Fld Z Z.heap s0 "java/lang/String" "value" "[B" (.ref t0)) (pr10 : Arv Z Z.heap t0 kt0 .byte (4 : Int32) [(.int 107), (.int 101), (.int 101), (.int 112)] (.int 0)) (pr11 : Fld Z Z.heap w1 "com/example/aurel/aurel/lifecycle/ExistingSubscribers" "code" "Ljava/lang/String;" (.ref s1)) (pr12 : Exa Z Z.heap s1 "java/lang/String") (pr13 : Fld Z Z.heap s1 "java/lang/String" "coder" "B" (.int 0)) (pr14 : Fld Z Z.heap s1 "java/lang/String" "value" "[B" (.ref t1)) (pr15 : Arv Z Z.heap t1 kt1 .byte (5 : Int32) [(.int 97), (.int 112), (.int 112), (.int 108), (.int 121)] (.int 0)) (pr16 : Sta Z Z.heap "com/example/aurel/aurel/lifecycle/ExistingSubscribers" "KEEP" "Lcom/example/aurel/aurel/lifecycle/ExistingSubscribers;" (.ref w0)) (pr17 : Sta Z Z.heap "com/example/aurel/aurel/lifecycle/ExistingSubscribers" "APPLY" "Lcom/example/aurel/aurel/lifecycle/ExistingSubscribers;" (.ref w1)) (pr18 : Exa Z Z.heap w0 "com/example/aurel/aurel/lifecycle/ExistingSubscribers") (pr19 : Exa Z Z.heap w1 "com/example/aurel/aurel/lifecycle/ExistingSubscribers") :
    Met l Z x code maxLocals ret ws room_1 #[(.int p1)] h0 (Q_rm0 Z p1 cs wv kv w0 w1 s0 t0 kt0 s1 t1 kt1 h0 n0) := by
  refine Met.enter (f0 := fun m => mkF m 0 #[.val (.int p1), .unset, .unset, .unset, .unset] []) (plainFor_of_name pn_com_example_aurel_aurel_lifecycle_ExistingSubscribersFromCodePinLaw) (fun m => ef_rm0 m p1) ?_
  intro p e s m below meth c s₁ hx hby hml hown hnm hret hlk hZ X0 e0
  have hown : s.vm.findClass "com/example/aurel/aurel/lifecycle/ExistingSubscribersFromCodePinLaw" = some m.cls := hown
  have hnm : meth.name = "law" := hnm
  have hml : c.maxLocals = 5 := hml
  have hby : c.code = code := hby
  have N0 := Fr.nil n0
  refine Go.by (B := (s₁.setTop (mkF m 3 #[.val (.int p1), .unset, .unset, .unset, .unset] [(.int (p1 &&& (1 : Int32)))]))) (fun _ k => XS.iloadN X0.here hx rfl (hb hby at_0) rfl (XS.iconst X0.here hx rfl (hb hby at_1) (XS.iand X0.here hx rfl (hb hby at_2) rfl k))) ?_
  by_cases c187 : (p1 &&& (1 : Int32)) = (0 : Int32)
  · skip
    refine Go.by (B := (s₁.setTop (mkF m 59 #[.val (.int p1), .val (.int 0), .unset, .unset, .unset] []))) (fun _ k => XS.ifYes X0.here hx rfl (pc0 := 3) (pc' := 10) rfl (hb hby at_3) rfl ((if0 _ _).trans (teq c187).1) (by decide) (by decide) (XS.iconst X0.here hx rfl (hb hby at_10) (XS.istoreN X0.here hx rfl (hb hby at_11) rfl (l' := #[.val (.int p1), .val (.int 0), .unset, .unset, .unset]) rfl (XS.iloadN X0.here hx rfl (hb hby at_12) rfl (XS.ifYes X0.here hx rfl (pc0 := 13) (pc' := 59) rfl (hb hby at_13) rfl ((if0 _ _).trans (teq (by decide : (0 : Int32) = (0 : Int32))).1) (by decide) (by decide) k))))) ?_
    obtain ⟨T188, h188, X188, e188, E188, A188, D188, -, st188⟩ := newO X0 hx hZ hown (wd hw 0 rfl) (wd hw 1 rfl) (wd hw 2 rfl) e0 (g := (mkF m 59 #[.val (.int p1), .val (.int 0), .unset, .unset, .unset] [])) rfl (hb hby at_59) (by decide) (by decide)
    obtain ⟨b188, g188⟩ : ∃ z, z = h0.size := ⟨_, rfl⟩
    rw [← g188] at A188 D188 st188
    have sz_b188 : h0.size ≤ b188 := Nat.le_of_eq g188.symm
    have O189 := pr0.ext E188
    have Z189 : n0 ≤ h188.size := Nat.le_trans Z0 E188.1
    have F190 : Fld Z h188 b188 "java/lang/String" "coder" "B" (.int 0) := D188 (Or.inr (wd hw 27 rfl)) (ty := .byte) (by decide)
    have F191 : Fld Z h188 b188 "java/lang/String" "value" "[B" .null := D188 (Or.inr (wd hw 29 rfl)) (ty := (.array .byte)) (by decide)
    refine Go.by (B := (T188.setTop (mkF m 62 #[.val (.int p1), .val (.int 0), .unset, .unset, .unset] [(.ref b188)]))) st188 ?_
    refine Go.by (B := (T188.setTop (mkF m 64 #[.val (.int p1), .val (.int 0), .unset, .unset, .unset] [(.int 4), (.ref b188), (.ref b188)]))) (fun _ k => XS.dup X188.here hx rfl (hb hby at_62) rfl rfl (XS.iconst X188.here hx rfl (hb hby at_63) k)) ?_
    obtain ⟨T192, h192, k192, X192, e192, E192, A192, st192⟩ := newP X188 hx hZ (wd hw 3 rfl) e188 (g := (mkF m 64 #[.val (.int p1), .val (.int 0), .unset, .unset, .unset] [(.int 4), (.ref b188), (.ref b188)])) rfl (hb hby at_64) rfl (by decide) (cap := 4) (by decide) (by decide) (by decide) (by decide)
    obtain ⟨b192, g192⟩ : ∃ z, z = h188.size := ⟨_, rfl⟩
    rw [← g192] at A192 st192
    have sz_b192 : h188.size ≤ b192 := Nat.le_of_eq g192.symm
    have V192 : Arv Z h192 b192 k192 .char (4 : Int32) [(.int 0), (.int 0), (.int 0), (.int 0)] (.int 0) := (Arv.new A192 (by decide)).pad (pad_rep [] (.int 0) 4)
    have O193 := O189.ext E192
    have Z193 : n0 ≤ h192.size := Nat.le_trans Z189 E192.1
    refine Go.by (B := (T192.setTop (mkF m 66 #[.val (.int p1), .val (.int 0), .unset, .unset, .unset] [(.ref b192), (.ref b188), (.ref b188)]))) st192 ?_
    refine Go.by (B := (T192.setTop (mkF m 70 #[.val (.int p1), .val (.int 0), .unset, .unset, .unset] [(.int 107), (.int 0), (.ref b192), (.ref b192), (.ref b188), (.ref b188)]))) (fun _ k => XS.dup X192.here hx rfl (hb hby at_66) rfl rfl (XS.iconst X192.here hx rfl (hb hby at_67) (XS.bipush X192.here hx rfl (hb hby at_68) k))) ?_
    obtain ⟨cl194, Ar194, q194, S194, N_194, Hs194, G194⟩ := id V192
    have hin195 : ¬ ((0 : Int32) < 0 ∨ cl194.slots.size ≤ ((0 : Int32)).toNatClampNeg) := inb_of S194 ⟨by decide, by decide⟩
    obtain ⟨T195, h195, X195, e195, W195, st195⟩ := stC X192 hx hZ e192 Ar194 (j := (0 : Int32)) hin195 (g := (mkF m 70 #[.val (.int p1), .val (.int 0), .unset, .unset, .unset] [(.int 107), (.int 0), (.ref b192), (.ref b192), (.ref b188), (.ref b188)])) rfl rfl (hb hby at_70)
    have O196 := O193.wr W195 (Nat.le_trans Z189 sz_b192)
    have Z196 : n0 ≤ h195.size := Nat.le_trans Z193 (Keep.of_wr W195).1
    have V195 : Arv Z h195 b192 k192 .char (4 : Int32) [(.int 107), (.int 0), (.int 0), (.int 0)] (.int 0) := Arv.set Ar194 q194 S194 N_194 Hs194 G194 (fits_nar_char _) W195 0 rfl (Nat.le_of_ble_eq_true rfl)
    have N195 := Fr.snoc X195 N0 (Nat.le_trans Z189 sz_b192)
    refine Go.by (B := (T195.setTop (mkF m 71 #[.val (.int p1), .val (.int 0), .unset, .unset, .unset] [(.ref b192), (.ref b188), (.ref b188)]))) st195 ?_
    refine Go.by (B := (T195.setTop (mkF m 75 #[.val (.int p1), .val (.int 0), .unset, .unset, .unset] [(.int 101), (.int 1), (.ref b192), (.ref b192), (.ref b188), (.ref b188)]))) (fun _ k => XS.dup X195.here hx rfl (hb hby at_71) rfl rfl (XS.iconst X195.here hx rfl (hb hby at_72) (XS.bipush X195.here hx rfl (hb hby at_73) k))) ?_
    obtain ⟨cl197, Ar197, q197, S197, N_197, Hs197, G197⟩ := id V195
    have hin198 : ¬ ((1 : Int32) < 0 ∨ cl197.slots.size ≤ ((1 : Int32)).toNatClampNeg) := inb_of S197 ⟨by decide, by decide⟩
    obtain ⟨T198, h198, X198, e198, W198, st198⟩ := stC X195 hx hZ e195 Ar197 (j := (1 : Int32)) hin198 (g := (mkF m 75 #[.val (.int p1), .val (.int 0), .unset, .unset, .unset] [(.int 101), (.int 1), (.ref b192), (.ref b192), (.ref b188), (.ref b188)])) rfl rfl (hb hby at_75)
    have O199 := O196.wr W198 (Nat.le_trans Z189 sz_b192)
    have Z199 : n0 ≤ h198.size := Nat.le_trans Z196 (Keep.of_wr W198).1
    have V198 : Arv Z h198 b192 k192 .char (4 : Int32) [(.int 107), (.int 101), (.int 0), (.int 0)] (.int 0) := Arv.set Ar197 q197 S197 N_197 Hs197 G197 (fits_nar_char _) W198 1 rfl (Nat.le_of_ble_eq_true rfl)
    have N198 := Fr.snoc X198 N195 (Nat.le_trans Z189 sz_b192)
    refine Go.by (B := (T198.setTop (mkF m 76 #[.val (.int p1), .val (.int 0), .unset, .unset, .unset] [(.ref b192), (.ref b188), (.ref b188)]))) st198 ?_
    refine Go.by (B := (T198.setTop (mkF m 80 #[.val (.int p1), .val (.int 0), .unset, .unset, .unset] [(.int 101), (.int 2), (.ref b192), (.ref b192), (.ref b188), (.ref b188)]))) (fun _ k => XS.dup X198.here hx rfl (hb hby at_76) rfl rfl (XS.iconst X198.here hx rfl (hb hby at_77) (XS.bipush X198.here hx rfl (hb hby at_78) k))) ?_
    obtain ⟨cl200, Ar200, q200, S200, N_200, Hs200, G200⟩ := id V198
    have hin201 : ¬ ((2 : Int32) < 0 ∨ cl200.slots.size ≤ ((2 : Int32)).toNatClampNeg) := inb_of S200 ⟨by decide, by decide⟩
    obtain ⟨T201, h201, X201, e201, W201, st201⟩ := stC X198 hx hZ e198 Ar200 (j := (2 : Int32)) hin201 (g := (mkF m 80 #[.val (.int p1), .val (.int 0), .unset, .unset, .unset] [(.int 101), (.int 2), (.ref b192), (.ref b192), (.ref b188), (.ref b188)])) rfl rfl (hb hby at_80)
    have O202 := O199.wr W201 (Nat.le_trans Z189 sz_b192)
    have Z202 : n0 ≤ h201.size := Nat.le_trans Z199 (Keep.of_wr W201).1
    have V201 : Arv Z h201 b192 k192 .char (4 : Int32) [(.int 107), (.int 101), (.int 101), (.int 0)] (.int 0) := Arv.set Ar200 q200 S200 N_200 Hs200 G200 (fits_nar_char _) W201 2 rfl (Nat.le_of_ble_eq_true rfl)
    have N201 := Fr.snoc X201 N198 (Nat.le_trans Z189 sz_b192)
    refine Go.by (B := (T201.setTop (mkF m 81 #[.val (.int p1), .val (.int 0), .unset, .unset, .unset] [(.ref b192), (.ref b188), (.ref b188)]))) st201 ?_
    refine Go.by (B := (T201.setTop (mkF m 85 #[.val (.int p1), .val (.int 0), .unset, .unset, .unset] [(.int 112), (.int 3), (.ref b192), (.ref b192), (.ref b188), (.ref b188)]))) (fun _ k => XS.dup X201.here hx rfl (hb hby at_81) rfl rfl (XS.iconst X201.here hx rfl (hb hby at_82) (XS.bipush X201.here hx rfl (hb hby at_83) k))) ?_
    obtain ⟨cl203, Ar203, q203, S203, N_203, Hs203, G203⟩ := id V201
    have hin204 : ¬ ((3 : Int32) < 0 ∨ cl203.slots.size ≤ ((3 : Int32)).toNatClampNeg) := inb_of S203 ⟨by decide, by decide⟩
    obtain ⟨T204, h204, X204, e204, W204, st204⟩ := stC X201 hx hZ e201 Ar203 (j := (3 : Int32)) hin204 (g := (mkF m 85 #[.val (.int p1), .val (.int 0), .unset, .unset, .unset] [(.int 112), (.int 3), (.ref b192), (.ref b192), (.ref b188), (.ref b188)])) rfl rfl (hb hby at_85)
    have O205 := O202.wr W204 (Nat.le_trans Z189 sz_b192)
    have Z205 : n0 ≤ h204.size := Nat.le_trans Z202 (Keep.of_wr W204).1
    have V204 : Arv Z h204 b192 k192 .char (4 : Int32) [(.int 107), (.int 101), (.int 101), (.int 112)] (.int 0) := Arv.set Ar203 q203 S203 N_203 Hs203 G203 (fits_nar_char _) W204 3 rfl (Nat.le_of_ble_eq_true rfl)
    have N204 := Fr.snoc X204 N201 (Nat.le_trans Z189 sz_b192)
    refine Go.by (B := (T204.setTop (mkF m 86 #[.val (.int p1), .val (.int 0), .unset, .unset, .unset] [(.ref b192), (.ref b188), (.ref b188)]))) st204 ?_
    have f206 := (((((A188.ext E192).wr W195).wr W198).wr W201).wr W204)
    have f207 := (((((F191.ext E192).other W195 (Or.inl (Nat.ne_of_lt (Nat.lt_of_lt_of_le A188.lt sz_b192)))).other W198 (Or.inl (Nat.ne_of_lt (Nat.lt_of_lt_of_le A188.lt sz_b192)))).other W201 (Or.inl (Nat.ne_of_lt (Nat.lt_of_lt_of_le A188.lt sz_b192)))).other W204 (Or.inl (Nat.ne_of_lt (Nat.lt_of_lt_of_le A188.lt sz_b192))))
    have f208 := (((((F190.ext E192).other W195 (Or.inl (Nat.ne_of_lt (Nat.lt_of_lt_of_le A188.lt sz_b192)))).other W198 (Or.inl (Nat.ne_of_lt (Nat.lt_of_lt_of_le A188.lt sz_b192)))).other W201 (Or.inl (Nat.ne_of_lt (Nat.lt_of_lt_of_le A188.lt sz_b192)))).other W204 (Or.inl (Nat.ne_of_lt (Nat.lt_of_lt_of_le A188.lt sz_b192))))
    obtain ⟨_, _, ⟨T209, L209, k209, n209⟩, -, X209, ⟨Lc209, hQ209, l209, y209, z209⟩, st209⟩ := X204.specialBack hx (y := (⟨"java/lang/String", "<init>", "([C)V"⟩ : MethodName)) rfl hown (mvT hZ (wd hw 4 rfl)) (mvT hZ (wd hw 5 rfl)) (mvT hZ (wd hw 6 rfl)) (by decide) (backOf (W := 1) (rm_sC_4 l Z a0 hw [] b188 b192 k192 (107 : Int32) (101 : Int32) (101 : Int32) (112 : Int32) cs h204 n0 Z205 O205 pr1 hcs f206 f207 f208 (Nat.le_trans Z0 sz_b188) V204 (by decide) (by decide) (by decide) (by decide)) hZ (wd hw 6 rfl) (wd hw 2 rfl) (by decide) (by decide)) (g := (mkF m 86 #[.val (.int p1), .val (.int 0), .unset, .unset, .unset] [(.ref b192), (.ref b188), (.ref b188)])) rfl (by rw [hml]; rfl) (Steps.refl _) (a := b188) (argsL := [(.ref b192)]) (rest := [(.ref b188)]) (lenOf pd_7 rfl) rfl (by show 2 * 0 + _ ≤ _; exact Nat.le_of_eq rfl) (hb hby at_86) (fun _ _ => ⟨rfl, e204, Nat.le_of_ble_eq_true rfl, Nat.le_of_ble_eq_true rfl⟩)
    dsimp only [Pt.U, Pt.locs, Pt.cells, Pt.slots] at X209 l209 y209 z209 st209 hQ209
    subst l209 y209 z209
    obtain ⟨t209, k209, rfl, Nq209, K209, p209_0, p209_1, p209_2, p209_3, p209_4⟩ := hQ209
    have N209 := Fr.app N204 Nq209
    have O210 := O205.keep K209 (allS (Nat.le_trans Z0 sz_b188) all0)
    have Z210 : n0 ≤ T209.heap.size := Nat.le_trans Z205 K209.1
    have sz_t209 : h204.size ≤ t209 := p209_4
    have p209_3 : Arv Z T209.heap t209 k209 .byte (4 : Int32) [(.int 107), (.int 101), (.int 101), (.int 112)] (.int 0) := p209_3
    refine Go.by (B := (T209.setTop (mkF m 89 #[.val (.int p1), .val (.int 0), .unset, .unset, .unset] [(.ref b188)]))) (fun _ k => st209.trans k) ?_
    refine Go.by (B := (T209.setTop (mkF m 90 #[.val (.int p1), .val (.int 0), .val (.ref b188), .unset, .unset] []))) (fun _ k => XS.astoreN X209.here hx rfl (hb hby at_89) rfl rfl (l' := #[.val (.int p1), .val (.int 0), .val (.ref b188), .unset, .unset]) rfl k) ?_
    obtain ⟨T211, X211, e211, st211⟩ := getS2 X209 hx hZ hown (host := "") (Or.inl (wd hw 30 rfl)) Via.refl rfl (pr16.ext O210.2) (g := (mkF m 90 #[.val (.int p1), .val (.int 0), .val (.ref b188), .unset, .unset] [])) rfl (hb hby at_90)
    refine Go.by (B := (T211.setTop (mkF m 93 #[.val (.int p1), .val (.int 0), .val (.ref b188), .unset, .unset] [(.ref w0)]))) st211 ?_
    refine Go.by (B := (T211.setTop (mkF m 95 #[.val (.int p1), .val (.int 0), .val (.ref b188), .val (.ref w0), .unset] [(.ref b188)]))) (fun _ k => XS.astoreN X211.here hx rfl (hb hby at_93) rfl rfl (l' := #[.val (.int p1), .val (.int 0), .val (.ref b188), .val (.ref w0), .unset]) rfl (XS.aloadN X211.here hx rfl (hb hby at_94) rfl rfl k)) ?_
    obtain ⟨_, _, ⟨T212, L212, k212, n212⟩, -, X212, ⟨Lc212, hQ212, l212, y212, z212⟩, st212⟩ := Jvm.LawKit.callS X211 hx (y := (⟨"com/example/aurel/aurel/lifecycle/ExistingSubscribers", "fromCode", "(Ljava/lang/String;)Lcom/example/aurel/aurel/lifecycle/ExistingSubscribers;"⟩ : MethodName)) hown (mvT hZ (wd hw 33 rfl)) (mvT hZ (wd hw 34 rfl)) (mvT hZ (wd hw 31 rfl)) (mvT hZ (wd hw 35 rfl)) (by decide) (backOf (W := 0) (rm_from_k l Z a0 hw [] b188 t209 k209 cs wv kv w0 w1 s0 t0 kt0 s1 t1 kt1 T209.heap n0 Z210 O210 pr1 hcs pr3 pr4 pr5 pr6 pr7 pr8 pr9 pr10 pr11 pr12 pr13 pr14 pr15 p209_0 p209_2 p209_1 p209_3 (Nat.ne_of_lt (Nat.lt_of_lt_of_le (pr7.ext pr0.2).lt sz_b188)) (Nat.ne_of_lt (Nat.lt_of_lt_of_le (pr12.ext pr0.2).lt sz_b188))) hZ (wd hw 35 rfl) (wd hw 31 rfl) (by decide) (by decide)) (g := (mkF m 95 #[.val (.int p1), .val (.int 0), .val (.ref b188), .val (.ref w0), .unset] [(.ref b188)])) rfl (by rw [hml]; rfl) (argsL := [(.ref b188)]) (rest := []) (lenOf pd_8 rfl) rfl (by show 2 * 0 + _ ≤ _; exact Nat.le_of_eq rfl) (hb hby at_95) (fun _ _ => ⟨rfl, e211, Nat.le_of_ble_eq_true rfl, Nat.le_of_ble_eq_true rfl⟩)
    dsimp only [Pt.U, Pt.locs, Pt.cells, Pt.slots] at X212 l212 y212 z212 st212 hQ212
    subst l212 y212 z212
    obtain ⟨rfl, Nq212, K212⟩ := hQ212
    have N212 := Fr.app N209 Nq212
    have O213 := O210.keep K212 all0
    have Z213 : n0 ≤ T212.heap.size := Nat.le_trans Z210 K212.1
    refine Go.by (B := (T212.setTop (mkF m 98 #[.val (.int p1), .val (.int 0), .val (.ref b188), .val (.ref w0), .unset] [(.ref w0)]))) (fun _ k => st212 _ k) ?_
    refine Go.by (B := (T212.setTop (mkF m 108 #[.val (.int p1), .val (.int 0), .val (.ref b188), .val (.ref w0), .val (.ref w0)] [(.ref w0)]))) (fun _ k => XS.astore X212.here hx rfl (hb hby at_98) rfl rfl (l' := #[.val (.int p1), .val (.int 0), .val (.ref b188), .val (.ref w0), .val (.ref w0)]) rfl (XS.aload X212.here hx rfl (hb hby at_100) rfl rfl (XS.aloadN X212.here hx rfl (hb hby at_102) rfl rfl (Jvm.RoadKit.acmp (g := (mkF m 103 #[.val (.int p1), .val (.int 0), .val (.ref b188), .val (.ref w0), .val (.ref w0)] [(.ref w0), (.ref w0)])) X212 hx rfl rfl rfl (pc0 := 103) (pc' := 106) (same := true) rfl (hb hby at_103) rfl (decide_eq_true rfl) (by decide) (by decide) (XS.aload X212.here hx rfl (hb hby at_106) rfl rfl k))))) ?_
    obtain ⟨cq214, kq214, q214a, q214b, q214c⟩ := isOf hZ rfl (pr18.ext O213.2)
    obtain ⟨_, _, ⟨T214, L214, k214, n214⟩, -, X214, ⟨Lc214, hQ214, l214, y214, z214⟩, st214⟩ := X212.virtualBack hx (y := (⟨"com/example/aurel/aurel/lifecycle/ExistingSubscribers", "code", "()Ljava/lang/String;"⟩ : MethodName)) (z := (⟨"com/example/aurel/aurel/lifecycle/ExistingSubscribers", "code", "()Ljava/lang/String;"⟩ : MethodName)) hown (mvT hZ (wd hw 64 rfl)) (mvT hZ (wd hw 65 rfl)) (notFace_of_selects (args := #[]) (mvT hZ (wd hw 67 rfl))) (mvT hZ (wd hw 67 rfl)) (mvT hZ (wd hw 66 rfl)) (by decide) (backOf (W := 0) (rm_code l Z a0 hw [] w0 s0 T212.heap n0 Z213 (pr6.ext O213.2)) hZ (wd hw 68 rfl) (wd hw 31 rfl) (by decide) (by decide)) q214a q214c (g := (mkF m 108 #[.val (.int p1), .val (.int 0), .val (.ref b188), .val (.ref w0), .val (.ref w0)] [(.ref w0)])) rfl (by rw [hml]; rfl) (Steps.refl _) (argsL := []) (rest := []) (lenOf pd_9 rfl) rfl (by show 2 * 0 + _ ≤ _; exact Nat.le_of_eq rfl) (hb hby at_108) (fun _ _ => ⟨rfl, rfl, Nat.le_of_ble_eq_true rfl, Nat.le_of_ble_eq_true rfl⟩)
    dsimp only [Pt.U, Pt.locs, Pt.cells, Pt.slots] at X214 l214 y214 z214 st214 hQ214
    subst l214 y214 z214
    obtain ⟨rfl, Nq214, hh214⟩ := hQ214
    have N214 := Fr.app N212 Nq214
    refine Go.by (B := (T214.setTop (mkF m 111 #[.val (.int p1), .val (.int 0), .val (.ref b188), .val (.ref w0), .val (.ref w0)] [(.ref s0)]))) (fun _ k => st214.trans k) ?_
    refine Go.by (B := (T214.setTop (mkF m 112 #[.val (.int p1), .val (.int 0), .val (.ref b188), .val (.ref w0), .val (.ref w0)] [(.ref b188), (.ref s0)]))) (fun _ k => XS.aloadN X214.here hx rfl (hb hby at_111) rfl rfl k) ?_
    obtain ⟨cq215, kq215, q215a, q215b, q215c⟩ := isOf hZ hh214 (pr7.ext O213.2)
    obtain ⟨_, _, ⟨T215, L215, k215, n215⟩, -, X215, ⟨Lc215, hQ215, l215, y215, z215⟩, st215⟩ := X214.virtualBack hx (y := (⟨"java/lang/String", "equals", "(Ljava/lang/Object;)Z"⟩ : MethodName)) (z := (⟨"java/lang/String", "equals", "(Ljava/lang/Object;)Z"⟩ : MethodName)) hown (mvT hZ (wd hw 69 rfl)) (mvT hZ (wd hw 55 rfl)) (notFace_of_selects (args := #[]) (mvT hZ (wd hw 57 rfl))) (mvT hZ (wd hw 57 rfl)) (mvT hZ (wd hw 56 rfl)) (by decide) (backOf (W := 0) (rm_seq_kk l Z a0 hw [] s0 b188 t0 t209 kt0 k209 cs T212.heap n0 Z213 O213 pr1 hcs (pr7.ext O213.2) (pr8.ext O213.2) (pr9.ext O213.2) (pr10.ext O213.2) (p209_0.keep K212) (p209_2.keep K212 nin0) (p209_1.keep K212 nin0) (p209_3.keep K212 nin0)) hZ (wd hw 58 rfl) (wd hw 2 rfl) (by decide) (by decide)) q215a q215c (g := (mkF m 112 #[.val (.int p1), .val (.int 0), .val (.ref b188), .val (.ref w0), .val (.ref w0)] [(.ref b188), (.ref s0)])) rfl (by rw [hml]; rfl) (Steps.refl _) (argsL := [(.ref b188)]) (rest := []) (lenOf pd_6 rfl) rfl (by show 2 * 0 + _ ≤ _; exact Nat.le_of_eq rfl) (hb hby at_112) (fun _ _ => ⟨rfl, hh214, Nat.le_of_ble_eq_true rfl, Nat.le_of_ble_eq_true rfl⟩)
    dsimp only [Pt.U, Pt.locs, Pt.cells, Pt.slots] at X215 l215 y215 z215 st215 hQ215
    subst l215 y215 z215
    obtain ⟨rfl, Nq215, hh215⟩ := hQ215
    have N215 := Fr.app N214 Nq215
    refine Go.by (B := (T215.setTop (mkF m 115 #[.val (.int p1), .val (.int 0), .val (.ref b188), .val (.ref w0), .val (.ref w0)] [(.int 1)]))) (fun _ k => st215.trans k) ?_
    refine Go.by (B := (T215.setTop (mkF m 123 #[.val (.int p1), .val (.int 0), .val (.ref b188), .val (.ref w0), .val (.ref w0)] [(.int 1)]))) (fun _ k => XS.ifNo X215.here hx rfl (hb hby at_115) rfl ((if0 _ _).trans (feq (by decide : ¬ ((1 : Int32) = (0 : Int32)))).1) (XS.iconst X215.here hx rfl (hb hby at_118) (XS.goto X215.here hx rfl (pc0 := 119) (pc' := 123) rfl (hb hby at_119) (by decide) (by decide) k))) ?_
    refine Go.ret X215 hx hlk (t := .boolean) hret rfl (Or.inl ⟨rfl, by simp, _, rfl⟩) (hb hby at_123) (by decide) (by decide) ?_
    exact ⟨rfl, N215⟩
  · skip
    refine Go.by (B := (s₁.setTop (mkF m 16 #[.val (.int p1), .val (.int 1), .unset, .unset, .unset] []))) (fun _ k => XS.ifNo X0.here hx rfl (hb hby at_3) rfl ((if0 _ _).trans (feq c187).1) (XS.iconst X0.here hx rfl (hb hby at_6) (XS.goto X0.here hx rfl (pc0 := 7) (pc' := 11) rfl (hb hby at_7) (by decide) (by decide) (XS.istoreN X0.here hx rfl (hb hby at_11) rfl (l' := #[.val (.int p1), .val (.int 1), .unset, .unset, .unset]) rfl (XS.iloadN X0.here hx rfl (hb hby at_12) rfl (XS.ifNo X0.here hx rfl (hb hby at_13) rfl ((if0 _ _).trans (feq (by decide : ¬ ((1 : Int32) = (0 : Int32)))).1) k)))))) ?_
    obtain ⟨T216, h216, X216, e216, E216, A216, D216, -, st216⟩ := newO X0 hx hZ hown (wd hw 0 rfl) (wd hw 1 rfl) (wd hw 2 rfl) e0 (g := (mkF m 16 #[.val (.int p1), .val (.int 1), .unset, .unset, .unset] [])) rfl (hb hby at_16) (by decide) (by decide)
    obtain ⟨b216, g216⟩ : ∃ z, z = h0.size := ⟨_, rfl⟩
    rw [← g216] at A216 D216 st216
    have sz_b216 : h0.size ≤ b216 := Nat.le_of_eq g216.symm
    have O217 := pr0.ext E216
    have Z217 : n0 ≤ h216.size := Nat.le_trans Z0 E216.1
    have F218 : Fld Z h216 b216 "java/lang/String" "coder" "B" (.int 0) := D216 (Or.inr (wd hw 27 rfl)) (ty := .byte) (by decide)
    have F219 : Fld Z h216 b216 "java/lang/String" "value" "[B" .null := D216 (Or.inr (wd hw 29 rfl)) (ty := (.array .byte)) (by decide)
    refine Go.by (B := (T216.setTop (mkF m 19 #[.val (.int p1), .val (.int 1), .unset, .unset, .unset] [(.ref b216)]))) st216 ?_
    refine Go.by (B := (T216.setTop (mkF m 21 #[.val (.int p1), .val (.int 1), .unset, .unset, .unset] [(.int 5), (.ref b216), (.ref b216)]))) (fun _ k => XS.dup X216.here hx rfl (hb hby at_19) rfl rfl (XS.iconst X216.here hx rfl (hb hby at_20) k)) ?_
    obtain ⟨T220, h220, k220, X220, e220, E220, A220, st220⟩ := newP X216 hx hZ (wd hw 3 rfl) e216 (g := (mkF m 21 #[.val (.int p1), .val (.int 1), .unset, .unset, .unset] [(.int 5), (.ref b216), (.ref b216)])) rfl (hb hby at_21) rfl (by decide) (cap := 5) (by decide) (by decide) (by decide) (by decide)
    obtain ⟨b220, g220⟩ : ∃ z, z = h216.size := ⟨_, rfl⟩
    rw [← g220] at A220 st220
    have sz_b220 : h216.size ≤ b220 := Nat.le_of_eq g220.symm
    have V220 : Arv Z h220 b220 k220 .char (5 : Int32) [(.int 0), (.int 0), (.int 0), (.int 0), (.int 0)] (.int 0) := (Arv.new A220 (by decide)).pad (pad_rep [] (.int 0) 5)
    have O221 := O217.ext E220
    have Z221 : n0 ≤ h220.size := Nat.le_trans Z217 E220.1
    refine Go.by (B := (T220.setTop (mkF m 23 #[.val (.int p1), .val (.int 1), .unset, .unset, .unset] [(.ref b220), (.ref b216), (.ref b216)]))) st220 ?_
    refine Go.by (B := (T220.setTop (mkF m 27 #[.val (.int p1), .val (.int 1), .unset, .unset, .unset] [(.int 97), (.int 0), (.ref b220), (.ref b220), (.ref b216), (.ref b216)]))) (fun _ k => XS.dup X220.here hx rfl (hb hby at_23) rfl rfl (XS.iconst X220.here hx rfl (hb hby at_24) (XS.bipush X220.here hx rfl (hb hby at_25) k))) ?_
    obtain ⟨cl222, Ar222, q222, S222, N_222, Hs222, G222⟩ := id V220
    have hin223 : ¬ ((0 : Int32) < 0 ∨ cl222.slots.size ≤ ((0 : Int32)).toNatClampNeg) := inb_of S222 ⟨by decide, by decide⟩
    obtain ⟨T223, h223, X223, e223, W223, st223⟩ := stC X220 hx hZ e220 Ar222 (j := (0 : Int32)) hin223 (g := (mkF m 27 #[.val (.int p1), .val (.int 1), .unset, .unset, .unset] [(.int 97), (.int 0), (.ref b220), (.ref b220), (.ref b216), (.ref b216)])) rfl rfl (hb hby at_27)
    have O224 := O221.wr W223 (Nat.le_trans Z217 sz_b220)
    have Z224 : n0 ≤ h223.size := Nat.le_trans Z221 (Keep.of_wr W223).1
    have V223 : Arv Z h223 b220 k220 .char (5 : Int32) [(.int 97), (.int 0), (.int 0), (.int 0), (.int 0)] (.int 0) := Arv.set Ar222 q222 S222 N_222 Hs222 G222 (fits_nar_char _) W223 0 rfl (Nat.le_of_ble_eq_true rfl)
    have N223 := Fr.snoc X223 N0 (Nat.le_trans Z217 sz_b220)
    refine Go.by (B := (T223.setTop (mkF m 28 #[.val (.int p1), .val (.int 1), .unset, .unset, .unset] [(.ref b220), (.ref b216), (.ref b216)]))) st223 ?_
    refine Go.by (B := (T223.setTop (mkF m 32 #[.val (.int p1), .val (.int 1), .unset, .unset, .unset] [(.int 112), (.int 1), (.ref b220), (.ref b220), (.ref b216), (.ref b216)]))) (fun _ k => XS.dup X223.here hx rfl (hb hby at_28) rfl rfl (XS.iconst X223.here hx rfl (hb hby at_29) (XS.bipush X223.here hx rfl (hb hby at_30) k))) ?_
    obtain ⟨cl225, Ar225, q225, S225, N_225, Hs225, G225⟩ := id V223
    have hin226 : ¬ ((1 : Int32) < 0 ∨ cl225.slots.size ≤ ((1 : Int32)).toNatClampNeg) := inb_of S225 ⟨by decide, by decide⟩
    obtain ⟨T226, h226, X226, e226, W226, st226⟩ := stC X223 hx hZ e223 Ar225 (j := (1 : Int32)) hin226 (g := (mkF m 32 #[.val (.int p1), .val (.int 1), .unset, .unset, .unset] [(.int 112), (.int 1), (.ref b220), (.ref b220), (.ref b216), (.ref b216)])) rfl rfl (hb hby at_32)
    have O227 := O224.wr W226 (Nat.le_trans Z217 sz_b220)
    have Z227 : n0 ≤ h226.size := Nat.le_trans Z224 (Keep.of_wr W226).1
    have V226 : Arv Z h226 b220 k220 .char (5 : Int32) [(.int 97), (.int 112), (.int 0), (.int 0), (.int 0)] (.int 0) := Arv.set Ar225 q225 S225 N_225 Hs225 G225 (fits_nar_char _) W226 1 rfl (Nat.le_of_ble_eq_true rfl)
    have N226 := Fr.snoc X226 N223 (Nat.le_trans Z217 sz_b220)
    refine Go.by (B := (T226.setTop (mkF m 33 #[.val (.int p1), .val (.int 1), .unset, .unset, .unset] [(.ref b220), (.ref b216), (.ref b216)]))) st226 ?_
    refine Go.by (B := (T226.setTop (mkF m 37 #[.val (.int p1), .val (.int 1), .unset, .unset, .unset] [(.int 112), (.int 2), (.ref b220), (.ref b220), (.ref b216), (.ref b216)]))) (fun _ k => XS.dup X226.here hx rfl (hb hby at_33) rfl rfl (XS.iconst X226.here hx rfl (hb hby at_34) (XS.bipush X226.here hx rfl (hb hby at_35) k))) ?_
    obtain ⟨cl228, Ar228, q228, S228, N_228, Hs228, G228⟩ := id V226
    have hin229 : ¬ ((2 : Int32) < 0 ∨ cl228.slots.size ≤ ((2 : Int32)).toNatClampNeg) := inb_of S228 ⟨by decide, by decide⟩
    obtain ⟨T229, h229, X229, e229, W229, st229⟩ := stC X226 hx hZ e226 Ar228 (j := (2 : Int32)) hin229 (g := (mkF m 37 #[.val (.int p1), .val (.int 1), .unset, .unset, .unset] [(.int 112), (.int 2), (.ref b220), (.ref b220), (.ref b216), (.ref b216)])) rfl rfl (hb hby at_37)
    have O230 := O227.wr W229 (Nat.le_trans Z217 sz_b220)
    have Z230 : n0 ≤ h229.size := Nat.le_trans Z227 (Keep.of_wr W229).1
    have V229 : Arv Z h229 b220 k220 .char (5 : Int32) [(.int 97), (.int 112), (.int 112), (.int 0), (.int 0)] (.int 0) := Arv.set Ar228 q228 S228 N_228 Hs228 G228 (fits_nar_char _) W229 2 rfl (Nat.le_of_ble_eq_true rfl)
    have N229 := Fr.snoc X229 N226 (Nat.le_trans Z217 sz_b220)
    refine Go.by (B := (T229.setTop (mkF m 38 #[.val (.int p1), .val (.int 1), .unset, .unset, .unset] [(.ref b220), (.ref b216), (.ref b216)]))) st229 ?_
    refine Go.by (B := (T229.setTop (mkF m 42 #[.val (.int p1), .val (.int 1), .unset, .unset, .unset] [(.int 108), (.int 3), (.ref b220), (.ref b220), (.ref b216), (.ref b216)]))) (fun _ k => XS.dup X229.here hx rfl (hb hby at_38) rfl rfl (XS.iconst X229.here hx rfl (hb hby at_39) (XS.bipush X229.here hx rfl (hb hby at_40) k))) ?_
    obtain ⟨cl231, Ar231, q231, S231, N_231, Hs231, G231⟩ := id V229
    have hin232 : ¬ ((3 : Int32) < 0 ∨ cl231.slots.size ≤ ((3 : Int32)).toNatClampNeg) := inb_of S231 ⟨by decide, by decide⟩
    obtain ⟨T232, h232, X232, e232, W232, st232⟩ := stC X229 hx hZ e229 Ar231 (j := (3 : Int32)) hin232 (g := (mkF m 42 #[.val (.int p1), .val (.int 1), .unset, .unset, .unset] [(.int 108), (.int 3), (.ref b220), (.ref b220), (.ref b216), (.ref b216)])) rfl rfl (hb hby at_42)
    have O233 := O230.wr W232 (Nat.le_trans Z217 sz_b220)
    have Z233 : n0 ≤ h232.size := Nat.le_trans Z230 (Keep.of_wr W232).1
    have V232 : Arv Z h232 b220 k220 .char (5 : Int32) [(.int 97), (.int 112), (.int 112), (.int 108), (.int 0)] (.int 0) := Arv.set Ar231 q231 S231 N_231 Hs231 G231 (fits_nar_char _) W232 3 rfl (Nat.le_of_ble_eq_true rfl)
    have N232 := Fr.snoc X232 N229 (Nat.le_trans Z217 sz_b220)
    refine Go.by (B := (T232.setTop (mkF m 43 #[.val (.int p1), .val (.int 1), .unset, .unset, .unset] [(.ref b220), (.ref b216), (.ref b216)]))) st232 ?_
    refine Go.by (B := (T232.setTop (mkF m 47 #[.val (.int p1), .val (.int 1), .unset, .unset, .unset] [(.int 121), (.int 4), (.ref b220), (.ref b220), (.ref b216), (.ref b216)]))) (fun _ k => XS.dup X232.here hx rfl (hb hby at_43) rfl rfl (XS.iconst X232.here hx rfl (hb hby at_44) (XS.bipush X232.here hx rfl (hb hby at_45) k))) ?_
    obtain ⟨cl234, Ar234, q234, S234, N_234, Hs234, G234⟩ := id V232
    have hin235 : ¬ ((4 : Int32) < 0 ∨ cl234.slots.size ≤ ((4 : Int32)).toNatClampNeg) := inb_of S234 ⟨by decide, by decide⟩
    obtain ⟨T235, h235, X235, e235, W235, st235⟩ := stC X232 hx hZ e232 Ar234 (j := (4 : Int32)) hin235 (g := (mkF m 47 #[.val (.int p1), .val (.int 1), .unset, .unset, .unset] [(.int 121), (.int 4), (.ref b220), (.ref b220), (.ref b216), (.ref b216)])) rfl rfl (hb hby at_47)
    have O236 := O233.wr W235 (Nat.le_trans Z217 sz_b220)
    have Z236 : n0 ≤ h235.size := Nat.le_trans Z233 (Keep.of_wr W235).1
    have V235 : Arv Z h235 b220 k220 .char (5 : Int32) [(.int 97), (.int 112), (.int 112), (.int 108), (.int 121)] (.int 0) := Arv.set Ar234 q234 S234 N_234 Hs234 G234 (fits_nar_char _) W235 4 rfl (Nat.le_of_ble_eq_true rfl)
    have N235 := Fr.snoc X235 N232 (Nat.le_trans Z217 sz_b220)
    refine Go.by (B := (T235.setTop (mkF m 48 #[.val (.int p1), .val (.int 1), .unset, .unset, .unset] [(.ref b220), (.ref b216), (.ref b216)]))) st235 ?_
    have f237 := ((((((A216.ext E220).wr W223).wr W226).wr W229).wr W232).wr W235)
    have f238 := ((((((F219.ext E220).other W223 (Or.inl (Nat.ne_of_lt (Nat.lt_of_lt_of_le A216.lt sz_b220)))).other W226 (Or.inl (Nat.ne_of_lt (Nat.lt_of_lt_of_le A216.lt sz_b220)))).other W229 (Or.inl (Nat.ne_of_lt (Nat.lt_of_lt_of_le A216.lt sz_b220)))).other W232 (Or.inl (Nat.ne_of_lt (Nat.lt_of_lt_of_le A216.lt sz_b220)))).other W235 (Or.inl (Nat.ne_of_lt (Nat.lt_of_lt_of_le A216.lt sz_b220))))
    have f239 := ((((((F218.ext E220).other W223 (Or.inl (Nat.ne_of_lt (Nat.lt_of_lt_of_le A216.lt sz_b220)))).other W226 (Or.inl (Nat.ne_of_lt (Nat.lt_of_lt_of_le A216.lt sz_b220)))).other W229 (Or.inl (Nat.ne_of_lt (Nat.lt_of_lt_of_le A216.lt sz_b220)))).other W232 (Or.inl (Nat.ne_of_lt (Nat.lt_of_lt_of_le A216.lt sz_b220)))).other W235 (Or.inl (Nat.ne_of_lt (Nat.lt_of_lt_of_le A216.lt sz_b220))))
    obtain ⟨_, _, ⟨T240, L240, k240, n240⟩, -, X240, ⟨Lc240, hQ240, l240, y240, z240⟩, st240⟩ := X235.specialBack hx (y := (⟨"java/lang/String", "<init>", "([C)V"⟩ : MethodName)) rfl hown (mvT hZ (wd hw 4 rfl)) (mvT hZ (wd hw 5 rfl)) (mvT hZ (wd hw 6 rfl)) (by decide) (backOf (W := 1) (rm_sC_5 l Z a0 hw [] b216 b220 k220 (97 : Int32) (112 : Int32) (112 : Int32) (108 : Int32) (121 : Int32) cs h235 n0 Z236 O236 pr1 hcs f237 f238 f239 (Nat.le_trans Z0 sz_b216) V235 (by decide) (by decide) (by decide) (by decide) (by decide)) hZ (wd hw 6 rfl) (wd hw 2 rfl) (by decide) (by decide)) (g := (mkF m 48 #[.val (.int p1), .val (.int 1), .unset, .unset, .unset] [(.ref b220), (.ref b216), (.ref b216)])) rfl (by rw [hml]; rfl) (Steps.refl _) (a := b216) (argsL := [(.ref b220)]) (rest := [(.ref b216)]) (lenOf pd_7 rfl) rfl (by show 2 * 0 + _ ≤ _; exact Nat.le_of_eq rfl) (hb hby at_48) (fun _ _ => ⟨rfl, e235, Nat.le_of_ble_eq_true rfl, Nat.le_of_ble_eq_true rfl⟩)
    dsimp only [Pt.U, Pt.locs, Pt.cells, Pt.slots] at X240 l240 y240 z240 st240 hQ240
    subst l240 y240 z240
    obtain ⟨t240, k240, rfl, Nq240, K240, p240_0, p240_1, p240_2, p240_3, p240_4⟩ := hQ240
    have N240 := Fr.app N235 Nq240
    have O241 := O236.keep K240 (allS (Nat.le_trans Z0 sz_b216) all0)
    have Z241 : n0 ≤ T240.heap.size := Nat.le_trans Z236 K240.1
    have sz_t240 : h235.size ≤ t240 := p240_4
    have p240_3 : Arv Z T240.heap t240 k240 .byte (5 : Int32) [(.int 97), (.int 112), (.int 112), (.int 108), (.int 121)] (.int 0) := p240_3
    refine Go.by (B := (T240.setTop (mkF m 51 #[.val (.int p1), .val (.int 1), .unset, .unset, .unset] [(.ref b216)]))) (fun _ k => st240.trans k) ?_
    refine Go.by (B := (T240.setTop (mkF m 52 #[.val (.int p1), .val (.int 1), .val (.ref b216), .unset, .unset] []))) (fun _ k => XS.astoreN X240.here hx rfl (hb hby at_51) rfl rfl (l' := #[.val (.int p1), .val (.int 1), .val (.ref b216), .unset, .unset]) rfl k) ?_
    obtain ⟨T242, X242, e242, st242⟩ := getS2 X240 hx hZ hown (host := "") (Or.inl (wd hw 70 rfl)) Via.refl rfl (pr17.ext O241.2) (g := (mkF m 52 #[.val (.int p1), .val (.int 1), .val (.ref b216), .unset, .unset] [])) rfl (hb hby at_52)
    refine Go.by (B := (T242.setTop (mkF m 55 #[.val (.int p1), .val (.int 1), .val (.ref b216), .unset, .unset] [(.ref w1)]))) st242 ?_
    refine Go.by (B := (T242.setTop (mkF m 95 #[.val (.int p1), .val (.int 1), .val (.ref b216), .val (.ref w1), .unset] [(.ref b216)]))) (fun _ k => XS.astoreN X242.here hx rfl (hb hby at_55) rfl rfl (l' := #[.val (.int p1), .val (.int 1), .val (.ref b216), .val (.ref w1), .unset]) rfl (XS.goto X242.here hx rfl (pc0 := 56) (pc' := 94) rfl (hb hby at_56) (by decide) (by decide) (XS.aloadN X242.here hx rfl (hb hby at_94) rfl rfl k))) ?_
    obtain ⟨_, _, ⟨T243, L243, k243, n243⟩, -, X243, ⟨Lc243, hQ243, l243, y243, z243⟩, st243⟩ := Jvm.LawKit.callS X242 hx (y := (⟨"com/example/aurel/aurel/lifecycle/ExistingSubscribers", "fromCode", "(Ljava/lang/String;)Lcom/example/aurel/aurel/lifecycle/ExistingSubscribers;"⟩ : MethodName)) hown (mvT hZ (wd hw 33 rfl)) (mvT hZ (wd hw 34 rfl)) (mvT hZ (wd hw 31 rfl)) (mvT hZ (wd hw 35 rfl)) (by decide) (backOf (W := 0) (rm_from_a l Z a0 hw [] b216 t240 k240 cs wv kv w0 w1 s0 t0 kt0 s1 t1 kt1 T240.heap n0 Z241 O241 pr1 hcs pr3 pr4 pr5 pr6 pr7 pr8 pr9 pr10 pr11 pr12 pr13 pr14 pr15 p240_0 p240_2 p240_1 p240_3 (Nat.ne_of_lt (Nat.lt_of_lt_of_le (pr7.ext pr0.2).lt sz_b216)) (Nat.ne_of_lt (Nat.lt_of_lt_of_le (pr12.ext pr0.2).lt sz_b216))) hZ (wd hw 35 rfl) (wd hw 31 rfl) (by decide) (by decide)) (g := (mkF m 95 #[.val (.int p1), .val (.int 1), .val (.ref b216), .val (.ref w1), .unset] [(.ref b216)])) rfl (by rw [hml]; rfl) (argsL := [(.ref b216)]) (rest := []) (lenOf pd_8 rfl) rfl (by show 2 * 0 + _ ≤ _; exact Nat.le_of_eq rfl) (hb hby at_95) (fun _ _ => ⟨rfl, e242, Nat.le_of_ble_eq_true rfl, Nat.le_of_ble_eq_true rfl⟩)
    dsimp only [Pt.U, Pt.locs, Pt.cells, Pt.slots] at X243 l243 y243 z243 st243 hQ243
    subst l243 y243 z243
    obtain ⟨rfl, Nq243, K243⟩ := hQ243
    have N243 := Fr.app N240 Nq243
    have O244 := O241.keep K243 all0
    have Z244 : n0 ≤ T243.heap.size := Nat.le_trans Z241 K243.1
    refine Go.by (B := (T243.setTop (mkF m 98 #[.val (.int p1), .val (.int 1), .val (.ref b216), .val (.ref w1), .unset] [(.ref w1)]))) (fun _ k => st243 _ k) ?_
    refine Go.by (B := (T243.setTop (mkF m 108 #[.val (.int p1), .val (.int 1), .val (.ref b216), .val (.ref w1), .val (.ref w1)] [(.ref w1)]))) (fun _ k => XS.astore X243.here hx rfl (hb hby at_98) rfl rfl (l' := #[.val (.int p1), .val (.int 1), .val (.ref b216), .val (.ref w1), .val (.ref w1)]) rfl (XS.aload X243.here hx rfl (hb hby at_100) rfl rfl (XS.aloadN X243.here hx rfl (hb hby at_102) rfl rfl (Jvm.RoadKit.acmp (g := (mkF m 103 #[.val (.int p1), .val (.int 1), .val (.ref b216), .val (.ref w1), .val (.ref w1)] [(.ref w1), (.ref w1)])) X243 hx rfl rfl rfl (pc0 := 103) (pc' := 106) (same := true) rfl (hb hby at_103) rfl (decide_eq_true rfl) (by decide) (by decide) (XS.aload X243.here hx rfl (hb hby at_106) rfl rfl k))))) ?_
    obtain ⟨cq245, kq245, q245a, q245b, q245c⟩ := isOf hZ rfl (pr19.ext O244.2)
    obtain ⟨_, _, ⟨T245, L245, k245, n245⟩, -, X245, ⟨Lc245, hQ245, l245, y245, z245⟩, st245⟩ := X243.virtualBack hx (y := (⟨"com/example/aurel/aurel/lifecycle/ExistingSubscribers", "code", "()Ljava/lang/String;"⟩ : MethodName)) (z := (⟨"com/example/aurel/aurel/lifecycle/ExistingSubscribers", "code", "()Ljava/lang/String;"⟩ : MethodName)) hown (mvT hZ (wd hw 64 rfl)) (mvT hZ (wd hw 65 rfl)) (notFace_of_selects (args := #[]) (mvT hZ (wd hw 67 rfl))) (mvT hZ (wd hw 67 rfl)) (mvT hZ (wd hw 66 rfl)) (by decide) (backOf (W := 0) (rm_code l Z a0 hw [] w1 s1 T243.heap n0 Z244 (pr11.ext O244.2)) hZ (wd hw 68 rfl) (wd hw 31 rfl) (by decide) (by decide)) q245a q245c (g := (mkF m 108 #[.val (.int p1), .val (.int 1), .val (.ref b216), .val (.ref w1), .val (.ref w1)] [(.ref w1)])) rfl (by rw [hml]; rfl) (Steps.refl _) (argsL := []) (rest := []) (lenOf pd_9 rfl) rfl (by show 2 * 0 + _ ≤ _; exact Nat.le_of_eq rfl) (hb hby at_108) (fun _ _ => ⟨rfl, rfl, Nat.le_of_ble_eq_true rfl, Nat.le_of_ble_eq_true rfl⟩)
    dsimp only [Pt.U, Pt.locs, Pt.cells, Pt.slots] at X245 l245 y245 z245 st245 hQ245
    subst l245 y245 z245
    obtain ⟨rfl, Nq245, hh245⟩ := hQ245
    have N245 := Fr.app N243 Nq245
    refine Go.by (B := (T245.setTop (mkF m 111 #[.val (.int p1), .val (.int 1), .val (.ref b216), .val (.ref w1), .val (.ref w1)] [(.ref s1)]))) (fun _ k => st245.trans k) ?_
    refine Go.by (B := (T245.setTop (mkF m 112 #[.val (.int p1), .val (.int 1), .val (.ref b216), .val (.ref w1), .val (.ref w1)] [(.ref b216), (.ref s1)]))) (fun _ k => XS.aloadN X245.here hx rfl (hb hby at_111) rfl rfl k) ?_
    obtain ⟨cq246, kq246, q246a, q246b, q246c⟩ := isOf hZ hh245 (pr12.ext O244.2)
    obtain ⟨_, _, ⟨T246, L246, k246, n246⟩, -, X246, ⟨Lc246, hQ246, l246, y246, z246⟩, st246⟩ := X245.virtualBack hx (y := (⟨"java/lang/String", "equals", "(Ljava/lang/Object;)Z"⟩ : MethodName)) (z := (⟨"java/lang/String", "equals", "(Ljava/lang/Object;)Z"⟩ : MethodName)) hown (mvT hZ (wd hw 69 rfl)) (mvT hZ (wd hw 55 rfl)) (notFace_of_selects (args := #[]) (mvT hZ (wd hw 57 rfl))) (mvT hZ (wd hw 57 rfl)) (mvT hZ (wd hw 56 rfl)) (by decide) (backOf (W := 0) (rm_seq_aa l Z a0 hw [] s1 b216 t1 t240 kt1 k240 cs T243.heap n0 Z244 O244 pr1 hcs (pr12.ext O244.2) (pr13.ext O244.2) (pr14.ext O244.2) (pr15.ext O244.2) (p240_0.keep K243) (p240_2.keep K243 nin0) (p240_1.keep K243 nin0) (p240_3.keep K243 nin0)) hZ (wd hw 58 rfl) (wd hw 2 rfl) (by decide) (by decide)) q246a q246c (g := (mkF m 112 #[.val (.int p1), .val (.int 1), .val (.ref b216), .val (.ref w1), .val (.ref w1)] [(.ref b216), (.ref s1)])) rfl (by rw [hml]; rfl) (Steps.refl _) (argsL := [(.ref b216)]) (rest := []) (lenOf pd_6 rfl) rfl (by show 2 * 0 + _ ≤ _; exact Nat.le_of_eq rfl) (hb hby at_112) (fun _ _ => ⟨rfl, hh245, Nat.le_of_ble_eq_true rfl, Nat.le_of_ble_eq_true rfl⟩)
    dsimp only [Pt.U, Pt.locs, Pt.cells, Pt.slots] at X246 l246 y246 z246 st246 hQ246
    subst l246 y246 z246
    obtain ⟨rfl, Nq246, hh246⟩ := hQ246
    have N246 := Fr.app N245 Nq246
    refine Go.by (B := (T246.setTop (mkF m 115 #[.val (.int p1), .val (.int 1), .val (.ref b216), .val (.ref w1), .val (.ref w1)] [(.int 1)]))) (fun _ k => st246.trans k) ?_
    refine Go.by (B := (T246.setTop (mkF m 123 #[.val (.int p1), .val (.int 1), .val (.ref b216), .val (.ref w1), .val (.ref w1)] [(.int 1)]))) (fun _ k => XS.ifNo X246.here hx rfl (hb hby at_115) rfl ((if0 _ _).trans (feq (by decide : ¬ ((1 : Int32) = (0 : Int32)))).1) (XS.iconst X246.here hx rfl (hb hby at_118) (XS.goto X246.here hx rfl (pc0 := 119) (pc' := 123) rfl (hb hby at_119) (by decide) (by decide) k))) ?_
    refine Go.ret X246 hx hlk (t := .boolean) hret rfl (Or.inl ⟨rfl, by simp, _, rfl⟩) (hb hby at_123) (by decide) (by decide) ?_
    exact ⟨rfl, N246⟩
set_option maxRecDepth 65536 in
set_option maxHeartbeats 40000000 in
theorem comes_1 {Post : Tables → Env → Array Value → State → Outcome → State → Prop} (hpost : ∀ tb e args s v u, (limb_1_1.after args s (.returned v) u = true ∧ limb_1_2.after args s (.returned v) u = true ∧ True) → FrameEnd s (.returned v) u (Jvm.fieldLocs frame_1_writes args s ++ Jvm.arrayLocs frame_1_arrays args s ++ Jvm.staticLocs frame_1_statics s) 16 128 → Post tb e args s (.returned v) u) :
    ArmFor flags0 classFile x code maxLocals ret World_1 tables_1 room_1 Calls_1 rest_1 Pre_1 Post := by
  intro l hfl _ _ p e ha hc hk s m args below hf hA hF happ hP
  obtain ⟨hcalls, hrest, hpre⟩ := hP
  obtain ⟨-, -, -, hnamed, -, -, -, hat⟩ := (Spec.applies_iff hf).mp happ
  obtain ⟨hg, hn⟩ := and_e (Cond.before_iff.mp (show (Jvm.Cond.and given_1 narrow_1).before args s = true from hpre))
  obtain ⟨hg0, hgr0⟩ := and_e hg
  obtain ⟨w0, rfl⟩ : ∃ w0 : Value, args = #[w0] := by
    have hs : args.size = 1 := by simpa [Cond.value, given_1] using hg0
    obtain ⟨L⟩ := args
    match L, hs with
    | [w0], _ => exact ⟨w0, rfl⟩
  have hw := fun d (hd : d ∈ tables_1) => atoms_spec (ws := Jvm.Cond.code x code maxLocals ret :: tables_1) hat d (List.mem_cons_of_mem _ hd)
  have hfit : Fit s := fun {y c} hc i hi => by
    obtain ⟨ha, rfl⟩ := Array.getElem?_eq_some_iff.mp hc
    have q := List.all_eq_true.mp ((Array.all_eq_true_iff_forall_mem.mp hF) _ (Array.getElem_mem ha)) i (List.mem_range.mpr hi)
    simpa [Array.getElem?_eq_getElem hi] using q
  obtain ⟨hsets, hown0⟩ := atoms_of _ (rest_1_c_eq ▸ (show rest_1_c.before _ s = true from hrest))
  have hr0 := Cond.before_iff.mp hown0
  obtain ⟨i0, ei0⟩ := is_v hgr0
  obtain rfl : w0 = (.int i0) := Option.some.inj ei0
  obtain ⟨hn247, hn248⟩ := and_e hn
  obtain ⟨hn249, hn250⟩ := and_e hn248
  obtain ⟨hn251, hn252⟩ := and_e hn250
  obtain ⟨hn253, hn254⟩ := and_e hn252
  obtain ⟨hn255, hn256⟩ := and_e hn254
  obtain ⟨hn257, hn258⟩ := and_e hn256
  obtain ⟨hn259, hn260⟩ := and_e hn258
  obtain ⟨hn261, hn262⟩ := and_e hn260
  obtain ⟨hn263, hn264⟩ := and_e hn262
  obtain ⟨hn265, hn266⟩ := and_e hn264
  obtain ⟨hn267, hn268⟩ := and_e hn266
  obtain ⟨hn269, hn270⟩ := and_e hn268
  obtain ⟨hn271, hn272⟩ := and_e hn270
  obtain ⟨hn273, hn274⟩ := and_e hn272
  obtain ⟨hn275, hn276⟩ := and_e hn274
  obtain ⟨hn277, hn278⟩ := and_e hn276
  obtain ⟨hn279, hn280⟩ := and_e hn278
  obtain ⟨hn281, hn282⟩ := and_e hn280
  obtain ⟨hn283, hn284⟩ := and_e hn282
  obtain ⟨hn285, hn286⟩ := and_e hn284
  obtain ⟨hn287, hn288⟩ := and_e hn286
  obtain ⟨hn289, hn290⟩ := and_e hn288
  obtain ⟨hn291, hn292⟩ := and_e hn290
  obtain ⟨w_KEEP_0, ev_w_KEEP_0⟩ := exa_v hn247
  have S_w_KEEP_0 : Sta s s.heap "com/example/aurel/aurel/lifecycle/ExistingSubscribers" "KEEP" "Lcom/example/aurel/aurel/lifecycle/ExistingSubscribers;" (.ref w_KEEP_0) := Sta.start ev_w_KEEP_0 (Or.inr ⟨(wd hw 31 rfl), (wd hw 32 rfl)⟩)
  have E_w_KEEP_0 := Exa.start ev_w_KEEP_0 hn247
  obtain ⟨w__VALUES_1, ev_w__VALUES_1⟩ := arr_v hn249
  have S_w__VALUES_1 : Sta s s.heap "com/example/aurel/aurel/lifecycle/ExistingSubscribers" "$VALUES" "[Lcom/example/aurel/aurel/lifecycle/ExistingSubscribers;" (.ref w__VALUES_1) := Sta.start ev_w__VALUES_1 (Or.inr ⟨(wd hw 31 rfl), (wd hw 40 rfl)⟩)
  obtain ⟨cl_w__VALUES_1, A_w__VALUES_1⟩ := Arr.start ev_w__VALUES_1 hn249
  have E_w__VALUES_1 := Exa.start ev_w__VALUES_1 hn251
  obtain ⟨w_APPLY_2, ev_w_APPLY_2⟩ := exa_v hn257
  have S_w_APPLY_2 : Sta s s.heap "com/example/aurel/aurel/lifecycle/ExistingSubscribers" "APPLY" "Lcom/example/aurel/aurel/lifecycle/ExistingSubscribers;" (.ref w_APPLY_2) := Sta.start ev_w_APPLY_2 (Or.inr ⟨(wd hw 31 rfl), (wd hw 48 rfl)⟩)
  have E_w_APPLY_2 := Exa.start ev_w_APPLY_2 hn257
  obtain ⟨w_code_3, ev_w_code_3⟩ := exa_v hn261
  have F_w_code_3 : Fld s s.heap w_KEEP_0 "com/example/aurel/aurel/lifecycle/ExistingSubscribers" "code" "Ljava/lang/String;" (.ref w_code_3) := Fld.start ((fld_at ev_w_KEEP_0).symm.trans ev_w_code_3)
  have E_w_code_3 := Exa.start ev_w_code_3 hn261
  obtain ⟨w_code_4, ev_w_code_4⟩ := exa_v hn277
  have F_w_code_4 : Fld s s.heap w_APPLY_2 "com/example/aurel/aurel/lifecycle/ExistingSubscribers" "code" "Ljava/lang/String;" (.ref w_code_4) := Fld.start ((fld_at ev_w_APPLY_2).symm.trans ev_w_code_4)
  have E_w_code_4 := Exa.start ev_w_code_4 hn277
  obtain ⟨w_value_5, ev_w_value_5⟩ := arr_v hn265
  have F_w_value_5 : Fld s s.heap w_code_3 "java/lang/String" "value" "[B" (.ref w_value_5) := Fld.start ((fld_at ev_w_code_3).symm.trans ev_w_value_5)
  obtain ⟨cl_w_value_5, A_w_value_5⟩ := Arr.start ev_w_value_5 hn265
  obtain ⟨w_value_6, ev_w_value_6⟩ := arr_v hn281
  have F_w_value_6 : Fld s s.heap w_code_4 "java/lang/String" "value" "[B" (.ref w_value_6) := Fld.start ((fld_at ev_w_code_4).symm.trans ev_w_value_6)
  obtain ⟨cl_w_value_6, A_w_value_6⟩ := Arr.start ev_w_value_6 hn281
  have sz_w__VALUES_1 := own_sizek ev_w__VALUES_1 A_w__VALUES_1 hn253
  have el_w__VALUES_1_0 : cl_w__VALUES_1.slots[0]? = some (.ref w_KEEP_0) := (elem_in (own_eqR hn255 ev_w_KEEP_0) ev_w__VALUES_1 (Term.int_eval _) A_w__VALUES_1.1).2
  have el_w__VALUES_1_1 : cl_w__VALUES_1.slots[1]? = some (.ref w_APPLY_2) := (elem_in (own_eqR hn259 ev_w_APPLY_2) ev_w__VALUES_1 (Term.int_eval _) A_w__VALUES_1.1).2
  have F_w_code_3_coder : Fld s s.heap w_code_3 "java/lang/String" "coder" "B" (.int 0) := Fld.start ((fld_at ev_w_code_3).symm.trans (own_eqk hn263))
  have sz_w_value_5 := own_sizek ev_w_value_5 A_w_value_5 hn267
  have el_w_value_5_0 : cl_w_value_5.slots[0]? = some (.int 107) := (elem_in (own_eqk hn269) ev_w_value_5 (Term.int_eval _) A_w_value_5.1).2
  have el_w_value_5_1 : cl_w_value_5.slots[1]? = some (.int 101) := (elem_in (own_eqk hn271) ev_w_value_5 (Term.int_eval _) A_w_value_5.1).2
  have el_w_value_5_2 : cl_w_value_5.slots[2]? = some (.int 101) := (elem_in (own_eqk hn273) ev_w_value_5 (Term.int_eval _) A_w_value_5.1).2
  have el_w_value_5_3 : cl_w_value_5.slots[3]? = some (.int 112) := (elem_in (own_eqk hn275) ev_w_value_5 (Term.int_eval _) A_w_value_5.1).2
  have F_w_code_4_coder : Fld s s.heap w_code_4 "java/lang/String" "coder" "B" (.int 0) := Fld.start ((fld_at ev_w_code_4).symm.trans (own_eqk hn279))
  have sz_w_value_6 := own_sizek ev_w_value_6 A_w_value_6 hn283
  have el_w_value_6_0 : cl_w_value_6.slots[0]? = some (.int 97) := (elem_in (own_eqk hn285) ev_w_value_6 (Term.int_eval _) A_w_value_6.1).2
  have el_w_value_6_1 : cl_w_value_6.slots[1]? = some (.int 112) := (elem_in (own_eqk hn287) ev_w_value_6 (Term.int_eval _) A_w_value_6.1).2
  have el_w_value_6_2 : cl_w_value_6.slots[2]? = some (.int 112) := (elem_in (own_eqk hn289) ev_w_value_6 (Term.int_eval _) A_w_value_6.1).2
  have el_w_value_6_3 : cl_w_value_6.slots[3]? = some (.int 108) := (elem_in (own_eqk hn291) ev_w_value_6 (Term.int_eval _) A_w_value_6.1).2
  have el_w_value_6_4 : cl_w_value_6.slots[4]? = some (.int 121) := (elem_in (own_eqk hn292) ev_w_value_6 (Term.int_eval _) A_w_value_6.1).2
  have V_w__VALUES_1 : Arv s s.heap w__VALUES_1 cl_w__VALUES_1.cls (.object "com/example/aurel/aurel/lifecycle/ExistingSubscribers") (2 : Int32) [(.ref w_KEEP_0), (.ref w_APPLY_2)] .null := Arv.start hfit A_w__VALUES_1 sz_w__VALUES_1.1 sz_w__VALUES_1.2 (by decide) rfl ⟨el_w__VALUES_1_0, el_w__VALUES_1_1, trivial⟩
  have V_w_value_5 : Arv s s.heap w_value_5 cl_w_value_5.cls .byte (4 : Int32) [(.int 107), (.int 101), (.int 101), (.int 112)] (.int 0) := Arv.start hfit A_w_value_5 sz_w_value_5.1 sz_w_value_5.2 (by decide) rfl ⟨el_w_value_5_0, el_w_value_5_1, el_w_value_5_2, el_w_value_5_3, trivial⟩
  have V_w_value_6 : Arv s s.heap w_value_6 cl_w_value_6.cls .byte (5 : Int32) [(.int 97), (.int 112), (.int 112), (.int 108), (.int 121)] (.int 0) := Arv.start hfit A_w_value_6 sz_w_value_6.1 sz_w_value_6.2 (by decide) rfl ⟨el_w_value_6_0, el_w_value_6_1, el_w_value_6_2, el_w_value_6_3, el_w_value_6_4, trivial⟩
  have ncs := not_v (Cond.before_iff.mp (hsets _ (List.mem_of_getElem? (i := 2) rfl)))
  obtain ⟨cs, ecs⟩ := is_v (Cond.before_iff.mp (hsets _ (List.mem_of_getElem? (i := 1) rfl)))
  have Scs : Sta s s.heap "java/lang/String" "COMPACT_STRINGS" "Z" (.int cs) := Sta.start ecs (Or.inl (hsets _ (List.mem_of_getElem? (i := 0) rfl)))
  have hcs : ¬ (cs = (0 : Int32)) := gotF (Cond.eq_ints ecs (Term.int_eval (0))) ncs
  obtain ⟨n, o, h1, h2, h3, _, L, rfl, ⟨rfl, N⟩, hq⟩ := rm0 l s _ hw tables_1 i0 cs w__VALUES_1 (cl_w__VALUES_1.cls) w_KEEP_0 w_APPLY_2 w_code_3 w_value_5 (cl_w_value_5.cls) w_code_4 w_value_6 (cl_w_value_6.cls) s.heap s.heap.size (Nat.le_refl _) (Old.start s) Scs hcs S_w__VALUES_1 E_w__VALUES_1 V_w__VALUES_1 F_w_code_3 E_w_code_3 F_w_code_3_coder F_w_value_5 V_w_value_5 F_w_code_4 E_w_code_4 F_w_code_4_coder F_w_value_6 V_w_value_6 S_w_KEEP_0 S_w_APPLY_2 E_w_KEEP_0 E_w_APPLY_2 p e ha hc hk s m _ below hf ((Spec.applies_iff_loose hf).mp happ).1 ⟨rfl, State.Warmed39.refl s, rfl⟩ trivial
  refine ⟨n, _, h1, h2, h3, hpost _ _ _ _ _ _ ⟨Cond.after_iff.mpr rfl, Cond.after_iff.mpr (eq_i res_at (Term.int_eval (1)) rfl), trivial⟩ ⟨hq.1, hq.2.1, (hq.2.2.sift fun y hy => Or.inr (N y hy)).mono (by decide) (by decide)⟩⟩
theorem main_1_1 : Claimed_1_1 := comes_1 fun _ _ _ _ _ _ h hF => ⟨h.1, hF⟩
theorem main_1_2 : Claimed_1_2 := comes_1 fun _ _ _ _ _ _ h hF => ⟨h.2.1, hF⟩
end Jvm.Pilot.@@N@@
namespace Jvm.Pilot.@@N@@
open Jvm Jvm.ClassFile Sem Op Lib Jvm.Free Jvm.Stand Jvm.Pilot.@@N@@.Jvm.D
/-! MADE BY PROGRAM (witnessworld.py) out of the Statement's table words and the real class files: 22 classes; the members and pool entries that the words name. The judged class is class 1, her method 1. -/
namespace start1
open Jvm.ClassFile
def u (s : String) : CpInfo := .utf8 (stringToUtf16 s)
/-- a pool by its gaps: so many unusable entries, then the entry; so many at the end -/
def gap : Nat → List CpInfo → List CpInfo
  | 0, r => r
  | n + 1, r => .unusable :: gap n r
def poolList (es : List (Nat × CpInfo)) (last : Nat) : List CpInfo := es.foldr (fun e r => gap e.1 (e.2 :: r)) (gap last [])
def pool (es : List (Nat × CpInfo)) (last : Nat) : Array CpInfo := ⟨poolList es last⟩
def fileOf (pool : Array CpInfo) (this : Nat) (attrs : Array Attribute := #[]) (ms : Array MethodInfo := #[]) (fl : Nat := 33) (sup : Nat := 0) (ifs : Array Nat := #[]) (fds : Array FieldInfo := #[]) : ClassFile where
  minorVersion := 0
  majorVersion := 65
  constantPool := pool
  accessFlags := fl
  thisClass := this
  superClass := sup
  interfaces := ifs
  fields := fds
  methods := ms
  attributes := attrs
def plain (name : String) (sup : Option ClassId) : Class where
  name := name
  kind := .ordinary
  loader := none
  accessFlags := 33
  super := sup
  interfaces := #[]
  cf := none
  fields := #[]
  methods := #[]
  instanceTypes := #[]
  staticTypes := #[]
  resolved := #[]
  callSites := []
  init := .initialized
  statics := none
  mirror := none

def pool0 : Array CpInfo := pool [(5, u "<init>"), (0, u "()V"), (1, .class_ 10), (1, u "java/lang/Object"), (85, u "clone"), (0, u "()Ljava/lang/Object;")] 26

def k0c0 : Code := { maxStack := 0, maxLocals := 1, code := object_method_1_code, exceptionTable := #[], attributes := #[] }
def k0m0 : Method := { name := "<init>", desc := "()V", sig := { parameters := [], returnType := none }, accessFlags := 1, code := some k0c0 }
def k0m1 : Method := { name := "clone", desc := "()Ljava/lang/Object;", sig := { parameters := [], returnType := some (.object "java/lang/Object") }, accessFlags := 260, code := none }
/-- java/lang/Object -/
def k0 : Class := { plain "java/lang/Object" none with
  accessFlags := 33
  interfaces := #[]
  cf := some (fileOf pool0 8 #[] #[{ accessFlags := 1, nameIndex := 5, descriptorIndex := 6, attributes := #[] }, { accessFlags := 260, nameIndex := 96, descriptorIndex := 97, attributes := #[] }] 33 0 #[] #[])
  fields := #[]
  methods := #[k0m0, k0m1]
  instanceTypes := #[]
  staticTypes := #[]
  resolved := Array.replicate 124 none
  statics := none }

def pool1 : Array CpInfo := pool [(2, .class_ 4), (1, u "java/lang/Object"), (0, u "<init>"), (0, u "()V"), (0, .class_ 8), (0, u "java/lang/String"), (0, .methodref 7 10), (0, .nameAndType 5 11), (0, u "([C)V"), (0, .fieldref 13 14), (0, .class_ 15), (0, .nameAndType 16 17), (0, u "com/example/aurel/aurel/lifecycle/ExistingSubscribers"), (0, u "APPLY"), (0, u "Lcom/example/aurel/aurel/lifecycle/ExistingSubscribers;"), (0, .fieldref 13 19), (0, .nameAndType 20 17), (0, u "KEEP"), (0, .methodref 13 22), (0, .nameAndType 23 24), (0, u "fromCode"), (0, u "(Ljava/lang/String;)Lcom/example/aurel/aurel/lifecycle/ExistingSubscribers;"), (0, .methodref 13 26), (0, .nameAndType 27 28), (0, u "code"), (0, u "()Ljava/lang/String;"), (0, .methodref 7 30), (0, .nameAndType 31 32), (0, u "equals"), (0, u "(Ljava/lang/Object;)Z"), (0, .class_ 34), (0, u "com/example/aurel/aurel/lifecycle/ExistingSubscribersFromCodePinLaw"), (2, u "law"), (0, u "(I)Z")] 3

def k1m0 : Method := { name := "<init>", desc := "()V", sig := { parameters := [], returnType := none }, accessFlags := 1, code := none }
def k1c1 : Code := { maxStack := 6, maxLocals := 5, code := code, exceptionTable := #[], attributes := #[] }
def k1m1 : Method := { name := "law", desc := "(I)Z", sig := { parameters := [.int], returnType := some .boolean }, accessFlags := 9, code := some k1c1 }
/-- com/example/aurel/aurel/lifecycle/ExistingSubscribersFromCodePinLaw -/
def k1 : Class := { plain "com/example/aurel/aurel/lifecycle/ExistingSubscribersFromCodePinLaw" (some 0) with
  accessFlags := 49
  interfaces := #[]
  cf := some (fileOf pool1 33 #[] #[{ accessFlags := 1, nameIndex := 5, descriptorIndex := 6, attributes := #[] }, { accessFlags := 9, nameIndex := 37, descriptorIndex := 38, attributes := #[] }] 49 2 #[] #[])
  fields := #[]
  methods := #[k1m0, k1m1]
  instanceTypes := #[]
  staticTypes := #[]
  resolved := Array.replicate 42 none
  statics := none }

def pool2 : Array CpInfo := pool [(1, .class_ 2), (0, u "java/io/Serializable"), (0, .class_ 4), (0, u "java/lang/Object")] 2

/-- java/io/Serializable -/
def k2 : Class := { plain "java/io/Serializable" (some 0) with
  accessFlags := 1537
  interfaces := #[]
  cf := some (fileOf pool2 1 #[] #[] 1537 3 #[] #[])
  fields := #[]
  methods := #[]
  instanceTypes := #[]
  staticTypes := #[]
  resolved := Array.replicate 7 none
  statics := none }

def pool3 : Array CpInfo := pool [(1, .class_ 2), (0, u "java/lang/Comparable"), (0, .class_ 4), (0, u "java/lang/Object")] 7

/-- java/lang/Comparable -/
def k3 : Class := { plain "java/lang/Comparable" (some 0) with
  accessFlags := 1537
  interfaces := #[]
  cf := some (fileOf pool3 1 #[] #[] 1537 3 #[] #[])
  fields := #[]
  methods := #[]
  instanceTypes := #[]
  staticTypes := #[]
  resolved := Array.replicate 12 none
  statics := none }

def pool4 : Array CpInfo := pool [(2, .class_ 4), (1, u "java/lang/CharSequence"), (42, .class_ 48), (0, u "java/lang/CharSequence$1CodePointIterator"), (10, .class_ 60), (0, u "java/lang/CharSequence$1CharIterator"), (5, .class_ 67), (0, u "java/lang/Object")] 63

/-- java/lang/CharSequence -/
def k4 : Class := { plain "java/lang/CharSequence" (some 0) with
  accessFlags := 1537
  interfaces := #[]
  cf := some (fileOf pool4 2 #[.nestMembers #[47, 59]] #[] 1537 66 #[] #[])
  fields := #[]
  methods := #[]
  instanceTypes := #[]
  staticTypes := #[]
  resolved := Array.replicate 131 none
  statics := none }

def pool5 : Array CpInfo := pool [(1, .class_ 2), (0, u "java/lang/constant/Constable"), (0, .class_ 4), (0, u "java/lang/Object")] 6

/-- java/lang/constant/Constable -/
def k5 : Class := { plain "java/lang/constant/Constable" (some 0) with
  accessFlags := 1537
  interfaces := #[]
  cf := some (fileOf pool5 1 #[] #[] 1537 3 #[] #[])
  fields := #[]
  methods := #[]
  instanceTypes := #[]
  staticTypes := #[]
  resolved := Array.replicate 11 none
  statics := none }

def pool6 : Array CpInfo := pool [(1, .class_ 2), (0, u "java/lang/constant/ConstantDesc"), (0, .class_ 4), (0, u "java/lang/Object")] 32

/-- java/lang/constant/ConstantDesc -/
def k6 : Class := { plain "java/lang/constant/ConstantDesc" (some 0) with
  accessFlags := 1537
  interfaces := #[]
  cf := some (fileOf pool6 1 #[] #[] 1537 3 #[] #[])
  fields := #[]
  methods := #[]
  instanceTypes := #[]
  staticTypes := #[]
  resolved := Array.replicate 37 none
  statics := none }

def pool7 : Array CpInfo := pool [(1, .methodref 2 3), (0, .class_ 4), (0, .nameAndType 5 6), (0, u "java/lang/Object"), (0, u "<init>"), (0, u "()V"), (2, .fieldref 10 11), (0, .class_ 12), (0, .nameAndType 13 14), (0, u "java/lang/String"), (0, u "value"), (0, u "[B"), (0, .fieldref 10 16), (0, .nameAndType 17 18), (0, u "coder"), (0, u "B"), (2, u "hash"), (0, u "I"), (2, u "hashIsZero"), (0, u "Z"), (0, .methodref 10 28), (0, .nameAndType 5 29), (0, u "([CIILjava/lang/Void;)V"), (8, .fieldref 10 39), (0, .nameAndType 40 26), (0, u "COMPACT_STRINGS"), (1, .class_ 44), (1, u "java/lang/StringUTF16"), (0, u "compress"), (1, .methodref 42 48), (0, .nameAndType 49 50), (0, u "coderFromArrayLen"), (0, u "([BI)B"), (56, .class_ 109), (1, u "java/lang/StringLatin1"), (67, .methodref 42 178), (0, .nameAndType 45 179), (0, u "([CII)[B"), (361, .methodref 107 542), (0, .nameAndType 543 544), (0, u "equals"), (0, u "([B[B)Z"), (28, u "(Ljava/lang/Object;)Z"), (1, .class_ 576), (0, u "java/lang/CharSequence"), (22, u "CASE_INSENSITIVE_ORDER"), (0, u "Ljava/util/Comparator;"), (409, u "([C)V"), (90, u "serialPersistentFields"), (0, u "[Ljava/io/ObjectStreamField;"), (0, .class_ 1104), (0, u "java/lang/String$CaseInsensitiveComparator"), (1, .class_ 1107), (0, u "java/io/Serializable"), (0, .class_ 1109), (0, u "java/lang/Comparable"), (0, .class_ 1111), (0, u "java/lang/constant/Constable"), (0, .class_ 1113), (0, u "java/lang/constant/ConstantDesc"), (2, u "serialVersionUID"), (0, u "J"), (3, u "REPL"), (0, u "C"), (2, u "LATIN1"), (1, u "UTF16")] 323

def k7m0 : Method := { name := "<init>", desc := "()V", sig := { parameters := [], returnType := none }, accessFlags := 1, code := none }
def k7c1 : Code := { maxStack := 5, maxLocals := 2, code := jdk_42_method_3_code, exceptionTable := #[], attributes := #[] }
def k7m1 : Method := { name := "<init>", desc := "([C)V", sig := { parameters := [(.array .char)], returnType := none }, accessFlags := 1, code := some k7c1 }
def k7c2 : Code := { maxStack := 2, maxLocals := 3, code := jdk_42_method_66_code, exceptionTable := #[], attributes := #[] }
def k7m2 : Method := { name := "equals", desc := "(Ljava/lang/Object;)Z", sig := { parameters := [(.object "java/lang/Object")], returnType := some .boolean }, accessFlags := 1, code := some k7c2 }
def k7c3 : Code := { maxStack := 4, maxLocals := 6, code := jdk_42_method_149_code, exceptionTable := #[], attributes := #[] }
def k7m3 : Method := { name := "<init>", desc := "([CIILjava/lang/Void;)V", sig := { parameters := [(.array .char), .int, .int, (.object "java/lang/Void")], returnType := none }, accessFlags := 2, code := some k7c3 }
/-- java/lang/String -/
def k7 : Class := { plain "java/lang/String" (some 0) with
  accessFlags := 49
  interfaces := #[2, 3, 4, 5, 6]
  cf := some (fileOf pool7 10 #[.nestMembers #[1103]] #[{ accessFlags := 1, nameIndex := 5, descriptorIndex := 6, attributes := #[] }, { accessFlags := 1, nameIndex := 5, descriptorIndex := 1010, attributes := #[] }, { accessFlags := 1, nameIndex := 543, descriptorIndex := 573, attributes := #[] }, { accessFlags := 2, nameIndex := 5, descriptorIndex := 29, attributes := #[] }] 49 2 #[1106, 1108, 575, 1110, 1112] #[{ accessFlags := 18, nameIndex := 13, descriptorIndex := 14, attributes := #[] }, { accessFlags := 18, nameIndex := 17, descriptorIndex := 18, attributes := #[] }, { accessFlags := 2, nameIndex := 21, descriptorIndex := 22, attributes := #[] }, { accessFlags := 2, nameIndex := 25, descriptorIndex := 26, attributes := #[] }, { accessFlags := 26, nameIndex := 1116, descriptorIndex := 1117, attributes := #[] }, { accessFlags := 24, nameIndex := 40, descriptorIndex := 26, attributes := #[] }, { accessFlags := 26, nameIndex := 1101, descriptorIndex := 1102, attributes := #[] }, { accessFlags := 26, nameIndex := 1121, descriptorIndex := 1122, attributes := #[] }, { accessFlags := 25, nameIndex := 599, descriptorIndex := 600, attributes := #[] }, { accessFlags := 24, nameIndex := 1125, descriptorIndex := 18, attributes := #[] }, { accessFlags := 24, nameIndex := 1127, descriptorIndex := 18, attributes := #[] }])
  fields := #[{ name := "value", type := (.array .byte), accessFlags := 18, slot := 0, constantValue := 0 }, { name := "coder", type := .byte, accessFlags := 18, slot := 1, constantValue := 0 }, { name := "hash", type := .int, accessFlags := 2, slot := 2, constantValue := 0 }, { name := "hashIsZero", type := .boolean, accessFlags := 2, slot := 3, constantValue := 0 }, { name := "serialVersionUID", type := .long, accessFlags := 26, slot := 0, constantValue := 0 }, { name := "COMPACT_STRINGS", type := .boolean, accessFlags := 24, slot := 1, constantValue := 0 }, { name := "serialPersistentFields", type := (.array (.object "java/io/ObjectStreamField")), accessFlags := 26, slot := 2, constantValue := 0 }, { name := "REPL", type := .char, accessFlags := 26, slot := 3, constantValue := 0 }, { name := "CASE_INSENSITIVE_ORDER", type := (.object "java/util/Comparator"), accessFlags := 25, slot := 4, constantValue := 0 }, { name := "LATIN1", type := .byte, accessFlags := 24, slot := 5, constantValue := 0 }, { name := "UTF16", type := .byte, accessFlags := 24, slot := 6, constantValue := 0 }]
  methods := #[k7m0, k7m1, k7m2, k7m3]
  instanceTypes := #[(.array .byte), .byte, .int, .boolean]
  staticTypes := #[.long, .boolean, (.array (.object "java/io/ObjectStreamField")), .char, (.object "java/util/Comparator"), .byte, .byte]
  resolved := Array.replicate 1451 none
  statics := some 0 }

def pool8 : Array CpInfo := pool [(6, .class_ 8), (1, u "java/lang/Object"), (0, u "<init>"), (0, u "()V"), (1, .class_ 14), (1, u "java/lang/StringUTF16"), (31, u "$assertionsDisabled"), (0, u "Z"), (13, u "HI_BYTE_SHIFT"), (0, u "I"), (2, u "LO_BYTE_SHIFT"), (49, .methodref 12 116), (0, .nameAndType 117 118), (0, u "compress"), (0, u "([CI[BII)I"), (3, u "([CII)[B"), (138, u "coderFromArrayLen"), (0, u "([BI)B"), (106, .class_ 371), (1, u "java/lang/StringUTF16$LinesSpliterator"), (58, u "MAX_LENGTH"), (196, .class_ 628), (0, u "java/lang/StringUTF16$CodePointsSpliterator"), (0, .class_ 630), (0, u "java/lang/StringUTF16$CharsSpliterator")] 4

def k8m0 : Method := { name := "<init>", desc := "()V", sig := { parameters := [], returnType := none }, accessFlags := 0, code := none }
def k8c1 : Code := { maxStack := 2, maxLocals := 2, code := jdk_52_method_15_code, exceptionTable := #[], attributes := #[] }
def k8m1 : Method := { name := "coderFromArrayLen", desc := "([BI)B", sig := { parameters := [(.array .byte), .int], returnType := some .byte }, accessFlags := 8, code := some k8c1 }
def k8c2 : Code := { maxStack := 5, maxLocals := 6, code := jdk_52_method_16_code, exceptionTable := #[], attributes := #[] }
def k8m2 : Method := { name := "compress", desc := "([CII)[B", sig := { parameters := [(.array .char), .int, .int], returnType := some (.array .byte) }, accessFlags := 9, code := some k8c2 }
def k8c3 : Code := { maxStack := 3, maxLocals := 7, code := jdk_52_method_21_code, exceptionTable := #[], attributes := #[] }
def k8m3 : Method := { name := "compress", desc := "([CI[BII)I", sig := { parameters := [(.array .char), .int, (.array .byte), .int, .int], returnType := some .int }, accessFlags := 9, code := some k8c3 }
/-- java/lang/StringUTF16 -/
def k8 : Class := { plain "java/lang/StringUTF16" (some 0) with
  accessFlags := 48
  interfaces := #[]
  cf := some (fileOf pool8 12 #[.nestMembers #[627, 629, 369]] #[{ accessFlags := 0, nameIndex := 9, descriptorIndex := 10, attributes := #[] }, { accessFlags := 8, nameIndex := 261, descriptorIndex := 262, attributes := #[] }, { accessFlags := 9, nameIndex := 117, descriptorIndex := 122, attributes := #[] }, { accessFlags := 9, nameIndex := 117, descriptorIndex := 118, attributes := #[] }] 48 6 #[] #[{ accessFlags := 26, nameIndex := 61, descriptorIndex := 62, attributes := #[] }, { accessFlags := 26, nameIndex := 65, descriptorIndex := 62, attributes := #[] }, { accessFlags := 24, nameIndex := 430, descriptorIndex := 62, attributes := #[] }, { accessFlags := 4120, nameIndex := 46, descriptorIndex := 47, attributes := #[] }])
  fields := #[{ name := "HI_BYTE_SHIFT", type := .int, accessFlags := 26, slot := 0, constantValue := 0 }, { name := "LO_BYTE_SHIFT", type := .int, accessFlags := 26, slot := 1, constantValue := 0 }, { name := "MAX_LENGTH", type := .int, accessFlags := 24, slot := 2, constantValue := 0 }, { name := "$assertionsDisabled", type := .boolean, accessFlags := 4120, slot := 3, constantValue := 0 }]
  methods := #[k8m0, k8m1, k8m2, k8m3]
  instanceTypes := #[]
  staticTypes := #[.int, .int, .int, .boolean]
  resolved := Array.replicate 635 none
  statics := none }

def pool9 : Array CpInfo := pool [(2, .class_ 4), (1, u "java/lang/Enum"), (0, u "name"), (0, u "Ljava/lang/String;"), (2, u "ordinal"), (0, u "I"), (1, .class_ 14), (1, u "java/lang/Object"), (4, u "hash"), (86, .class_ 108), (1, u "java/lang/Enum$EnumDesc"), (2, .class_ 112), (0, u "java/lang/constant/Constable"), (0, .class_ 114), (0, u "java/lang/Comparable"), (0, .class_ 116), (0, u "java/io/Serializable")] 87

/-- java/lang/Enum -/
def k9 : Class := { plain "java/lang/Enum" (some 0) with
  accessFlags := 1057
  interfaces := #[5, 3, 2]
  cf := some (fileOf pool9 2 #[.nestMembers #[106]] #[] 1057 12 #[111, 113, 115] #[{ accessFlags := 18, nameIndex := 5, descriptorIndex := 6, attributes := #[] }, { accessFlags := 18, nameIndex := 9, descriptorIndex := 10, attributes := #[] }, { accessFlags := 2, nameIndex := 19, descriptorIndex := 10, attributes := #[] }])
  fields := #[{ name := "name", type := (.object "java/lang/String"), accessFlags := 18, slot := 0, constantValue := 0 }, { name := "ordinal", type := .int, accessFlags := 18, slot := 1, constantValue := 0 }, { name := "hash", type := .int, accessFlags := 2, slot := 2, constantValue := 0 }]
  methods := #[]
  instanceTypes := #[(.object "java/lang/String"), .int, .int]
  staticTypes := #[]
  resolved := Array.replicate 204 none
  statics := none }

def pool10 : Array CpInfo := pool [(1, .class_ 2), (0, u "com/example/aurel/aurel/lifecycle/ExistingSubscribers"), (2, u "KEEP"), (0, u "Lcom/example/aurel/aurel/lifecycle/ExistingSubscribers;"), (2, u "APPLY"), (0, .fieldref 1 11), (0, .nameAndType 12 13), (0, u "$VALUES"), (0, u "[Lcom/example/aurel/aurel/lifecycle/ExistingSubscribers;"), (0, .methodref 15 16), (0, .class_ 13), (0, .nameAndType 17 18), (0, u "clone"), (0, u "()Ljava/lang/Object;"), (1, .class_ 22), (1, u "java/lang/Enum"), (6, .fieldref 1 30), (0, .nameAndType 31 32), (0, u "code"), (0, u "Ljava/lang/String;"), (0, .methodref 1 34), (0, .nameAndType 35 36), (0, u "values"), (0, u "()[Lcom/example/aurel/aurel/lifecycle/ExistingSubscribers;"), (0, .methodref 38 39), (0, .class_ 40), (0, .nameAndType 41 42), (0, u "java/lang/String"), (0, u "equals"), (0, u "(Ljava/lang/Object;)Z"), (23, u "(Ljava/lang/String;)Lcom/example/aurel/aurel/lifecycle/ExistingSubscribers;"), (2, u "fromCode"), (1, u "()Ljava/lang/String;")] 20

def k10c0 : Code := { maxStack := 1, maxLocals := 0, code := prog_16_method_1_code, exceptionTable := #[], attributes := #[] }
def k10m0 : Method := { name := "values", desc := "()[Lcom/example/aurel/aurel/lifecycle/ExistingSubscribers;", sig := { parameters := [], returnType := some (.array (.object "com/example/aurel/aurel/lifecycle/ExistingSubscribers")) }, accessFlags := 9, code := some k10c0 }
def k10c1 : Code := { maxStack := 3, maxLocals := 5, code := prog_16_method_4_code, exceptionTable := #[], attributes := #[] }
def k10m1 : Method := { name := "fromCode", desc := "(Ljava/lang/String;)Lcom/example/aurel/aurel/lifecycle/ExistingSubscribers;", sig := { parameters := [(.object "java/lang/String")], returnType := some (.object "com/example/aurel/aurel/lifecycle/ExistingSubscribers") }, accessFlags := 9, code := some k10c1 }
def k10c2 : Code := { maxStack := 1, maxLocals := 1, code := prog_16_method_5_code, exceptionTable := #[], attributes := #[] }
def k10m2 : Method := { name := "code", desc := "()Ljava/lang/String;", sig := { parameters := [], returnType := some (.object "java/lang/String") }, accessFlags := 1, code := some k10c2 }
/-- com/example/aurel/aurel/lifecycle/ExistingSubscribers -/
def k10 : Class := { plain "com/example/aurel/aurel/lifecycle/ExistingSubscribers" (some 9) with
  accessFlags := 16433
  interfaces := #[]
  cf := some (fileOf pool10 1 #[] #[{ accessFlags := 9, nameIndex := 35, descriptorIndex := 36, attributes := #[] }, { accessFlags := 9, nameIndex := 69, descriptorIndex := 66, attributes := #[] }, { accessFlags := 1, nameIndex := 31, descriptorIndex := 71, attributes := #[] }] 16433 20 #[] #[{ accessFlags := 16409, nameIndex := 5, descriptorIndex := 6, attributes := #[] }, { accessFlags := 16409, nameIndex := 9, descriptorIndex := 6, attributes := #[] }, { accessFlags := 18, nameIndex := 31, descriptorIndex := 32, attributes := #[] }, { accessFlags := 4122, nameIndex := 12, descriptorIndex := 13, attributes := #[] }])
  fields := #[{ name := "KEEP", type := (.object "com/example/aurel/aurel/lifecycle/ExistingSubscribers"), accessFlags := 16409, slot := 0, constantValue := 0 }, { name := "APPLY", type := (.object "com/example/aurel/aurel/lifecycle/ExistingSubscribers"), accessFlags := 16409, slot := 1, constantValue := 0 }, { name := "code", type := (.object "java/lang/String"), accessFlags := 18, slot := 3, constantValue := 0 }, { name := "$VALUES", type := (.array (.object "com/example/aurel/aurel/lifecycle/ExistingSubscribers")), accessFlags := 4122, slot := 2, constantValue := 0 }]
  methods := #[k10m0, k10m1, k10m2]
  instanceTypes := #[(.object "java/lang/String"), .int, .int, (.object "java/lang/String")]
  staticTypes := #[(.object "com/example/aurel/aurel/lifecycle/ExistingSubscribers"), (.object "com/example/aurel/aurel/lifecycle/ExistingSubscribers"), (.array (.object "com/example/aurel/aurel/lifecycle/ExistingSubscribers"))]
  resolved := Array.replicate 92 none
  statics := some 1 }

def pool11 : Array CpInfo := pool [(1, .class_ 2), (0, u "java/lang/Cloneable"), (0, .class_ 4), (0, u "java/lang/Object")] 2

/-- java/lang/Cloneable -/
def k11 : Class := { plain "java/lang/Cloneable" (some 0) with
  accessFlags := 1537
  interfaces := #[]
  cf := some (fileOf pool11 1 #[] #[] 1537 3 #[] #[])
  fields := #[]
  methods := #[]
  instanceTypes := #[]
  staticTypes := #[]
  resolved := Array.replicate 7 none
  statics := none }

def pool12 : Array CpInfo := pool [(4, .class_ 6), (1, u "java/lang/Object"), (0, u "<init>"), (0, u "()V"), (5, .class_ 16), (1, u "java/lang/StringLatin1"), (104, u "$assertionsDisabled"), (0, u "Z"), (98, .class_ 223), (1, u "java/lang/StringLatin1$LinesSpliterator"), (57, u "equals"), (0, u "([B[B)Z"), (107, .class_ 391), (0, u "java/lang/StringLatin1$CharsSpliterator")] 3

def k12m0 : Method := { name := "<init>", desc := "()V", sig := { parameters := [], returnType := none }, accessFlags := 0, code := none }
def k12c1 : Code := { maxStack := 3, maxLocals := 3, code := jdk_43_method_13_code, exceptionTable := #[], attributes := #[] }
def k12m1 : Method := { name := "equals", desc := "([B[B)Z", sig := { parameters := [(.array .byte), (.array .byte)], returnType := some .boolean }, accessFlags := 9, code := some k12c1 }
/-- java/lang/StringLatin1 -/
def k12 : Class := { plain "java/lang/StringLatin1" (some 0) with
  accessFlags := 48
  interfaces := #[]
  cf := some (fileOf pool12 14 #[.nestMembers #[390, 221]] #[{ accessFlags := 0, nameIndex := 7, descriptorIndex := 8, attributes := #[] }, { accessFlags := 9, nameIndex := 281, descriptorIndex := 282, attributes := #[] }] 48 4 #[] #[{ accessFlags := 4120, nameIndex := 121, descriptorIndex := 122, attributes := #[] }])
  fields := #[{ name := "$assertionsDisabled", type := .boolean, accessFlags := 4120, slot := 0, constantValue := 0 }]
  methods := #[k12m0, k12m1]
  instanceTypes := #[]
  staticTypes := #[.boolean]
  resolved := Array.replicate 395 none
  statics := none }

def pool13 : Array CpInfo := pool [(2, .class_ 4), (1, u "java/lang/Object"), (0, u "<init>"), (0, u "()V"), (17, .class_ 26), (1, u "jdk/internal/util/Preconditions"), (28, .class_ 56), (0, u "jdk/internal/util/Preconditions$4"), (57, .class_ 115), (0, u "jdk/internal/util/Preconditions$1"), (7, u "SIOOBE_FORMATTER"), (0, u "Ljava/util/function/BiFunction;"), (0, .class_ 126), (0, u "jdk/internal/util/Preconditions$2"), (3, u "AIOOBE_FORMATTER"), (0, .class_ 132), (0, u "jdk/internal/util/Preconditions$3"), (3, u "IOOBE_FORMATTER")] 57

def k13m0 : Method := { name := "<init>", desc := "()V", sig := { parameters := [], returnType := none }, accessFlags := 1, code := none }
/-- jdk/internal/util/Preconditions -/
def k13 : Class := { plain "jdk/internal/util/Preconditions" (some 0) with
  accessFlags := 33
  interfaces := #[]
  cf := some (fileOf pool13 24 #[.nestMembers #[55, 131, 125, 114]] #[{ accessFlags := 1, nameIndex := 5, descriptorIndex := 6, attributes := #[] }] 33 2 #[] #[{ accessFlags := 25, nameIndex := 123, descriptorIndex := 124, attributes := #[] }, { accessFlags := 25, nameIndex := 130, descriptorIndex := 124, attributes := #[] }, { accessFlags := 25, nameIndex := 136, descriptorIndex := 124, attributes := #[] }])
  fields := #[{ name := "SIOOBE_FORMATTER", type := (.object "java/util/function/BiFunction"), accessFlags := 25, slot := 0, constantValue := 0 }, { name := "AIOOBE_FORMATTER", type := (.object "java/util/function/BiFunction"), accessFlags := 25, slot := 1, constantValue := 0 }, { name := "IOOBE_FORMATTER", type := (.object "java/util/function/BiFunction"), accessFlags := 25, slot := 2, constantValue := 0 }]
  methods := #[k13m0]
  instanceTypes := #[]
  staticTypes := #[(.object "java/util/function/BiFunction"), (.object "java/util/function/BiFunction"), (.object "java/util/function/BiFunction")]
  resolved := Array.replicate 194 none
  statics := some 2 }

def pool14 : Array CpInfo := pool [(9, u "<init>"), (6, .class_ 18), (1, u "java/lang/Object"), (0, u "()V"), (1, .class_ 23), (1, u "jdk/internal/util/ArraysSupport"), (0, u "LOG2_ARRAY_LONG_INDEX_SCALE"), (0, u "I"), (2, u "U"), (0, u "Ljdk/internal/misc/Unsafe;"), (8, u "BIG_ENDIAN"), (0, u "Z"), (8, u "LOG2_BYTE_BIT_SIZE"), (4, u "LOG2_ARRAY_INT_INDEX_SCALE"), (54, u "JLA"), (0, u "Ljdk/internal/access/JavaLangAccess;"), (11, u "LOG2_ARRAY_BOOLEAN_INDEX_SCALE"), (9, u "LOG2_ARRAY_BYTE_INDEX_SCALE"), (5, u "LOG2_ARRAY_CHAR_INDEX_SCALE"), (5, u "LOG2_ARRAY_SHORT_INDEX_SCALE"), (18, u "LOG2_ARRAY_FLOAT_INDEX_SCALE"), (24, u "LOG2_ARRAY_DOUBLE_INDEX_SCALE"), (89, u "T_BOOLEAN"), (2, u "T_CHAR"), (1, u "T_FLOAT"), (1, u "T_DOUBLE"), (1, u "T_BYTE"), (1, u "T_SHORT"), (1, u "T_INT"), (1, u "T_LONG"), (1, u "SOFT_MAX_ARRAY_LENGTH")] 83

def k14m0 : Method := { name := "<init>", desc := "()V", sig := { parameters := [], returnType := none }, accessFlags := 2, code := none }
/-- jdk/internal/util/ArraysSupport -/
def k14 : Class := { plain "jdk/internal/util/ArraysSupport" (some 0) with
  accessFlags := 33
  interfaces := #[]
  cf := some (fileOf pool14 21 #[] #[{ accessFlags := 2, nameIndex := 9, descriptorIndex := 19, attributes := #[] }] 33 16 #[] #[{ accessFlags := 24, nameIndex := 28, descriptorIndex := 29, attributes := #[] }, { accessFlags := 26, nameIndex := 38, descriptorIndex := 39, attributes := #[] }, { accessFlags := 25, nameIndex := 121, descriptorIndex := 25, attributes := #[] }, { accessFlags := 25, nameIndex := 131, descriptorIndex := 25, attributes := #[] }, { accessFlags := 25, nameIndex := 137, descriptorIndex := 25, attributes := #[] }, { accessFlags := 25, nameIndex := 143, descriptorIndex := 25, attributes := #[] }, { accessFlags := 25, nameIndex := 53, descriptorIndex := 25, attributes := #[] }, { accessFlags := 25, nameIndex := 24, descriptorIndex := 25, attributes := #[] }, { accessFlags := 25, nameIndex := 162, descriptorIndex := 25, attributes := #[] }, { accessFlags := 25, nameIndex := 187, descriptorIndex := 25, attributes := #[] }, { accessFlags := 26, nameIndex := 48, descriptorIndex := 25, attributes := #[] }, { accessFlags := 25, nameIndex := 277, descriptorIndex := 25, attributes := #[] }, { accessFlags := 25, nameIndex := 280, descriptorIndex := 25, attributes := #[] }, { accessFlags := 25, nameIndex := 282, descriptorIndex := 25, attributes := #[] }, { accessFlags := 25, nameIndex := 284, descriptorIndex := 25, attributes := #[] }, { accessFlags := 25, nameIndex := 286, descriptorIndex := 25, attributes := #[] }, { accessFlags := 25, nameIndex := 288, descriptorIndex := 25, attributes := #[] }, { accessFlags := 25, nameIndex := 290, descriptorIndex := 25, attributes := #[] }, { accessFlags := 25, nameIndex := 292, descriptorIndex := 25, attributes := #[] }, { accessFlags := 26, nameIndex := 108, descriptorIndex := 109, attributes := #[] }, { accessFlags := 25, nameIndex := 294, descriptorIndex := 25, attributes := #[] }])
  fields := #[{ name := "U", type := (.object "jdk/internal/misc/Unsafe"), accessFlags := 24, slot := 0, constantValue := 0 }, { name := "BIG_ENDIAN", type := .boolean, accessFlags := 26, slot := 1, constantValue := 0 }, { name := "LOG2_ARRAY_BOOLEAN_INDEX_SCALE", type := .int, accessFlags := 25, slot := 2, constantValue := 0 }, { name := "LOG2_ARRAY_BYTE_INDEX_SCALE", type := .int, accessFlags := 25, slot := 3, constantValue := 0 }, { name := "LOG2_ARRAY_CHAR_INDEX_SCALE", type := .int, accessFlags := 25, slot := 4, constantValue := 0 }, { name := "LOG2_ARRAY_SHORT_INDEX_SCALE", type := .int, accessFlags := 25, slot := 5, constantValue := 0 }, { name := "LOG2_ARRAY_INT_INDEX_SCALE", type := .int, accessFlags := 25, slot := 6, constantValue := 0 }, { name := "LOG2_ARRAY_LONG_INDEX_SCALE", type := .int, accessFlags := 25, slot := 7, constantValue := 0 }, { name := "LOG2_ARRAY_FLOAT_INDEX_SCALE", type := .int, accessFlags := 25, slot := 8, constantValue := 0 }, { name := "LOG2_ARRAY_DOUBLE_INDEX_SCALE", type := .int, accessFlags := 25, slot := 9, constantValue := 0 }, { name := "LOG2_BYTE_BIT_SIZE", type := .int, accessFlags := 26, slot := 10, constantValue := 0 }, { name := "T_BOOLEAN", type := .int, accessFlags := 25, slot := 11, constantValue := 0 }, { name := "T_CHAR", type := .int, accessFlags := 25, slot := 12, constantValue := 0 }, { name := "T_FLOAT", type := .int, accessFlags := 25, slot := 13, constantValue := 0 }, { name := "T_DOUBLE", type := .int, accessFlags := 25, slot := 14, constantValue := 0 }, { name := "T_BYTE", type := .int, accessFlags := 25, slot := 15, constantValue := 0 }, { name := "T_SHORT", type := .int, accessFlags := 25, slot := 16, constantValue := 0 }, { name := "T_INT", type := .int, accessFlags := 25, slot := 17, constantValue := 0 }, { name := "T_LONG", type := .int, accessFlags := 25, slot := 18, constantValue := 0 }, { name := "JLA", type := (.object "jdk/internal/access/JavaLangAccess"), accessFlags := 26, slot := 19, constantValue := 0 }, { name := "SOFT_MAX_ARRAY_LENGTH", type := .int, accessFlags := 25, slot := 20, constantValue := 0 }]
  methods := #[k14m0]
  instanceTypes := #[]
  staticTypes := #[(.object "jdk/internal/misc/Unsafe"), .boolean, .int, .int, .int, .int, .int, .int, .int, .int, .int, .int, .int, .int, .int, .int, .int, .int, .int, (.object "jdk/internal/access/JavaLangAccess"), .int]
  resolved := Array.replicate 378 none
  statics := none }

/-- the primitive byte -/
def k15 : Class := { plain "byte" none with kind := .primitive 'B', accessFlags := 0x411 }
/-- [B -/
def k16 : Class := { plain "[B" (some 0) with kind := .array 15 .byte, interfaces := #[11, 2], accessFlags := 1041 }

/-- the primitive char -/
def k17 : Class := { plain "char" none with kind := .primitive 'C', accessFlags := 0x411 }
/-- [C -/
def k18 : Class := { plain "[C" (some 0) with kind := .array 17 .char, interfaces := #[11, 2], accessFlags := 1041 }

/-- the primitive int -/
def k19 : Class := { plain "int" none with kind := .primitive 'I', accessFlags := 0x411 }
/-- [I -/
def k20 : Class := { plain "[I" (some 0) with kind := .array 19 .int, interfaces := #[11, 2], accessFlags := 1041 }

/-- [Lcom/example/aurel/aurel/lifecycle/ExistingSubscribers; -/
def k21 : Class := { plain "[Lcom/example/aurel/aurel/lifecycle/ExistingSubscribers;" (some 0) with kind := .array 10 (.object "com/example/aurel/aurel/lifecycle/ExistingSubscribers"), interfaces := #[11, 2], accessFlags := 1041 }

def heap : Heap := #[{ cls := 7, slots := #[.long 0, .int 1, .null, .int 0, .null, .int 0, .int 0], vm := .statics 7 },
  { cls := 10, slots := #[.ref 4, .ref 5, .ref 3], vm := .statics 10 },
  { cls := 13, slots := #[.null, .null, .null], vm := .statics 13 },
  { cls := 21, slots := #[.ref 4, .ref 5], vm := .none },
  { cls := 10, slots := #[.null, .int 0, .int 0, .ref 6], vm := .none },
  { cls := 10, slots := #[.null, .int 0, .int 0, .ref 8], vm := .none },
  { cls := 7, slots := #[.ref 7, .int 0, .int 0, .int 0], vm := .none },
  { cls := 16, slots := #[.int 107, .int 101, .int 101, .int 112], vm := .none },
  { cls := 7, slots := #[.ref 9, .int 0, .int 0, .int 0], vm := .none },
  { cls := 16, slots := #[.int 97, .int 112, .int 112, .int 108, .int 121], vm := .none }]
def classes : Array Class := #[k0, k1, k2, k3, k4, k5, k6, k7, k8, k9, k10, k11, k12, k13, k14, k15, k16, k17, k18, k19, k20, k21]
def interned : List (Array UInt16 × Addr) := []
def slotsUsed : Nat := 40
def theMethod : MethodId := ⟨1, 1⟩
def args0 : Array Value := #[.int 5]
def aboutOver (below : List Frame) : State where
  vm := { classes := classes, interned := interned.toArray }
  heap := heap
  slotsUsed := slotsUsed
  threads := #[{ frames := .invoking theMethod args0 :: below }]
def below0 : List Frame := [.native { method := ⟨0, 0⟩, args := #[] }]
def about1 : State := aboutOver below0
def p0 : Program := .bare "" "" ""
def e0 : Env := launch0.env 0 0 0
theorem w_frames : about1.frames = Frame.invoking theMethod args0 :: below0 := rfl
set_option maxRecDepth 65536 in
theorem w_args : argsFit about1.vm theMethod args0 = true := by decide +kernel
set_option maxRecDepth 65536 in
theorem w_heap : heapFits about1 = true := by decide +kernel
set_option maxRecDepth 65536 in
theorem w_runnable : about1.curStatus? = some .runnable := by decide +kernel
set_option maxRecDepth 65536 in
theorem w_alone : about1.alone = true := by decide +kernel
set_option maxRecDepth 65536 in
theorem w_named : about1.methodNamed? x = some theMethod := by decide +kernel
set_option maxRecDepth 65536 in
theorem w_hears : about1.hears theMethod below0 = true := by decide +kernel
set_option maxRecDepth 65536 in
theorem w_ripe : about1.ripe theMethod args0 below0 = true := by decide +kernel
theorem w_running : about1.status = .running := rfl
set_option maxRecDepth 65536 in
theorem w_room : about1.hasRoom e0.platform room_1 = true :=
  launch0.hasRoom_least _ room_1 (by decide +kernel) (by decide +kernel) (by decide +kernel) (by decide +kernel) (by decide +kernel) (by decide +kernel)
theorem allAtoms_all (ts : List Jvm.Cond) (a : Array Jvm.Value) (st : Jvm.State) : (allAtoms ts).before a st = ts.all (fun c => c.before a st) := by
  induction ts with
  | nil => rfl
  | cons c t ih =>
    show (Jvm.Cond.and c (allAtoms t)).before a st = _
    rw [Jvm.Cond.before_and, ih, List.all_cons]
def words1 : List Jvm.Cond := Jvm.Cond.code x code maxLocals ret :: tables_1
/-- a 'code' word, met by the world's own term for the bytes: nothing is compared byte by byte -/
theorem code_word {y : MethodName} {bytes : ByteArray} {mx : Nat} {rt : Option FieldType} {a : Array Value} {s : State} {m : MethodId} {meth : Method} {c : Code} (h1 : s.methodNamed? y = some m) (h2 : s.vm.method? m = some meth) (h3 : meth.code = some c) (h4 : c.code = bytes)
    (h5 : (c.maxLocals == mx && c.exceptionTable.isEmpty && decide (c.maxStack ≤ mostOperands) && decide (meth.sig.returnType = rt) && !meth.locks && decide (parseMethodDescriptor y.desc = some meth.sig)) = true) : (Jvm.Cond.code y bytes mx rt).before a s = true := by
  simp only [Bool.and_eq_true, beq_iff_eq, Bool.not_eq_true', decide_eq_true_eq] at h5
  obtain ⟨⟨⟨⟨⟨g1, g2⟩, g3⟩, g4⟩, g5⟩, g6⟩ := h5
  simp [Cond.before, Cond.holds, Cond.value, h1, h2, h3, h4, g1, g2, g3, g4, g5, g6]
def isCode : Jvm.Cond → Bool
  | .code _ _ _ _ => true
  | _ => false
theorem all_split {L : List Jvm.Cond} {P : Jvm.Cond → Bool} (h1 : L.all (fun c => isCode c || P c) = true) (h2 : ∀ c ∈ L.filter isCode, P c = true) : L.all P = true := by
  refine List.all_eq_true.mpr fun c hc => ?_
  have h := List.all_eq_true.mp h1 c hc
  rcases Bool.eq_false_or_eq_true (isCode c) with hi | hi
  · exact h2 c (List.mem_filter.mpr ⟨hc, hi⟩)
  · simpa [hi] using h
set_option maxRecDepth 65536 in
theorem w_c0 : (Jvm.Cond.code x code maxLocals ret).before args0 about1 = true := code_word (m := ⟨1, 1⟩) (meth := k1m1) (c := k1c1) (by decide +kernel) rfl rfl rfl (by decide +kernel)
set_option maxRecDepth 65536 in
theorem w_c1 : (Jvm.Cond.code ({ cls := "java/lang/String", name := "<init>", desc := "([C)V" } : Jvm.MethodName) jdk_42_method_3_code (2 : Nat) (Option.none : Option Jvm.ClassFile.FieldType)).before args0 about1 = true := code_word (m := ⟨7, 1⟩) (meth := k7m1) (c := k7c1) (by decide +kernel) rfl rfl rfl (by decide +kernel)
set_option maxRecDepth 65536 in
theorem w_c2 : (Jvm.Cond.code ({ cls := "java/lang/String", name := "<init>", desc := "([CIILjava/lang/Void;)V" } : Jvm.MethodName) jdk_42_method_149_code (6 : Nat) (Option.none : Option Jvm.ClassFile.FieldType)).before args0 about1 = true := code_word (m := ⟨7, 3⟩) (meth := k7m3) (c := k7c3) (by decide +kernel) rfl rfl rfl (by decide +kernel)
set_option maxRecDepth 65536 in
theorem w_c3 : (Jvm.Cond.code ({ cls := "java/lang/Object", name := "<init>", desc := "()V" } : Jvm.MethodName) object_method_1_code (1 : Nat) (Option.none : Option Jvm.ClassFile.FieldType)).before args0 about1 = true := code_word (m := ⟨0, 0⟩) (meth := k0m0) (c := k0c0) (by decide +kernel) rfl rfl rfl (by decide +kernel)
set_option maxRecDepth 65536 in
theorem w_c4 : (Jvm.Cond.code ({ cls := "java/lang/StringUTF16", name := "compress", desc := "([CII)[B" } : Jvm.MethodName) jdk_52_method_16_code (6 : Nat) (Option.some (Jvm.ClassFile.FieldType.array Jvm.ClassFile.FieldType.byte))).before args0 about1 = true := code_word (m := ⟨8, 2⟩) (meth := k8m2) (c := k8c2) (by decide +kernel) rfl rfl rfl (by decide +kernel)
set_option maxRecDepth 65536 in
theorem w_c5 : (Jvm.Cond.code ({ cls := "java/lang/StringUTF16", name := "compress", desc := "([CI[BII)I" } : Jvm.MethodName) jdk_52_method_21_code (7 : Nat) (Option.some Jvm.ClassFile.FieldType.int)).before args0 about1 = true := code_word (m := ⟨8, 3⟩) (meth := k8m3) (c := k8c3) (by decide +kernel) rfl rfl rfl (by decide +kernel)
set_option maxRecDepth 65536 in
theorem w_c6 : (Jvm.Cond.code ({ cls := "java/lang/StringUTF16", name := "coderFromArrayLen", desc := "([BI)B" } : Jvm.MethodName) jdk_52_method_15_code (2 : Nat) (Option.some Jvm.ClassFile.FieldType.byte)).before args0 about1 = true := code_word (m := ⟨8, 1⟩) (meth := k8m1) (c := k8c1) (by decide +kernel) rfl rfl rfl (by decide +kernel)
set_option maxRecDepth 65536 in
theorem w_c7 : (Jvm.Cond.code ({ cls := "com/example/aurel/aurel/lifecycle/ExistingSubscribers", name := "fromCode", desc := "(Ljava/lang/String;)Lcom/example/aurel/aurel/lifecycle/ExistingSubscribers;" } : Jvm.MethodName) prog_16_method_4_code (5 : Nat) (Option.some (Jvm.ClassFile.FieldType.object "com/example/aurel/aurel/lifecycle/ExistingSubscribers"))).before args0 about1 = true := code_word (m := ⟨10, 1⟩) (meth := k10m1) (c := k10c1) (by decide +kernel) rfl rfl rfl (by decide +kernel)
set_option maxRecDepth 65536 in
theorem w_c8 : (Jvm.Cond.code ({ cls := "com/example/aurel/aurel/lifecycle/ExistingSubscribers", name := "values", desc := "()[Lcom/example/aurel/aurel/lifecycle/ExistingSubscribers;" } : Jvm.MethodName) prog_16_method_1_code (0 : Nat) (Option.some (Jvm.ClassFile.FieldType.array (Jvm.ClassFile.FieldType.object "com/example/aurel/aurel/lifecycle/ExistingSubscribers")))).before args0 about1 = true := code_word (m := ⟨10, 0⟩) (meth := k10m0) (c := k10c0) (by decide +kernel) rfl rfl rfl (by decide +kernel)
set_option maxRecDepth 65536 in
theorem w_c9 : (Jvm.Cond.code ({ cls := "java/lang/String", name := "equals", desc := "(Ljava/lang/Object;)Z" } : Jvm.MethodName) jdk_42_method_66_code (3 : Nat) (Option.some Jvm.ClassFile.FieldType.boolean)).before args0 about1 = true := code_word (m := ⟨7, 2⟩) (meth := k7m2) (c := k7c2) (by decide +kernel) rfl rfl rfl (by decide +kernel)
set_option maxRecDepth 65536 in
theorem w_c10 : (Jvm.Cond.code ({ cls := "java/lang/StringLatin1", name := "equals", desc := "([B[B)Z" } : Jvm.MethodName) jdk_43_method_13_code (3 : Nat) (Option.some Jvm.ClassFile.FieldType.boolean)).before args0 about1 = true := code_word (m := ⟨12, 1⟩) (meth := k12m1) (c := k12c1) (by decide +kernel) rfl rfl rfl (by decide +kernel)
set_option maxRecDepth 65536 in
theorem w_c11 : (Jvm.Cond.code ({ cls := "com/example/aurel/aurel/lifecycle/ExistingSubscribers", name := "code", desc := "()Ljava/lang/String;" } : Jvm.MethodName) prog_16_method_5_code (1 : Nat) (Option.some (Jvm.ClassFile.FieldType.object "java/lang/String"))).before args0 about1 = true := code_word (m := ⟨10, 2⟩) (meth := k10m2) (c := k10c2) (by decide +kernel) rfl rfl rfl (by decide +kernel)
def codes1 : List Jvm.Cond := [Jvm.Cond.code x code maxLocals ret, Jvm.Cond.code ({ cls := "java/lang/String", name := "<init>", desc := "([C)V" } : Jvm.MethodName) jdk_42_method_3_code (2 : Nat) (Option.none : Option Jvm.ClassFile.FieldType), Jvm.Cond.code ({ cls := "java/lang/String", name := "<init>", desc := "([CIILjava/lang/Void;)V" } : Jvm.MethodName) jdk_42_method_149_code (6 : Nat) (Option.none : Option Jvm.ClassFile.FieldType), Jvm.Cond.code ({ cls := "java/lang/Object", name := "<init>", desc := "()V" } : Jvm.MethodName) object_method_1_code (1 : Nat) (Option.none : Option Jvm.ClassFile.FieldType), Jvm.Cond.code ({ cls := "java/lang/StringUTF16", name := "compress", desc := "([CII)[B" } : Jvm.MethodName) jdk_52_method_16_code (6 : Nat) (Option.some (Jvm.ClassFile.FieldType.array Jvm.ClassFile.FieldType.byte)), Jvm.Cond.code ({ cls := "java/lang/StringUTF16", name := "compress", desc := "([CI[BII)I" } : Jvm.MethodName) jdk_52_method_21_code (7 : Nat) (Option.some Jvm.ClassFile.FieldType.int), Jvm.Cond.code ({ cls := "java/lang/StringUTF16", name := "coderFromArrayLen", desc := "([BI)B" } : Jvm.MethodName) jdk_52_method_15_code (2 : Nat) (Option.some Jvm.ClassFile.FieldType.byte), Jvm.Cond.code ({ cls := "com/example/aurel/aurel/lifecycle/ExistingSubscribers", name := "fromCode", desc := "(Ljava/lang/String;)Lcom/example/aurel/aurel/lifecycle/ExistingSubscribers;" } : Jvm.MethodName) prog_16_method_4_code (5 : Nat) (Option.some (Jvm.ClassFile.FieldType.object "com/example/aurel/aurel/lifecycle/ExistingSubscribers")), Jvm.Cond.code ({ cls := "com/example/aurel/aurel/lifecycle/ExistingSubscribers", name := "values", desc := "()[Lcom/example/aurel/aurel/lifecycle/ExistingSubscribers;" } : Jvm.MethodName) prog_16_method_1_code (0 : Nat) (Option.some (Jvm.ClassFile.FieldType.array (Jvm.ClassFile.FieldType.object "com/example/aurel/aurel/lifecycle/ExistingSubscribers"))), Jvm.Cond.code ({ cls := "java/lang/String", name := "equals", desc := "(Ljava/lang/Object;)Z" } : Jvm.MethodName) jdk_42_method_66_code (3 : Nat) (Option.some Jvm.ClassFile.FieldType.boolean), Jvm.Cond.code ({ cls := "java/lang/StringLatin1", name := "equals", desc := "([B[B)Z" } : Jvm.MethodName) jdk_43_method_13_code (3 : Nat) (Option.some Jvm.ClassFile.FieldType.boolean), Jvm.Cond.code ({ cls := "com/example/aurel/aurel/lifecycle/ExistingSubscribers", name := "code", desc := "()Ljava/lang/String;" } : Jvm.MethodName) prog_16_method_5_code (1 : Nat) (Option.some (Jvm.ClassFile.FieldType.object "java/lang/String"))]
set_option maxRecDepth 65536 in
theorem codes_eq : words1.filter isCode = codes1 := rfl
theorem w_codes : ∀ c ∈ words1.filter isCode, c.before args0 about1 = true := by
  rw [codes_eq]
  intro c hc
  simp only [codes1, List.mem_cons, List.not_mem_nil, or_false] at hc
  rcases hc with rfl | rfl | rfl | rfl | rfl | rfl | rfl | rfl | rfl | rfl | rfl | rfl
  · exact w_c0
  · exact w_c1
  · exact w_c2
  · exact w_c3
  · exact w_c4
  · exact w_c5
  · exact w_c6
  · exact w_c7
  · exact w_c8
  · exact w_c9
  · exact w_c10
  · exact w_c11
set_option maxRecDepth 65536 in
theorem w_t1 : (words1.take 24).all (fun c => isCode c || c.before args0 about1) = true := by decide +kernel
set_option maxRecDepth 65536 in
theorem w_t2 : ((words1.drop 24).take 24).all (fun c => isCode c || c.before args0 about1) = true := by decide +kernel
set_option maxRecDepth 65536 in
theorem w_t3 : ((words1.drop 24).drop 24).all (fun c => isCode c || c.before args0 about1) = true := by decide +kernel
theorem w_tables : (allAtoms (Jvm.Cond.code x code maxLocals ret :: tables_1)).before args0 about1 = true := by
  rw [allAtoms_all]
  show words1.all (fun c => c.before args0 about1) = true
  refine all_split ?_ w_codes
  rw [← List.take_append_drop 24 words1, List.all_append, w_t1, ← List.take_append_drop 24 (words1.drop 24), List.all_append, w_t2, w_t3]
  rfl
set_option maxRecDepth 65536 in
theorem w_rest : rest_1_c.before args0 about1 = true := by decide +kernel
set_option maxRecDepth 65536 in
theorem w_case : (Jvm.Cond.and given_1 narrow_1).before args0 about1 = true := by decide +kernel
theorem w_applies : (headSpec (Jvm.Cond.code x code maxLocals ret :: tables_1) room_1).applies x e0.platform about1 = true :=
  (Spec.applies_iff w_frames).mpr ⟨w_running, w_runnable, w_alone, w_named, w_hears, w_ripe, w_room, w_tables⟩
theorem atStart : AtStart classFile x code maxLocals ret World_1 tables_1 room_1 Calls_1 rest_1 Pre_1 launch0 p0 e0 about1 theMethod args0 below0 :=
  ⟨lists_1, trivial, launch0.admits_env _ _ _, launch0.least_env, fairChoices_fair.cas, fairChoices_fair.clock, w_frames, w_args, w_heap, w_applies, trivial, w_rest, w_case⟩
end start1
theorem witness_1 : WitnessClaimed_1 := ⟨start1.p0, start1.e0, start1.about1, start1.theMethod, start1.args0, start1.below0, start1.atStart⟩
end Jvm.Pilot.@@N@@
