import JvmDerived
import JvmDerived.Pilot.@@N@@Statement
import JvmDerived.Pilot.@@N@@Code
set_option linter.unusedVariables false
set_option linter.unusedSimpArgs false
namespace Jvm.RoadKit
open Sem ClassFile Op Lib Jvm.Stand Jvm.Free Jvm.LawKit
section Own
variable {p : Program} {l : Launch} {e : Env} {R : Room} {s : State} {m : MethodId} {args : Array Value} {below : List Frame} {meth : Method} {c : Code} {T A B : State} {locs : List Loc} {cells slots K N : Nat} {P : State → Outcome → Prop} {Q : Option Value → Heap → List Loc → Prop}
/-- the run that stands at A comes to an end of which P holds -/
def Go (p : Program) (e : Env) (below : List Frame) (P : State → Outcome → Prop) (A : State) : Prop := ∃ s₂ o, Steps p.tables e below A s₂ ∧ s₂.status = .running ∧ Ended s₂ below o ∧ P s₂ o
def PostW (s : State) (K N : Nat) (Q : Option Value → Heap → List Loc → Prop) : State → Outcome → Prop := fun s₂ o => ∃ v L, o = .returned v ∧ Q v s₂.heap L ∧ FrameEnd s o s₂ L K N
theorem Go.by (h : ∀ t, Steps p.tables e below B t → Steps p.tables e below A t) (k : Go p e below P B) : Go p e below P A := by
  obtain ⟨s₂, o, h1, h2⟩ := k
  exact ⟨s₂, o, h _ h1, h2⟩
theorem Go.to (h : Steps p.tables e below A B) (k : Go p e below P B) : Go p e below P A := Go.by (fun _ q => h.trans q) k
theorem Go.cast {g g' : JFrame} (q : g = g') (k : Go p e below P (T.setTop g')) : Go p e below P (T.setTop g) := q ▸ k
theorem Go.ret (X : Stand p l e R s m args below meth c T locs cells slots) (hx : p.tables.exec = Jvm.exec) (hlk : meth.locks = false) {pc : Nat} {Ls : Array Slot} {w : Value} {t : FieldType} {i : Instr} {rest : List Value} (hret : meth.sig.returnType = some t) (hn : narrow t w = w)
    (hi : (i = .ireturn ∧ (t = .int ∨ t = .boolean ∨ t = .byte ∨ t = .char ∨ t = .short) ∧ ∃ z, w = .int z) ∨ (i = .lreturn ∧ t = .long ∧ ∃ z, w = .long z) ∨ (i = .dreturn ∧ t = .double ∧ ∃ z, w = .double z) ∨ (i = .freturn ∧ t = .float ∧ ∃ z, w = .float z) ∨ (i = .areturn ∧ t.isReference = true ∧ w.isRef = true))
    (hd : decode c.code pc = .ok (i, 1)) (hc : cells ≤ K) (hs : slots ≤ N) (hQ : Q (some w) T.heap locs) : Go p e below (PostW s K N Q) (T.setTop (mkF m pc Ls (w :: rest))) := by
  obtain ⟨fs, hr, hrun, hended, hW, hsame⟩ := X.leave (v := some w) (fun h => by rw [hret] at h; cases h) hlk
  exact ⟨_, _, retOut X hx hret hn hi hd hr, hrun, hended, _, _, rfl, hQ, ⟨_, rfl⟩, hW, hsame.mono hc hs⟩
theorem Go.retZ (X : Stand p l e R s m args below meth c T locs cells slots) (hx : p.tables.exec = Jvm.exec) (hlk : meth.locks = false) {pc : Nat} {Ls : Array Slot} {z : Int32} {t : FieldType} {rest : List Value} (hret : meth.sig.returnType = some t) (ht : t = .boolean ∨ t = .byte ∨ t = .char ∨ t = .short)
    (hd : decode c.code pc = .ok (.ireturn, 1)) (hc : cells ≤ K) (hs : slots ≤ N) (hQ : Q (some (.int (nar t z))) T.heap locs) : Go p e below (PostW s K N Q) (T.setTop (mkF m pc Ls (.int z :: rest))) := by
  obtain ⟨fs, hr, hrun, hended, hW, hsame⟩ := X.leave (v := some (.int (nar t z))) (fun h => by rw [hret] at h; cases h) hlk
  exact ⟨_, _, retN X hx hret ht hd hr, hrun, hended, _, _, rfl, hQ, ⟨_, rfl⟩, hW, hsame.mono hc hs⟩
theorem own_cat {w : Value} (h : w.isRef = true) : w.category = 1 := by cases w <;> first | rfl | (simp [Value.isRef] at h)
theorem own_narR {w : Value} {t : FieldType} (h : w.isRef = true) (ht : t.isReference = true) : narrow t w = w := by cases t <;> first | (cases ht; done) | (cases w <;> first | rfl | (simp [Value.isRef] at h))
theorem own_fitR {w : Value} {t : FieldType} (h : w.isRef = true) (ht : t.isReference = true) : fits t w = true := by cases t <;> first | (cases ht; done) | (cases w <;> first | rfl | (simp [Value.isRef] at h))
theorem Go.retV (X : Stand p l e R s m args below meth c T locs cells slots) (hx : p.tables.exec = Jvm.exec) (hlk : meth.locks = false) {pc : Nat} {Ls : Array Slot} (hret : meth.sig.returnType = none)
    (hd : decode c.code pc = .ok (.return_, 1)) (hc : cells ≤ K) (hs : slots ≤ N) (hQ : Q none T.heap locs) : Go p e below (PostW s K N Q) (T.setTop (mkF m pc Ls [])) := by
  obtain ⟨fs, hr, hrun, hended, hW, hsame⟩ := X.leave (v := none) (fun _ => rfl) hlk
  exact ⟨_, _, X.returnOut hx hret hd hr, hrun, hended, _, _, rfl, hQ, ⟨_, rfl⟩, hW, hsame.mono hc hs⟩
theorem wd {L : List Cond} {a0 : Array Value} {Z : State} (hw : ∀ d ∈ L, d.before a0 Z = true) (i : Nat) {d : Cond} (h : L[i]? = some d) : d.before a0 Z = true := hw d (List.mem_of_getElem? h)
/-- a callee's contract, as the walks here say it -/
abbrev Met (l : Launch) (Z : State) (y : MethodName) (bytes : ByteArray) (maxL : Nat) (ret : Option FieldType) (ws : List Cond) (rm : Room) (as' : Array Value) (h0 : Heap) (Q : Option Value → Heap → List Loc → Prop) : Prop :=
  MetFree l y (head1 (Cond.code y bytes maxL ret :: ws) rm) (fun a U => a = as' ∧ Z.Warmed39 U.vm ∧ U.heap = h0) (fun _ _ _ _ _ => True) (fun _ U o U' => ∃ v L, o = .returned v ∧ Q v U'.heap L ∧ FrameEnd U o U' L rm.cells rm.slots)
theorem Met.enter {Z : State} {y : MethodName} {bytes : ByteArray} {maxL : Nat} {ret : Option FieldType} {ws : List Cond} {rm : Room} {as' : Array Value} {h0 : Heap} {f0 : MethodId → JFrame} (hpl : plainFor y = true) (hf0 : ∀ m, entryFrame m as' maxL = f0 m)
    (body : ∀ (p : Program) (e : Env) (s : State) (m : MethodId) (below : List Frame) (meth : Method) (c : Code) (s₁ : State), p.tables.exec = Jvm.exec → c.code = bytes → c.maxLocals = maxL → s.vm.findClass y.cls = some m.cls → meth.name = y.name → meth.sig.returnType = ret → meth.locks = false → Z.Warmed39 s.vm → Stand p l e rm s m as' below meth c s₁ [] 0 0 → s₁.heap = h0 → Go p e below (PostW s rm.cells rm.slots Q) (s₁.setTop (f0 m))) : Met l Z y bytes maxL ret ws rm as' h0 Q := by
  refine MetFree.of_bodySF hpl hisR ?_
  intro p e s m args below meth c s₁ Bd hml0 hP hK
  obtain ⟨rfl, hZ, hh⟩ := hP
  have q := body p e s m below meth c s₁ Bd.exec Bd.bytes hml0 (findClass_of_methodNamed Bd.named) (name_of_methodNamed Bd.named Bd.method).1 Bd.returns Bd.notSynchronized hZ (Stand.of_body Bd) (by rw [← hh, Bd.state]; rfl)
  rw [← hf0] at q
  exact q
end Own
end Jvm.RoadKit
namespace Jvm.Pilot.@@N@@
open Jvm Jvm.ClassFile Sem Op Lib Jvm.Free Jvm.Stand Jvm.LawKit Jvm.RoadKit Bundle Jvm.Pilot.@@N@@.Jvm.D
theorem own_eqk {args : Array Value} {first s : State} {o : Option Outcome} {idx : List Nat} {t : Term} {k : Int32} (h : (Jvm.Cond.eq t (Term.int k)).value args first o s idx = some true) : t.eval args first o idx s = some (.int k) := by
  obtain ⟨x, y, ex, ey, -, k2⟩ := cmp_v (Or.inl h)
  have e2 : y = .int k := Option.some.inj (ey.symm.trans (Term.int_eval k))
  subst e2
  obtain ⟨z, rfl⟩ := k2
  have := gotT (Cond.eq_ints ex (Term.int_eval k)) h
  rw [ex, this]

theorem own_ch (x : Int32) : ¬ (255 : Int32) < (x &&& (255 : Int32)).toUInt32.toUInt16.toUInt32.toInt32 := by
  rw [i2c_mask]
  have q := c_mask x 255 8 (by decide) (by decide)
  have z : (255 : Int32).toInt = 255 := by decide
  rw [Int32.lt_iff_toInt_lt, z]
  omega
theorem own_ch0 (x : Int32) : ¬ (x &&& (255 : Int32)).toUInt32.toUInt16.toUInt32.toInt32 < (0 : Int32) := by
  rw [i2c_mask]
  have q := c_mask x 255 8 (by decide) (by decide)
  have z : (0 : Int32).toInt = 0 := by decide
  rw [Int32.lt_iff_toInt_lt, z]
  omega
theorem own_nar (x : Int32) : nar .char ((x &&& (255 : Int32)).toUInt32.toUInt16.toUInt32.toInt32) = (x &&& (255 : Int32)) := by
  show ((x &&& (255 : Int32)).toUInt32.toUInt16.toUInt32.toInt32).toUInt32.toUInt16.toUInt32.toInt32 = _
  rw [i2c_mask, i2c_mask]
theorem own_chn (x : Int32) : ¬ (255 : Int32) < nar .char ((x &&& (255 : Int32)).toUInt32.toUInt16.toUInt32.toInt32) := by
  rw [own_nar]
  have q := c_mask x 255 8 (by decide) (by decide)
  have z : (255 : Int32).toInt = 255 := by decide
  rw [Int32.lt_iff_toInt_lt, z]
  omega

theorem own_pos (x : Int32) : ¬ (x &&& (2147483647 : Int32)) < (0 : Int32) := by
  have q := c_mask x 2147483647 31 (by decide) (by decide)
  have z : (0 : Int32).toInt = 0 := by decide
  rw [Int32.lt_iff_toInt_lt, z]
  omega

theorem ef_rm_Record_init (m : MethodId) (x0 : Addr) : entryFrame m #[(.ref x0)] 1 = mkF m 0 #[.val (.ref x0)] [] := by first | (simp [entryFrame, mkF, argsToLocals, Value.category]; done) | rfl
theorem d8_0 : decode jdk_30_method_1_code 0 = .ok (.aload_n 0, 1) := by decide +kernel
theorem d8_1 : decode jdk_30_method_1_code 1 = .ok (.invokespecial 1, 3) := by decide +kernel
theorem d8_4 : decode jdk_30_method_1_code 4 = .ok (.return_, 1) := by decide +kernel
theorem pn_java_lang_Record : plainName "java/lang/Record" = true := by first | (simp [plainName, overriddenIn]; done) | decide +kernel
def Q_rm_Record_init (Z : State) (a1 : Addr) (h0 : Heap) (n0 : Nat) (v : Option Value) (h : Heap) (L : List Loc) : Prop := v = none ∧ Fr n0 L ∧ h = h0
set_option maxRecDepth 65536 in
set_option maxHeartbeats 40000000 in
theorem rm_Record_init (l : Launch) (Z : State) (a0 : Array Value) (hw : ∀ d ∈ tables_1, d.before a0 Z = true) (ws : List Jvm.Cond) (a1 : Addr) (h0 : Heap) (n0 : Nat) (Z0 : n0 ≤ h0.size) :
    Met l Z (⟨"java/lang/Record", "<init>", "()V"⟩ : MethodName) jdk_30_method_1_code 1 none ws ({ frames := 1, cells := 0, slots := 0, locals := 12 } : Room) #[(.ref a1)] h0 (Q_rm_Record_init Z a1 h0 n0) := by
  refine Met.enter (f0 := fun m => mkF m 0 #[.val (.ref a1)] []) (plainFor_of_name pn_java_lang_Record) (fun m => ef_rm_Record_init m a1) ?_
  intro p e s m below meth c s₁ hx hby hml hown hnm hret hlk hZ X0 e0
  have hown : s.vm.findClass "java/lang/Record" = some m.cls := hown
  have hnm : meth.name = "<init>" := hnm
  have hml : c.maxLocals = 1 := hml
  have hby : c.code = jdk_30_method_1_code := hby
  have N0 := Fr.nil n0
  refine Go.by (B := (s₁.setTop (mkF m 1 #[.val (.ref a1)] [(.ref a1)]))) (fun _ k => XS.aloadN X0.here hx rfl (hb hby d8_0) rfl rfl k) ?_
  obtain ⟨T1, X1, e1, st1⟩ := initO X0 hx hZ hown (wd hw 42 rfl) (wd hw 12 rfl) (wd hw 13 rfl) e0 (g := (mkF m 1 #[.val (.ref a1)] [(.ref a1)])) rfl (by rw [hml]; rfl) rfl (hb hby d8_1) (by decide) (W := 0) (by show 2 * 0 + _ ≤ _; exact Nat.le_of_eq rfl) (by decide)
  refine Go.by (B := (T1.setTop (mkF m 4 #[.val (.ref a1)] []))) st1 ?_
  refine Go.retV X1 hx hlk hret (hb hby d8_4) (by decide) (by decide) ?_
  rw [e1]
  exact ⟨rfl, N0, rfl⟩
theorem ef_rm_cmp5_2 (m : MethodId) (x0 : Addr) (x2 : Addr) : entryFrame m #[(.ref x0), (.int 0), (.ref x2), (.int 0), (.int 2)] 7 = mkF m 0 #[.val (.ref x0), .val (.int 0), .val (.ref x2), .val (.int 0), .val (.int 2), .unset, .unset] [] := by first | (simp [entryFrame, mkF, argsToLocals, Value.category]; done) | rfl
theorem d5_0 : decode jdk_52_method_21_code 0 = .ok (.iconst 0, 1) := by decide +kernel
theorem d5_1 : decode jdk_52_method_21_code 1 = .ok (.istore 5, 2) := by decide +kernel
theorem d5_3 : decode jdk_52_method_21_code 3 = .ok (.iload 5, 2) := by decide +kernel
theorem d5_5 : decode jdk_52_method_21_code 5 = .ok (.iload 4, 2) := by decide +kernel
theorem d5_7 : decode jdk_52_method_21_code 7 = .ok (.if_icmp .ge 37, 3) := by decide +kernel
theorem d5_10 : decode jdk_52_method_21_code 10 = .ok (.aload_n 0, 1) := by decide +kernel
theorem d5_11 : decode jdk_52_method_21_code 11 = .ok (.iload_n 1, 1) := by decide +kernel
theorem d5_12 : decode jdk_52_method_21_code 12 = .ok (.caload, 1) := by decide +kernel
theorem d5_13 : decode jdk_52_method_21_code 13 = .ok (.istore 6, 2) := by decide +kernel
theorem d5_15 : decode jdk_52_method_21_code 15 = .ok (.iload 6, 2) := by decide +kernel
theorem d5_17 : decode jdk_52_method_21_code 17 = .ok (.sipush 255, 3) := by decide +kernel
theorem d5_20 : decode jdk_52_method_21_code 20 = .ok (.if_icmp .le 6, 3) := by decide +kernel
theorem d5_26 : decode jdk_52_method_21_code 26 = .ok (.aload_n 2, 1) := by decide +kernel
theorem d5_27 : decode jdk_52_method_21_code 27 = .ok (.iload_n 3, 1) := by decide +kernel
theorem d5_28 : decode jdk_52_method_21_code 28 = .ok (.iload 6, 2) := by decide +kernel
theorem d5_30 : decode jdk_52_method_21_code 30 = .ok (.i2b, 1) := by decide +kernel
theorem d5_31 : decode jdk_52_method_21_code 31 = .ok (.bastore, 1) := by decide +kernel
theorem d5_32 : decode jdk_52_method_21_code 32 = .ok (.iinc 1 1, 3) := by decide +kernel
theorem d5_35 : decode jdk_52_method_21_code 35 = .ok (.iinc 3 1, 3) := by decide +kernel
theorem d5_38 : decode jdk_52_method_21_code 38 = .ok (.iinc 5 1, 3) := by decide +kernel
theorem d5_41 : decode jdk_52_method_21_code 41 = .ok (.goto (-38), 3) := by decide +kernel
theorem d5_44 : decode jdk_52_method_21_code 44 = .ok (.iload 4, 2) := by decide +kernel
theorem d5_46 : decode jdk_52_method_21_code 46 = .ok (.ireturn, 1) := by decide +kernel
theorem pn_java_lang_StringUTF16 : plainName "java/lang/StringUTF16" = true := by first | (simp [plainName, overriddenIn]; done) | decide +kernel
def Q_rm_cmp5_2 (Z : State) (a1 : Addr) (b1 : Addr) (ka : ClassId) (kb : ClassId) (c0 : Int32) (c1 : Int32) (h0 : Heap) (n0 : Nat) (v : Option Value) (h : Heap) (L : List Loc) : Prop := v = some (.int 2) ∧ Fr n0 L ∧ Keep h0 h [b1] ∧ Arv Z h b1 kb .byte (2 : Int32) [(.int (nar .byte (c0.toInt8.toInt32))), (.int (nar .byte (c1.toInt8.toInt32)))] (.int 0)
set_option maxRecDepth 65536 in
set_option maxHeartbeats 40000000 in
theorem rm_cmp5_2 (l : Launch) (Z : State) (a0 : Array Value) (hw : ∀ d ∈ tables_1, d.before a0 Z = true) (ws : List Jvm.Cond) (a1 : Addr) (b1 : Addr) (ka : ClassId) (kb : ClassId) (c0 : Int32) (c1 : Int32) (h0 : Heap) (n0 : Nat) (Z0 : n0 ≤ h0.size) (pr0 : Old Z n0 h0) (pr1 : Arv Z h0 a1 ka .char (2 : Int32) [(.int c0), (.int c1)] (.int 0)) (pr2 : Arv Z h0 b1 kb .byte (2 : Int32) [(.int 0), (.int 0)] (.int 0)) (pr3 : n0 ≤ b1) (pr4 : a1 ≠ b1) (hc0 : ¬ ((255 : Int32) < c0)) (hc1 : ¬ ((255 : Int32) < c1)) :
    Met l Z (⟨"java/lang/StringUTF16", "compress", "([CI[BII)I"⟩ : MethodName) jdk_52_method_21_code 7 (some .int) ws ({ frames := 0, cells := 0, slots := 0, locals := 0 } : Room) #[(.ref a1), (.int 0), (.ref b1), (.int 0), (.int 2)] h0 (Q_rm_cmp5_2 Z a1 b1 ka kb c0 c1 h0 n0) := by
  refine Met.enter (f0 := fun m => mkF m 0 #[.val (.ref a1), .val (.int 0), .val (.ref b1), .val (.int 0), .val (.int 2), .unset, .unset] []) (plainFor_of_name pn_java_lang_StringUTF16) (fun m => ef_rm_cmp5_2 m a1 b1) ?_
  intro p e s m below meth c s₁ hx hby hml hown hnm hret hlk hZ X0 e0
  have hown : s.vm.findClass "java/lang/StringUTF16" = some m.cls := hown
  have hnm : meth.name = "compress" := hnm
  have hml : c.maxLocals = 7 := hml
  have hby : c.code = jdk_52_method_21_code := hby
  have N0 := Fr.nil n0
  refine Go.by (B := (s₁.setTop (mkF m 12 #[.val (.ref a1), .val (.int 0), .val (.ref b1), .val (.int 0), .val (.int 2), .val (.int 0), .unset] [(.int 0), (.ref a1)]))) (fun _ k => XS.iconst X0.here hx rfl (hb hby d5_0) (XS.istore X0.here hx rfl (hb hby d5_1) rfl (l' := #[.val (.ref a1), .val (.int 0), .val (.ref b1), .val (.int 0), .val (.int 2), .val (.int 0), .unset]) rfl (XS.iload X0.here hx rfl (hb hby d5_3) rfl (XS.iload X0.here hx rfl (hb hby d5_5) rfl (XS.icmpNo X0.here hx rfl (hb hby d5_7) rfl (tlt (by decide : (0 : Int32) < (2 : Int32))).2.1 (XS.aloadN X0.here hx rfl (hb hby d5_10) rfl rfl (XS.iloadN X0.here hx rfl (hb hby d5_11) rfl k))))))) ?_
  obtain ⟨cl2, Ar2, q2, S2, N_2, Hs2, G2⟩ := id pr1
  have hin3 : ¬ ((0 : Int32) < 0 ∨ cl2.slots.size ≤ ((0 : Int32)).toNatClampNeg) := inb_of S2 ⟨by decide, by decide⟩
  have hat3 : cl2.slots[((0 : Int32)).toNatClampNeg]? = some (.int c0) := Hs2.at hin3 rfl
  refine Go.by (B := (s₁.setTop (mkF m 13 #[.val (.ref a1), .val (.int 0), .val (.ref b1), .val (.int 0), .val (.int 2), .val (.int 0), .unset] [(.int c0)]))) (fun _ k => X0.caload hx (j := (0 : Int32)) (v := (.int c0)) (by rw [e0]; exact Ar2.1) (State.isArrayOf_alike hZ.alike Ar2.2.1) Ar2.2.2 hin3 hat3 (g := (mkF m 12 #[.val (.ref a1), .val (.int 0), .val (.ref b1), .val (.int 0), .val (.int 2), .val (.int 0), .unset] [(.int 0), (.ref a1)])) rfl rfl (hb hby d5_12) _ k) ?_
  refine Go.by (B := (s₁.setTop (mkF m 31 #[.val (.ref a1), .val (.int 0), .val (.ref b1), .val (.int 0), .val (.int 2), .val (.int 0), .val (.int c0)] [(.int (c0.toInt8.toInt32)), (.int 0), (.ref b1)]))) (fun _ k => XS.istore X0.here hx rfl (hb hby d5_13) rfl (l' := #[.val (.ref a1), .val (.int 0), .val (.ref b1), .val (.int 0), .val (.int 2), .val (.int 0), .val (.int c0)]) rfl (XS.iload X0.here hx rfl (hb hby d5_15) rfl (XS.sipush X0.here hx rfl (hb hby d5_17) (XS.icmpYes X0.here hx rfl (pc0 := 20) (pc' := 26) rfl (hb hby d5_20) rfl (flt hc0).2.2.2 (by decide) (by decide) (XS.aloadN X0.here hx rfl (hb hby d5_26) rfl rfl (XS.iloadN X0.here hx rfl (hb hby d5_27) rfl (XS.iload X0.here hx rfl (hb hby d5_28) rfl (XS.i2b X0.here hx rfl (hb hby d5_30) rfl k)))))))) ?_
  obtain ⟨cl4, Ar4, q4, S4, N_4, Hs4, G4⟩ := id pr2
  have hin5 : ¬ ((0 : Int32) < 0 ∨ cl4.slots.size ≤ ((0 : Int32)).toNatClampNeg) := inb_of S4 ⟨by decide, by decide⟩
  obtain ⟨T5, h5, X5, e5, W5, st5⟩ := stB X0 hx hZ e0 Ar4 (j := (0 : Int32)) hin5 (g := (mkF m 31 #[.val (.ref a1), .val (.int 0), .val (.ref b1), .val (.int 0), .val (.int 2), .val (.int 0), .val (.int c0)] [(.int (c0.toInt8.toInt32)), (.int 0), (.ref b1)])) rfl rfl (hb hby d5_31)
  have O6 := pr0.wr W5 pr3
  have Z6 : n0 ≤ h5.size := Nat.le_trans Z0 (Keep.of_wr W5).1
  have V5 : Arv Z h5 b1 kb .byte (2 : Int32) [(.int (nar .byte (c0.toInt8.toInt32))), (.int 0)] (.int 0) := Arv.set Ar4 q4 S4 N_4 Hs4 G4 (fits_nar_byte _) W5 0 rfl (Nat.le_of_ble_eq_true rfl)
  have N5 := Fr.snoc X5 N0 pr3
  refine Go.by (B := (T5.setTop (mkF m 32 #[.val (.ref a1), .val (.int 0), .val (.ref b1), .val (.int 0), .val (.int 2), .val (.int 0), .val (.int c0)] []))) st5 ?_
  refine Go.by (B := (T5.setTop (mkF m 11 #[.val (.ref a1), .val (.int 1), .val (.ref b1), .val (.int 1), .val (.int 2), .val (.int 1), .val (.int c0)] [(.ref a1)]))) (fun _ k => XS.iinc X5.here hx rfl (hb hby d5_32) rfl (l' := #[.val (.ref a1), .val (.int 1), .val (.ref b1), .val (.int 0), .val (.int 2), .val (.int 0), .val (.int c0)]) rfl (XS.iinc X5.here hx rfl (hb hby d5_35) rfl (l' := #[.val (.ref a1), .val (.int 1), .val (.ref b1), .val (.int 1), .val (.int 2), .val (.int 0), .val (.int c0)]) rfl (XS.iinc X5.here hx rfl (hb hby d5_38) rfl (l' := #[.val (.ref a1), .val (.int 1), .val (.ref b1), .val (.int 1), .val (.int 2), .val (.int 1), .val (.int c0)]) rfl (XS.goto X5.here hx rfl (pc0 := 41) (pc' := 3) rfl (hb hby d5_41) (by decide) (by decide) (XS.iload X5.here hx rfl (hb hby d5_3) rfl (XS.iload X5.here hx rfl (hb hby d5_5) rfl (XS.icmpNo X5.here hx rfl (hb hby d5_7) rfl (tlt (by decide : (1 : Int32) < (2 : Int32))).2.1 (XS.aloadN X5.here hx rfl (hb hby d5_10) rfl rfl k)))))))) ?_
  refine Go.by (B := (T5.setTop (mkF m 12 #[.val (.ref a1), .val (.int 1), .val (.ref b1), .val (.int 1), .val (.int 2), .val (.int 1), .val (.int c0)] [(.int 1), (.ref a1)]))) (fun _ k => XS.iloadN X5.here hx rfl (hb hby d5_11) rfl k) ?_
  obtain ⟨cl7, Ar7, q7, S7, N_7, Hs7, G7⟩ := id (pr1.other W5 pr4)
  have hin8 : ¬ ((1 : Int32) < 0 ∨ cl7.slots.size ≤ ((1 : Int32)).toNatClampNeg) := inb_of S7 ⟨by decide, by decide⟩
  have hat8 : cl7.slots[((1 : Int32)).toNatClampNeg]? = some (.int c1) := Hs7.at hin8 rfl
  refine Go.by (B := (T5.setTop (mkF m 13 #[.val (.ref a1), .val (.int 1), .val (.ref b1), .val (.int 1), .val (.int 2), .val (.int 1), .val (.int c0)] [(.int c1)]))) (fun _ k => X5.caload hx (j := (1 : Int32)) (v := (.int c1)) (by rw [e5]; exact Ar7.1) (State.isArrayOf_alike hZ.alike Ar7.2.1) Ar7.2.2 hin8 hat8 (g := (mkF m 12 #[.val (.ref a1), .val (.int 1), .val (.ref b1), .val (.int 1), .val (.int 2), .val (.int 1), .val (.int c0)] [(.int 1), (.ref a1)])) rfl rfl (hb hby d5_12) _ k) ?_
  refine Go.by (B := (T5.setTop (mkF m 31 #[.val (.ref a1), .val (.int 1), .val (.ref b1), .val (.int 1), .val (.int 2), .val (.int 1), .val (.int c1)] [(.int (c1.toInt8.toInt32)), (.int 1), (.ref b1)]))) (fun _ k => XS.istore X5.here hx rfl (hb hby d5_13) rfl (l' := #[.val (.ref a1), .val (.int 1), .val (.ref b1), .val (.int 1), .val (.int 2), .val (.int 1), .val (.int c1)]) rfl (XS.iload X5.here hx rfl (hb hby d5_15) rfl (XS.sipush X5.here hx rfl (hb hby d5_17) (XS.icmpYes X5.here hx rfl (pc0 := 20) (pc' := 26) rfl (hb hby d5_20) rfl (flt hc1).2.2.2 (by decide) (by decide) (XS.aloadN X5.here hx rfl (hb hby d5_26) rfl rfl (XS.iloadN X5.here hx rfl (hb hby d5_27) rfl (XS.iload X5.here hx rfl (hb hby d5_28) rfl (XS.i2b X5.here hx rfl (hb hby d5_30) rfl k)))))))) ?_
  obtain ⟨cl9, Ar9, q9, S9, N_9, Hs9, G9⟩ := id V5
  have hin10 : ¬ ((1 : Int32) < 0 ∨ cl9.slots.size ≤ ((1 : Int32)).toNatClampNeg) := inb_of S9 ⟨by decide, by decide⟩
  obtain ⟨T10, h10, X10, e10, W10, st10⟩ := stB X5 hx hZ e5 Ar9 (j := (1 : Int32)) hin10 (g := (mkF m 31 #[.val (.ref a1), .val (.int 1), .val (.ref b1), .val (.int 1), .val (.int 2), .val (.int 1), .val (.int c1)] [(.int (c1.toInt8.toInt32)), (.int 1), (.ref b1)])) rfl rfl (hb hby d5_31)
  have O11 := O6.wr W10 pr3
  have Z11 : n0 ≤ h10.size := Nat.le_trans Z6 (Keep.of_wr W10).1
  have V10 : Arv Z h10 b1 kb .byte (2 : Int32) [(.int (nar .byte (c0.toInt8.toInt32))), (.int (nar .byte (c1.toInt8.toInt32)))] (.int 0) := Arv.set Ar9 q9 S9 N_9 Hs9 G9 (fits_nar_byte _) W10 1 rfl (Nat.le_of_ble_eq_true rfl)
  have N10 := Fr.snoc X10 N5 pr3
  refine Go.by (B := (T10.setTop (mkF m 32 #[.val (.ref a1), .val (.int 1), .val (.ref b1), .val (.int 1), .val (.int 2), .val (.int 1), .val (.int c1)] []))) st10 ?_
  refine Go.by (B := (T10.setTop (mkF m 46 #[.val (.ref a1), .val (.int 2), .val (.ref b1), .val (.int 2), .val (.int 2), .val (.int 2), .val (.int c1)] [(.int 2)]))) (fun _ k => XS.iinc X10.here hx rfl (hb hby d5_32) rfl (l' := #[.val (.ref a1), .val (.int 2), .val (.ref b1), .val (.int 1), .val (.int 2), .val (.int 1), .val (.int c1)]) rfl (XS.iinc X10.here hx rfl (hb hby d5_35) rfl (l' := #[.val (.ref a1), .val (.int 2), .val (.ref b1), .val (.int 2), .val (.int 2), .val (.int 1), .val (.int c1)]) rfl (XS.iinc X10.here hx rfl (hb hby d5_38) rfl (l' := #[.val (.ref a1), .val (.int 2), .val (.ref b1), .val (.int 2), .val (.int 2), .val (.int 2), .val (.int c1)]) rfl (XS.goto X10.here hx rfl (pc0 := 41) (pc' := 3) rfl (hb hby d5_41) (by decide) (by decide) (XS.iload X10.here hx rfl (hb hby d5_3) rfl (XS.iload X10.here hx rfl (hb hby d5_5) rfl (XS.icmpYes X10.here hx rfl (pc0 := 7) (pc' := 44) rfl (hb hby d5_7) rfl (flt (by decide : ¬ ((2 : Int32) < (2 : Int32)))).2.1 (by decide) (by decide) (XS.iload X10.here hx rfl (hb hby d5_44) rfl k)))))))) ?_
  refine Go.ret X10 hx hlk (t := .int) hret rfl (Or.inl ⟨rfl, by simp, _, rfl⟩) (hb hby d5_46) (by decide) (by decide) ?_
  rw [e10]
  exact ⟨rfl, N10, (((Keep.refl h0 [b1]).wr W5 (Or.inl (List.mem_of_getElem? (i := 0) rfl))).wr W10 (Or.inl (List.mem_of_getElem? (i := 0) rfl))), V10⟩
theorem ef_rm_cmp3_2 (m : MethodId) (x0 : Addr) : entryFrame m #[(.ref x0), (.int 0), (.int 2)] 6 = mkF m 0 #[.val (.ref x0), .val (.int 0), .val (.int 2), .unset, .unset, .unset] [] := by first | (simp [entryFrame, mkF, argsToLocals, Value.category]; done) | rfl
theorem d4_0 : decode jdk_52_method_16_code 0 = .ok (.iload_n 2, 1) := by decide +kernel
theorem d4_1 : decode jdk_52_method_16_code 1 = .ok (.newarray .byte, 2) := by decide +kernel
theorem d4_3 : decode jdk_52_method_16_code 3 = .ok (.astore_n 3, 1) := by decide +kernel
theorem d4_4 : decode jdk_52_method_16_code 4 = .ok (.aload_n 0, 1) := by decide +kernel
theorem d4_5 : decode jdk_52_method_16_code 5 = .ok (.iload_n 1, 1) := by decide +kernel
theorem d4_6 : decode jdk_52_method_16_code 6 = .ok (.aload_n 3, 1) := by decide +kernel
theorem d4_7 : decode jdk_52_method_16_code 7 = .ok (.iconst 0, 1) := by decide +kernel
theorem d4_8 : decode jdk_52_method_16_code 8 = .ok (.iload_n 2, 1) := by decide +kernel
theorem d4_9 : decode jdk_52_method_16_code 9 = .ok (.invokestatic 115, 3) := by decide +kernel
theorem pd_0 : parseMethodDescriptor "([CI[BII)I" = some ⟨[(.array .char), .int, (.array .byte), .int, .int], some .int⟩ := by decide +kernel
theorem d4_12 : decode jdk_52_method_16_code 12 = .ok (.istore 4, 2) := by decide +kernel
theorem d4_14 : decode jdk_52_method_16_code 14 = .ok (.iload 4, 2) := by decide +kernel
theorem d4_16 : decode jdk_52_method_16_code 16 = .ok (.iload_n 2, 1) := by decide +kernel
theorem d4_17 : decode jdk_52_method_16_code 17 = .ok (.if_icmp .eq 40, 3) := by decide +kernel
theorem d4_57 : decode jdk_52_method_16_code 57 = .ok (.aload_n 3, 1) := by decide +kernel
theorem d4_58 : decode jdk_52_method_16_code 58 = .ok (.areturn, 1) := by decide +kernel
def Q_rm_cmp3_2 (Z : State) (a1 : Addr) (ka : ClassId) (c0 : Int32) (c1 : Int32) (h0 : Heap) (n0 : Nat) (v : Option Value) (h : Heap) (L : List Loc) : Prop := ∃ b : Addr, ∃ k : ClassId, v = some (.ref b) ∧ Fr n0 L ∧ Keep h0 h [] ∧ Arv Z h b k .byte (2 : Int32) [(.int (nar .byte (c0.toInt8.toInt32))), (.int (nar .byte (c1.toInt8.toInt32)))] (.int 0) ∧ h0.size ≤ b
set_option maxRecDepth 65536 in
set_option maxHeartbeats 40000000 in
theorem rm_cmp3_2 (l : Launch) (Z : State) (a0 : Array Value) (hw : ∀ d ∈ tables_1, d.before a0 Z = true) (ws : List Jvm.Cond) (a1 : Addr) (ka : ClassId) (c0 : Int32) (c1 : Int32) (h0 : Heap) (n0 : Nat) (Z0 : n0 ≤ h0.size) (pr0 : Old Z n0 h0) (pr1 : Arv Z h0 a1 ka .char (2 : Int32) [(.int c0), (.int c1)] (.int 0)) (hc0 : ¬ ((255 : Int32) < c0)) (hc1 : ¬ ((255 : Int32) < c1)) :
    Met l Z (⟨"java/lang/StringUTF16", "compress", "([CII)[B"⟩ : MethodName) jdk_52_method_16_code 6 (some (.array .byte)) ws ({ frames := 1, cells := 1, slots := 2, locals := 18 } : Room) #[(.ref a1), (.int 0), (.int 2)] h0 (Q_rm_cmp3_2 Z a1 ka c0 c1 h0 n0) := by
  refine Met.enter (f0 := fun m => mkF m 0 #[.val (.ref a1), .val (.int 0), .val (.int 2), .unset, .unset, .unset] []) (plainFor_of_name pn_java_lang_StringUTF16) (fun m => ef_rm_cmp3_2 m a1) ?_
  intro p e s m below meth c s₁ hx hby hml hown hnm hret hlk hZ X0 e0
  have hown : s.vm.findClass "java/lang/StringUTF16" = some m.cls := hown
  have hnm : meth.name = "compress" := hnm
  have hml : c.maxLocals = 6 := hml
  have hby : c.code = jdk_52_method_16_code := hby
  have N0 := Fr.nil n0
  refine Go.by (B := (s₁.setTop (mkF m 1 #[.val (.ref a1), .val (.int 0), .val (.int 2), .unset, .unset, .unset] [(.int 2)]))) (fun _ k => XS.iloadN X0.here hx rfl (hb hby d4_0) rfl k) ?_
  obtain ⟨T12, h12, k12, X12, e12, E12, A12, st12⟩ := newP X0 hx hZ (wd hw 19 rfl) e0 (g := (mkF m 1 #[.val (.ref a1), .val (.int 0), .val (.int 2), .unset, .unset, .unset] [(.int 2)])) rfl (hb hby d4_1) rfl (by decide) (cap := 2) (by decide) (by decide) (by decide) (by decide)
  obtain ⟨b12, g12⟩ : ∃ z, z = h0.size := ⟨_, rfl⟩
  rw [← g12] at A12 st12
  have sz_b12 : h0.size ≤ b12 := Nat.le_of_eq g12.symm
  have V12 : Arv Z h12 b12 k12 .byte (2 : Int32) [(.int 0), (.int 0)] (.int 0) := (Arv.new A12 (by decide)).pad (pad_rep [] (.int 0) 2)
  have O13 := pr0.ext E12
  have Z13 : n0 ≤ h12.size := Nat.le_trans Z0 E12.1
  refine Go.by (B := (T12.setTop (mkF m 3 #[.val (.ref a1), .val (.int 0), .val (.int 2), .unset, .unset, .unset] [(.ref b12)]))) st12 ?_
  refine Go.by (B := (T12.setTop (mkF m 9 #[.val (.ref a1), .val (.int 0), .val (.int 2), .val (.ref b12), .unset, .unset] [(.int 2), (.int 0), (.ref b12), (.int 0), (.ref a1)]))) (fun _ k => XS.astoreN X12.here hx rfl (hb hby d4_3) rfl rfl (l' := #[.val (.ref a1), .val (.int 0), .val (.int 2), .val (.ref b12), .unset, .unset]) rfl (XS.aloadN X12.here hx rfl (hb hby d4_4) rfl rfl (XS.iloadN X12.here hx rfl (hb hby d4_5) rfl (XS.aloadN X12.here hx rfl (hb hby d4_6) rfl rfl (XS.iconst X12.here hx rfl (hb hby d4_7) (XS.iloadN X12.here hx rfl (hb hby d4_8) rfl k)))))) ?_
  obtain ⟨_, _, ⟨T14, L14, k14, n14⟩, -, X14, ⟨Lc14, hQ14, l14, y14, z14⟩, st14⟩ := Jvm.LawKit.callS X12 hx (y := (⟨"java/lang/StringUTF16", "compress", "([CI[BII)I"⟩ : MethodName)) hown (mvT hZ (wd hw 20 rfl)) (mvT hZ (wd hw 21 rfl)) (mvT hZ (wd hw 17 rfl)) (mvT hZ (wd hw 22 rfl)) (by decide) (backOf (W := 0) (rm_cmp5_2 l Z a0 hw [] a1 b12 ka k12 c0 c1 h12 n0 Z13 O13 (pr1.ext E12) V12 (Nat.le_trans Z0 sz_b12) (Nat.ne_of_lt (Nat.lt_of_lt_of_le pr1.lt sz_b12)) hc0 hc1) hZ (wd hw 22 rfl) (wd hw 17 rfl) (by decide) (by decide)) (g := (mkF m 9 #[.val (.ref a1), .val (.int 0), .val (.int 2), .val (.ref b12), .unset, .unset] [(.int 2), (.int 0), (.ref b12), (.int 0), (.ref a1)])) rfl (by rw [hml]; rfl) (argsL := [(.ref a1), (.int 0), (.ref b12), (.int 0), (.int 2)]) (rest := []) (lenOf pd_0 rfl) rfl (by show 2 * 0 + _ ≤ _; exact Nat.le_of_eq rfl) (hb hby d4_9) (fun _ _ => ⟨rfl, e12, Nat.le_of_ble_eq_true rfl, Nat.le_of_ble_eq_true rfl⟩)
  dsimp only [Pt.U, Pt.locs, Pt.cells, Pt.slots] at X14 l14 y14 z14 st14 hQ14
  subst l14 y14 z14
  obtain ⟨rfl, Nq14, K14, p14_0⟩ := hQ14
  have N14 := Fr.app N0 Nq14
  have O15 := O13.keep K14 (allS (Nat.le_trans Z0 sz_b12) all0)
  have Z15 : n0 ≤ T14.heap.size := Nat.le_trans Z13 K14.1
  refine Go.by (B := (T14.setTop (mkF m 12 #[.val (.ref a1), .val (.int 0), .val (.int 2), .val (.ref b12), .unset, .unset] [(.int 2)]))) (fun _ k => st14 _ k) ?_
  refine Go.by (B := (T14.setTop (mkF m 58 #[.val (.ref a1), .val (.int 0), .val (.int 2), .val (.ref b12), .val (.int 2), .unset] [(.ref b12)]))) (fun _ k => XS.istore X14.here hx rfl (hb hby d4_12) rfl (l' := #[.val (.ref a1), .val (.int 0), .val (.int 2), .val (.ref b12), .val (.int 2), .unset]) rfl (XS.iload X14.here hx rfl (hb hby d4_14) rfl (XS.iloadN X14.here hx rfl (hb hby d4_16) rfl (XS.icmpYes X14.here hx rfl (pc0 := 17) (pc' := 57) rfl (hb hby d4_17) rfl (teq (by decide : (2 : Int32) = (2 : Int32))).1 (by decide) (by decide) (XS.aloadN X14.here hx rfl (hb hby d4_57) rfl rfl k))))) ?_
  refine Go.ret X14 hx hlk (t := (.array .byte)) hret rfl (Or.inr (Or.inr (Or.inr (Or.inr ⟨rfl, rfl, rfl⟩)))) (hb hby d4_58) (by decide) (by decide) ?_
  exact ⟨b12, k12, rfl, N14, (((Keep.refl h0 []).ext E12).trans K14 (allS (Or.inr (Nat.le_trans (Nat.le_refl _) sz_b12)) all0)), p14_0, (Nat.le_trans (Nat.le_refl _) sz_b12)⟩
theorem ef_rm_cfal_2 (m : MethodId) (x0 : Addr) : entryFrame m #[(.ref x0), (.int 2)] 2 = mkF m 0 #[.val (.ref x0), .val (.int 2)] [] := by first | (simp [entryFrame, mkF, argsToLocals, Value.category]; done) | rfl
theorem d6_0 : decode jdk_52_method_15_code 0 = .ok (.iload_n 1, 1) := by decide +kernel
theorem d6_1 : decode jdk_52_method_15_code 1 = .ok (.aload_n 0, 1) := by decide +kernel
theorem d6_2 : decode jdk_52_method_15_code 2 = .ok (.arraylength, 1) := by decide +kernel
theorem d6_3 : decode jdk_52_method_15_code 3 = .ok (.isub, 1) := by decide +kernel
theorem d6_4 : decode jdk_52_method_15_code 4 = .ok (.bipush 31, 2) := by decide +kernel
theorem d6_6 : decode jdk_52_method_15_code 6 = .ok (.iushr, 1) := by decide +kernel
theorem d6_7 : decode jdk_52_method_15_code 7 = .ok (.i2b, 1) := by decide +kernel
theorem d6_8 : decode jdk_52_method_15_code 8 = .ok (.ireturn, 1) := by decide +kernel
def Q_rm_cfal_2 (Z : State) (b1 : Addr) (kb : ClassId) (c0 : Int32) (c1 : Int32) (h0 : Heap) (n0 : Nat) (v : Option Value) (h : Heap) (L : List Loc) : Prop := v = some (.int 0) ∧ Fr n0 L ∧ h = h0
set_option maxRecDepth 65536 in
set_option maxHeartbeats 40000000 in
theorem rm_cfal_2 (l : Launch) (Z : State) (a0 : Array Value) (hw : ∀ d ∈ tables_1, d.before a0 Z = true) (ws : List Jvm.Cond) (b1 : Addr) (kb : ClassId) (c0 : Int32) (c1 : Int32) (h0 : Heap) (n0 : Nat) (Z0 : n0 ≤ h0.size) (pr0 : Arv Z h0 b1 kb .byte (2 : Int32) [(.int (nar .byte (c0.toInt8.toInt32))), (.int (nar .byte (c1.toInt8.toInt32)))] (.int 0)) :
    Met l Z (⟨"java/lang/StringUTF16", "coderFromArrayLen", "([BI)B"⟩ : MethodName) jdk_52_method_15_code 2 (some .byte) ws ({ frames := 0, cells := 0, slots := 0, locals := 0 } : Room) #[(.ref b1), (.int 2)] h0 (Q_rm_cfal_2 Z b1 kb c0 c1 h0 n0) := by
  refine Met.enter (f0 := fun m => mkF m 0 #[.val (.ref b1), .val (.int 2)] []) (plainFor_of_name pn_java_lang_StringUTF16) (fun m => ef_rm_cfal_2 m b1) ?_
  intro p e s m below meth c s₁ hx hby hml hown hnm hret hlk hZ X0 e0
  have hown : s.vm.findClass "java/lang/StringUTF16" = some m.cls := hown
  have hnm : meth.name = "coderFromArrayLen" := hnm
  have hml : c.maxLocals = 2 := hml
  have hby : c.code = jdk_52_method_15_code := hby
  have N0 := Fr.nil n0
  refine Go.by (B := (s₁.setTop (mkF m 2 #[.val (.ref b1), .val (.int 2)] [(.ref b1), (.int 2)]))) (fun _ k => XS.iloadN X0.here hx rfl (hb hby d6_0) rfl (XS.aloadN X0.here hx rfl (hb hby d6_1) rfl rfl k)) ?_
  obtain ⟨cl16, Ar16, q16, S16, N_16, Hs16, G16⟩ := id pr0
  refine Go.by (B := (s₁.setTop (mkF m 3 #[.val (.ref b1), .val (.int 2)] [(.int 2), (.int 2)]))) (fun _ k => X0.arraylength hx (by rw [e0]; exact Ar16.1) (State.isArrayOf_alike hZ.alike Ar16.2.1) (g := (mkF m 2 #[.val (.ref b1), .val (.int 2)] [(.ref b1), (.int 2)])) rfl rfl (hb hby d6_2) _ (by rw [len_of S16 N_16]; exact k)) ?_
  refine Go.by (B := (s₁.setTop (mkF m 8 #[.val (.ref b1), .val (.int 2)] [(.int 0)]))) (fun _ k => XS.isub X0.here hx rfl (hb hby d6_3) rfl (XS.bipush X0.here hx rfl (hb hby d6_4) (XS.iushr X0.here hx rfl (hb hby d6_6) rfl (XS.i2b X0.here hx rfl (hb hby d6_7) rfl k)))) ?_
  refine Go.ret X0 hx hlk (t := .byte) hret rfl (Or.inl ⟨rfl, by simp, _, rfl⟩) (hb hby d6_8) (by decide) (by decide) ?_
  rw [e0]
  exact ⟨rfl, N0, rfl⟩
theorem ef_rm_sV_2 (m : MethodId) (x0 : Addr) (x1 : Addr) : entryFrame m #[(.ref x0), (.ref x1), (.int 0), (.int 2), .null] 6 = mkF m 0 #[.val (.ref x0), .val (.ref x1), .val (.int 0), .val (.int 2), .val .null, .unset] [] := by first | (simp [entryFrame, mkF, argsToLocals, Value.category]; done) | rfl
theorem d2_0 : decode jdk_42_method_149_code 0 = .ok (.aload_n 0, 1) := by decide +kernel
theorem d2_1 : decode jdk_42_method_149_code 1 = .ok (.invokespecial 1, 3) := by decide +kernel
theorem d2_4 : decode jdk_42_method_149_code 4 = .ok (.iload_n 3, 1) := by decide +kernel
theorem d2_5 : decode jdk_42_method_149_code 5 = .ok (.ifCond .ne 22, 3) := by decide +kernel
theorem d2_27 : decode jdk_42_method_149_code 27 = .ok (.getstatic 38, 3) := by decide +kernel
theorem d2_30 : decode jdk_42_method_149_code 30 = .ok (.ifCond .eq 28, 3) := by decide +kernel
theorem d2_33 : decode jdk_42_method_149_code 33 = .ok (.aload_n 1, 1) := by decide +kernel
theorem d2_34 : decode jdk_42_method_149_code 34 = .ok (.iload_n 2, 1) := by decide +kernel
theorem d2_35 : decode jdk_42_method_149_code 35 = .ok (.iload_n 3, 1) := by decide +kernel
theorem d2_36 : decode jdk_42_method_149_code 36 = .ok (.invokestatic 177, 3) := by decide +kernel
theorem pd_1 : parseMethodDescriptor "([CII)[B" = some ⟨[(.array .char), .int, .int], some (.array .byte)⟩ := by decide +kernel
theorem d2_39 : decode jdk_42_method_149_code 39 = .ok (.astore 5, 2) := by decide +kernel
theorem d2_41 : decode jdk_42_method_149_code 41 = .ok (.aload_n 0, 1) := by decide +kernel
theorem d2_42 : decode jdk_42_method_149_code 42 = .ok (.aload 5, 2) := by decide +kernel
theorem d2_44 : decode jdk_42_method_149_code 44 = .ok (.iload_n 3, 1) := by decide +kernel
theorem d2_45 : decode jdk_42_method_149_code 45 = .ok (.invokestatic 47, 3) := by decide +kernel
theorem pd_2 : parseMethodDescriptor "([BI)B" = some ⟨[(.array .byte), .int], some .byte⟩ := by decide +kernel
theorem d2_48 : decode jdk_42_method_149_code 48 = .ok (.putfield 15, 3) := by decide +kernel
theorem d2_51 : decode jdk_42_method_149_code 51 = .ok (.aload_n 0, 1) := by decide +kernel
theorem d2_52 : decode jdk_42_method_149_code 52 = .ok (.aload 5, 2) := by decide +kernel
theorem d2_54 : decode jdk_42_method_149_code 54 = .ok (.putfield 9, 3) := by decide +kernel
theorem d2_57 : decode jdk_42_method_149_code 57 = .ok (.return_, 1) := by decide +kernel
theorem pn_java_lang_String : plainName "java/lang/String" = true := by first | (simp [plainName, overriddenIn]; done) | decide +kernel
def Q_rm_sV_2 (Z : State) (a1 : Addr) (v1 : Addr) (ka : ClassId) (c0 : Int32) (c1 : Int32) (cs : Int32) (h0 : Heap) (n0 : Nat) (v : Option Value) (h : Heap) (L : List Loc) : Prop := ∃ t : Addr, ∃ k : ClassId, v = none ∧ Fr n0 L ∧ Keep h0 h [a1] ∧ Exa Z h a1 "java/lang/String" ∧ Fld Z h a1 "java/lang/String" "value" "[B" (.ref t) ∧ Fld Z h a1 "java/lang/String" "coder" "B" (.int 0) ∧ Arv Z h t k .byte (2 : Int32) [(.int (nar .byte (c0.toInt8.toInt32))), (.int (nar .byte (c1.toInt8.toInt32)))] (.int 0) ∧ h0.size ≤ t
set_option maxRecDepth 65536 in
set_option maxHeartbeats 40000000 in
theorem rm_sV_2 (l : Launch) (Z : State) (a0 : Array Value) (hw : ∀ d ∈ tables_1, d.before a0 Z = true) (ws : List Jvm.Cond) (a1 : Addr) (v1 : Addr) (ka : ClassId) (c0 : Int32) (c1 : Int32) (cs : Int32) (h0 : Heap) (n0 : Nat) (Z0 : n0 ≤ h0.size) (pr0 : Old Z n0 h0) (pr1 : Sta Z Z.heap "java/lang/String" "COMPACT_STRINGS" "Z" (.int cs)) (hcs : ¬ (cs = (0 : Int32))) (pr3 : Exa Z h0 a1 "java/lang/String") (pr4 : Fld Z h0 a1 "java/lang/String" "value" "[B" .null) (pr5 : Fld Z h0 a1 "java/lang/String" "coder" "B" (.int 0)) (pr6 : n0 ≤ a1) (pr7 : Arv Z h0 v1 ka .char (2 : Int32) [(.int c0), (.int c1)] (.int 0)) (hc0 : ¬ ((255 : Int32) < c0)) (hc1 : ¬ ((255 : Int32) < c1)) :
    Met l Z (⟨"java/lang/String", "<init>", "([CIILjava/lang/Void;)V"⟩ : MethodName) jdk_42_method_149_code 6 none ws ({ frames := 2, cells := 1, slots := 2, locals := 35 } : Room) #[(.ref a1), (.ref v1), (.int 0), (.int 2), .null] h0 (Q_rm_sV_2 Z a1 v1 ka c0 c1 cs h0 n0) := by
  refine Met.enter (f0 := fun m => mkF m 0 #[.val (.ref a1), .val (.ref v1), .val (.int 0), .val (.int 2), .val .null, .unset] []) (plainFor_of_name pn_java_lang_String) (fun m => ef_rm_sV_2 m a1 v1) ?_
  intro p e s m below meth c s₁ hx hby hml hown hnm hret hlk hZ X0 e0
  have hown : s.vm.findClass "java/lang/String" = some m.cls := hown
  have hnm : meth.name = "<init>" := hnm
  have hml : c.maxLocals = 6 := hml
  have hby : c.code = jdk_42_method_149_code := hby
  have N0 := Fr.nil n0
  refine Go.by (B := (s₁.setTop (mkF m 1 #[.val (.ref a1), .val (.ref v1), .val (.int 0), .val (.int 2), .val .null, .unset] [(.ref a1)]))) (fun _ k => XS.aloadN X0.here hx rfl (hb hby d2_0) rfl rfl k) ?_
  obtain ⟨T17, X17, e17, st17⟩ := initO X0 hx hZ hown (wd hw 11 rfl) (wd hw 12 rfl) (wd hw 13 rfl) e0 (g := (mkF m 1 #[.val (.ref a1), .val (.ref v1), .val (.int 0), .val (.int 2), .val .null, .unset] [(.ref a1)])) rfl (by rw [hml]; rfl) rfl (hb hby d2_1) (by decide) (W := 0) (by show 2 * 0 + _ ≤ _; exact Nat.le_of_eq rfl) (by decide)
  refine Go.by (B := (T17.setTop (mkF m 4 #[.val (.ref a1), .val (.ref v1), .val (.int 0), .val (.int 2), .val .null, .unset] []))) st17 ?_
  refine Go.by (B := (T17.setTop (mkF m 27 #[.val (.ref a1), .val (.ref v1), .val (.int 0), .val (.int 2), .val .null, .unset] []))) (fun _ k => XS.iloadN X17.here hx rfl (hb hby d2_4) rfl (XS.ifYes X17.here hx rfl (pc0 := 5) (pc' := 27) rfl (hb hby d2_5) rfl ((if0 _ _).trans (feq (by decide : ¬ ((2 : Int32) = (0 : Int32)))).2) (by decide) (by decide) k)) ?_
  obtain ⟨T18, X18, e18, st18⟩ := getS2 X17 hx hZ hown (host := "") (Or.inl (wd hw 14 rfl)) Via.refl e17 (pr1.ext pr0.2) (g := (mkF m 27 #[.val (.ref a1), .val (.ref v1), .val (.int 0), .val (.int 2), .val .null, .unset] [])) rfl (hb hby d2_27)
  refine Go.by (B := (T18.setTop (mkF m 30 #[.val (.ref a1), .val (.ref v1), .val (.int 0), .val (.int 2), .val .null, .unset] [(.int cs)]))) st18 ?_
  refine Go.by (B := (T18.setTop (mkF m 36 #[.val (.ref a1), .val (.ref v1), .val (.int 0), .val (.int 2), .val .null, .unset] [(.int 2), (.int 0), (.ref v1)]))) (fun _ k => XS.ifNo X18.here hx rfl (hb hby d2_30) rfl ((if0 _ _).trans (feq hcs).1) (XS.aloadN X18.here hx rfl (hb hby d2_33) rfl rfl (XS.iloadN X18.here hx rfl (hb hby d2_34) rfl (XS.iloadN X18.here hx rfl (hb hby d2_35) rfl k)))) ?_
  obtain ⟨_, _, ⟨T19, L19, k19, n19⟩, -, X19, ⟨Lc19, hQ19, l19, y19, z19⟩, st19⟩ := Jvm.LawKit.callS X18 hx (y := (⟨"java/lang/StringUTF16", "compress", "([CII)[B"⟩ : MethodName)) hown (mvT hZ (wd hw 15 rfl)) (mvT hZ (wd hw 16 rfl)) (mvT hZ (wd hw 17 rfl)) (mvT hZ (wd hw 18 rfl)) (by decide) (backOf (W := 0) (rm_cmp3_2 l Z a0 hw [] v1 ka c0 c1 h0 n0 Z0 pr0 pr7 hc0 hc1) hZ (wd hw 18 rfl) (wd hw 17 rfl) (by decide) (by decide)) (g := (mkF m 36 #[.val (.ref a1), .val (.ref v1), .val (.int 0), .val (.int 2), .val .null, .unset] [(.int 2), (.int 0), (.ref v1)])) rfl (by rw [hml]; rfl) (argsL := [(.ref v1), (.int 0), (.int 2)]) (rest := []) (lenOf pd_1 rfl) rfl (by show 2 * 0 + _ ≤ _; exact Nat.le_of_eq rfl) (hb hby d2_36) (fun _ _ => ⟨rfl, e18, Nat.le_of_ble_eq_true rfl, Nat.le_of_ble_eq_true rfl⟩)
  dsimp only [Pt.U, Pt.locs, Pt.cells, Pt.slots] at X19 l19 y19 z19 st19 hQ19
  subst l19 y19 z19
  obtain ⟨b19, k19, rfl, Nq19, K19, p19_0, p19_1⟩ := hQ19
  have N19 := Fr.app N0 Nq19
  have O20 := pr0.keep K19 all0
  have Z20 : n0 ≤ T19.heap.size := Nat.le_trans Z0 K19.1
  have sz_b19 : h0.size ≤ b19 := p19_1
  refine Go.by (B := (T19.setTop (mkF m 39 #[.val (.ref a1), .val (.ref v1), .val (.int 0), .val (.int 2), .val .null, .unset] [(.ref b19)]))) (fun _ k => st19 _ k) ?_
  refine Go.by (B := (T19.setTop (mkF m 45 #[.val (.ref a1), .val (.ref v1), .val (.int 0), .val (.int 2), .val .null, .val (.ref b19)] [(.int 2), (.ref b19), (.ref a1)]))) (fun _ k => XS.astore X19.here hx rfl (hb hby d2_39) rfl rfl (l' := #[.val (.ref a1), .val (.ref v1), .val (.int 0), .val (.int 2), .val .null, .val (.ref b19)]) rfl (XS.aloadN X19.here hx rfl (hb hby d2_41) rfl rfl (XS.aload X19.here hx rfl (hb hby d2_42) rfl rfl (XS.iloadN X19.here hx rfl (hb hby d2_44) rfl k)))) ?_
  obtain ⟨_, _, ⟨T21, L21, k21, n21⟩, -, X21, ⟨Lc21, hQ21, l21, y21, z21⟩, st21⟩ := Jvm.LawKit.callS X19 hx (y := (⟨"java/lang/StringUTF16", "coderFromArrayLen", "([BI)B"⟩ : MethodName)) hown (mvT hZ (wd hw 23 rfl)) (mvT hZ (wd hw 24 rfl)) (mvT hZ (wd hw 17 rfl)) (mvT hZ (wd hw 25 rfl)) (by decide) (backOf (W := 1) (rm_cfal_2 l Z a0 hw [] b19 k19 c0 c1 T19.heap n0 Z20 p19_0) hZ (wd hw 25 rfl) (wd hw 17 rfl) (by decide) (by decide)) (g := (mkF m 45 #[.val (.ref a1), .val (.ref v1), .val (.int 0), .val (.int 2), .val .null, .val (.ref b19)] [(.int 2), (.ref b19), (.ref a1)])) rfl (by rw [hml]; rfl) (argsL := [(.ref b19), (.int 2)]) (rest := [(.ref a1)]) (lenOf pd_2 rfl) rfl (by show 2 * 0 + _ ≤ _; exact Nat.le_of_eq rfl) (hb hby d2_45) (fun _ _ => ⟨rfl, rfl, Nat.le_of_ble_eq_true rfl, Nat.le_of_ble_eq_true rfl⟩)
  dsimp only [Pt.U, Pt.locs, Pt.cells, Pt.slots] at X21 l21 y21 z21 st21 hQ21
  subst l21 y21 z21
  obtain ⟨rfl, Nq21, hh21⟩ := hQ21
  have N21 := Fr.app N19 Nq21
  refine Go.by (B := (T21.setTop (mkF m 48 #[.val (.ref a1), .val (.ref v1), .val (.int 0), .val (.int 2), .val .null, .val (.ref b19)] [(.int 0), (.ref a1)]))) (fun _ k => st21 _ k) ?_
  obtain ⟨T22, h22, X22, e22, W22, st22⟩ := putFN X21 hx hZ hown (wd hw 26 rfl) Via.refl hh21 (pr5.keep K19 nin0) (pr3.keep K19) (Or.inr ⟨(wd hw 27 rfl), rfl, hnm⟩) (wd hw 2 rfl) (ty := .byte) (v' := (.int 0)) (by decide) rfl rfl (g := (mkF m 48 #[.val (.ref a1), .val (.ref v1), .val (.int 0), .val (.int 2), .val .null, .val (.ref b19)] [(.int 0), (.ref a1)])) rfl rfl (hb hby d2_48)
  have N22 := Fr.snoc X22 N21 pr6
  have O23 := O20.wr W22 pr6
  have Z23 : n0 ≤ h22.size := Nat.le_trans Z20 (Keep.of_wr W22).1
  have F22 := (pr5.keep K19 nin0).same W22
  refine Go.by (B := (T22.setTop (mkF m 51 #[.val (.ref a1), .val (.ref v1), .val (.int 0), .val (.int 2), .val .null, .val (.ref b19)] []))) st22 ?_
  refine Go.by (B := (T22.setTop (mkF m 54 #[.val (.ref a1), .val (.ref v1), .val (.int 0), .val (.int 2), .val .null, .val (.ref b19)] [(.ref b19), (.ref a1)]))) (fun _ k => XS.aloadN X22.here hx rfl (hb hby d2_51) rfl rfl (XS.aload X22.here hx rfl (hb hby d2_52) rfl rfl k)) ?_
  have f24 := ((pr4.keep K19 nin0).other W22 (Or.inr (slot_ne (Or.inr (wd hw 29 rfl)) (Or.inr (wd hw 27 rfl)) (by decide) (t := (.array .byte)) (t' := .byte) (by decide) (by decide))))
  obtain ⟨T25, h25, X25, e25, W25, st25⟩ := putF X22 hx hZ hown (host := "") (Or.inl (wd hw 28 rfl)) Via.refl e22 f24 ((pr3.keep K19).wr W22) (Or.inr ⟨(wd hw 29 rfl), rfl, hnm⟩) (wd hw 2 rfl) (ty := (.array .byte)) (by decide) rfl rfl (g := (mkF m 54 #[.val (.ref a1), .val (.ref v1), .val (.int 0), .val (.int 2), .val .null, .val (.ref b19)] [(.ref b19), (.ref a1)])) rfl rfl (hb hby d2_54)
  have N25 := Fr.snoc X25 N22 pr6
  have O26 := O23.wr W25 pr6
  have Z26 : n0 ≤ h25.size := Nat.le_trans Z23 (Keep.of_wr W25).1
  have F25 := f24.same W25
  refine Go.by (B := (T25.setTop (mkF m 57 #[.val (.ref a1), .val (.ref v1), .val (.int 0), .val (.int 2), .val .null, .val (.ref b19)] []))) st25 ?_
  refine Go.retV X25 hx hlk hret (hb hby d2_57) (by decide) (by decide) ?_
  rw [e25]
  exact ⟨b19, k19, rfl, N25, ((((Keep.refl h0 [a1]).trans K19 all0).wr W22 (Or.inl (List.mem_of_getElem? (i := 0) rfl))).wr W25 (Or.inl (List.mem_of_getElem? (i := 0) rfl))), (((pr3.keep K19).wr W22).wr W25), F25, (F22.other W25 (Or.inr (slot_ne (Or.inr (wd hw 27 rfl)) (Or.inr (wd hw 29 rfl)) (by decide) (t := .byte) (t' := (.array .byte)) (by decide) (by decide)))), ((p19_0.other W22 (Ne.symm (Nat.ne_of_lt (Nat.lt_of_lt_of_le pr3.lt sz_b19)))).other W25 (Ne.symm (Nat.ne_of_lt (Nat.lt_of_lt_of_le pr3.lt sz_b19)))), (Nat.le_trans (Nat.le_refl _) sz_b19)⟩
theorem ef_rm_sC_2 (m : MethodId) (x0 : Addr) (x1 : Addr) : entryFrame m #[(.ref x0), (.ref x1)] 2 = mkF m 0 #[.val (.ref x0), .val (.ref x1)] [] := by first | (simp [entryFrame, mkF, argsToLocals, Value.category]; done) | rfl
theorem d1_0 : decode jdk_42_method_3_code 0 = .ok (.aload_n 0, 1) := by decide +kernel
theorem d1_1 : decode jdk_42_method_3_code 1 = .ok (.aload_n 1, 1) := by decide +kernel
theorem d1_2 : decode jdk_42_method_3_code 2 = .ok (.iconst 0, 1) := by decide +kernel
theorem d1_3 : decode jdk_42_method_3_code 3 = .ok (.aload_n 1, 1) := by decide +kernel
theorem d1_4 : decode jdk_42_method_3_code 4 = .ok (.arraylength, 1) := by decide +kernel
theorem d1_5 : decode jdk_42_method_3_code 5 = .ok (.aconst_null, 1) := by decide +kernel
theorem d1_6 : decode jdk_42_method_3_code 6 = .ok (.invokespecial 27, 3) := by decide +kernel
theorem pd_3 : parseMethodDescriptor "([CIILjava/lang/Void;)V" = some ⟨[(.array .char), .int, .int, (.object "java/lang/Void")], none⟩ := by decide +kernel
theorem d1_9 : decode jdk_42_method_3_code 9 = .ok (.return_, 1) := by decide +kernel
def Q_rm_sC_2 (Z : State) (a1 : Addr) (v1 : Addr) (ka : ClassId) (c0 : Int32) (c1 : Int32) (cs : Int32) (h0 : Heap) (n0 : Nat) (v : Option Value) (h : Heap) (L : List Loc) : Prop := ∃ t : Addr, ∃ k : ClassId, v = none ∧ Fr n0 L ∧ Keep h0 h [a1] ∧ Exa Z h a1 "java/lang/String" ∧ Fld Z h a1 "java/lang/String" "value" "[B" (.ref t) ∧ Fld Z h a1 "java/lang/String" "coder" "B" (.int 0) ∧ Arv Z h t k .byte (2 : Int32) [(.int (nar .byte (c0.toInt8.toInt32))), (.int (nar .byte (c1.toInt8.toInt32)))] (.int 0) ∧ h0.size ≤ t
set_option maxRecDepth 65536 in
set_option maxHeartbeats 40000000 in
theorem rm_sC_2 (l : Launch) (Z : State) (a0 : Array Value) (hw : ∀ d ∈ tables_1, d.before a0 Z = true) (ws : List Jvm.Cond) (a1 : Addr) (v1 : Addr) (ka : ClassId) (c0 : Int32) (c1 : Int32) (cs : Int32) (h0 : Heap) (n0 : Nat) (Z0 : n0 ≤ h0.size) (pr0 : Old Z n0 h0) (pr1 : Sta Z Z.heap "java/lang/String" "COMPACT_STRINGS" "Z" (.int cs)) (hcs : ¬ (cs = (0 : Int32))) (pr3 : Exa Z h0 a1 "java/lang/String") (pr4 : Fld Z h0 a1 "java/lang/String" "value" "[B" .null) (pr5 : Fld Z h0 a1 "java/lang/String" "coder" "B" (.int 0)) (pr6 : n0 ≤ a1) (pr7 : Arv Z h0 v1 ka .char (2 : Int32) [(.int c0), (.int c1)] (.int 0)) (hc0 : ¬ ((255 : Int32) < c0)) (hc1 : ¬ ((255 : Int32) < c1)) :
    Met l Z (⟨"java/lang/String", "<init>", "([C)V"⟩ : MethodName) jdk_42_method_3_code 2 none ws ({ frames := 3, cells := 1, slots := 2, locals := 52 } : Room) #[(.ref a1), (.ref v1)] h0 (Q_rm_sC_2 Z a1 v1 ka c0 c1 cs h0 n0) := by
  refine Met.enter (f0 := fun m => mkF m 0 #[.val (.ref a1), .val (.ref v1)] []) (plainFor_of_name pn_java_lang_String) (fun m => ef_rm_sC_2 m a1 v1) ?_
  intro p e s m below meth c s₁ hx hby hml hown hnm hret hlk hZ X0 e0
  have hown : s.vm.findClass "java/lang/String" = some m.cls := hown
  have hnm : meth.name = "<init>" := hnm
  have hml : c.maxLocals = 2 := hml
  have hby : c.code = jdk_42_method_3_code := hby
  have N0 := Fr.nil n0
  refine Go.by (B := (s₁.setTop (mkF m 4 #[.val (.ref a1), .val (.ref v1)] [(.ref v1), (.int 0), (.ref v1), (.ref a1)]))) (fun _ k => XS.aloadN X0.here hx rfl (hb hby d1_0) rfl rfl (XS.aloadN X0.here hx rfl (hb hby d1_1) rfl rfl (XS.iconst X0.here hx rfl (hb hby d1_2) (XS.aloadN X0.here hx rfl (hb hby d1_3) rfl rfl k)))) ?_
  obtain ⟨cl27, Ar27, q27, S27, N_27, Hs27, G27⟩ := id pr7
  refine Go.by (B := (s₁.setTop (mkF m 5 #[.val (.ref a1), .val (.ref v1)] [(.int 2), (.int 0), (.ref v1), (.ref a1)]))) (fun _ k => X0.arraylength hx (by rw [e0]; exact Ar27.1) (State.isArrayOf_alike hZ.alike Ar27.2.1) (g := (mkF m 4 #[.val (.ref a1), .val (.ref v1)] [(.ref v1), (.int 0), (.ref v1), (.ref a1)])) rfl rfl (hb hby d1_4) _ (by rw [len_of S27 N_27]; exact k)) ?_
  refine Go.by (B := (s₁.setTop (mkF m 6 #[.val (.ref a1), .val (.ref v1)] [.null, (.int 2), (.int 0), (.ref v1), (.ref a1)]))) (fun _ k => XS.aconstNull X0.here hx rfl (hb hby d1_5) k) ?_
  obtain ⟨_, _, ⟨T28, L28, k28, n28⟩, -, X28, ⟨Lc28, hQ28, l28, y28, z28⟩, st28⟩ := X0.specialBack hx (y := (⟨"java/lang/String", "<init>", "([CIILjava/lang/Void;)V"⟩ : MethodName)) rfl hown (mvT hZ (wd hw 7 rfl)) (mvT hZ (wd hw 8 rfl)) (mvT hZ (wd hw 10 rfl)) (by decide) (backOf (W := 0) (rm_sV_2 l Z a0 hw [] a1 v1 ka c0 c1 cs h0 n0 Z0 pr0 pr1 hcs pr3 pr4 pr5 pr6 pr7 hc0 hc1) hZ (wd hw 10 rfl) (wd hw 3 rfl) (by decide) (by decide)) (g := (mkF m 6 #[.val (.ref a1), .val (.ref v1)] [.null, (.int 2), (.int 0), (.ref v1), (.ref a1)])) rfl (by rw [hml]; rfl) (Steps.refl _) (a := a1) (argsL := [(.ref v1), (.int 0), (.int 2), .null]) (rest := []) (lenOf pd_3 rfl) rfl (by show 2 * 0 + _ ≤ _; exact Nat.le_of_eq rfl) (hb hby d1_6) (fun _ _ => ⟨rfl, e0, Nat.le_of_ble_eq_true rfl, Nat.le_of_ble_eq_true rfl⟩)
  dsimp only [Pt.U, Pt.locs, Pt.cells, Pt.slots] at X28 l28 y28 z28 st28 hQ28
  subst l28 y28 z28
  obtain ⟨t28, k28, rfl, Nq28, K28, p28_0, p28_1, p28_2, p28_3, p28_4⟩ := hQ28
  have N28 := Fr.app N0 Nq28
  have O29 := pr0.keep K28 (allS pr6 all0)
  have Z29 : n0 ≤ T28.heap.size := Nat.le_trans Z0 K28.1
  have sz_t28 : h0.size ≤ t28 := p28_4
  refine Go.by (B := (T28.setTop (mkF m 9 #[.val (.ref a1), .val (.ref v1)] []))) (fun _ k => st28.trans k) ?_
  refine Go.retV X28 hx hlk hret (hb hby d1_9) (by decide) (by decide) ?_
  exact ⟨t28, k28, rfl, N28, ((Keep.refl h0 [a1]).trans K28 (allS (Or.inl (List.mem_of_getElem? (i := 0) rfl)) all0)), p28_0, p28_1, p28_2, p28_3, (Nat.le_trans (Nat.le_refl _) sz_t28)⟩
theorem ef_rm_canEnc (m : MethodId) (x0 : Int32) : entryFrame m #[(.int x0)] 1 = mkF m 0 #[.val (.int x0)] [] := by first | (simp [entryFrame, mkF, argsToLocals, Value.category]; done) | rfl
theorem d15_0 : decode jdk_43_method_3_code 0 = .ok (.iload_n 0, 1) := by decide +kernel
theorem d15_1 : decode jdk_43_method_3_code 1 = .ok (.sipush 255, 3) := by decide +kernel
theorem d15_4 : decode jdk_43_method_3_code 4 = .ok (.if_icmp .gt 7, 3) := by decide +kernel
theorem d15_7 : decode jdk_43_method_3_code 7 = .ok (.iconst 1, 1) := by decide +kernel
theorem d15_8 : decode jdk_43_method_3_code 8 = .ok (.goto 4, 3) := by decide +kernel
theorem d15_12 : decode jdk_43_method_3_code 12 = .ok (.ireturn, 1) := by decide +kernel
theorem pn_java_lang_StringLatin1 : plainName "java/lang/StringLatin1" = true := by first | (simp [plainName, overriddenIn]; done) | decide +kernel
def Q_rm_canEnc (Z : State) (p1 : Int32) (h0 : Heap) (n0 : Nat) (v : Option Value) (h : Heap) (L : List Loc) : Prop := v = some (.int 1) ∧ Fr n0 L ∧ h = h0
set_option maxRecDepth 65536 in
set_option maxHeartbeats 40000000 in
theorem rm_canEnc (l : Launch) (Z : State) (a0 : Array Value) (hw : ∀ d ∈ tables_1, d.before a0 Z = true) (ws : List Jvm.Cond) (p1 : Int32) (h0 : Heap) (n0 : Nat) (Z0 : n0 ≤ h0.size) (q0 : ¬ ((255 : Int32) < p1)) :
    Met l Z (⟨"java/lang/StringLatin1", "canEncode", "(C)Z"⟩ : MethodName) jdk_43_method_3_code 1 (some .boolean) ws ({ frames := 0, cells := 0, slots := 0, locals := 0 } : Room) #[(.int p1)] h0 (Q_rm_canEnc Z p1 h0 n0) := by
  refine Met.enter (f0 := fun m => mkF m 0 #[.val (.int p1)] []) (plainFor_of_name pn_java_lang_StringLatin1) (fun m => ef_rm_canEnc m p1) ?_
  intro p e s m below meth c s₁ hx hby hml hown hnm hret hlk hZ X0 e0
  have hown : s.vm.findClass "java/lang/StringLatin1" = some m.cls := hown
  have hnm : meth.name = "canEncode" := hnm
  have hml : c.maxLocals = 1 := hml
  have hby : c.code = jdk_43_method_3_code := hby
  have N0 := Fr.nil n0
  refine Go.by (B := (s₁.setTop (mkF m 12 #[.val (.int p1)] [(.int 1)]))) (fun _ k => XS.iloadN X0.here hx rfl (hb hby d15_0) rfl (XS.sipush X0.here hx rfl (hb hby d15_1) (XS.icmpNo X0.here hx rfl (hb hby d15_4) rfl (flt q0).2.2.1 (XS.iconst X0.here hx rfl (hb hby d15_7) (XS.goto X0.here hx rfl (pc0 := 8) (pc' := 12) rfl (hb hby d15_8) (by decide) (by decide) k))))) ?_
  refine Go.ret X0 hx hlk (t := .boolean) hret rfl (Or.inl ⟨rfl, by simp, _, rfl⟩) (hb hby d15_12) (by decide) (by decide) ?_
  rw [e0]
  exact ⟨rfl, N0, rfl⟩
theorem ef_rm_toBytes (m : MethodId) (x0 : Int32) : entryFrame m #[(.int x0)] 1 = mkF m 0 #[.val (.int x0)] [] := by first | (simp [entryFrame, mkF, argsToLocals, Value.category]; done) | rfl
theorem d16_0 : decode jdk_43_method_46_code 0 = .ok (.iconst 1, 1) := by decide +kernel
theorem d16_1 : decode jdk_43_method_46_code 1 = .ok (.newarray .byte, 2) := by decide +kernel
theorem d16_3 : decode jdk_43_method_46_code 3 = .ok (.dup, 1) := by decide +kernel
theorem d16_4 : decode jdk_43_method_46_code 4 = .ok (.iconst 0, 1) := by decide +kernel
theorem d16_5 : decode jdk_43_method_46_code 5 = .ok (.iload_n 0, 1) := by decide +kernel
theorem d16_6 : decode jdk_43_method_46_code 6 = .ok (.i2b, 1) := by decide +kernel
theorem d16_7 : decode jdk_43_method_46_code 7 = .ok (.bastore, 1) := by decide +kernel
theorem d16_8 : decode jdk_43_method_46_code 8 = .ok (.areturn, 1) := by decide +kernel
def Q_rm_toBytes (Z : State) (p1 : Int32) (h0 : Heap) (n0 : Nat) (v : Option Value) (h : Heap) (L : List Loc) : Prop := ∃ b : Addr, ∃ k : ClassId, v = some (.ref b) ∧ Fr n0 L ∧ Keep h0 h [] ∧ Arv Z h b k .byte (1 : Int32) [(.int (nar .byte (p1.toInt8.toInt32)))] (.int 0) ∧ h0.size ≤ b
set_option maxRecDepth 65536 in
set_option maxHeartbeats 40000000 in
theorem rm_toBytes (l : Launch) (Z : State) (a0 : Array Value) (hw : ∀ d ∈ tables_1, d.before a0 Z = true) (ws : List Jvm.Cond) (p1 : Int32) (h0 : Heap) (n0 : Nat) (Z0 : n0 ≤ h0.size) (pr0 : Old Z n0 h0) :
    Met l Z (⟨"java/lang/StringLatin1", "toBytes", "(C)[B"⟩ : MethodName) jdk_43_method_46_code 1 (some (.array .byte)) ws ({ frames := 0, cells := 1, slots := 1, locals := 0 } : Room) #[(.int p1)] h0 (Q_rm_toBytes Z p1 h0 n0) := by
  refine Met.enter (f0 := fun m => mkF m 0 #[.val (.int p1)] []) (plainFor_of_name pn_java_lang_StringLatin1) (fun m => ef_rm_toBytes m p1) ?_
  intro p e s m below meth c s₁ hx hby hml hown hnm hret hlk hZ X0 e0
  have hown : s.vm.findClass "java/lang/StringLatin1" = some m.cls := hown
  have hnm : meth.name = "toBytes" := hnm
  have hml : c.maxLocals = 1 := hml
  have hby : c.code = jdk_43_method_46_code := hby
  have N0 := Fr.nil n0
  refine Go.by (B := (s₁.setTop (mkF m 1 #[.val (.int p1)] [(.int 1)]))) (fun _ k => XS.iconst X0.here hx rfl (hb hby d16_0) k) ?_
  obtain ⟨T30, h30, k30, X30, e30, E30, A30, st30⟩ := newP X0 hx hZ (wd hw 19 rfl) e0 (g := (mkF m 1 #[.val (.int p1)] [(.int 1)])) rfl (hb hby d16_1) rfl (by decide) (cap := 1) (by decide) (by decide) (by decide) (by decide)
  obtain ⟨b30, g30⟩ : ∃ z, z = h0.size := ⟨_, rfl⟩
  rw [← g30] at A30 st30
  have sz_b30 : h0.size ≤ b30 := Nat.le_of_eq g30.symm
  have V30 : Arv Z h30 b30 k30 .byte (1 : Int32) [(.int 0)] (.int 0) := (Arv.new A30 (by decide)).pad (pad_rep [] (.int 0) 1)
  have O31 := pr0.ext E30
  have Z31 : n0 ≤ h30.size := Nat.le_trans Z0 E30.1
  refine Go.by (B := (T30.setTop (mkF m 3 #[.val (.int p1)] [(.ref b30)]))) st30 ?_
  refine Go.by (B := (T30.setTop (mkF m 7 #[.val (.int p1)] [(.int (p1.toInt8.toInt32)), (.int 0), (.ref b30), (.ref b30)]))) (fun _ k => XS.dup X30.here hx rfl (hb hby d16_3) rfl rfl (XS.iconst X30.here hx rfl (hb hby d16_4) (XS.iloadN X30.here hx rfl (hb hby d16_5) rfl (XS.i2b X30.here hx rfl (hb hby d16_6) rfl k)))) ?_
  obtain ⟨cl32, Ar32, q32, S32, N_32, Hs32, G32⟩ := id V30
  have hin33 : ¬ ((0 : Int32) < 0 ∨ cl32.slots.size ≤ ((0 : Int32)).toNatClampNeg) := inb_of S32 ⟨by decide, by decide⟩
  obtain ⟨T33, h33, X33, e33, W33, st33⟩ := stB X30 hx hZ e30 Ar32 (j := (0 : Int32)) hin33 (g := (mkF m 7 #[.val (.int p1)] [(.int (p1.toInt8.toInt32)), (.int 0), (.ref b30), (.ref b30)])) rfl rfl (hb hby d16_7)
  have O34 := O31.wr W33 (Nat.le_trans Z0 sz_b30)
  have Z34 : n0 ≤ h33.size := Nat.le_trans Z31 (Keep.of_wr W33).1
  have V33 : Arv Z h33 b30 k30 .byte (1 : Int32) [(.int (nar .byte (p1.toInt8.toInt32)))] (.int 0) := Arv.set Ar32 q32 S32 N_32 Hs32 G32 (fits_nar_byte _) W33 0 rfl (Nat.le_of_ble_eq_true rfl)
  have N33 := Fr.snoc X33 N0 (Nat.le_trans Z0 sz_b30)
  refine Go.by (B := (T33.setTop (mkF m 8 #[.val (.int p1)] [(.ref b30)]))) st33 ?_
  refine Go.ret X33 hx hlk (t := (.array .byte)) hret rfl (Or.inr (Or.inr (Or.inr (Or.inr ⟨rfl, rfl, rfl⟩)))) (hb hby d16_8) (by decide) (by decide) ?_
  rw [e33]
  exact ⟨b30, k30, rfl, N33, (((Keep.refl h0 []).ext E30).wr W33 (Or.inr (Nat.le_trans (Nat.le_refl _) sz_b30))), V33, (Nat.le_trans (Nat.le_refl _) sz_b30)⟩
theorem ef_rm_sinit (m : MethodId) (x0 : Addr) (x1 : Addr) : entryFrame m #[(.ref x0), (.ref x1), (.int 0)] 3 = mkF m 0 #[.val (.ref x0), .val (.ref x1), .val (.int 0)] [] := by first | (simp [entryFrame, mkF, argsToLocals, Value.category]; done) | rfl
theorem d17_0 : decode jdk_42_method_151_code 0 = .ok (.aload_n 0, 1) := by decide +kernel
theorem d17_1 : decode jdk_42_method_151_code 1 = .ok (.invokespecial 1, 3) := by decide +kernel
theorem d17_4 : decode jdk_42_method_151_code 4 = .ok (.aload_n 0, 1) := by decide +kernel
theorem d17_5 : decode jdk_42_method_151_code 5 = .ok (.aload_n 1, 1) := by decide +kernel
theorem d17_6 : decode jdk_42_method_151_code 6 = .ok (.putfield 9, 3) := by decide +kernel
theorem d17_9 : decode jdk_42_method_151_code 9 = .ok (.aload_n 0, 1) := by decide +kernel
theorem d17_10 : decode jdk_42_method_151_code 10 = .ok (.iload_n 2, 1) := by decide +kernel
theorem d17_11 : decode jdk_42_method_151_code 11 = .ok (.putfield 15, 3) := by decide +kernel
theorem d17_14 : decode jdk_42_method_151_code 14 = .ok (.return_, 1) := by decide +kernel
def Q_rm_sinit (Z : State) (a1 : Addr) (v1 : Addr) (h0 : Heap) (n0 : Nat) (v : Option Value) (h : Heap) (L : List Loc) : Prop := v = none ∧ Fr n0 L ∧ Keep h0 h [a1] ∧ Exa Z h a1 "java/lang/String" ∧ Fld Z h a1 "java/lang/String" "value" "[B" (.ref v1) ∧ Fld Z h a1 "java/lang/String" "coder" "B" (.int 0)
set_option maxRecDepth 65536 in
set_option maxHeartbeats 40000000 in
theorem rm_sinit (l : Launch) (Z : State) (a0 : Array Value) (hw : ∀ d ∈ tables_1, d.before a0 Z = true) (ws : List Jvm.Cond) (a1 : Addr) (v1 : Addr) (h0 : Heap) (n0 : Nat) (Z0 : n0 ≤ h0.size) (pr0 : Old Z n0 h0) (pr1 : Exa Z h0 a1 "java/lang/String") (pr2 : Fld Z h0 a1 "java/lang/String" "value" "[B" .null) (pr3 : Fld Z h0 a1 "java/lang/String" "coder" "B" (.int 0)) (pr4 : n0 ≤ a1) :
    Met l Z (⟨"java/lang/String", "<init>", "([BB)V"⟩ : MethodName) jdk_42_method_151_code 3 none ws ({ frames := 1, cells := 0, slots := 0, locals := 12 } : Room) #[(.ref a1), (.ref v1), (.int 0)] h0 (Q_rm_sinit Z a1 v1 h0 n0) := by
  refine Met.enter (f0 := fun m => mkF m 0 #[.val (.ref a1), .val (.ref v1), .val (.int 0)] []) (plainFor_of_name pn_java_lang_String) (fun m => ef_rm_sinit m a1 v1) ?_
  intro p e s m below meth c s₁ hx hby hml hown hnm hret hlk hZ X0 e0
  have hown : s.vm.findClass "java/lang/String" = some m.cls := hown
  have hnm : meth.name = "<init>" := hnm
  have hml : c.maxLocals = 3 := hml
  have hby : c.code = jdk_42_method_151_code := hby
  have N0 := Fr.nil n0
  refine Go.by (B := (s₁.setTop (mkF m 1 #[.val (.ref a1), .val (.ref v1), .val (.int 0)] [(.ref a1)]))) (fun _ k => XS.aloadN X0.here hx rfl (hb hby d17_0) rfl rfl k) ?_
  obtain ⟨T35, X35, e35, st35⟩ := initO X0 hx hZ hown (wd hw 11 rfl) (wd hw 12 rfl) (wd hw 13 rfl) e0 (g := (mkF m 1 #[.val (.ref a1), .val (.ref v1), .val (.int 0)] [(.ref a1)])) rfl (by rw [hml]; rfl) rfl (hb hby d17_1) (by decide) (W := 0) (by show 2 * 0 + _ ≤ _; exact Nat.le_of_eq rfl) (by decide)
  refine Go.by (B := (T35.setTop (mkF m 4 #[.val (.ref a1), .val (.ref v1), .val (.int 0)] []))) st35 ?_
  refine Go.by (B := (T35.setTop (mkF m 6 #[.val (.ref a1), .val (.ref v1), .val (.int 0)] [(.ref v1), (.ref a1)]))) (fun _ k => XS.aloadN X35.here hx rfl (hb hby d17_4) rfl rfl (XS.aloadN X35.here hx rfl (hb hby d17_5) rfl rfl k)) ?_
  obtain ⟨T36, h36, X36, e36, W36, st36⟩ := putF X35 hx hZ hown (host := "") (Or.inl (wd hw 28 rfl)) Via.refl e35 pr2 pr1 (Or.inr ⟨(wd hw 29 rfl), rfl, hnm⟩) (wd hw 2 rfl) (ty := (.array .byte)) (by decide) rfl rfl (g := (mkF m 6 #[.val (.ref a1), .val (.ref v1), .val (.int 0)] [(.ref v1), (.ref a1)])) rfl rfl (hb hby d17_6)
  have N36 := Fr.snoc X36 N0 pr4
  have O37 := pr0.wr W36 pr4
  have Z37 : n0 ≤ h36.size := Nat.le_trans Z0 (Keep.of_wr W36).1
  have F36 := pr2.same W36
  refine Go.by (B := (T36.setTop (mkF m 9 #[.val (.ref a1), .val (.ref v1), .val (.int 0)] []))) st36 ?_
  refine Go.by (B := (T36.setTop (mkF m 11 #[.val (.ref a1), .val (.ref v1), .val (.int 0)] [(.int 0), (.ref a1)]))) (fun _ k => XS.aloadN X36.here hx rfl (hb hby d17_9) rfl rfl (XS.iloadN X36.here hx rfl (hb hby d17_10) rfl k)) ?_
  have f38 := (pr3.other W36 (Or.inr (slot_ne (Or.inr (wd hw 27 rfl)) (Or.inr (wd hw 29 rfl)) (by decide) (t := .byte) (t' := (.array .byte)) (by decide) (by decide))))
  obtain ⟨T39, h39, X39, e39, W39, st39⟩ := putFN X36 hx hZ hown (wd hw 26 rfl) Via.refl e36 f38 (pr1.wr W36) (Or.inr ⟨(wd hw 27 rfl), rfl, hnm⟩) (wd hw 2 rfl) (ty := .byte) (v' := (.int 0)) (by decide) rfl rfl (g := (mkF m 11 #[.val (.ref a1), .val (.ref v1), .val (.int 0)] [(.int 0), (.ref a1)])) rfl rfl (hb hby d17_11)
  have N39 := Fr.snoc X39 N36 pr4
  have O40 := O37.wr W39 pr4
  have Z40 : n0 ≤ h39.size := Nat.le_trans Z37 (Keep.of_wr W39).1
  have F39 := f38.same W39
  refine Go.by (B := (T39.setTop (mkF m 14 #[.val (.ref a1), .val (.ref v1), .val (.int 0)] []))) st39 ?_
  refine Go.retV X39 hx hlk hret (hb hby d17_14) (by decide) (by decide) ?_
  rw [e39]
  exact ⟨rfl, N39, (((Keep.refl h0 [a1]).wr W36 (Or.inl (List.mem_of_getElem? (i := 0) rfl))).wr W39 (Or.inl (List.mem_of_getElem? (i := 0) rfl))), ((pr1.wr W36).wr W39), (F36.other W39 (Or.inr (slot_ne (Or.inr (wd hw 29 rfl)) (Or.inr (wd hw 27 rfl)) (by decide) (t := (.array .byte)) (t' := .byte) (by decide) (by decide)))), F39⟩
theorem ef_rm_valueOfC (m : MethodId) (x0 : Int32) : entryFrame m #[(.int x0)] 1 = mkF m 0 #[.val (.int x0)] [] := by first | (simp [entryFrame, mkF, argsToLocals, Value.category]; done) | rfl
theorem d14_0 : decode jdk_42_method_139_code 0 = .ok (.getstatic 38, 3) := by decide +kernel
theorem d14_3 : decode jdk_42_method_139_code 3 = .ok (.ifCond .eq 23, 3) := by decide +kernel
theorem d14_6 : decode jdk_42_method_139_code 6 = .ok (.iload_n 0, 1) := by decide +kernel
theorem d14_7 : decode jdk_42_method_139_code 7 = .ok (.invokestatic 1015, 3) := by decide +kernel
theorem pd_4 : parseMethodDescriptor "(C)Z" = some ⟨[.char], some .boolean⟩ := by decide +kernel
theorem d14_10 : decode jdk_42_method_139_code 10 = .ok (.ifCond .eq 16, 3) := by decide +kernel
theorem d14_13 : decode jdk_42_method_139_code 13 = .ok (.new 10, 3) := by decide +kernel
theorem d14_16 : decode jdk_42_method_139_code 16 = .ok (.dup, 1) := by decide +kernel
theorem d14_17 : decode jdk_42_method_139_code 17 = .ok (.iload_n 0, 1) := by decide +kernel
theorem d14_18 : decode jdk_42_method_139_code 18 = .ok (.invokestatic 1018, 3) := by decide +kernel
theorem pd_5 : parseMethodDescriptor "(C)[B" = some ⟨[.char], some (.array .byte)⟩ := by decide +kernel
theorem d14_21 : decode jdk_42_method_139_code 21 = .ok (.iconst 0, 1) := by decide +kernel
theorem d14_22 : decode jdk_42_method_139_code 22 = .ok (.invokespecial 209, 3) := by decide +kernel
theorem pd_6 : parseMethodDescriptor "([BB)V" = some ⟨[(.array .byte), .byte], none⟩ := by decide +kernel
theorem d14_25 : decode jdk_42_method_139_code 25 = .ok (.areturn, 1) := by decide +kernel
def Q_rm_valueOfC (Z : State) (p1 : Int32) (cs : Int32) (h0 : Heap) (n0 : Nat) (v : Option Value) (h : Heap) (L : List Loc) : Prop := ∃ b : Addr, ∃ t : Addr, ∃ k : ClassId, v = some (.ref b) ∧ Fr n0 L ∧ Keep h0 h [] ∧ Exa Z h b "java/lang/String" ∧ Fld Z h b "java/lang/String" "value" "[B" (.ref t) ∧ Fld Z h b "java/lang/String" "coder" "B" (.int 0) ∧ Arv Z h t k .byte (1 : Int32) [(.int (nar .byte (p1.toInt8.toInt32)))] (.int 0) ∧ h0.size ≤ b ∧ h0.size ≤ t
set_option maxRecDepth 65536 in
set_option maxHeartbeats 40000000 in
theorem rm_valueOfC (l : Launch) (Z : State) (a0 : Array Value) (hw : ∀ d ∈ tables_1, d.before a0 Z = true) (ws : List Jvm.Cond) (p1 : Int32) (cs : Int32) (h0 : Heap) (n0 : Nat) (Z0 : n0 ≤ h0.size) (pr0 : Old Z n0 h0) (pr1 : Sta Z Z.heap "java/lang/String" "COMPACT_STRINGS" "Z" (.int cs)) (hcs : ¬ (cs = (0 : Int32))) (q0 : ¬ ((255 : Int32) < p1)) :
    Met l Z (⟨"java/lang/String", "valueOf", "(C)Ljava/lang/String;"⟩ : MethodName) jdk_42_method_139_code 1 (some (.object "java/lang/String")) ws ({ frames := 2, cells := 2, slots := 5, locals := 27 } : Room) #[(.int p1)] h0 (Q_rm_valueOfC Z p1 cs h0 n0) := by
  refine Met.enter (f0 := fun m => mkF m 0 #[.val (.int p1)] []) (plainFor_of_name pn_java_lang_String) (fun m => ef_rm_valueOfC m p1) ?_
  intro p e s m below meth c s₁ hx hby hml hown hnm hret hlk hZ X0 e0
  have hown : s.vm.findClass "java/lang/String" = some m.cls := hown
  have hnm : meth.name = "valueOf" := hnm
  have hml : c.maxLocals = 1 := hml
  have hby : c.code = jdk_42_method_139_code := hby
  have N0 := Fr.nil n0
  obtain ⟨T41, X41, e41, st41⟩ := getS2 X0 hx hZ hown (host := "") (Or.inl (wd hw 14 rfl)) Via.refl e0 (pr1.ext pr0.2) (g := (mkF m 0 #[.val (.int p1)] [])) rfl (hb hby d14_0)
  refine Go.by (B := (T41.setTop (mkF m 3 #[.val (.int p1)] [(.int cs)]))) st41 ?_
  refine Go.by (B := (T41.setTop (mkF m 7 #[.val (.int p1)] [(.int p1)]))) (fun _ k => XS.ifNo X41.here hx rfl (hb hby d14_3) rfl ((if0 _ _).trans (feq hcs).1) (XS.iloadN X41.here hx rfl (hb hby d14_6) rfl k)) ?_
  obtain ⟨_, _, ⟨T42, L42, k42, n42⟩, -, X42, ⟨Lc42, hQ42, l42, y42, z42⟩, st42⟩ := Jvm.LawKit.callS X41 hx (y := (⟨"java/lang/StringLatin1", "canEncode", "(C)Z"⟩ : MethodName)) hown (mvT hZ (wd hw 74 rfl)) (mvT hZ (wd hw 75 rfl)) (mvT hZ (wd hw 76 rfl)) (mvT hZ (wd hw 77 rfl)) (by decide) (backOf (W := 0) (rm_canEnc l Z a0 hw [] p1 h0 n0 Z0 q0) hZ (wd hw 77 rfl) (wd hw 76 rfl) (by decide) (by decide)) (g := (mkF m 7 #[.val (.int p1)] [(.int p1)])) rfl (by rw [hml]; rfl) (argsL := [(.int p1)]) (rest := []) (lenOf pd_4 rfl) rfl (by show 2 * 0 + _ ≤ _; exact Nat.le_of_eq rfl) (hb hby d14_7) (fun _ _ => ⟨rfl, e41, Nat.le_of_ble_eq_true rfl, Nat.le_of_ble_eq_true rfl⟩)
  dsimp only [Pt.U, Pt.locs, Pt.cells, Pt.slots] at X42 l42 y42 z42 st42 hQ42
  subst l42 y42 z42
  obtain ⟨rfl, Nq42, hh42⟩ := hQ42
  have N42 := Fr.app N0 Nq42
  refine Go.by (B := (T42.setTop (mkF m 10 #[.val (.int p1)] [(.int 1)]))) (fun _ k => st42 _ k) ?_
  refine Go.by (B := (T42.setTop (mkF m 13 #[.val (.int p1)] []))) (fun _ k => XS.ifNo X42.here hx rfl (hb hby d14_10) rfl ((if0 _ _).trans (feq (by decide : ¬ ((1 : Int32) = (0 : Int32)))).1) k) ?_
  obtain ⟨T43, h43, X43, e43, E43, A43, D43, -, st43⟩ := newO X42 hx hZ hown (wd hw 78 rfl) (wd hw 2 rfl) (wd hw 3 rfl) hh42 (g := (mkF m 13 #[.val (.int p1)] [])) rfl (hb hby d14_13) (by decide) (by decide)
  obtain ⟨b43, g43⟩ : ∃ z, z = h0.size := ⟨_, rfl⟩
  rw [← g43] at A43 D43 st43
  have sz_b43 : h0.size ≤ b43 := Nat.le_of_eq g43.symm
  have O44 := pr0.ext E43
  have Z44 : n0 ≤ h43.size := Nat.le_trans Z0 E43.1
  have F45 : Fld Z h43 b43 "java/lang/String" "coder" "B" (.int 0) := D43 (Or.inr (wd hw 27 rfl)) (ty := .byte) (by decide)
  have F46 : Fld Z h43 b43 "java/lang/String" "value" "[B" .null := D43 (Or.inr (wd hw 29 rfl)) (ty := (.array .byte)) (by decide)
  refine Go.by (B := (T43.setTop (mkF m 16 #[.val (.int p1)] [(.ref b43)]))) st43 ?_
  refine Go.by (B := (T43.setTop (mkF m 18 #[.val (.int p1)] [(.int p1), (.ref b43), (.ref b43)]))) (fun _ k => XS.dup X43.here hx rfl (hb hby d14_16) rfl rfl (XS.iloadN X43.here hx rfl (hb hby d14_17) rfl k)) ?_
  obtain ⟨_, _, ⟨T47, L47, k47, n47⟩, -, X47, ⟨Lc47, hQ47, l47, y47, z47⟩, st47⟩ := Jvm.LawKit.callS X43 hx (y := (⟨"java/lang/StringLatin1", "toBytes", "(C)[B"⟩ : MethodName)) hown (mvT hZ (wd hw 79 rfl)) (mvT hZ (wd hw 80 rfl)) (mvT hZ (wd hw 76 rfl)) (mvT hZ (wd hw 81 rfl)) (by decide) (backOf (W := 2) (rm_toBytes l Z a0 hw [] p1 h43 n0 Z44 O44) hZ (wd hw 81 rfl) (wd hw 76 rfl) (by decide) (by decide)) (g := (mkF m 18 #[.val (.int p1)] [(.int p1), (.ref b43), (.ref b43)])) rfl (by rw [hml]; rfl) (argsL := [(.int p1)]) (rest := [(.ref b43), (.ref b43)]) (lenOf pd_5 rfl) rfl (by show 2 * 0 + _ ≤ _; exact Nat.le_of_eq rfl) (hb hby d14_18) (fun _ _ => ⟨rfl, e43, Nat.le_of_ble_eq_true rfl, Nat.le_of_ble_eq_true rfl⟩)
  dsimp only [Pt.U, Pt.locs, Pt.cells, Pt.slots] at X47 l47 y47 z47 st47 hQ47
  subst l47 y47 z47
  obtain ⟨b47, k47, rfl, Nq47, K47, p47_0, p47_1⟩ := hQ47
  have N47 := Fr.app N42 Nq47
  have O48 := O44.keep K47 all0
  have Z48 : n0 ≤ T47.heap.size := Nat.le_trans Z44 K47.1
  have sz_b47 : h43.size ≤ b47 := p47_1
  refine Go.by (B := (T47.setTop (mkF m 21 #[.val (.int p1)] [(.ref b47), (.ref b43), (.ref b43)]))) (fun _ k => st47 _ k) ?_
  refine Go.by (B := (T47.setTop (mkF m 22 #[.val (.int p1)] [(.int 0), (.ref b47), (.ref b43), (.ref b43)]))) (fun _ k => XS.iconst X47.here hx rfl (hb hby d14_21) k) ?_
  obtain ⟨_, _, ⟨T49, L49, k49, n49⟩, -, X49, ⟨Lc49, hQ49, l49, y49, z49⟩, st49⟩ := X47.specialBack hx (y := (⟨"java/lang/String", "<init>", "([BB)V"⟩ : MethodName)) rfl hown (mvT hZ (wd hw 82 rfl)) (mvT hZ (wd hw 83 rfl)) (mvT hZ (wd hw 84 rfl)) (by decide) (backOf (W := 1) (rm_sinit l Z a0 hw [] b43 b47 T47.heap n0 Z48 O48 (A43.keep K47) (F46.keep K47 nin0) (F45.keep K47 nin0) (Nat.le_trans Z0 sz_b43)) hZ (wd hw 84 rfl) (wd hw 3 rfl) (by decide) (by decide)) (g := (mkF m 22 #[.val (.int p1)] [(.int 0), (.ref b47), (.ref b43), (.ref b43)])) rfl (by rw [hml]; rfl) (Steps.refl _) (a := b43) (argsL := [(.ref b47), (.int 0)]) (rest := [(.ref b43)]) (lenOf pd_6 rfl) rfl (by show 2 * 0 + _ ≤ _; exact Nat.le_of_eq rfl) (hb hby d14_22) (fun _ _ => ⟨rfl, rfl, Nat.le_of_ble_eq_true rfl, Nat.le_of_ble_eq_true rfl⟩)
  dsimp only [Pt.U, Pt.locs, Pt.cells, Pt.slots] at X49 l49 y49 z49 st49 hQ49
  subst l49 y49 z49
  obtain ⟨rfl, Nq49, K49, p49_0, p49_1, p49_2⟩ := hQ49
  have N49 := Fr.app N47 Nq49
  have O50 := O48.keep K49 (allS (Nat.le_trans Z0 sz_b43) all0)
  have Z50 : n0 ≤ T49.heap.size := Nat.le_trans Z48 K49.1
  refine Go.by (B := (T49.setTop (mkF m 25 #[.val (.int p1)] [(.ref b43)]))) (fun _ k => st49.trans k) ?_
  refine Go.ret X49 hx hlk (t := (.object "java/lang/String")) hret rfl (Or.inr (Or.inr (Or.inr (Or.inr ⟨rfl, rfl, rfl⟩)))) (hb hby d14_25) (by decide) (by decide) ?_
  exact ⟨b43, b47, k47, rfl, N49, ((((Keep.refl h0 []).ext E43).trans K47 all0).trans K49 (allS (Or.inr (Nat.le_trans (Nat.le_refl _) sz_b43)) all0)), p49_0, p49_1, p49_2, (p47_0.keep K49 (ninS (Ne.symm (Nat.ne_of_lt (Nat.lt_of_lt_of_le A43.lt sz_b47))) nin0)), (Nat.le_trans (Nat.le_refl _) sz_b43), (Nat.le_trans (Nat.le_trans (Nat.le_refl _) E43.1) sz_b47)⟩
theorem ef_rm_col (m : MethodId) (x0 : Addr) (x1 : Addr) (x2 : Int32) : entryFrame m #[(.ref x0), (.ref x1), (.int x2)] 3 = mkF m 0 #[.val (.ref x0), .val (.ref x1), .val (.int x2)] [] := by first | (simp [entryFrame, mkF, argsToLocals, Value.category]; done) | rfl
theorem d7_0 : decode prog_13_method_1_code 0 = .ok (.aload_n 0, 1) := by decide +kernel
theorem d7_1 : decode prog_13_method_1_code 1 = .ok (.invokespecial 1, 3) := by decide +kernel
theorem pd_7 : parseMethodDescriptor "()V" = some ⟨[], none⟩ := by decide +kernel
theorem d7_4 : decode prog_13_method_1_code 4 = .ok (.aload_n 0, 1) := by decide +kernel
theorem d7_5 : decode prog_13_method_1_code 5 = .ok (.aload_n 1, 1) := by decide +kernel
theorem d7_6 : decode prog_13_method_1_code 6 = .ok (.putfield 7, 3) := by decide +kernel
theorem d7_9 : decode prog_13_method_1_code 9 = .ok (.aload_n 0, 1) := by decide +kernel
theorem d7_10 : decode prog_13_method_1_code 10 = .ok (.iload_n 2, 1) := by decide +kernel
theorem d7_11 : decode prog_13_method_1_code 11 = .ok (.putfield 13, 3) := by decide +kernel
theorem d7_14 : decode prog_13_method_1_code 14 = .ok (.return_, 1) := by decide +kernel
theorem pn_com_example_floatroom_floatroom_CsvReader_Column : plainName "com/example/floatroom/floatroom/CsvReader$Column" = true := by first | (simp [plainName, overriddenIn]; done) | decide +kernel
def Q_rm_col (Z : State) (a1 : Addr) (x1 : Addr) (x2 : Int32) (h0 : Heap) (n0 : Nat) (v : Option Value) (h : Heap) (L : List Loc) : Prop := v = none ∧ Fr n0 L ∧ Keep h0 h [a1] ∧ Exa Z h a1 "com/example/floatroom/floatroom/CsvReader$Column" ∧ Fld Z h a1 "com/example/floatroom/floatroom/CsvReader$Column" "name" "Ljava/lang/String;" (.ref x1) ∧ Fld Z h a1 "com/example/floatroom/floatroom/CsvReader$Column" "index" "I" (.int x2)
set_option maxRecDepth 65536 in
set_option maxHeartbeats 40000000 in
theorem rm_col (l : Launch) (Z : State) (a0 : Array Value) (hw : ∀ d ∈ tables_1, d.before a0 Z = true) (ws : List Jvm.Cond) (a1 : Addr) (x1 : Addr) (x2 : Int32) (h0 : Heap) (n0 : Nat) (Z0 : n0 ≤ h0.size) (pr0 : Old Z n0 h0) (pr1 : Exa Z h0 a1 "com/example/floatroom/floatroom/CsvReader$Column") (pr2 : Fld Z h0 a1 "com/example/floatroom/floatroom/CsvReader$Column" "name" "Ljava/lang/String;" .null) (pr3 : Fld Z h0 a1 "com/example/floatroom/floatroom/CsvReader$Column" "index" "I" (.int 0)) (pr4 : n0 ≤ a1) :
    Met l Z (⟨"com/example/floatroom/floatroom/CsvReader$Column", "<init>", "(Ljava/lang/String;I)V"⟩ : MethodName) prog_13_method_1_code 3 none ws ({ frames := 2, cells := 0, slots := 0, locals := 24 } : Room) #[(.ref a1), (.ref x1), (.int x2)] h0 (Q_rm_col Z a1 x1 x2 h0 n0) := by
  refine Met.enter (f0 := fun m => mkF m 0 #[.val (.ref a1), .val (.ref x1), .val (.int x2)] []) (plainFor_of_name pn_com_example_floatroom_floatroom_CsvReader_Column) (fun m => ef_rm_col m a1 x1 x2) ?_
  intro p e s m below meth c s₁ hx hby hml hown hnm hret hlk hZ X0 e0
  have hown : s.vm.findClass "com/example/floatroom/floatroom/CsvReader$Column" = some m.cls := hown
  have hnm : meth.name = "<init>" := hnm
  have hml : c.maxLocals = 3 := hml
  have hby : c.code = prog_13_method_1_code := hby
  have N0 := Fr.nil n0
  refine Go.by (B := (s₁.setTop (mkF m 1 #[.val (.ref a1), .val (.ref x1), .val (.int x2)] [(.ref a1)]))) (fun _ k => XS.aloadN X0.here hx rfl (hb hby d7_0) rfl rfl k) ?_
  obtain ⟨_, _, ⟨T51, L51, k51, n51⟩, -, X51, ⟨Lc51, hQ51, l51, y51, z51⟩, st51⟩ := X0.specialBack hx (y := (⟨"java/lang/Record", "<init>", "()V"⟩ : MethodName)) rfl hown (mvT hZ (wd hw 37 rfl)) (mvT hZ (wd hw 38 rfl)) (mvT hZ (wd hw 41 rfl)) (by decide) (backOf (W := 0) (rm_Record_init l Z a0 hw [] a1 h0 n0 Z0 ) hZ (wd hw 41 rfl) (wd hw 40 rfl) (by decide) (by decide)) (g := (mkF m 1 #[.val (.ref a1), .val (.ref x1), .val (.int x2)] [(.ref a1)])) rfl (by rw [hml]; rfl) (Steps.refl _) (a := a1) (argsL := []) (rest := []) (lenOf pd_7 rfl) rfl (by show 2 * 0 + _ ≤ _; exact Nat.le_of_eq rfl) (hb hby d7_1) (fun _ _ => ⟨rfl, e0, Nat.le_of_ble_eq_true rfl, Nat.le_of_ble_eq_true rfl⟩)
  dsimp only [Pt.U, Pt.locs, Pt.cells, Pt.slots] at X51 l51 y51 z51 st51 hQ51
  subst l51 y51 z51
  obtain ⟨rfl, Nq51, hh51⟩ := hQ51
  have N51 := Fr.app N0 Nq51
  refine Go.by (B := (T51.setTop (mkF m 4 #[.val (.ref a1), .val (.ref x1), .val (.int x2)] []))) (fun _ k => st51.trans k) ?_
  refine Go.by (B := (T51.setTop (mkF m 6 #[.val (.ref a1), .val (.ref x1), .val (.int x2)] [(.ref x1), (.ref a1)]))) (fun _ k => XS.aloadN X51.here hx rfl (hb hby d7_4) rfl rfl (XS.aloadN X51.here hx rfl (hb hby d7_5) rfl rfl k)) ?_
  obtain ⟨T52, h52, X52, e52, W52, st52⟩ := putF X51 hx hZ hown (host := "") (Or.inl (wd hw 43 rfl)) Via.refl hh51 pr2 pr1 (Or.inr ⟨(wd hw 44 rfl), rfl, hnm⟩) (wd hw 32 rfl) (ty := (.object "java/lang/String")) (by decide) rfl rfl (g := (mkF m 6 #[.val (.ref a1), .val (.ref x1), .val (.int x2)] [(.ref x1), (.ref a1)])) rfl rfl (hb hby d7_6)
  have N52 := Fr.snoc X52 N51 pr4
  have O53 := pr0.wr W52 pr4
  have Z53 : n0 ≤ h52.size := Nat.le_trans Z0 (Keep.of_wr W52).1
  have F52 := pr2.same W52
  refine Go.by (B := (T52.setTop (mkF m 9 #[.val (.ref a1), .val (.ref x1), .val (.int x2)] []))) st52 ?_
  refine Go.by (B := (T52.setTop (mkF m 11 #[.val (.ref a1), .val (.ref x1), .val (.int x2)] [(.int x2), (.ref a1)]))) (fun _ k => XS.aloadN X52.here hx rfl (hb hby d7_9) rfl rfl (XS.iloadN X52.here hx rfl (hb hby d7_10) rfl k)) ?_
  have f54 := (pr3.other W52 (Or.inr (slot_ne (Or.inr (wd hw 46 rfl)) (Or.inr (wd hw 44 rfl)) (by decide) (t := .int) (t' := (.object "java/lang/String")) (by decide) (by decide))))
  obtain ⟨T55, h55, X55, e55, W55, st55⟩ := putF X52 hx hZ hown (host := "") (Or.inl (wd hw 45 rfl)) Via.refl e52 f54 (pr1.wr W52) (Or.inr ⟨(wd hw 46 rfl), rfl, hnm⟩) (wd hw 32 rfl) (ty := .int) (by decide) rfl rfl (g := (mkF m 11 #[.val (.ref a1), .val (.ref x1), .val (.int x2)] [(.int x2), (.ref a1)])) rfl rfl (hb hby d7_11)
  have N55 := Fr.snoc X55 N52 pr4
  have O56 := O53.wr W55 pr4
  have Z56 : n0 ≤ h55.size := Nat.le_trans Z53 (Keep.of_wr W55).1
  have F55 := f54.same W55
  refine Go.by (B := (T55.setTop (mkF m 14 #[.val (.ref a1), .val (.ref x1), .val (.int x2)] []))) st55 ?_
  refine Go.retV X55 hx hlk hret (hb hby d7_14) (by decide) (by decide) ?_
  rw [e55]
  exact ⟨rfl, N55, (((Keep.refl h0 [a1]).wr W52 (Or.inl (List.mem_of_getElem? (i := 0) rfl))).wr W55 (Or.inl (List.mem_of_getElem? (i := 0) rfl))), ((pr1.wr W52).wr W55), (F52.other W55 (Or.inr (slot_ne (Or.inr (wd hw 44 rfl)) (Or.inr (wd hw 46 rfl)) (by decide) (t := (.object "java/lang/String")) (t' := .int) (by decide) (by decide)))), F55⟩
theorem ef_rm_pres_n (m : MethodId) (x0 : Addr) : entryFrame m #[(.ref x0)] 1 = mkF m 0 #[.val (.ref x0)] [] := by first | (simp [entryFrame, mkF, argsToLocals, Value.category]; done) | rfl
theorem d9_0 : decode prog_13_method_2_code 0 = .ok (.aload_n 0, 1) := by decide +kernel
theorem d9_1 : decode prog_13_method_2_code 1 = .ok (.getfield 13, 3) := by decide +kernel
theorem d9_4 : decode prog_13_method_2_code 4 = .ok (.ifCond .lt 7, 3) := by decide +kernel
theorem d9_11 : decode prog_13_method_2_code 11 = .ok (.iconst 0, 1) := by decide +kernel
theorem d9_12 : decode prog_13_method_2_code 12 = .ok (.ireturn, 1) := by decide +kernel
def Q_rm_pres_n (Z : State) (a1 : Addr) (x2 : Int32) (h0 : Heap) (n0 : Nat) (v : Option Value) (h : Heap) (L : List Loc) : Prop := v = some (.int 0) ∧ Fr n0 L ∧ h = h0
set_option maxRecDepth 65536 in
set_option maxHeartbeats 40000000 in
theorem rm_pres_n (l : Launch) (Z : State) (a0 : Array Value) (hw : ∀ d ∈ tables_1, d.before a0 Z = true) (ws : List Jvm.Cond) (a1 : Addr) (x2 : Int32) (h0 : Heap) (n0 : Nat) (Z0 : n0 ≤ h0.size) (pr0 : Fld Z h0 a1 "com/example/floatroom/floatroom/CsvReader$Column" "index" "I" (.int x2)) (q0 : x2 < (0 : Int32)) :
    Met l Z (⟨"com/example/floatroom/floatroom/CsvReader$Column", "isPresent", "()Z"⟩ : MethodName) prog_13_method_2_code 1 (some .boolean) ws ({ frames := 0, cells := 0, slots := 0, locals := 0 } : Room) #[(.ref a1)] h0 (Q_rm_pres_n Z a1 x2 h0 n0) := by
  refine Met.enter (f0 := fun m => mkF m 0 #[.val (.ref a1)] []) (plainFor_of_name pn_com_example_floatroom_floatroom_CsvReader_Column) (fun m => ef_rm_pres_n m a1) ?_
  intro p e s m below meth c s₁ hx hby hml hown hnm hret hlk hZ X0 e0
  have hown : s.vm.findClass "com/example/floatroom/floatroom/CsvReader$Column" = some m.cls := hown
  have hnm : meth.name = "isPresent" := hnm
  have hml : c.maxLocals = 1 := hml
  have hby : c.code = prog_13_method_2_code := hby
  have N0 := Fr.nil n0
  refine Go.by (B := (s₁.setTop (mkF m 1 #[.val (.ref a1)] [(.ref a1)]))) (fun _ k => XS.aloadN X0.here hx rfl (hb hby d9_0) rfl rfl k) ?_
  obtain ⟨T57, X57, e57, st57⟩ := getF X0 hx hZ hown (host := "") (Or.inl (wd hw 45 rfl)) Via.refl e0 pr0 (g := (mkF m 1 #[.val (.ref a1)] [(.ref a1)])) rfl rfl (hb hby d9_1)
  refine Go.by (B := (T57.setTop (mkF m 4 #[.val (.ref a1)] [(.int x2)]))) st57 ?_
  refine Go.by (B := (T57.setTop (mkF m 12 #[.val (.ref a1)] [(.int 0)]))) (fun _ k => XS.ifYes X57.here hx rfl (pc0 := 4) (pc' := 11) rfl (hb hby d9_4) rfl ((if0 _ _).trans (tlt q0).1) (by decide) (by decide) (XS.iconst X57.here hx rfl (hb hby d9_11) k)) ?_
  refine Go.ret X57 hx hlk (t := .boolean) hret rfl (Or.inl ⟨rfl, by simp, _, rfl⟩) (hb hby d9_12) (by decide) (by decide) ?_
  rw [e57]
  exact ⟨rfl, N0, rfl⟩
theorem ef_rm_exp_n (m : MethodId) (x0 : Int32) : entryFrame m #[(.int x0)] 1 = mkF m 0 #[.val (.int x0)] [] := by first | (simp [entryFrame, mkF, argsToLocals, Value.category]; done) | rfl
theorem d10_0 : decode method_2_code 0 = .ok (.iload_n 0, 1) := by decide +kernel
theorem d10_1 : decode method_2_code 1 = .ok (.ifCond .ge 5, 3) := by decide +kernel
theorem d10_4 : decode method_2_code 4 = .ok (.iconst 0, 1) := by decide +kernel
theorem d10_5 : decode method_2_code 5 = .ok (.ireturn, 1) := by decide +kernel
theorem pn_com_example_floatroom_floatroom_ColumnIsPresentPinLaw : plainName "com/example/floatroom/floatroom/ColumnIsPresentPinLaw" = true := by first | (simp [plainName, overriddenIn]; done) | decide +kernel
def Q_rm_exp_n (Z : State) (x2 : Int32) (h0 : Heap) (n0 : Nat) (v : Option Value) (h : Heap) (L : List Loc) : Prop := v = some (.int 0) ∧ Fr n0 L ∧ h = h0
set_option maxRecDepth 65536 in
set_option maxHeartbeats 40000000 in
theorem rm_exp_n (l : Launch) (Z : State) (a0 : Array Value) (hw : ∀ d ∈ tables_1, d.before a0 Z = true) (ws : List Jvm.Cond) (x2 : Int32) (h0 : Heap) (n0 : Nat) (Z0 : n0 ≤ h0.size) (q0 : x2 < (0 : Int32)) :
    Met l Z (⟨"com/example/floatroom/floatroom/ColumnIsPresentPinLaw", "expectedPresent", "(I)Z"⟩ : MethodName) method_2_code 1 (some .boolean) ws ({ frames := 0, cells := 0, slots := 0, locals := 0 } : Room) #[(.int x2)] h0 (Q_rm_exp_n Z x2 h0 n0) := by
  refine Met.enter (f0 := fun m => mkF m 0 #[.val (.int x2)] []) (plainFor_of_name pn_com_example_floatroom_floatroom_ColumnIsPresentPinLaw) (fun m => ef_rm_exp_n m x2) ?_
  intro p e s m below meth c s₁ hx hby hml hown hnm hret hlk hZ X0 e0
  have hown : s.vm.findClass "com/example/floatroom/floatroom/ColumnIsPresentPinLaw" = some m.cls := hown
  have hnm : meth.name = "expectedPresent" := hnm
  have hml : c.maxLocals = 1 := hml
  have hby : c.code = method_2_code := hby
  have N0 := Fr.nil n0
  refine Go.by (B := (s₁.setTop (mkF m 5 #[.val (.int x2)] [(.int 0)]))) (fun _ k => XS.iloadN X0.here hx rfl (hb hby d10_0) rfl (XS.ifNo X0.here hx rfl (hb hby d10_1) rfl ((if0 _ _).trans (tlt q0).2.1) (XS.iconst X0.here hx rfl (hb hby d10_4) k))) ?_
  refine Go.ret X0 hx hlk (t := .boolean) hret rfl (Or.inl ⟨rfl, by simp, _, rfl⟩) (hb hby d10_5) (by decide) (by decide) ?_
  rw [e0]
  exact ⟨rfl, N0, rfl⟩
theorem ef_rm_pres_p (m : MethodId) (x0 : Addr) : entryFrame m #[(.ref x0)] 1 = mkF m 0 #[.val (.ref x0)] [] := by first | (simp [entryFrame, mkF, argsToLocals, Value.category]; done) | rfl
theorem d9_7 : decode prog_13_method_2_code 7 = .ok (.iconst 1, 1) := by decide +kernel
theorem d9_8 : decode prog_13_method_2_code 8 = .ok (.goto 4, 3) := by decide +kernel
def Q_rm_pres_p (Z : State) (a1 : Addr) (x2 : Int32) (h0 : Heap) (n0 : Nat) (v : Option Value) (h : Heap) (L : List Loc) : Prop := v = some (.int 1) ∧ Fr n0 L ∧ h = h0
set_option maxRecDepth 65536 in
set_option maxHeartbeats 40000000 in
theorem rm_pres_p (l : Launch) (Z : State) (a0 : Array Value) (hw : ∀ d ∈ tables_1, d.before a0 Z = true) (ws : List Jvm.Cond) (a1 : Addr) (x2 : Int32) (h0 : Heap) (n0 : Nat) (Z0 : n0 ≤ h0.size) (pr0 : Fld Z h0 a1 "com/example/floatroom/floatroom/CsvReader$Column" "index" "I" (.int x2)) (q0 : ¬ (x2 < (0 : Int32))) :
    Met l Z (⟨"com/example/floatroom/floatroom/CsvReader$Column", "isPresent", "()Z"⟩ : MethodName) prog_13_method_2_code 1 (some .boolean) ws ({ frames := 0, cells := 0, slots := 0, locals := 0 } : Room) #[(.ref a1)] h0 (Q_rm_pres_p Z a1 x2 h0 n0) := by
  refine Met.enter (f0 := fun m => mkF m 0 #[.val (.ref a1)] []) (plainFor_of_name pn_com_example_floatroom_floatroom_CsvReader_Column) (fun m => ef_rm_pres_p m a1) ?_
  intro p e s m below meth c s₁ hx hby hml hown hnm hret hlk hZ X0 e0
  have hown : s.vm.findClass "com/example/floatroom/floatroom/CsvReader$Column" = some m.cls := hown
  have hnm : meth.name = "isPresent" := hnm
  have hml : c.maxLocals = 1 := hml
  have hby : c.code = prog_13_method_2_code := hby
  have N0 := Fr.nil n0
  refine Go.by (B := (s₁.setTop (mkF m 1 #[.val (.ref a1)] [(.ref a1)]))) (fun _ k => XS.aloadN X0.here hx rfl (hb hby d9_0) rfl rfl k) ?_
  obtain ⟨T58, X58, e58, st58⟩ := getF X0 hx hZ hown (host := "") (Or.inl (wd hw 45 rfl)) Via.refl e0 pr0 (g := (mkF m 1 #[.val (.ref a1)] [(.ref a1)])) rfl rfl (hb hby d9_1)
  refine Go.by (B := (T58.setTop (mkF m 4 #[.val (.ref a1)] [(.int x2)]))) st58 ?_
  refine Go.by (B := (T58.setTop (mkF m 12 #[.val (.ref a1)] [(.int 1)]))) (fun _ k => XS.ifNo X58.here hx rfl (hb hby d9_4) rfl ((if0 _ _).trans (flt q0).1) (XS.iconst X58.here hx rfl (hb hby d9_7) (XS.goto X58.here hx rfl (pc0 := 8) (pc' := 12) rfl (hb hby d9_8) (by decide) (by decide) k))) ?_
  refine Go.ret X58 hx hlk (t := .boolean) hret rfl (Or.inl ⟨rfl, by simp, _, rfl⟩) (hb hby d9_12) (by decide) (by decide) ?_
  rw [e58]
  exact ⟨rfl, N0, rfl⟩
theorem ef_rm_exp_p (m : MethodId) (x0 : Int32) : entryFrame m #[(.int x0)] 1 = mkF m 0 #[.val (.int x0)] [] := by first | (simp [entryFrame, mkF, argsToLocals, Value.category]; done) | rfl
theorem d10_6 : decode method_2_code 6 = .ok (.iconst 1, 1) := by decide +kernel
theorem d10_7 : decode method_2_code 7 = .ok (.ireturn, 1) := by decide +kernel
def Q_rm_exp_p (Z : State) (x2 : Int32) (h0 : Heap) (n0 : Nat) (v : Option Value) (h : Heap) (L : List Loc) : Prop := v = some (.int 1) ∧ Fr n0 L ∧ h = h0
set_option maxRecDepth 65536 in
set_option maxHeartbeats 40000000 in
theorem rm_exp_p (l : Launch) (Z : State) (a0 : Array Value) (hw : ∀ d ∈ tables_1, d.before a0 Z = true) (ws : List Jvm.Cond) (x2 : Int32) (h0 : Heap) (n0 : Nat) (Z0 : n0 ≤ h0.size) (q0 : ¬ (x2 < (0 : Int32))) :
    Met l Z (⟨"com/example/floatroom/floatroom/ColumnIsPresentPinLaw", "expectedPresent", "(I)Z"⟩ : MethodName) method_2_code 1 (some .boolean) ws ({ frames := 0, cells := 0, slots := 0, locals := 0 } : Room) #[(.int x2)] h0 (Q_rm_exp_p Z x2 h0 n0) := by
  refine Met.enter (f0 := fun m => mkF m 0 #[.val (.int x2)] []) (plainFor_of_name pn_com_example_floatroom_floatroom_ColumnIsPresentPinLaw) (fun m => ef_rm_exp_p m x2) ?_
  intro p e s m below meth c s₁ hx hby hml hown hnm hret hlk hZ X0 e0
  have hown : s.vm.findClass "com/example/floatroom/floatroom/ColumnIsPresentPinLaw" = some m.cls := hown
  have hnm : meth.name = "expectedPresent" := hnm
  have hml : c.maxLocals = 1 := hml
  have hby : c.code = method_2_code := hby
  have N0 := Fr.nil n0
  refine Go.by (B := (s₁.setTop (mkF m 7 #[.val (.int x2)] [(.int 1)]))) (fun _ k => XS.iloadN X0.here hx rfl (hb hby d10_0) rfl (XS.ifYes X0.here hx rfl (pc0 := 1) (pc' := 6) rfl (hb hby d10_1) rfl ((if0 _ _).trans (flt q0).2.1) (by decide) (by decide) (XS.iconst X0.here hx rfl (hb hby d10_6) k))) ?_
  refine Go.ret X0 hx hlk (t := .boolean) hret rfl (Or.inl ⟨rfl, by simp, _, rfl⟩) (hb hby d10_7) (by decide) (by decide) ?_
  rw [e0]
  exact ⟨rfl, N0, rfl⟩
theorem ef_rm_index (m : MethodId) (x0 : Addr) : entryFrame m #[(.ref x0)] 1 = mkF m 0 #[.val (.ref x0)] [] := by first | (simp [entryFrame, mkF, argsToLocals, Value.category]; done) | rfl
theorem d11_0 : decode prog_13_method_7_code 0 = .ok (.aload_n 0, 1) := by decide +kernel
theorem d11_1 : decode prog_13_method_7_code 1 = .ok (.getfield 13, 3) := by decide +kernel
theorem d11_4 : decode prog_13_method_7_code 4 = .ok (.ireturn, 1) := by decide +kernel
def Q_rm_index (Z : State) (a1 : Addr) (x1 : Int32) (h0 : Heap) (n0 : Nat) (v : Option Value) (h : Heap) (L : List Loc) : Prop := v = some (.int x1) ∧ Fr n0 L ∧ h = h0
set_option maxRecDepth 65536 in
set_option maxHeartbeats 40000000 in
theorem rm_index (l : Launch) (Z : State) (a0 : Array Value) (hw : ∀ d ∈ tables_1, d.before a0 Z = true) (ws : List Jvm.Cond) (a1 : Addr) (x1 : Int32) (h0 : Heap) (n0 : Nat) (Z0 : n0 ≤ h0.size) (pr0 : Fld Z h0 a1 "com/example/floatroom/floatroom/CsvReader$Column" "index" "I" (.int x1)) :
    Met l Z (⟨"com/example/floatroom/floatroom/CsvReader$Column", "index", "()I"⟩ : MethodName) prog_13_method_7_code 1 (some .int) ws ({ frames := 0, cells := 0, slots := 0, locals := 0 } : Room) #[(.ref a1)] h0 (Q_rm_index Z a1 x1 h0 n0) := by
  refine Met.enter (f0 := fun m => mkF m 0 #[.val (.ref a1)] []) (plainFor_of_name pn_com_example_floatroom_floatroom_CsvReader_Column) (fun m => ef_rm_index m a1) ?_
  intro p e s m below meth c s₁ hx hby hml hown hnm hret hlk hZ X0 e0
  have hown : s.vm.findClass "com/example/floatroom/floatroom/CsvReader$Column" = some m.cls := hown
  have hnm : meth.name = "index" := hnm
  have hml : c.maxLocals = 1 := hml
  have hby : c.code = prog_13_method_7_code := hby
  have N0 := Fr.nil n0
  refine Go.by (B := (s₁.setTop (mkF m 1 #[.val (.ref a1)] [(.ref a1)]))) (fun _ k => XS.aloadN X0.here hx rfl (hb hby d11_0) rfl rfl k) ?_
  obtain ⟨T59, X59, e59, st59⟩ := getF X0 hx hZ hown (host := "") (Or.inl (wd hw 45 rfl)) Via.refl e0 pr0 (g := (mkF m 1 #[.val (.ref a1)] [(.ref a1)])) rfl rfl (hb hby d11_1)
  refine Go.by (B := (T59.setTop (mkF m 4 #[.val (.ref a1)] [(.int x1)]))) st59 ?_
  refine Go.ret X59 hx hlk (t := .int) hret rfl (Or.inl ⟨rfl, by simp, _, rfl⟩) (hb hby d11_4) (by decide) (by decide) ?_
  rw [e59]
  exact ⟨rfl, N0, rfl⟩
theorem ef_rm_name (m : MethodId) (x0 : Addr) : entryFrame m #[(.ref x0)] 1 = mkF m 0 #[.val (.ref x0)] [] := by first | (simp [entryFrame, mkF, argsToLocals, Value.category]; done) | rfl
theorem d12_0 : decode prog_13_method_6_code 0 = .ok (.aload_n 0, 1) := by decide +kernel
theorem d12_1 : decode prog_13_method_6_code 1 = .ok (.getfield 7, 3) := by decide +kernel
theorem d12_4 : decode prog_13_method_6_code 4 = .ok (.areturn, 1) := by decide +kernel
def Q_rm_name (Z : State) (a1 : Addr) (x1 : Addr) (h0 : Heap) (n0 : Nat) (v : Option Value) (h : Heap) (L : List Loc) : Prop := v = some (.ref x1) ∧ Fr n0 L ∧ h = h0
set_option maxRecDepth 65536 in
set_option maxHeartbeats 40000000 in
theorem rm_name (l : Launch) (Z : State) (a0 : Array Value) (hw : ∀ d ∈ tables_1, d.before a0 Z = true) (ws : List Jvm.Cond) (a1 : Addr) (x1 : Addr) (h0 : Heap) (n0 : Nat) (Z0 : n0 ≤ h0.size) (pr0 : Fld Z h0 a1 "com/example/floatroom/floatroom/CsvReader$Column" "name" "Ljava/lang/String;" (.ref x1)) :
    Met l Z (⟨"com/example/floatroom/floatroom/CsvReader$Column", "name", "()Ljava/lang/String;"⟩ : MethodName) prog_13_method_6_code 1 (some (.object "java/lang/String")) ws ({ frames := 0, cells := 0, slots := 0, locals := 0 } : Room) #[(.ref a1)] h0 (Q_rm_name Z a1 x1 h0 n0) := by
  refine Met.enter (f0 := fun m => mkF m 0 #[.val (.ref a1)] []) (plainFor_of_name pn_com_example_floatroom_floatroom_CsvReader_Column) (fun m => ef_rm_name m a1) ?_
  intro p e s m below meth c s₁ hx hby hml hown hnm hret hlk hZ X0 e0
  have hown : s.vm.findClass "com/example/floatroom/floatroom/CsvReader$Column" = some m.cls := hown
  have hnm : meth.name = "name" := hnm
  have hml : c.maxLocals = 1 := hml
  have hby : c.code = prog_13_method_6_code := hby
  have N0 := Fr.nil n0
  refine Go.by (B := (s₁.setTop (mkF m 1 #[.val (.ref a1)] [(.ref a1)]))) (fun _ k => XS.aloadN X0.here hx rfl (hb hby d12_0) rfl rfl k) ?_
  obtain ⟨T60, X60, e60, st60⟩ := getF X0 hx hZ hown (host := "") (Or.inl (wd hw 43 rfl)) Via.refl e0 pr0 (g := (mkF m 1 #[.val (.ref a1)] [(.ref a1)])) rfl rfl (hb hby d12_1)
  refine Go.by (B := (T60.setTop (mkF m 4 #[.val (.ref a1)] [(.ref x1)]))) st60 ?_
  refine Go.ret X60 hx hlk (t := (.object "java/lang/String")) hret rfl (Or.inr (Or.inr (Or.inr (Or.inr ⟨rfl, rfl, rfl⟩)))) (hb hby d12_4) (by decide) (by decide) ?_
  rw [e60]
  exact ⟨rfl, N0, rfl⟩
theorem ef_rm_eqs (m : MethodId) (x0 : Addr) (x1 : Addr) : entryFrame m #[(.ref x0), (.ref x1)] 3 = mkF m 0 #[.val (.ref x0), .val (.ref x1), .unset] [] := by first | (simp [entryFrame, mkF, argsToLocals, Value.category]; done) | rfl
theorem d13_0 : decode jdk_42_method_66_code 0 = .ok (.aload_n 0, 1) := by decide +kernel
theorem d13_1 : decode jdk_42_method_66_code 1 = .ok (.aload_n 1, 1) := by decide +kernel
theorem d13_2 : decode jdk_42_method_66_code 2 = .ok (.if_acmp .ne 5, 3) := by decide +kernel
theorem d13_5 : decode jdk_42_method_66_code 5 = .ok (.iconst 1, 1) := by decide +kernel
theorem d13_6 : decode jdk_42_method_66_code 6 = .ok (.ireturn, 1) := by decide +kernel
def Q_rm_eqs (Z : State) (a1 : Addr) (h0 : Heap) (n0 : Nat) (v : Option Value) (h : Heap) (L : List Loc) : Prop := v = some (.int 1) ∧ Fr n0 L ∧ h = h0
set_option maxRecDepth 65536 in
set_option maxHeartbeats 40000000 in
theorem rm_eqs (l : Launch) (Z : State) (a0 : Array Value) (hw : ∀ d ∈ tables_1, d.before a0 Z = true) (ws : List Jvm.Cond) (a1 : Addr) (h0 : Heap) (n0 : Nat) (Z0 : n0 ≤ h0.size) :
    Met l Z (⟨"java/lang/String", "equals", "(Ljava/lang/Object;)Z"⟩ : MethodName) jdk_42_method_66_code 3 (some .boolean) ws ({ frames := 0, cells := 0, slots := 0, locals := 0 } : Room) #[(.ref a1), (.ref a1)] h0 (Q_rm_eqs Z a1 h0 n0) := by
  refine Met.enter (f0 := fun m => mkF m 0 #[.val (.ref a1), .val (.ref a1), .unset] []) (plainFor_of_name pn_java_lang_String) (fun m => ef_rm_eqs m a1 a1) ?_
  intro p e s m below meth c s₁ hx hby hml hown hnm hret hlk hZ X0 e0
  have hown : s.vm.findClass "java/lang/String" = some m.cls := hown
  have hnm : meth.name = "equals" := hnm
  have hml : c.maxLocals = 3 := hml
  have hby : c.code = jdk_42_method_66_code := hby
  have N0 := Fr.nil n0
  refine Go.by (B := (s₁.setTop (mkF m 6 #[.val (.ref a1), .val (.ref a1), .unset] [(.int 1)]))) (fun _ k => XS.aloadN X0.here hx rfl (hb hby d13_0) rfl rfl (XS.aloadN X0.here hx rfl (hb hby d13_1) rfl rfl (Jvm.RoadKit.acmp (g := (mkF m 2 #[.val (.ref a1), .val (.ref a1), .unset] [(.ref a1), (.ref a1)])) X0 hx rfl rfl rfl (pc0 := 2) (pc' := 5) (same := true) rfl (hb hby d13_2) rfl (decide_eq_true rfl) (by decide) (by decide) (XS.iconst X0.here hx rfl (hb hby d13_5) k)))) ?_
  refine Go.ret X0 hx hlk (t := .boolean) hret rfl (Or.inl ⟨rfl, by simp, _, rfl⟩) (hb hby d13_6) (by decide) (by decide) ?_
  rw [e0]
  exact ⟨rfl, N0, rfl⟩
theorem ef_rm0 (m : MethodId) (x0 : Int32) (x1 : Int32) (x2 : Int32) (x3 : Int32) : entryFrame m #[(.int x0), (.int x1), (.int x2), (.int x3)] maxLocals = mkF m 0 #[.val (.int x0), .val (.int x1), .val (.int x2), .val (.int x3), .unset, .unset, .unset, .unset, .unset, .unset, .unset, .unset, .unset, .unset] [] := by first | (simp [entryFrame, mkF, argsToLocals, Value.category, maxLocals]; done) | rfl
theorem pd_8 : parseMethodDescriptor "(C)Ljava/lang/String;" = some ⟨[.char], some (.object "java/lang/String")⟩ := by decide +kernel
theorem pd_9 : parseMethodDescriptor "(Ljava/lang/String;I)V" = some ⟨[(.object "java/lang/String"), .int], none⟩ := by decide +kernel
theorem pd_10 : parseMethodDescriptor "()Z" = some ⟨[], some .boolean⟩ := by decide +kernel
theorem pd_11 : parseMethodDescriptor "(I)Z" = some ⟨[.int], some .boolean⟩ := by decide +kernel
theorem pd_12 : parseMethodDescriptor "()I" = some ⟨[], some .int⟩ := by decide +kernel
theorem pd_13 : parseMethodDescriptor "()Ljava/lang/String;" = some ⟨[], some (.object "java/lang/String")⟩ := by decide +kernel
theorem pd_14 : parseMethodDescriptor "(Ljava/lang/Object;)Z" = some ⟨[(.object "java/lang/Object")], some .boolean⟩ := by decide +kernel
theorem pd_15 : parseMethodDescriptor "([C)V" = some ⟨[(.array .char)], none⟩ := by decide +kernel
def Q_rm0 (Z : State) (p1 : Int32) (p2 : Int32) (p3 : Int32) (p4 : Int32) (cs : Int32) (h0 : Heap) (n0 : Nat) (v : Option Value) (h : Heap) (L : List Loc) : Prop := v = some (.int 1) ∧ Fr n0 L
set_option maxRecDepth 65536 in
set_option maxHeartbeats 40000000 in
theorem rm0 (l : Launch) (Z : State) (a0 : Array Value) (hw : ∀ d ∈ tables_1, d.before a0 Z = true) (ws : List Jvm.Cond) (p1 : Int32) (p2 : Int32) (p3 : Int32) (p4 : Int32) (cs : Int32) (h0 : Heap) (n0 : Nat) (Z0 : n0 ≤ h0.size) (pr0 : Old Z n0 h0) (pr1 : Sta Z Z.heap "java/lang/String" "COMPACT_STRINGS" "Z" (.int cs)) (hcs : ¬ (cs = (0 : Int32))) :
    Met l Z x code maxLocals ret ws room_1 #[(.int p1), (.int p2), (.int p3), (.int p4)] h0 (Q_rm0 Z p1 p2 p3 p4 cs h0 n0) := by
  refine Met.enter (f0 := fun m => mkF m 0 #[.val (.int p1), .val (.int p2), .val (.int p3), .val (.int p4), .unset, .unset, .unset, .unset, .unset, .unset, .unset, .unset, .unset, .unset] []) (plainFor_of_name pn_com_example_floatroom_floatroom_ColumnIsPresentPinLaw) (fun m => ef_rm0 m p1 p2 p3 p4) ?_
  intro p e s m below meth c s₁ hx hby hml hown hnm hret hlk hZ X0 e0
  have hown : s.vm.findClass "com/example/floatroom/floatroom/ColumnIsPresentPinLaw" = some m.cls := hown
  have hnm : meth.name = "law" := hnm
  have hml : c.maxLocals = 14 := hml
  have hby : c.code = code := hby
  have N0 := Fr.nil n0
  refine Go.by (B := (s₁.setTop (mkF m 1 #[.val (.int p1), .val (.int p2), .val (.int p3), .val (.int p4), .unset, .unset, .unset, .unset, .unset, .unset, .unset, .unset, .unset, .unset] [(.int 2)]))) (fun _ k => XS.iconst X0.here hx rfl (hb hby at_0) k) ?_
  obtain ⟨T61, h61, k61, X61, e61, E61, A61, st61⟩ := newP X0 hx hZ (wd hw 0 rfl) e0 (g := (mkF m 1 #[.val (.int p1), .val (.int p2), .val (.int p3), .val (.int p4), .unset, .unset, .unset, .unset, .unset, .unset, .unset, .unset, .unset, .unset] [(.int 2)])) rfl (hb hby at_1) rfl (by decide) (cap := 2) (by decide) (by decide) (by decide) (by decide)
  obtain ⟨b61, g61⟩ : ∃ z, z = h0.size := ⟨_, rfl⟩
  rw [← g61] at A61 st61
  have sz_b61 : h0.size ≤ b61 := Nat.le_of_eq g61.symm
  have V61 : Arv Z h61 b61 k61 .char (2 : Int32) [(.int 0), (.int 0)] (.int 0) := (Arv.new A61 (by decide)).pad (pad_rep [] (.int 0) 2)
  have O62 := pr0.ext E61
  have Z62 : n0 ≤ h61.size := Nat.le_trans Z0 E61.1
  refine Go.by (B := (T61.setTop (mkF m 3 #[.val (.int p1), .val (.int p2), .val (.int p3), .val (.int p4), .unset, .unset, .unset, .unset, .unset, .unset, .unset, .unset, .unset, .unset] [(.ref b61)]))) st61 ?_
  refine Go.by (B := (T61.setTop (mkF m 14 #[.val (.int p1), .val (.int p2), .val (.int p3), .val (.int p4), .val (.ref b61), .unset, .unset, .unset, .unset, .unset, .unset, .unset, .unset, .unset] [(.int ((p2 &&& (255 : Int32)).toUInt32.toUInt16.toUInt32.toInt32)), (.int 0), (.ref b61)]))) (fun _ k => XS.astore X61.here hx rfl (hb hby at_3) rfl rfl (l' := #[.val (.int p1), .val (.int p2), .val (.int p3), .val (.int p4), .val (.ref b61), .unset, .unset, .unset, .unset, .unset, .unset, .unset, .unset, .unset]) rfl (XS.aload X61.here hx rfl (hb hby at_5) rfl rfl (XS.iconst X61.here hx rfl (hb hby at_7) (XS.iloadN X61.here hx rfl (hb hby at_8) rfl (XS.sipush X61.here hx rfl (hb hby at_9) (XS.iand X61.here hx rfl (hb hby at_12) rfl (XS.i2c X61.here hx rfl (hb hby at_13) rfl k))))))) ?_
  obtain ⟨cl63, Ar63, q63, S63, N_63, Hs63, G63⟩ := id V61
  have hin64 : ¬ ((0 : Int32) < 0 ∨ cl63.slots.size ≤ ((0 : Int32)).toNatClampNeg) := inb_of S63 ⟨by decide, by decide⟩
  obtain ⟨T64, h64, X64, e64, W64, st64⟩ := stC X61 hx hZ e61 Ar63 (j := (0 : Int32)) hin64 (g := (mkF m 14 #[.val (.int p1), .val (.int p2), .val (.int p3), .val (.int p4), .val (.ref b61), .unset, .unset, .unset, .unset, .unset, .unset, .unset, .unset, .unset] [(.int ((p2 &&& (255 : Int32)).toUInt32.toUInt16.toUInt32.toInt32)), (.int 0), (.ref b61)])) rfl rfl (hb hby at_14)
  have O65 := O62.wr W64 (Nat.le_trans Z0 sz_b61)
  have Z65 : n0 ≤ h64.size := Nat.le_trans Z62 (Keep.of_wr W64).1
  have V64 : Arv Z h64 b61 k61 .char (2 : Int32) [(.int (nar .char ((p2 &&& (255 : Int32)).toUInt32.toUInt16.toUInt32.toInt32))), (.int 0)] (.int 0) := Arv.set Ar63 q63 S63 N_63 Hs63 G63 (fits_nar_char _) W64 0 rfl (Nat.le_of_ble_eq_true rfl)
  have N64 := Fr.snoc X64 N0 (Nat.le_trans Z0 sz_b61)
  refine Go.by (B := (T64.setTop (mkF m 15 #[.val (.int p1), .val (.int p2), .val (.int p3), .val (.int p4), .val (.ref b61), .unset, .unset, .unset, .unset, .unset, .unset, .unset, .unset, .unset] []))) st64 ?_
  refine Go.by (B := (T64.setTop (mkF m 24 #[.val (.int p1), .val (.int p2), .val (.int p3), .val (.int p4), .val (.ref b61), .unset, .unset, .unset, .unset, .unset, .unset, .unset, .unset, .unset] [(.int ((p3 &&& (255 : Int32)).toUInt32.toUInt16.toUInt32.toInt32)), (.int 1), (.ref b61)]))) (fun _ k => XS.aload X64.here hx rfl (hb hby at_15) rfl rfl (XS.iconst X64.here hx rfl (hb hby at_17) (XS.iloadN X64.here hx rfl (hb hby at_18) rfl (XS.sipush X64.here hx rfl (hb hby at_19) (XS.iand X64.here hx rfl (hb hby at_22) rfl (XS.i2c X64.here hx rfl (hb hby at_23) rfl k)))))) ?_
  obtain ⟨cl66, Ar66, q66, S66, N_66, Hs66, G66⟩ := id V64
  have hin67 : ¬ ((1 : Int32) < 0 ∨ cl66.slots.size ≤ ((1 : Int32)).toNatClampNeg) := inb_of S66 ⟨by decide, by decide⟩
  obtain ⟨T67, h67, X67, e67, W67, st67⟩ := stC X64 hx hZ e64 Ar66 (j := (1 : Int32)) hin67 (g := (mkF m 24 #[.val (.int p1), .val (.int p2), .val (.int p3), .val (.int p4), .val (.ref b61), .unset, .unset, .unset, .unset, .unset, .unset, .unset, .unset, .unset] [(.int ((p3 &&& (255 : Int32)).toUInt32.toUInt16.toUInt32.toInt32)), (.int 1), (.ref b61)])) rfl rfl (hb hby at_24)
  have O68 := O65.wr W67 (Nat.le_trans Z0 sz_b61)
  have Z68 : n0 ≤ h67.size := Nat.le_trans Z65 (Keep.of_wr W67).1
  have V67 : Arv Z h67 b61 k61 .char (2 : Int32) [(.int (nar .char ((p2 &&& (255 : Int32)).toUInt32.toUInt16.toUInt32.toInt32))), (.int (nar .char ((p3 &&& (255 : Int32)).toUInt32.toUInt16.toUInt32.toInt32)))] (.int 0) := Arv.set Ar66 q66 S66 N_66 Hs66 G66 (fits_nar_char _) W67 1 rfl (Nat.le_of_ble_eq_true rfl)
  have N67 := Fr.snoc X67 N64 (Nat.le_trans Z0 sz_b61)
  refine Go.by (B := (T67.setTop (mkF m 25 #[.val (.int p1), .val (.int p2), .val (.int p3), .val (.int p4), .val (.ref b61), .unset, .unset, .unset, .unset, .unset, .unset, .unset, .unset, .unset] []))) st67 ?_
  refine Go.by (B := (T67.setTop (mkF m 28 #[.val (.int p1), .val (.int p2), .val (.int p3), .val (.int p4), .val (.ref b61), .unset, .unset, .unset, .unset, .unset, .unset, .unset, .unset, .unset] [(.int (p4 &&& (1 : Int32)))]))) (fun _ k => XS.iloadN X67.here hx rfl (hb hby at_25) rfl (XS.iconst X67.here hx rfl (hb hby at_26) (XS.iand X67.here hx rfl (hb hby at_27) rfl k))) ?_
  by_cases c69 : (p4 &&& (1 : Int32)) = (0 : Int32)
  · skip
    refine Go.by (B := (T67.setTop (mkF m 46 #[.val (.int p1), .val (.int p2), .val (.int p3), .val (.int p4), .val (.ref b61), .unset, .unset, .unset, .unset, .unset, .unset, .unset, .unset, .unset] [(.int 0), (.ref b61)]))) (fun _ k => XS.ifYes X67.here hx rfl (pc0 := 28) (pc' := 43) rfl (hb hby at_28) rfl ((if0 _ _).trans (teq c69).1) (by decide) (by decide) (XS.aload X67.here hx rfl (hb hby at_43) rfl rfl (XS.iconst X67.here hx rfl (hb hby at_45) k))) ?_
    obtain ⟨cl70, Ar70, q70, S70, N_70, Hs70, G70⟩ := id V67
    have hin71 : ¬ ((0 : Int32) < 0 ∨ cl70.slots.size ≤ ((0 : Int32)).toNatClampNeg) := inb_of S70 ⟨by decide, by decide⟩
    have hat71 : cl70.slots[((0 : Int32)).toNatClampNeg]? = some (.int (nar .char ((p2 &&& (255 : Int32)).toUInt32.toUInt16.toUInt32.toInt32))) := Hs70.at hin71 rfl
    refine Go.by (B := (T67.setTop (mkF m 47 #[.val (.int p1), .val (.int p2), .val (.int p3), .val (.int p4), .val (.ref b61), .unset, .unset, .unset, .unset, .unset, .unset, .unset, .unset, .unset] [(.int (nar .char ((p2 &&& (255 : Int32)).toUInt32.toUInt16.toUInt32.toInt32)))]))) (fun _ k => X67.caload hx (j := (0 : Int32)) (v := (.int (nar .char ((p2 &&& (255 : Int32)).toUInt32.toUInt16.toUInt32.toInt32)))) (by rw [e67]; exact Ar70.1) (State.isArrayOf_alike hZ.alike Ar70.2.1) Ar70.2.2 hin71 hat71 (g := (mkF m 46 #[.val (.int p1), .val (.int p2), .val (.int p3), .val (.int p4), .val (.ref b61), .unset, .unset, .unset, .unset, .unset, .unset, .unset, .unset, .unset] [(.int 0), (.ref b61)])) rfl rfl (hb hby at_46) _ k) ?_
    obtain ⟨_, _, ⟨T72, L72, k72, n72⟩, -, X72, ⟨Lc72, hQ72, l72, y72, z72⟩, st72⟩ := Jvm.LawKit.callS X67 hx (y := (⟨"java/lang/String", "valueOf", "(C)Ljava/lang/String;"⟩ : MethodName)) hown (mvT hZ (wd hw 71 rfl)) (mvT hZ (wd hw 72 rfl)) (mvT hZ (wd hw 3 rfl)) (mvT hZ (wd hw 73 rfl)) (by decide) (backOf (W := 0) (rm_valueOfC l Z a0 hw [] (nar .char ((p2 &&& (255 : Int32)).toUInt32.toUInt16.toUInt32.toInt32)) cs h67 n0 Z68 O68 pr1 hcs (own_chn _)) hZ (wd hw 73 rfl) (wd hw 3 rfl) (by decide) (by decide)) (g := (mkF m 47 #[.val (.int p1), .val (.int p2), .val (.int p3), .val (.int p4), .val (.ref b61), .unset, .unset, .unset, .unset, .unset, .unset, .unset, .unset, .unset] [(.int (nar .char ((p2 &&& (255 : Int32)).toUInt32.toUInt16.toUInt32.toInt32)))])) rfl (by rw [hml]; rfl) (argsL := [(.int (nar .char ((p2 &&& (255 : Int32)).toUInt32.toUInt16.toUInt32.toInt32)))]) (rest := []) (lenOf pd_8 rfl) rfl (by show 2 * 0 + _ ≤ _; exact Nat.le_of_eq rfl) (hb hby at_47) (fun _ _ => ⟨rfl, e67, Nat.le_of_ble_eq_true rfl, Nat.le_of_ble_eq_true rfl⟩)
    dsimp only [Pt.U, Pt.locs, Pt.cells, Pt.slots] at X72 l72 y72 z72 st72 hQ72
    subst l72 y72 z72
    obtain ⟨b72, t72, k72, rfl, Nq72, K72, p72_0, p72_1, p72_2, p72_3, p72_4, p72_5⟩ := hQ72
    have N72 := Fr.app N67 Nq72
    have O73 := O68.keep K72 all0
    have Z73 : n0 ≤ T72.heap.size := Nat.le_trans Z68 K72.1
    have sz_b72 : h67.size ≤ b72 := p72_4
    have sz_t72 : h67.size ≤ t72 := p72_5
    refine Go.by (B := (T72.setTop (mkF m 50 #[.val (.int p1), .val (.int p2), .val (.int p3), .val (.int p4), .val (.ref b61), .unset, .unset, .unset, .unset, .unset, .unset, .unset, .unset, .unset] [(.ref b72)]))) (fun _ k => st72 _ k) ?_
    refine Go.by (B := (T72.setTop (mkF m 52 #[.val (.int p1), .val (.int p2), .val (.int p3), .val (.int p4), .val (.ref b61), .val (.ref b72), .unset, .unset, .unset, .unset, .unset, .unset, .unset, .unset] []))) (fun _ k => XS.astore X72.here hx rfl (hb hby at_50) rfl rfl (l' := #[.val (.int p1), .val (.int p2), .val (.int p3), .val (.int p4), .val (.ref b61), .val (.ref b72), .unset, .unset, .unset, .unset, .unset, .unset, .unset, .unset]) rfl k) ?_
    rcases Classical.em (p1 < (0 : Int32)) with c74 | c74
    · skip
      refine Go.by (B := (T72.setTop (mkF m 56 #[.val (.int p1), .val (.int p2), .val (.int p3), .val (.int p4), .val (.ref b61), .val (.ref b72), .unset, .unset, .unset, .unset, .unset, .unset, .unset, .unset] [(.int (p1 &&& (2147483647 : Int32)))]))) (fun _ k => XS.iloadN X72.here hx rfl (hb hby at_52) rfl (X72.ldcInt hx hown (mvT hZ (wd hw 30 rfl)) (g := (mkF m 53 #[.val (.int p1), .val (.int p2), .val (.int p3), .val (.int p4), .val (.ref b61), .val (.ref b72), .unset, .unset, .unset, .unset, .unset, .unset, .unset, .unset] [(.int p1)])) rfl (hb hby at_53) _ (XS.iand X72.here hx rfl (hb hby at_55) rfl k))) ?_
      obtain ⟨v75, hv75⟩ : ∃ v, v = (p1 &&& (2147483647 : Int32)) := ⟨_, rfl⟩
      refine Go.by (B := (T72.setTop (mkF m 58 #[.val (.int p1), .val (.int p2), .val (.int p3), .val (.int p4), .val (.ref b61), .val (.ref b72), .val (.int v75), .unset, .unset, .unset, .unset, .unset, .unset, .unset] []))) (fun _ k => XS.istore (x := v75) (rest := []) X72.here hx rfl (hb hby at_56) (by rw [hv75]) (l' := #[.val (.int p1), .val (.int p2), .val (.int p3), .val (.int p4), .val (.ref b61), .val (.ref b72), .val (.int v75), .unset, .unset, .unset, .unset, .unset, .unset, .unset]) rfl k) ?_
      have hpv75 : ¬ v75 < (0 : Int32) := hv75 ▸ own_pos _
      obtain ⟨T76, h76, X76, e76, E76, A76, D76, -, st76⟩ := newO X72 hx hZ hown (wd hw 31 rfl) (wd hw 32 rfl) (wd hw 33 rfl) rfl (g := (mkF m 58 #[.val (.int p1), .val (.int p2), .val (.int p3), .val (.int p4), .val (.ref b61), .val (.ref b72), .val (.int v75), .unset, .unset, .unset, .unset, .unset, .unset, .unset] [])) rfl (hb hby at_58) (by decide) (by decide)
      obtain ⟨b76, g76⟩ : ∃ z, z = T72.heap.size := ⟨_, rfl⟩
      rw [← g76] at A76 D76 st76
      have sz_b76 : T72.heap.size ≤ b76 := Nat.le_of_eq g76.symm
      have O77 := O73.ext E76
      have Z77 : n0 ≤ h76.size := Nat.le_trans Z73 E76.1
      have F78 : Fld Z h76 b76 "com/example/floatroom/floatroom/CsvReader$Column" "name" "Ljava/lang/String;" .null := D76 (Or.inr (wd hw 44 rfl)) (ty := (.object "java/lang/String")) (by decide)
      have F79 : Fld Z h76 b76 "com/example/floatroom/floatroom/CsvReader$Column" "index" "I" (.int 0) := D76 (Or.inr (wd hw 46 rfl)) (ty := .int) (by decide)
      refine Go.by (B := (T76.setTop (mkF m 61 #[.val (.int p1), .val (.int p2), .val (.int p3), .val (.int p4), .val (.ref b61), .val (.ref b72), .val (.int v75), .unset, .unset, .unset, .unset, .unset, .unset, .unset] [(.ref b76)]))) st76 ?_
      refine Go.by (B := (T76.setTop (mkF m 65 #[.val (.int p1), .val (.int p2), .val (.int p3), .val (.int p4), .val (.ref b61), .val (.ref b72), .val (.int v75), .unset, .unset, .unset, .unset, .unset, .unset, .unset] [(.int p1), (.ref b72), (.ref b76), (.ref b76)]))) (fun _ k => XS.dup X76.here hx rfl (hb hby at_61) rfl rfl (XS.aload X76.here hx rfl (hb hby at_62) rfl rfl (XS.iloadN X76.here hx rfl (hb hby at_64) rfl k))) ?_
      obtain ⟨_, _, ⟨T80, L80, k80, n80⟩, -, X80, ⟨Lc80, hQ80, l80, y80, z80⟩, st80⟩ := X76.specialBack hx (y := (⟨"com/example/floatroom/floatroom/CsvReader$Column", "<init>", "(Ljava/lang/String;I)V"⟩ : MethodName)) rfl hown (mvT hZ (wd hw 34 rfl)) (mvT hZ (wd hw 35 rfl)) (mvT hZ (wd hw 36 rfl)) (by decide) (backOf (W := 1) (rm_col l Z a0 hw [] b76 b72 p1 h76 n0 Z77 O77 A76 F78 F79 (Nat.le_trans Z73 sz_b76)) hZ (wd hw 36 rfl) (wd hw 33 rfl) (by decide) (by decide)) (g := (mkF m 65 #[.val (.int p1), .val (.int p2), .val (.int p3), .val (.int p4), .val (.ref b61), .val (.ref b72), .val (.int v75), .unset, .unset, .unset, .unset, .unset, .unset, .unset] [(.int p1), (.ref b72), (.ref b76), (.ref b76)])) rfl (by rw [hml]; rfl) (Steps.refl _) (a := b76) (argsL := [(.ref b72), (.int p1)]) (rest := [(.ref b76)]) (lenOf pd_9 rfl) rfl (by show 2 * 0 + _ ≤ _; exact Nat.le_of_eq rfl) (hb hby at_65) (fun _ _ => ⟨rfl, e76, Nat.le_of_ble_eq_true rfl, Nat.le_of_ble_eq_true rfl⟩)
      dsimp only [Pt.U, Pt.locs, Pt.cells, Pt.slots] at X80 l80 y80 z80 st80 hQ80
      subst l80 y80 z80
      obtain ⟨rfl, Nq80, K80, p80_0, p80_1, p80_2⟩ := hQ80
      have N80 := Fr.app N72 Nq80
      have O81 := O77.keep K80 (allS (Nat.le_trans Z73 sz_b76) all0)
      have Z81 : n0 ≤ T80.heap.size := Nat.le_trans Z77 K80.1
      refine Go.by (B := (T80.setTop (mkF m 68 #[.val (.int p1), .val (.int p2), .val (.int p3), .val (.int p4), .val (.ref b61), .val (.ref b72), .val (.int v75), .unset, .unset, .unset, .unset, .unset, .unset, .unset] [(.ref b76)]))) (fun _ k => st80.trans k) ?_
      refine Go.by (B := (T80.setTop (mkF m 70 #[.val (.int p1), .val (.int p2), .val (.int p3), .val (.int p4), .val (.ref b61), .val (.ref b72), .val (.int v75), .val (.ref b76), .unset, .unset, .unset, .unset, .unset, .unset] []))) (fun _ k => XS.astore X80.here hx rfl (hb hby at_68) rfl rfl (l' := #[.val (.int p1), .val (.int p2), .val (.int p3), .val (.int p4), .val (.ref b61), .val (.ref b72), .val (.int v75), .val (.ref b76), .unset, .unset, .unset, .unset, .unset, .unset]) rfl k) ?_
      obtain ⟨T82, h82, X82, e82, E82, A82, D82, -, st82⟩ := newO X80 hx hZ hown (wd hw 31 rfl) (wd hw 32 rfl) (wd hw 33 rfl) rfl (g := (mkF m 70 #[.val (.int p1), .val (.int p2), .val (.int p3), .val (.int p4), .val (.ref b61), .val (.ref b72), .val (.int v75), .val (.ref b76), .unset, .unset, .unset, .unset, .unset, .unset] [])) rfl (hb hby at_70) (by decide) (by decide)
      obtain ⟨b82, g82⟩ : ∃ z, z = T80.heap.size := ⟨_, rfl⟩
      rw [← g82] at A82 D82 st82
      have sz_b82 : T80.heap.size ≤ b82 := Nat.le_of_eq g82.symm
      have O83 := O81.ext E82
      have Z83 : n0 ≤ h82.size := Nat.le_trans Z81 E82.1
      have F84 : Fld Z h82 b82 "com/example/floatroom/floatroom/CsvReader$Column" "name" "Ljava/lang/String;" .null := D82 (Or.inr (wd hw 44 rfl)) (ty := (.object "java/lang/String")) (by decide)
      have F85 : Fld Z h82 b82 "com/example/floatroom/floatroom/CsvReader$Column" "index" "I" (.int 0) := D82 (Or.inr (wd hw 46 rfl)) (ty := .int) (by decide)
      refine Go.by (B := (T82.setTop (mkF m 73 #[.val (.int p1), .val (.int p2), .val (.int p3), .val (.int p4), .val (.ref b61), .val (.ref b72), .val (.int v75), .val (.ref b76), .unset, .unset, .unset, .unset, .unset, .unset] [(.ref b82)]))) st82 ?_
      refine Go.by (B := (T82.setTop (mkF m 77 #[.val (.int p1), .val (.int p2), .val (.int p3), .val (.int p4), .val (.ref b61), .val (.ref b72), .val (.int v75), .val (.ref b76), .unset, .unset, .unset, .unset, .unset, .unset] [(.int (-1 : Int32)), (.ref b72), (.ref b82), (.ref b82)]))) (fun _ k => XS.dup X82.here hx rfl (hb hby at_73) rfl rfl (XS.aload X82.here hx rfl (hb hby at_74) rfl rfl (XS.iconst X82.here hx rfl (hb hby at_76) k))) ?_
      obtain ⟨_, _, ⟨T86, L86, k86, n86⟩, -, X86, ⟨Lc86, hQ86, l86, y86, z86⟩, st86⟩ := X82.specialBack hx (y := (⟨"com/example/floatroom/floatroom/CsvReader$Column", "<init>", "(Ljava/lang/String;I)V"⟩ : MethodName)) rfl hown (mvT hZ (wd hw 34 rfl)) (mvT hZ (wd hw 35 rfl)) (mvT hZ (wd hw 36 rfl)) (by decide) (backOf (W := 1) (rm_col l Z a0 hw [] b82 b72 (-1 : Int32) h82 n0 Z83 O83 A82 F84 F85 (Nat.le_trans Z81 sz_b82)) hZ (wd hw 36 rfl) (wd hw 33 rfl) (by decide) (by decide)) (g := (mkF m 77 #[.val (.int p1), .val (.int p2), .val (.int p3), .val (.int p4), .val (.ref b61), .val (.ref b72), .val (.int v75), .val (.ref b76), .unset, .unset, .unset, .unset, .unset, .unset] [(.int (-1 : Int32)), (.ref b72), (.ref b82), (.ref b82)])) rfl (by rw [hml]; rfl) (Steps.refl _) (a := b82) (argsL := [(.ref b72), (.int (-1 : Int32))]) (rest := [(.ref b82)]) (lenOf pd_9 rfl) rfl (by show 2 * 0 + _ ≤ _; exact Nat.le_of_eq rfl) (hb hby at_77) (fun _ _ => ⟨rfl, e82, Nat.le_of_ble_eq_true rfl, Nat.le_of_ble_eq_true rfl⟩)
      dsimp only [Pt.U, Pt.locs, Pt.cells, Pt.slots] at X86 l86 y86 z86 st86 hQ86
      subst l86 y86 z86
      obtain ⟨rfl, Nq86, K86, p86_0, p86_1, p86_2⟩ := hQ86
      have N86 := Fr.app N80 Nq86
      have O87 := O83.keep K86 (allS (Nat.le_trans Z81 sz_b82) all0)
      have Z87 : n0 ≤ T86.heap.size := Nat.le_trans Z83 K86.1
      refine Go.by (B := (T86.setTop (mkF m 80 #[.val (.int p1), .val (.int p2), .val (.int p3), .val (.int p4), .val (.ref b61), .val (.ref b72), .val (.int v75), .val (.ref b76), .unset, .unset, .unset, .unset, .unset, .unset] [(.ref b82)]))) (fun _ k => st86.trans k) ?_
      refine Go.by (B := (T86.setTop (mkF m 82 #[.val (.int p1), .val (.int p2), .val (.int p3), .val (.int p4), .val (.ref b61), .val (.ref b72), .val (.int v75), .val (.ref b76), .val (.ref b82), .unset, .unset, .unset, .unset, .unset] []))) (fun _ k => XS.astore X86.here hx rfl (hb hby at_80) rfl rfl (l' := #[.val (.int p1), .val (.int p2), .val (.int p3), .val (.int p4), .val (.ref b61), .val (.ref b72), .val (.int v75), .val (.ref b76), .val (.ref b82), .unset, .unset, .unset, .unset, .unset]) rfl k) ?_
      obtain ⟨T88, h88, X88, e88, E88, A88, D88, -, st88⟩ := newO X86 hx hZ hown (wd hw 31 rfl) (wd hw 32 rfl) (wd hw 33 rfl) rfl (g := (mkF m 82 #[.val (.int p1), .val (.int p2), .val (.int p3), .val (.int p4), .val (.ref b61), .val (.ref b72), .val (.int v75), .val (.ref b76), .val (.ref b82), .unset, .unset, .unset, .unset, .unset] [])) rfl (hb hby at_82) (by decide) (by decide)
      obtain ⟨b88, g88⟩ : ∃ z, z = T86.heap.size := ⟨_, rfl⟩
      rw [← g88] at A88 D88 st88
      have sz_b88 : T86.heap.size ≤ b88 := Nat.le_of_eq g88.symm
      have O89 := O87.ext E88
      have Z89 : n0 ≤ h88.size := Nat.le_trans Z87 E88.1
      have F90 : Fld Z h88 b88 "com/example/floatroom/floatroom/CsvReader$Column" "name" "Ljava/lang/String;" .null := D88 (Or.inr (wd hw 44 rfl)) (ty := (.object "java/lang/String")) (by decide)
      have F91 : Fld Z h88 b88 "com/example/floatroom/floatroom/CsvReader$Column" "index" "I" (.int 0) := D88 (Or.inr (wd hw 46 rfl)) (ty := .int) (by decide)
      refine Go.by (B := (T88.setTop (mkF m 85 #[.val (.int p1), .val (.int p2), .val (.int p3), .val (.int p4), .val (.ref b61), .val (.ref b72), .val (.int v75), .val (.ref b76), .val (.ref b82), .unset, .unset, .unset, .unset, .unset] [(.ref b88)]))) st88 ?_
      refine Go.by (B := (T88.setTop (mkF m 90 #[.val (.int p1), .val (.int p2), .val (.int p3), .val (.int p4), .val (.ref b61), .val (.ref b72), .val (.int v75), .val (.ref b76), .val (.ref b82), .unset, .unset, .unset, .unset, .unset] [(.int v75), (.ref b72), (.ref b88), (.ref b88)]))) (fun _ k => XS.dup X88.here hx rfl (hb hby at_85) rfl rfl (XS.aload X88.here hx rfl (hb hby at_86) rfl rfl (XS.iload X88.here hx rfl (hb hby at_88) rfl k))) ?_
      obtain ⟨_, _, ⟨T92, L92, k92, n92⟩, -, X92, ⟨Lc92, hQ92, l92, y92, z92⟩, st92⟩ := X88.specialBack hx (y := (⟨"com/example/floatroom/floatroom/CsvReader$Column", "<init>", "(Ljava/lang/String;I)V"⟩ : MethodName)) rfl hown (mvT hZ (wd hw 34 rfl)) (mvT hZ (wd hw 35 rfl)) (mvT hZ (wd hw 36 rfl)) (by decide) (backOf (W := 1) (rm_col l Z a0 hw [] b88 b72 v75 h88 n0 Z89 O89 A88 F90 F91 (Nat.le_trans Z87 sz_b88)) hZ (wd hw 36 rfl) (wd hw 33 rfl) (by decide) (by decide)) (g := (mkF m 90 #[.val (.int p1), .val (.int p2), .val (.int p3), .val (.int p4), .val (.ref b61), .val (.ref b72), .val (.int v75), .val (.ref b76), .val (.ref b82), .unset, .unset, .unset, .unset, .unset] [(.int v75), (.ref b72), (.ref b88), (.ref b88)])) rfl (by rw [hml]; rfl) (Steps.refl _) (a := b88) (argsL := [(.ref b72), (.int v75)]) (rest := [(.ref b88)]) (lenOf pd_9 rfl) rfl (by show 2 * 0 + _ ≤ _; exact Nat.le_of_eq rfl) (hb hby at_90) (fun _ _ => ⟨rfl, e88, Nat.le_of_ble_eq_true rfl, Nat.le_of_ble_eq_true rfl⟩)
      dsimp only [Pt.U, Pt.locs, Pt.cells, Pt.slots] at X92 l92 y92 z92 st92 hQ92
      subst l92 y92 z92
      obtain ⟨rfl, Nq92, K92, p92_0, p92_1, p92_2⟩ := hQ92
      have N92 := Fr.app N86 Nq92
      have O93 := O89.keep K92 (allS (Nat.le_trans Z87 sz_b88) all0)
      have Z93 : n0 ≤ T92.heap.size := Nat.le_trans Z89 K92.1
      refine Go.by (B := (T92.setTop (mkF m 93 #[.val (.int p1), .val (.int p2), .val (.int p3), .val (.int p4), .val (.ref b61), .val (.ref b72), .val (.int v75), .val (.ref b76), .val (.ref b82), .unset, .unset, .unset, .unset, .unset] [(.ref b88)]))) (fun _ k => st92.trans k) ?_
      refine Go.by (B := (T92.setTop (mkF m 97 #[.val (.int p1), .val (.int p2), .val (.int p3), .val (.int p4), .val (.ref b61), .val (.ref b72), .val (.int v75), .val (.ref b76), .val (.ref b82), .val (.ref b88), .unset, .unset, .unset, .unset] [(.ref b76)]))) (fun _ k => XS.astore X92.here hx rfl (hb hby at_93) rfl rfl (l' := #[.val (.int p1), .val (.int p2), .val (.int p3), .val (.int p4), .val (.ref b61), .val (.ref b72), .val (.int v75), .val (.ref b76), .val (.ref b82), .val (.ref b88), .unset, .unset, .unset, .unset]) rfl (XS.aload X92.here hx rfl (hb hby at_95) rfl rfl k)) ?_
      have f94 := ((((p80_2.ext E82).keep K86 (ninS (Nat.ne_of_lt (Nat.lt_of_lt_of_le p80_0.lt sz_b82)) nin0)).ext E88).keep K92 (ninS (Nat.ne_of_lt (Nat.lt_of_lt_of_le ((p80_0.ext E82).keep K86).lt sz_b88)) nin0))
      have f96 := ((((p80_0.ext E82).keep K86).ext E88).keep K92)
      obtain ⟨cq95, kq95, q95a, q95b, q95c⟩ := isOf hZ rfl f96
      obtain ⟨_, _, ⟨T95, L95, k95, n95⟩, -, X95, ⟨Lc95, hQ95, l95, y95, z95⟩, st95⟩ := X92.virtualBack hx (y := (⟨"com/example/floatroom/floatroom/CsvReader$Column", "isPresent", "()Z"⟩ : MethodName)) (z := (⟨"com/example/floatroom/floatroom/CsvReader$Column", "isPresent", "()Z"⟩ : MethodName)) hown (mvT hZ (wd hw 47 rfl)) (mvT hZ (wd hw 48 rfl)) (notFace_of_selects (args := #[]) (mvT hZ (wd hw 50 rfl))) (mvT hZ (wd hw 50 rfl)) (mvT hZ (wd hw 49 rfl)) (by decide) (backOf (W := 0) (rm_pres_n l Z a0 hw [] b76 p1 T92.heap n0 Z93 f94 c74) hZ (wd hw 51 rfl) (wd hw 33 rfl) (by decide) (by decide)) q95a q95c (g := (mkF m 97 #[.val (.int p1), .val (.int p2), .val (.int p3), .val (.int p4), .val (.ref b61), .val (.ref b72), .val (.int v75), .val (.ref b76), .val (.ref b82), .val (.ref b88), .unset, .unset, .unset, .unset] [(.ref b76)])) rfl (by rw [hml]; rfl) (Steps.refl _) (argsL := []) (rest := []) (lenOf pd_10 rfl) rfl (by show 2 * 0 + _ ≤ _; exact Nat.le_of_eq rfl) (hb hby at_97) (fun _ _ => ⟨rfl, rfl, Nat.le_of_ble_eq_true rfl, Nat.le_of_ble_eq_true rfl⟩)
      dsimp only [Pt.U, Pt.locs, Pt.cells, Pt.slots] at X95 l95 y95 z95 st95 hQ95
      subst l95 y95 z95
      obtain ⟨rfl, Nq95, hh95⟩ := hQ95
      have N95 := Fr.app N92 Nq95
      refine Go.by (B := (T95.setTop (mkF m 100 #[.val (.int p1), .val (.int p2), .val (.int p3), .val (.int p4), .val (.ref b61), .val (.ref b72), .val (.int v75), .val (.ref b76), .val (.ref b82), .val (.ref b88), .unset, .unset, .unset, .unset] [(.int 0)]))) (fun _ k => st95.trans k) ?_
      refine Go.by (B := (T95.setTop (mkF m 101 #[.val (.int p1), .val (.int p2), .val (.int p3), .val (.int p4), .val (.ref b61), .val (.ref b72), .val (.int v75), .val (.ref b76), .val (.ref b82), .val (.ref b88), .unset, .unset, .unset, .unset] [(.int p1), (.int 0)]))) (fun _ k => XS.iloadN X95.here hx rfl (hb hby at_100) rfl k) ?_
      obtain ⟨_, _, ⟨T97, L97, k97, n97⟩, -, X97, ⟨Lc97, hQ97, l97, y97, z97⟩, st97⟩ := Jvm.LawKit.callS X95 hx (y := (⟨"com/example/floatroom/floatroom/ColumnIsPresentPinLaw", "expectedPresent", "(I)Z"⟩ : MethodName)) hown (mvT hZ (wd hw 52 rfl)) (mvT hZ (wd hw 53 rfl)) (mvT hZ (wd hw 54 rfl)) (mvT hZ (wd hw 55 rfl)) (by decide) (backOf (W := 1) (rm_exp_n l Z a0 hw [] p1 T92.heap n0 Z93 c74) hZ (wd hw 55 rfl) (wd hw 54 rfl) (by decide) (by decide)) (g := (mkF m 101 #[.val (.int p1), .val (.int p2), .val (.int p3), .val (.int p4), .val (.ref b61), .val (.ref b72), .val (.int v75), .val (.ref b76), .val (.ref b82), .val (.ref b88), .unset, .unset, .unset, .unset] [(.int p1), (.int 0)])) rfl (by rw [hml]; rfl) (argsL := [(.int p1)]) (rest := [(.int 0)]) (lenOf pd_11 rfl) rfl (by show 2 * 0 + _ ≤ _; exact Nat.le_of_eq rfl) (hb hby at_101) (fun _ _ => ⟨rfl, hh95, Nat.le_of_ble_eq_true rfl, Nat.le_of_ble_eq_true rfl⟩)
      dsimp only [Pt.U, Pt.locs, Pt.cells, Pt.slots] at X97 l97 y97 z97 st97 hQ97
      subst l97 y97 z97
      obtain ⟨rfl, Nq97, hh97⟩ := hQ97
      have N97 := Fr.app N95 Nq97
      refine Go.by (B := (T97.setTop (mkF m 104 #[.val (.int p1), .val (.int p2), .val (.int p3), .val (.int p4), .val (.ref b61), .val (.ref b72), .val (.int v75), .val (.ref b76), .val (.ref b82), .val (.ref b88), .unset, .unset, .unset, .unset] [(.int 0), (.int 0)]))) (fun _ k => st97 _ k) ?_
      refine Go.by (B := (T97.setTop (mkF m 116 #[.val (.int p1), .val (.int p2), .val (.int p3), .val (.int p4), .val (.ref b61), .val (.ref b72), .val (.int v75), .val (.ref b76), .val (.ref b82), .val (.ref b88), .val (.int 1), .unset, .unset, .unset] [(.ref b82)]))) (fun _ k => XS.icmpNo X97.here hx rfl (hb hby at_104) rfl (teq (by decide : (0 : Int32) = (0 : Int32))).2 (XS.iconst X97.here hx rfl (hb hby at_107) (XS.goto X97.here hx rfl (pc0 := 108) (pc' := 112) rfl (hb hby at_108) (by decide) (by decide) (XS.istore X97.here hx rfl (hb hby at_112) rfl (l' := #[.val (.int p1), .val (.int p2), .val (.int p3), .val (.int p4), .val (.ref b61), .val (.ref b72), .val (.int v75), .val (.ref b76), .val (.ref b82), .val (.ref b88), .val (.int 1), .unset, .unset, .unset]) rfl (XS.aload X97.here hx rfl (hb hby at_114) rfl rfl k))))) ?_
      have f98 := ((p86_2.ext E88).keep K92 (ninS (Nat.ne_of_lt (Nat.lt_of_lt_of_le p86_0.lt sz_b88)) nin0))
      obtain ⟨cq99, kq99, q99a, q99b, q99c⟩ := isOf hZ hh97 ((p86_0.ext E88).keep K92)
      obtain ⟨_, _, ⟨T99, L99, k99, n99⟩, -, X99, ⟨Lc99, hQ99, l99, y99, z99⟩, st99⟩ := X97.virtualBack hx (y := (⟨"com/example/floatroom/floatroom/CsvReader$Column", "isPresent", "()Z"⟩ : MethodName)) (z := (⟨"com/example/floatroom/floatroom/CsvReader$Column", "isPresent", "()Z"⟩ : MethodName)) hown (mvT hZ (wd hw 47 rfl)) (mvT hZ (wd hw 48 rfl)) (notFace_of_selects (args := #[]) (mvT hZ (wd hw 50 rfl))) (mvT hZ (wd hw 50 rfl)) (mvT hZ (wd hw 49 rfl)) (by decide) (backOf (W := 0) (rm_pres_n l Z a0 hw [] b82 (-1 : Int32) T92.heap n0 Z93 f98 (by decide)) hZ (wd hw 51 rfl) (wd hw 33 rfl) (by decide) (by decide)) q99a q99c (g := (mkF m 116 #[.val (.int p1), .val (.int p2), .val (.int p3), .val (.int p4), .val (.ref b61), .val (.ref b72), .val (.int v75), .val (.ref b76), .val (.ref b82), .val (.ref b88), .val (.int 1), .unset, .unset, .unset] [(.ref b82)])) rfl (by rw [hml]; rfl) (Steps.refl _) (argsL := []) (rest := []) (lenOf pd_10 rfl) rfl (by show 2 * 0 + _ ≤ _; exact Nat.le_of_eq rfl) (hb hby at_116) (fun _ _ => ⟨rfl, hh97, Nat.le_of_ble_eq_true rfl, Nat.le_of_ble_eq_true rfl⟩)
      dsimp only [Pt.U, Pt.locs, Pt.cells, Pt.slots] at X99 l99 y99 z99 st99 hQ99
      subst l99 y99 z99
      obtain ⟨rfl, Nq99, hh99⟩ := hQ99
      have N99 := Fr.app N97 Nq99
      refine Go.by (B := (T99.setTop (mkF m 119 #[.val (.int p1), .val (.int p2), .val (.int p3), .val (.int p4), .val (.ref b61), .val (.ref b72), .val (.int v75), .val (.ref b76), .val (.ref b82), .val (.ref b88), .val (.int 1), .unset, .unset, .unset] [(.int 0)]))) (fun _ k => st99.trans k) ?_
      refine Go.by (B := (T99.setTop (mkF m 131 #[.val (.int p1), .val (.int p2), .val (.int p3), .val (.int p4), .val (.ref b61), .val (.ref b72), .val (.int v75), .val (.ref b76), .val (.ref b82), .val (.ref b88), .val (.int 1), .val (.int 1), .unset, .unset] [(.ref b88)]))) (fun _ k => XS.ifNo X99.here hx rfl (hb hby at_119) rfl ((if0 _ _).trans (teq (by decide : (0 : Int32) = (0 : Int32))).2) (XS.iconst X99.here hx rfl (hb hby at_122) (XS.goto X99.here hx rfl (pc0 := 123) (pc' := 127) rfl (hb hby at_123) (by decide) (by decide) (XS.istore X99.here hx rfl (hb hby at_127) rfl (l' := #[.val (.int p1), .val (.int p2), .val (.int p3), .val (.int p4), .val (.ref b61), .val (.ref b72), .val (.int v75), .val (.ref b76), .val (.ref b82), .val (.ref b88), .val (.int 1), .val (.int 1), .unset, .unset]) rfl (XS.aload X99.here hx rfl (hb hby at_129) rfl rfl k))))) ?_
      obtain ⟨cq100, kq100, q100a, q100b, q100c⟩ := isOf hZ hh99 p92_0
      obtain ⟨_, _, ⟨T100, L100, k100, n100⟩, -, X100, ⟨Lc100, hQ100, l100, y100, z100⟩, st100⟩ := X99.virtualBack hx (y := (⟨"com/example/floatroom/floatroom/CsvReader$Column", "isPresent", "()Z"⟩ : MethodName)) (z := (⟨"com/example/floatroom/floatroom/CsvReader$Column", "isPresent", "()Z"⟩ : MethodName)) hown (mvT hZ (wd hw 47 rfl)) (mvT hZ (wd hw 48 rfl)) (notFace_of_selects (args := #[]) (mvT hZ (wd hw 50 rfl))) (mvT hZ (wd hw 50 rfl)) (mvT hZ (wd hw 49 rfl)) (by decide) (backOf (W := 0) (rm_pres_p l Z a0 hw [] b88 v75 T92.heap n0 Z93 p92_2 hpv75) hZ (wd hw 51 rfl) (wd hw 33 rfl) (by decide) (by decide)) q100a q100c (g := (mkF m 131 #[.val (.int p1), .val (.int p2), .val (.int p3), .val (.int p4), .val (.ref b61), .val (.ref b72), .val (.int v75), .val (.ref b76), .val (.ref b82), .val (.ref b88), .val (.int 1), .val (.int 1), .unset, .unset] [(.ref b88)])) rfl (by rw [hml]; rfl) (Steps.refl _) (argsL := []) (rest := []) (lenOf pd_10 rfl) rfl (by show 2 * 0 + _ ≤ _; exact Nat.le_of_eq rfl) (hb hby at_131) (fun _ _ => ⟨rfl, hh99, Nat.le_of_ble_eq_true rfl, Nat.le_of_ble_eq_true rfl⟩)
      dsimp only [Pt.U, Pt.locs, Pt.cells, Pt.slots] at X100 l100 y100 z100 st100 hQ100
      subst l100 y100 z100
      obtain ⟨rfl, Nq100, hh100⟩ := hQ100
      have N100 := Fr.app N99 Nq100
      refine Go.by (B := (T100.setTop (mkF m 134 #[.val (.int p1), .val (.int p2), .val (.int p3), .val (.int p4), .val (.ref b61), .val (.ref b72), .val (.int v75), .val (.ref b76), .val (.ref b82), .val (.ref b88), .val (.int 1), .val (.int 1), .unset, .unset] [(.int 1)]))) (fun _ k => st100.trans k) ?_
      refine Go.by (B := (T100.setTop (mkF m 138 #[.val (.int p1), .val (.int p2), .val (.int p3), .val (.int p4), .val (.ref b61), .val (.ref b72), .val (.int v75), .val (.ref b76), .val (.ref b82), .val (.ref b88), .val (.int 1), .val (.int 1), .val (.int 1), .unset] [(.ref b76)]))) (fun _ k => XS.istore X100.here hx rfl (hb hby at_134) rfl (l' := #[.val (.int p1), .val (.int p2), .val (.int p3), .val (.int p4), .val (.ref b61), .val (.ref b72), .val (.int v75), .val (.ref b76), .val (.ref b82), .val (.ref b88), .val (.int 1), .val (.int 1), .val (.int 1), .unset]) rfl (XS.aload X100.here hx rfl (hb hby at_136) rfl rfl k)) ?_
      obtain ⟨cq101, kq101, q101a, q101b, q101c⟩ := isOf hZ hh100 f96
      obtain ⟨_, _, ⟨T101, L101, k101, n101⟩, -, X101, ⟨Lc101, hQ101, l101, y101, z101⟩, st101⟩ := X100.virtualBack hx (y := (⟨"com/example/floatroom/floatroom/CsvReader$Column", "index", "()I"⟩ : MethodName)) (z := (⟨"com/example/floatroom/floatroom/CsvReader$Column", "index", "()I"⟩ : MethodName)) hown (mvT hZ (wd hw 56 rfl)) (mvT hZ (wd hw 57 rfl)) (notFace_of_selects (args := #[]) (mvT hZ (wd hw 59 rfl))) (mvT hZ (wd hw 59 rfl)) (mvT hZ (wd hw 58 rfl)) (by decide) (backOf (W := 0) (rm_index l Z a0 hw [] b76 p1 T92.heap n0 Z93 f94) hZ (wd hw 60 rfl) (wd hw 33 rfl) (by decide) (by decide)) q101a q101c (g := (mkF m 138 #[.val (.int p1), .val (.int p2), .val (.int p3), .val (.int p4), .val (.ref b61), .val (.ref b72), .val (.int v75), .val (.ref b76), .val (.ref b82), .val (.ref b88), .val (.int 1), .val (.int 1), .val (.int 1), .unset] [(.ref b76)])) rfl (by rw [hml]; rfl) (Steps.refl _) (argsL := []) (rest := []) (lenOf pd_12 rfl) rfl (by show 2 * 0 + _ ≤ _; exact Nat.le_of_eq rfl) (hb hby at_138) (fun _ _ => ⟨rfl, hh100, Nat.le_of_ble_eq_true rfl, Nat.le_of_ble_eq_true rfl⟩)
      dsimp only [Pt.U, Pt.locs, Pt.cells, Pt.slots] at X101 l101 y101 z101 st101 hQ101
      subst l101 y101 z101
      obtain ⟨rfl, Nq101, hh101⟩ := hQ101
      have N101 := Fr.app N100 Nq101
      refine Go.by (B := (T101.setTop (mkF m 141 #[.val (.int p1), .val (.int p2), .val (.int p3), .val (.int p4), .val (.ref b61), .val (.ref b72), .val (.int v75), .val (.ref b76), .val (.ref b82), .val (.ref b88), .val (.int 1), .val (.int 1), .val (.int 1), .unset] [(.int p1)]))) (fun _ k => st101.trans k) ?_
      refine Go.by (B := (T101.setTop (mkF m 147 #[.val (.int p1), .val (.int p2), .val (.int p3), .val (.int p4), .val (.ref b61), .val (.ref b72), .val (.int v75), .val (.ref b76), .val (.ref b82), .val (.ref b88), .val (.int 1), .val (.int 1), .val (.int 1), .unset] [(.ref b76)]))) (fun _ k => XS.iloadN X101.here hx rfl (hb hby at_141) rfl (XS.icmpNo X101.here hx rfl (hb hby at_142) rfl (teq (rfl : p1 = p1)).2 (XS.aload X101.here hx rfl (hb hby at_145) rfl rfl k))) ?_
      have f102 := ((((p80_1.ext E82).keep K86 (ninS (Nat.ne_of_lt (Nat.lt_of_lt_of_le p80_0.lt sz_b82)) nin0)).ext E88).keep K92 (ninS (Nat.ne_of_lt (Nat.lt_of_lt_of_le ((p80_0.ext E82).keep K86).lt sz_b88)) nin0))
      obtain ⟨cq103, kq103, q103a, q103b, q103c⟩ := isOf hZ hh101 f96
      obtain ⟨_, _, ⟨T103, L103, k103, n103⟩, -, X103, ⟨Lc103, hQ103, l103, y103, z103⟩, st103⟩ := X101.virtualBack hx (y := (⟨"com/example/floatroom/floatroom/CsvReader$Column", "name", "()Ljava/lang/String;"⟩ : MethodName)) (z := (⟨"com/example/floatroom/floatroom/CsvReader$Column", "name", "()Ljava/lang/String;"⟩ : MethodName)) hown (mvT hZ (wd hw 61 rfl)) (mvT hZ (wd hw 62 rfl)) (notFace_of_selects (args := #[]) (mvT hZ (wd hw 64 rfl))) (mvT hZ (wd hw 64 rfl)) (mvT hZ (wd hw 63 rfl)) (by decide) (backOf (W := 0) (rm_name l Z a0 hw [] b76 b72 T92.heap n0 Z93 f102) hZ (wd hw 65 rfl) (wd hw 33 rfl) (by decide) (by decide)) q103a q103c (g := (mkF m 147 #[.val (.int p1), .val (.int p2), .val (.int p3), .val (.int p4), .val (.ref b61), .val (.ref b72), .val (.int v75), .val (.ref b76), .val (.ref b82), .val (.ref b88), .val (.int 1), .val (.int 1), .val (.int 1), .unset] [(.ref b76)])) rfl (by rw [hml]; rfl) (Steps.refl _) (argsL := []) (rest := []) (lenOf pd_13 rfl) rfl (by show 2 * 0 + _ ≤ _; exact Nat.le_of_eq rfl) (hb hby at_147) (fun _ _ => ⟨rfl, hh101, Nat.le_of_ble_eq_true rfl, Nat.le_of_ble_eq_true rfl⟩)
      dsimp only [Pt.U, Pt.locs, Pt.cells, Pt.slots] at X103 l103 y103 z103 st103 hQ103
      subst l103 y103 z103
      obtain ⟨rfl, Nq103, hh103⟩ := hQ103
      have N103 := Fr.app N101 Nq103
      refine Go.by (B := (T103.setTop (mkF m 150 #[.val (.int p1), .val (.int p2), .val (.int p3), .val (.int p4), .val (.ref b61), .val (.ref b72), .val (.int v75), .val (.ref b76), .val (.ref b82), .val (.ref b88), .val (.int 1), .val (.int 1), .val (.int 1), .unset] [(.ref b72)]))) (fun _ k => st103.trans k) ?_
      refine Go.by (B := (T103.setTop (mkF m 152 #[.val (.int p1), .val (.int p2), .val (.int p3), .val (.int p4), .val (.ref b61), .val (.ref b72), .val (.int v75), .val (.ref b76), .val (.ref b82), .val (.ref b88), .val (.int 1), .val (.int 1), .val (.int 1), .unset] [(.ref b72), (.ref b72)]))) (fun _ k => XS.aload X103.here hx rfl (hb hby at_150) rfl rfl k) ?_
      have f105 := ((((((p72_0.ext E76).keep K80).ext E82).keep K86).ext E88).keep K92)
      obtain ⟨cq104, kq104, q104a, q104b, q104c⟩ := isOf hZ hh103 f105
      obtain ⟨_, _, ⟨T104, L104, k104, n104⟩, -, X104, ⟨Lc104, hQ104, l104, y104, z104⟩, st104⟩ := X103.virtualBack hx (y := (⟨"java/lang/String", "equals", "(Ljava/lang/Object;)Z"⟩ : MethodName)) (z := (⟨"java/lang/String", "equals", "(Ljava/lang/Object;)Z"⟩ : MethodName)) hown (mvT hZ (wd hw 66 rfl)) (mvT hZ (wd hw 67 rfl)) (notFace_of_selects (args := #[]) (mvT hZ (wd hw 69 rfl))) (mvT hZ (wd hw 69 rfl)) (mvT hZ (wd hw 68 rfl)) (by decide) (backOf (W := 0) (rm_eqs l Z a0 hw [] b72 T92.heap n0 Z93 ) hZ (wd hw 70 rfl) (wd hw 3 rfl) (by decide) (by decide)) q104a q104c (g := (mkF m 152 #[.val (.int p1), .val (.int p2), .val (.int p3), .val (.int p4), .val (.ref b61), .val (.ref b72), .val (.int v75), .val (.ref b76), .val (.ref b82), .val (.ref b88), .val (.int 1), .val (.int 1), .val (.int 1), .unset] [(.ref b72), (.ref b72)])) rfl (by rw [hml]; rfl) (Steps.refl _) (argsL := [(.ref b72)]) (rest := []) (lenOf pd_14 rfl) rfl (by show 2 * 0 + _ ≤ _; exact Nat.le_of_eq rfl) (hb hby at_152) (fun _ _ => ⟨rfl, hh103, Nat.le_of_ble_eq_true rfl, Nat.le_of_ble_eq_true rfl⟩)
      dsimp only [Pt.U, Pt.locs, Pt.cells, Pt.slots] at X104 l104 y104 z104 st104 hQ104
      subst l104 y104 z104
      obtain ⟨rfl, Nq104, hh104⟩ := hQ104
      have N104 := Fr.app N103 Nq104
      refine Go.by (B := (T104.setTop (mkF m 155 #[.val (.int p1), .val (.int p2), .val (.int p3), .val (.int p4), .val (.ref b61), .val (.ref b72), .val (.int v75), .val (.ref b76), .val (.ref b82), .val (.ref b88), .val (.int 1), .val (.int 1), .val (.int 1), .unset] [(.int 1)]))) (fun _ k => st104.trans k) ?_
      refine Go.by (B := (T104.setTop (mkF m 175 #[.val (.int p1), .val (.int p2), .val (.int p3), .val (.int p4), .val (.ref b61), .val (.ref b72), .val (.int v75), .val (.ref b76), .val (.ref b82), .val (.ref b88), .val (.int 1), .val (.int 1), .val (.int 1), .val (.int 1)] []))) (fun _ k => XS.ifNo X104.here hx rfl (hb hby at_155) rfl ((if0 _ _).trans (feq (by decide : ¬ ((1 : Int32) = (0 : Int32)))).1) (XS.iconst X104.here hx rfl (hb hby at_158) (XS.goto X104.here hx rfl (pc0 := 159) (pc' := 163) rfl (hb hby at_159) (by decide) (by decide) (XS.istore X104.here hx rfl (hb hby at_163) rfl (l' := #[.val (.int p1), .val (.int p2), .val (.int p3), .val (.int p4), .val (.ref b61), .val (.ref b72), .val (.int v75), .val (.ref b76), .val (.ref b82), .val (.ref b88), .val (.int 1), .val (.int 1), .val (.int 1), .val (.int 1)]) rfl (XS.iload X104.here hx rfl (hb hby at_165) rfl (XS.ifNo X104.here hx rfl (hb hby at_167) rfl ((if0 _ _).trans (feq (by decide : ¬ ((1 : Int32) = (0 : Int32)))).1) (XS.iload X104.here hx rfl (hb hby at_170) rfl (XS.ifNo X104.here hx rfl (hb hby at_172) rfl ((if0 _ _).trans (feq (by decide : ¬ ((1 : Int32) = (0 : Int32)))).1) k)))))))) ?_
      refine Go.by (B := (T104.setTop (mkF m 190 #[.val (.int p1), .val (.int p2), .val (.int p3), .val (.int p4), .val (.ref b61), .val (.ref b72), .val (.int v75), .val (.ref b76), .val (.ref b82), .val (.ref b88), .val (.int 1), .val (.int 1), .val (.int 1), .val (.int 1)] [(.int 1)]))) (fun _ k => XS.iload X104.here hx rfl (hb hby at_175) rfl (XS.ifNo X104.here hx rfl (hb hby at_177) rfl ((if0 _ _).trans (feq (by decide : ¬ ((1 : Int32) = (0 : Int32)))).1) (XS.iload X104.here hx rfl (hb hby at_180) rfl (XS.ifNo X104.here hx rfl (hb hby at_182) rfl ((if0 _ _).trans (feq (by decide : ¬ ((1 : Int32) = (0 : Int32)))).1) (XS.iconst X104.here hx rfl (hb hby at_185) (XS.goto X104.here hx rfl (pc0 := 186) (pc' := 190) rfl (hb hby at_186) (by decide) (by decide) k)))))) ?_
      refine Go.ret X104 hx hlk (t := .boolean) hret rfl (Or.inl ⟨rfl, by simp, _, rfl⟩) (hb hby at_190) (by decide) (by decide) ?_
      exact ⟨rfl, N104⟩
    · skip
      refine Go.by (B := (T72.setTop (mkF m 56 #[.val (.int p1), .val (.int p2), .val (.int p3), .val (.int p4), .val (.ref b61), .val (.ref b72), .unset, .unset, .unset, .unset, .unset, .unset, .unset, .unset] [(.int (p1 &&& (2147483647 : Int32)))]))) (fun _ k => XS.iloadN X72.here hx rfl (hb hby at_52) rfl (X72.ldcInt hx hown (mvT hZ (wd hw 30 rfl)) (g := (mkF m 53 #[.val (.int p1), .val (.int p2), .val (.int p3), .val (.int p4), .val (.ref b61), .val (.ref b72), .unset, .unset, .unset, .unset, .unset, .unset, .unset, .unset] [(.int p1)])) rfl (hb hby at_53) _ (XS.iand X72.here hx rfl (hb hby at_55) rfl k))) ?_
      obtain ⟨v106, hv106⟩ : ∃ v, v = (p1 &&& (2147483647 : Int32)) := ⟨_, rfl⟩
      refine Go.by (B := (T72.setTop (mkF m 58 #[.val (.int p1), .val (.int p2), .val (.int p3), .val (.int p4), .val (.ref b61), .val (.ref b72), .val (.int v106), .unset, .unset, .unset, .unset, .unset, .unset, .unset] []))) (fun _ k => XS.istore (x := v106) (rest := []) X72.here hx rfl (hb hby at_56) (by rw [hv106]) (l' := #[.val (.int p1), .val (.int p2), .val (.int p3), .val (.int p4), .val (.ref b61), .val (.ref b72), .val (.int v106), .unset, .unset, .unset, .unset, .unset, .unset, .unset]) rfl k) ?_
      have hpv106 : ¬ v106 < (0 : Int32) := hv106 ▸ own_pos _
      obtain ⟨T107, h107, X107, e107, E107, A107, D107, -, st107⟩ := newO X72 hx hZ hown (wd hw 31 rfl) (wd hw 32 rfl) (wd hw 33 rfl) rfl (g := (mkF m 58 #[.val (.int p1), .val (.int p2), .val (.int p3), .val (.int p4), .val (.ref b61), .val (.ref b72), .val (.int v106), .unset, .unset, .unset, .unset, .unset, .unset, .unset] [])) rfl (hb hby at_58) (by decide) (by decide)
      obtain ⟨b107, g107⟩ : ∃ z, z = T72.heap.size := ⟨_, rfl⟩
      rw [← g107] at A107 D107 st107
      have sz_b107 : T72.heap.size ≤ b107 := Nat.le_of_eq g107.symm
      have O108 := O73.ext E107
      have Z108 : n0 ≤ h107.size := Nat.le_trans Z73 E107.1
      have F109 : Fld Z h107 b107 "com/example/floatroom/floatroom/CsvReader$Column" "name" "Ljava/lang/String;" .null := D107 (Or.inr (wd hw 44 rfl)) (ty := (.object "java/lang/String")) (by decide)
      have F110 : Fld Z h107 b107 "com/example/floatroom/floatroom/CsvReader$Column" "index" "I" (.int 0) := D107 (Or.inr (wd hw 46 rfl)) (ty := .int) (by decide)
      refine Go.by (B := (T107.setTop (mkF m 61 #[.val (.int p1), .val (.int p2), .val (.int p3), .val (.int p4), .val (.ref b61), .val (.ref b72), .val (.int v106), .unset, .unset, .unset, .unset, .unset, .unset, .unset] [(.ref b107)]))) st107 ?_
      refine Go.by (B := (T107.setTop (mkF m 65 #[.val (.int p1), .val (.int p2), .val (.int p3), .val (.int p4), .val (.ref b61), .val (.ref b72), .val (.int v106), .unset, .unset, .unset, .unset, .unset, .unset, .unset] [(.int p1), (.ref b72), (.ref b107), (.ref b107)]))) (fun _ k => XS.dup X107.here hx rfl (hb hby at_61) rfl rfl (XS.aload X107.here hx rfl (hb hby at_62) rfl rfl (XS.iloadN X107.here hx rfl (hb hby at_64) rfl k))) ?_
      obtain ⟨_, _, ⟨T111, L111, k111, n111⟩, -, X111, ⟨Lc111, hQ111, l111, y111, z111⟩, st111⟩ := X107.specialBack hx (y := (⟨"com/example/floatroom/floatroom/CsvReader$Column", "<init>", "(Ljava/lang/String;I)V"⟩ : MethodName)) rfl hown (mvT hZ (wd hw 34 rfl)) (mvT hZ (wd hw 35 rfl)) (mvT hZ (wd hw 36 rfl)) (by decide) (backOf (W := 1) (rm_col l Z a0 hw [] b107 b72 p1 h107 n0 Z108 O108 A107 F109 F110 (Nat.le_trans Z73 sz_b107)) hZ (wd hw 36 rfl) (wd hw 33 rfl) (by decide) (by decide)) (g := (mkF m 65 #[.val (.int p1), .val (.int p2), .val (.int p3), .val (.int p4), .val (.ref b61), .val (.ref b72), .val (.int v106), .unset, .unset, .unset, .unset, .unset, .unset, .unset] [(.int p1), (.ref b72), (.ref b107), (.ref b107)])) rfl (by rw [hml]; rfl) (Steps.refl _) (a := b107) (argsL := [(.ref b72), (.int p1)]) (rest := [(.ref b107)]) (lenOf pd_9 rfl) rfl (by show 2 * 0 + _ ≤ _; exact Nat.le_of_eq rfl) (hb hby at_65) (fun _ _ => ⟨rfl, e107, Nat.le_of_ble_eq_true rfl, Nat.le_of_ble_eq_true rfl⟩)
      dsimp only [Pt.U, Pt.locs, Pt.cells, Pt.slots] at X111 l111 y111 z111 st111 hQ111
      subst l111 y111 z111
      obtain ⟨rfl, Nq111, K111, p111_0, p111_1, p111_2⟩ := hQ111
      have N111 := Fr.app N72 Nq111
      have O112 := O108.keep K111 (allS (Nat.le_trans Z73 sz_b107) all0)
      have Z112 : n0 ≤ T111.heap.size := Nat.le_trans Z108 K111.1
      refine Go.by (B := (T111.setTop (mkF m 68 #[.val (.int p1), .val (.int p2), .val (.int p3), .val (.int p4), .val (.ref b61), .val (.ref b72), .val (.int v106), .unset, .unset, .unset, .unset, .unset, .unset, .unset] [(.ref b107)]))) (fun _ k => st111.trans k) ?_
      refine Go.by (B := (T111.setTop (mkF m 70 #[.val (.int p1), .val (.int p2), .val (.int p3), .val (.int p4), .val (.ref b61), .val (.ref b72), .val (.int v106), .val (.ref b107), .unset, .unset, .unset, .unset, .unset, .unset] []))) (fun _ k => XS.astore X111.here hx rfl (hb hby at_68) rfl rfl (l' := #[.val (.int p1), .val (.int p2), .val (.int p3), .val (.int p4), .val (.ref b61), .val (.ref b72), .val (.int v106), .val (.ref b107), .unset, .unset, .unset, .unset, .unset, .unset]) rfl k) ?_
      obtain ⟨T113, h113, X113, e113, E113, A113, D113, -, st113⟩ := newO X111 hx hZ hown (wd hw 31 rfl) (wd hw 32 rfl) (wd hw 33 rfl) rfl (g := (mkF m 70 #[.val (.int p1), .val (.int p2), .val (.int p3), .val (.int p4), .val (.ref b61), .val (.ref b72), .val (.int v106), .val (.ref b107), .unset, .unset, .unset, .unset, .unset, .unset] [])) rfl (hb hby at_70) (by decide) (by decide)
      obtain ⟨b113, g113⟩ : ∃ z, z = T111.heap.size := ⟨_, rfl⟩
      rw [← g113] at A113 D113 st113
      have sz_b113 : T111.heap.size ≤ b113 := Nat.le_of_eq g113.symm
      have O114 := O112.ext E113
      have Z114 : n0 ≤ h113.size := Nat.le_trans Z112 E113.1
      have F115 : Fld Z h113 b113 "com/example/floatroom/floatroom/CsvReader$Column" "name" "Ljava/lang/String;" .null := D113 (Or.inr (wd hw 44 rfl)) (ty := (.object "java/lang/String")) (by decide)
      have F116 : Fld Z h113 b113 "com/example/floatroom/floatroom/CsvReader$Column" "index" "I" (.int 0) := D113 (Or.inr (wd hw 46 rfl)) (ty := .int) (by decide)
      refine Go.by (B := (T113.setTop (mkF m 73 #[.val (.int p1), .val (.int p2), .val (.int p3), .val (.int p4), .val (.ref b61), .val (.ref b72), .val (.int v106), .val (.ref b107), .unset, .unset, .unset, .unset, .unset, .unset] [(.ref b113)]))) st113 ?_
      refine Go.by (B := (T113.setTop (mkF m 77 #[.val (.int p1), .val (.int p2), .val (.int p3), .val (.int p4), .val (.ref b61), .val (.ref b72), .val (.int v106), .val (.ref b107), .unset, .unset, .unset, .unset, .unset, .unset] [(.int (-1 : Int32)), (.ref b72), (.ref b113), (.ref b113)]))) (fun _ k => XS.dup X113.here hx rfl (hb hby at_73) rfl rfl (XS.aload X113.here hx rfl (hb hby at_74) rfl rfl (XS.iconst X113.here hx rfl (hb hby at_76) k))) ?_
      obtain ⟨_, _, ⟨T117, L117, k117, n117⟩, -, X117, ⟨Lc117, hQ117, l117, y117, z117⟩, st117⟩ := X113.specialBack hx (y := (⟨"com/example/floatroom/floatroom/CsvReader$Column", "<init>", "(Ljava/lang/String;I)V"⟩ : MethodName)) rfl hown (mvT hZ (wd hw 34 rfl)) (mvT hZ (wd hw 35 rfl)) (mvT hZ (wd hw 36 rfl)) (by decide) (backOf (W := 1) (rm_col l Z a0 hw [] b113 b72 (-1 : Int32) h113 n0 Z114 O114 A113 F115 F116 (Nat.le_trans Z112 sz_b113)) hZ (wd hw 36 rfl) (wd hw 33 rfl) (by decide) (by decide)) (g := (mkF m 77 #[.val (.int p1), .val (.int p2), .val (.int p3), .val (.int p4), .val (.ref b61), .val (.ref b72), .val (.int v106), .val (.ref b107), .unset, .unset, .unset, .unset, .unset, .unset] [(.int (-1 : Int32)), (.ref b72), (.ref b113), (.ref b113)])) rfl (by rw [hml]; rfl) (Steps.refl _) (a := b113) (argsL := [(.ref b72), (.int (-1 : Int32))]) (rest := [(.ref b113)]) (lenOf pd_9 rfl) rfl (by show 2 * 0 + _ ≤ _; exact Nat.le_of_eq rfl) (hb hby at_77) (fun _ _ => ⟨rfl, e113, Nat.le_of_ble_eq_true rfl, Nat.le_of_ble_eq_true rfl⟩)
      dsimp only [Pt.U, Pt.locs, Pt.cells, Pt.slots] at X117 l117 y117 z117 st117 hQ117
      subst l117 y117 z117
      obtain ⟨rfl, Nq117, K117, p117_0, p117_1, p117_2⟩ := hQ117
      have N117 := Fr.app N111 Nq117
      have O118 := O114.keep K117 (allS (Nat.le_trans Z112 sz_b113) all0)
      have Z118 : n0 ≤ T117.heap.size := Nat.le_trans Z114 K117.1
      refine Go.by (B := (T117.setTop (mkF m 80 #[.val (.int p1), .val (.int p2), .val (.int p3), .val (.int p4), .val (.ref b61), .val (.ref b72), .val (.int v106), .val (.ref b107), .unset, .unset, .unset, .unset, .unset, .unset] [(.ref b113)]))) (fun _ k => st117.trans k) ?_
      refine Go.by (B := (T117.setTop (mkF m 82 #[.val (.int p1), .val (.int p2), .val (.int p3), .val (.int p4), .val (.ref b61), .val (.ref b72), .val (.int v106), .val (.ref b107), .val (.ref b113), .unset, .unset, .unset, .unset, .unset] []))) (fun _ k => XS.astore X117.here hx rfl (hb hby at_80) rfl rfl (l' := #[.val (.int p1), .val (.int p2), .val (.int p3), .val (.int p4), .val (.ref b61), .val (.ref b72), .val (.int v106), .val (.ref b107), .val (.ref b113), .unset, .unset, .unset, .unset, .unset]) rfl k) ?_
      obtain ⟨T119, h119, X119, e119, E119, A119, D119, -, st119⟩ := newO X117 hx hZ hown (wd hw 31 rfl) (wd hw 32 rfl) (wd hw 33 rfl) rfl (g := (mkF m 82 #[.val (.int p1), .val (.int p2), .val (.int p3), .val (.int p4), .val (.ref b61), .val (.ref b72), .val (.int v106), .val (.ref b107), .val (.ref b113), .unset, .unset, .unset, .unset, .unset] [])) rfl (hb hby at_82) (by decide) (by decide)
      obtain ⟨b119, g119⟩ : ∃ z, z = T117.heap.size := ⟨_, rfl⟩
      rw [← g119] at A119 D119 st119
      have sz_b119 : T117.heap.size ≤ b119 := Nat.le_of_eq g119.symm
      have O120 := O118.ext E119
      have Z120 : n0 ≤ h119.size := Nat.le_trans Z118 E119.1
      have F121 : Fld Z h119 b119 "com/example/floatroom/floatroom/CsvReader$Column" "name" "Ljava/lang/String;" .null := D119 (Or.inr (wd hw 44 rfl)) (ty := (.object "java/lang/String")) (by decide)
      have F122 : Fld Z h119 b119 "com/example/floatroom/floatroom/CsvReader$Column" "index" "I" (.int 0) := D119 (Or.inr (wd hw 46 rfl)) (ty := .int) (by decide)
      refine Go.by (B := (T119.setTop (mkF m 85 #[.val (.int p1), .val (.int p2), .val (.int p3), .val (.int p4), .val (.ref b61), .val (.ref b72), .val (.int v106), .val (.ref b107), .val (.ref b113), .unset, .unset, .unset, .unset, .unset] [(.ref b119)]))) st119 ?_
      refine Go.by (B := (T119.setTop (mkF m 90 #[.val (.int p1), .val (.int p2), .val (.int p3), .val (.int p4), .val (.ref b61), .val (.ref b72), .val (.int v106), .val (.ref b107), .val (.ref b113), .unset, .unset, .unset, .unset, .unset] [(.int v106), (.ref b72), (.ref b119), (.ref b119)]))) (fun _ k => XS.dup X119.here hx rfl (hb hby at_85) rfl rfl (XS.aload X119.here hx rfl (hb hby at_86) rfl rfl (XS.iload X119.here hx rfl (hb hby at_88) rfl k))) ?_
      obtain ⟨_, _, ⟨T123, L123, k123, n123⟩, -, X123, ⟨Lc123, hQ123, l123, y123, z123⟩, st123⟩ := X119.specialBack hx (y := (⟨"com/example/floatroom/floatroom/CsvReader$Column", "<init>", "(Ljava/lang/String;I)V"⟩ : MethodName)) rfl hown (mvT hZ (wd hw 34 rfl)) (mvT hZ (wd hw 35 rfl)) (mvT hZ (wd hw 36 rfl)) (by decide) (backOf (W := 1) (rm_col l Z a0 hw [] b119 b72 v106 h119 n0 Z120 O120 A119 F121 F122 (Nat.le_trans Z118 sz_b119)) hZ (wd hw 36 rfl) (wd hw 33 rfl) (by decide) (by decide)) (g := (mkF m 90 #[.val (.int p1), .val (.int p2), .val (.int p3), .val (.int p4), .val (.ref b61), .val (.ref b72), .val (.int v106), .val (.ref b107), .val (.ref b113), .unset, .unset, .unset, .unset, .unset] [(.int v106), (.ref b72), (.ref b119), (.ref b119)])) rfl (by rw [hml]; rfl) (Steps.refl _) (a := b119) (argsL := [(.ref b72), (.int v106)]) (rest := [(.ref b119)]) (lenOf pd_9 rfl) rfl (by show 2 * 0 + _ ≤ _; exact Nat.le_of_eq rfl) (hb hby at_90) (fun _ _ => ⟨rfl, e119, Nat.le_of_ble_eq_true rfl, Nat.le_of_ble_eq_true rfl⟩)
      dsimp only [Pt.U, Pt.locs, Pt.cells, Pt.slots] at X123 l123 y123 z123 st123 hQ123
      subst l123 y123 z123
      obtain ⟨rfl, Nq123, K123, p123_0, p123_1, p123_2⟩ := hQ123
      have N123 := Fr.app N117 Nq123
      have O124 := O120.keep K123 (allS (Nat.le_trans Z118 sz_b119) all0)
      have Z124 : n0 ≤ T123.heap.size := Nat.le_trans Z120 K123.1
      refine Go.by (B := (T123.setTop (mkF m 93 #[.val (.int p1), .val (.int p2), .val (.int p3), .val (.int p4), .val (.ref b61), .val (.ref b72), .val (.int v106), .val (.ref b107), .val (.ref b113), .unset, .unset, .unset, .unset, .unset] [(.ref b119)]))) (fun _ k => st123.trans k) ?_
      refine Go.by (B := (T123.setTop (mkF m 97 #[.val (.int p1), .val (.int p2), .val (.int p3), .val (.int p4), .val (.ref b61), .val (.ref b72), .val (.int v106), .val (.ref b107), .val (.ref b113), .val (.ref b119), .unset, .unset, .unset, .unset] [(.ref b107)]))) (fun _ k => XS.astore X123.here hx rfl (hb hby at_93) rfl rfl (l' := #[.val (.int p1), .val (.int p2), .val (.int p3), .val (.int p4), .val (.ref b61), .val (.ref b72), .val (.int v106), .val (.ref b107), .val (.ref b113), .val (.ref b119), .unset, .unset, .unset, .unset]) rfl (XS.aload X123.here hx rfl (hb hby at_95) rfl rfl k)) ?_
      have f125 := ((((p111_2.ext E113).keep K117 (ninS (Nat.ne_of_lt (Nat.lt_of_lt_of_le p111_0.lt sz_b113)) nin0)).ext E119).keep K123 (ninS (Nat.ne_of_lt (Nat.lt_of_lt_of_le ((p111_0.ext E113).keep K117).lt sz_b119)) nin0))
      have f127 := ((((p111_0.ext E113).keep K117).ext E119).keep K123)
      obtain ⟨cq126, kq126, q126a, q126b, q126c⟩ := isOf hZ rfl f127
      obtain ⟨_, _, ⟨T126, L126, k126, n126⟩, -, X126, ⟨Lc126, hQ126, l126, y126, z126⟩, st126⟩ := X123.virtualBack hx (y := (⟨"com/example/floatroom/floatroom/CsvReader$Column", "isPresent", "()Z"⟩ : MethodName)) (z := (⟨"com/example/floatroom/floatroom/CsvReader$Column", "isPresent", "()Z"⟩ : MethodName)) hown (mvT hZ (wd hw 47 rfl)) (mvT hZ (wd hw 48 rfl)) (notFace_of_selects (args := #[]) (mvT hZ (wd hw 50 rfl))) (mvT hZ (wd hw 50 rfl)) (mvT hZ (wd hw 49 rfl)) (by decide) (backOf (W := 0) (rm_pres_p l Z a0 hw [] b107 p1 T123.heap n0 Z124 f125 c74) hZ (wd hw 51 rfl) (wd hw 33 rfl) (by decide) (by decide)) q126a q126c (g := (mkF m 97 #[.val (.int p1), .val (.int p2), .val (.int p3), .val (.int p4), .val (.ref b61), .val (.ref b72), .val (.int v106), .val (.ref b107), .val (.ref b113), .val (.ref b119), .unset, .unset, .unset, .unset] [(.ref b107)])) rfl (by rw [hml]; rfl) (Steps.refl _) (argsL := []) (rest := []) (lenOf pd_10 rfl) rfl (by show 2 * 0 + _ ≤ _; exact Nat.le_of_eq rfl) (hb hby at_97) (fun _ _ => ⟨rfl, rfl, Nat.le_of_ble_eq_true rfl, Nat.le_of_ble_eq_true rfl⟩)
      dsimp only [Pt.U, Pt.locs, Pt.cells, Pt.slots] at X126 l126 y126 z126 st126 hQ126
      subst l126 y126 z126
      obtain ⟨rfl, Nq126, hh126⟩ := hQ126
      have N126 := Fr.app N123 Nq126
      refine Go.by (B := (T126.setTop (mkF m 100 #[.val (.int p1), .val (.int p2), .val (.int p3), .val (.int p4), .val (.ref b61), .val (.ref b72), .val (.int v106), .val (.ref b107), .val (.ref b113), .val (.ref b119), .unset, .unset, .unset, .unset] [(.int 1)]))) (fun _ k => st126.trans k) ?_
      refine Go.by (B := (T126.setTop (mkF m 101 #[.val (.int p1), .val (.int p2), .val (.int p3), .val (.int p4), .val (.ref b61), .val (.ref b72), .val (.int v106), .val (.ref b107), .val (.ref b113), .val (.ref b119), .unset, .unset, .unset, .unset] [(.int p1), (.int 1)]))) (fun _ k => XS.iloadN X126.here hx rfl (hb hby at_100) rfl k) ?_
      obtain ⟨_, _, ⟨T128, L128, k128, n128⟩, -, X128, ⟨Lc128, hQ128, l128, y128, z128⟩, st128⟩ := Jvm.LawKit.callS X126 hx (y := (⟨"com/example/floatroom/floatroom/ColumnIsPresentPinLaw", "expectedPresent", "(I)Z"⟩ : MethodName)) hown (mvT hZ (wd hw 52 rfl)) (mvT hZ (wd hw 53 rfl)) (mvT hZ (wd hw 54 rfl)) (mvT hZ (wd hw 55 rfl)) (by decide) (backOf (W := 1) (rm_exp_p l Z a0 hw [] p1 T123.heap n0 Z124 c74) hZ (wd hw 55 rfl) (wd hw 54 rfl) (by decide) (by decide)) (g := (mkF m 101 #[.val (.int p1), .val (.int p2), .val (.int p3), .val (.int p4), .val (.ref b61), .val (.ref b72), .val (.int v106), .val (.ref b107), .val (.ref b113), .val (.ref b119), .unset, .unset, .unset, .unset] [(.int p1), (.int 1)])) rfl (by rw [hml]; rfl) (argsL := [(.int p1)]) (rest := [(.int 1)]) (lenOf pd_11 rfl) rfl (by show 2 * 0 + _ ≤ _; exact Nat.le_of_eq rfl) (hb hby at_101) (fun _ _ => ⟨rfl, hh126, Nat.le_of_ble_eq_true rfl, Nat.le_of_ble_eq_true rfl⟩)
      dsimp only [Pt.U, Pt.locs, Pt.cells, Pt.slots] at X128 l128 y128 z128 st128 hQ128
      subst l128 y128 z128
      obtain ⟨rfl, Nq128, hh128⟩ := hQ128
      have N128 := Fr.app N126 Nq128
      refine Go.by (B := (T128.setTop (mkF m 104 #[.val (.int p1), .val (.int p2), .val (.int p3), .val (.int p4), .val (.ref b61), .val (.ref b72), .val (.int v106), .val (.ref b107), .val (.ref b113), .val (.ref b119), .unset, .unset, .unset, .unset] [(.int 1), (.int 1)]))) (fun _ k => st128 _ k) ?_
      refine Go.by (B := (T128.setTop (mkF m 116 #[.val (.int p1), .val (.int p2), .val (.int p3), .val (.int p4), .val (.ref b61), .val (.ref b72), .val (.int v106), .val (.ref b107), .val (.ref b113), .val (.ref b119), .val (.int 1), .unset, .unset, .unset] [(.ref b113)]))) (fun _ k => XS.icmpNo X128.here hx rfl (hb hby at_104) rfl (teq (by decide : (1 : Int32) = (1 : Int32))).2 (XS.iconst X128.here hx rfl (hb hby at_107) (XS.goto X128.here hx rfl (pc0 := 108) (pc' := 112) rfl (hb hby at_108) (by decide) (by decide) (XS.istore X128.here hx rfl (hb hby at_112) rfl (l' := #[.val (.int p1), .val (.int p2), .val (.int p3), .val (.int p4), .val (.ref b61), .val (.ref b72), .val (.int v106), .val (.ref b107), .val (.ref b113), .val (.ref b119), .val (.int 1), .unset, .unset, .unset]) rfl (XS.aload X128.here hx rfl (hb hby at_114) rfl rfl k))))) ?_
      have f129 := ((p117_2.ext E119).keep K123 (ninS (Nat.ne_of_lt (Nat.lt_of_lt_of_le p117_0.lt sz_b119)) nin0))
      obtain ⟨cq130, kq130, q130a, q130b, q130c⟩ := isOf hZ hh128 ((p117_0.ext E119).keep K123)
      obtain ⟨_, _, ⟨T130, L130, k130, n130⟩, -, X130, ⟨Lc130, hQ130, l130, y130, z130⟩, st130⟩ := X128.virtualBack hx (y := (⟨"com/example/floatroom/floatroom/CsvReader$Column", "isPresent", "()Z"⟩ : MethodName)) (z := (⟨"com/example/floatroom/floatroom/CsvReader$Column", "isPresent", "()Z"⟩ : MethodName)) hown (mvT hZ (wd hw 47 rfl)) (mvT hZ (wd hw 48 rfl)) (notFace_of_selects (args := #[]) (mvT hZ (wd hw 50 rfl))) (mvT hZ (wd hw 50 rfl)) (mvT hZ (wd hw 49 rfl)) (by decide) (backOf (W := 0) (rm_pres_n l Z a0 hw [] b113 (-1 : Int32) T123.heap n0 Z124 f129 (by decide)) hZ (wd hw 51 rfl) (wd hw 33 rfl) (by decide) (by decide)) q130a q130c (g := (mkF m 116 #[.val (.int p1), .val (.int p2), .val (.int p3), .val (.int p4), .val (.ref b61), .val (.ref b72), .val (.int v106), .val (.ref b107), .val (.ref b113), .val (.ref b119), .val (.int 1), .unset, .unset, .unset] [(.ref b113)])) rfl (by rw [hml]; rfl) (Steps.refl _) (argsL := []) (rest := []) (lenOf pd_10 rfl) rfl (by show 2 * 0 + _ ≤ _; exact Nat.le_of_eq rfl) (hb hby at_116) (fun _ _ => ⟨rfl, hh128, Nat.le_of_ble_eq_true rfl, Nat.le_of_ble_eq_true rfl⟩)
      dsimp only [Pt.U, Pt.locs, Pt.cells, Pt.slots] at X130 l130 y130 z130 st130 hQ130
      subst l130 y130 z130
      obtain ⟨rfl, Nq130, hh130⟩ := hQ130
      have N130 := Fr.app N128 Nq130
      refine Go.by (B := (T130.setTop (mkF m 119 #[.val (.int p1), .val (.int p2), .val (.int p3), .val (.int p4), .val (.ref b61), .val (.ref b72), .val (.int v106), .val (.ref b107), .val (.ref b113), .val (.ref b119), .val (.int 1), .unset, .unset, .unset] [(.int 0)]))) (fun _ k => st130.trans k) ?_
      refine Go.by (B := (T130.setTop (mkF m 131 #[.val (.int p1), .val (.int p2), .val (.int p3), .val (.int p4), .val (.ref b61), .val (.ref b72), .val (.int v106), .val (.ref b107), .val (.ref b113), .val (.ref b119), .val (.int 1), .val (.int 1), .unset, .unset] [(.ref b119)]))) (fun _ k => XS.ifNo X130.here hx rfl (hb hby at_119) rfl ((if0 _ _).trans (teq (by decide : (0 : Int32) = (0 : Int32))).2) (XS.iconst X130.here hx rfl (hb hby at_122) (XS.goto X130.here hx rfl (pc0 := 123) (pc' := 127) rfl (hb hby at_123) (by decide) (by decide) (XS.istore X130.here hx rfl (hb hby at_127) rfl (l' := #[.val (.int p1), .val (.int p2), .val (.int p3), .val (.int p4), .val (.ref b61), .val (.ref b72), .val (.int v106), .val (.ref b107), .val (.ref b113), .val (.ref b119), .val (.int 1), .val (.int 1), .unset, .unset]) rfl (XS.aload X130.here hx rfl (hb hby at_129) rfl rfl k))))) ?_
      obtain ⟨cq131, kq131, q131a, q131b, q131c⟩ := isOf hZ hh130 p123_0
      obtain ⟨_, _, ⟨T131, L131, k131, n131⟩, -, X131, ⟨Lc131, hQ131, l131, y131, z131⟩, st131⟩ := X130.virtualBack hx (y := (⟨"com/example/floatroom/floatroom/CsvReader$Column", "isPresent", "()Z"⟩ : MethodName)) (z := (⟨"com/example/floatroom/floatroom/CsvReader$Column", "isPresent", "()Z"⟩ : MethodName)) hown (mvT hZ (wd hw 47 rfl)) (mvT hZ (wd hw 48 rfl)) (notFace_of_selects (args := #[]) (mvT hZ (wd hw 50 rfl))) (mvT hZ (wd hw 50 rfl)) (mvT hZ (wd hw 49 rfl)) (by decide) (backOf (W := 0) (rm_pres_p l Z a0 hw [] b119 v106 T123.heap n0 Z124 p123_2 hpv106) hZ (wd hw 51 rfl) (wd hw 33 rfl) (by decide) (by decide)) q131a q131c (g := (mkF m 131 #[.val (.int p1), .val (.int p2), .val (.int p3), .val (.int p4), .val (.ref b61), .val (.ref b72), .val (.int v106), .val (.ref b107), .val (.ref b113), .val (.ref b119), .val (.int 1), .val (.int 1), .unset, .unset] [(.ref b119)])) rfl (by rw [hml]; rfl) (Steps.refl _) (argsL := []) (rest := []) (lenOf pd_10 rfl) rfl (by show 2 * 0 + _ ≤ _; exact Nat.le_of_eq rfl) (hb hby at_131) (fun _ _ => ⟨rfl, hh130, Nat.le_of_ble_eq_true rfl, Nat.le_of_ble_eq_true rfl⟩)
      dsimp only [Pt.U, Pt.locs, Pt.cells, Pt.slots] at X131 l131 y131 z131 st131 hQ131
      subst l131 y131 z131
      obtain ⟨rfl, Nq131, hh131⟩ := hQ131
      have N131 := Fr.app N130 Nq131
      refine Go.by (B := (T131.setTop (mkF m 134 #[.val (.int p1), .val (.int p2), .val (.int p3), .val (.int p4), .val (.ref b61), .val (.ref b72), .val (.int v106), .val (.ref b107), .val (.ref b113), .val (.ref b119), .val (.int 1), .val (.int 1), .unset, .unset] [(.int 1)]))) (fun _ k => st131.trans k) ?_
      refine Go.by (B := (T131.setTop (mkF m 138 #[.val (.int p1), .val (.int p2), .val (.int p3), .val (.int p4), .val (.ref b61), .val (.ref b72), .val (.int v106), .val (.ref b107), .val (.ref b113), .val (.ref b119), .val (.int 1), .val (.int 1), .val (.int 1), .unset] [(.ref b107)]))) (fun _ k => XS.istore X131.here hx rfl (hb hby at_134) rfl (l' := #[.val (.int p1), .val (.int p2), .val (.int p3), .val (.int p4), .val (.ref b61), .val (.ref b72), .val (.int v106), .val (.ref b107), .val (.ref b113), .val (.ref b119), .val (.int 1), .val (.int 1), .val (.int 1), .unset]) rfl (XS.aload X131.here hx rfl (hb hby at_136) rfl rfl k)) ?_
      obtain ⟨cq132, kq132, q132a, q132b, q132c⟩ := isOf hZ hh131 f127
      obtain ⟨_, _, ⟨T132, L132, k132, n132⟩, -, X132, ⟨Lc132, hQ132, l132, y132, z132⟩, st132⟩ := X131.virtualBack hx (y := (⟨"com/example/floatroom/floatroom/CsvReader$Column", "index", "()I"⟩ : MethodName)) (z := (⟨"com/example/floatroom/floatroom/CsvReader$Column", "index", "()I"⟩ : MethodName)) hown (mvT hZ (wd hw 56 rfl)) (mvT hZ (wd hw 57 rfl)) (notFace_of_selects (args := #[]) (mvT hZ (wd hw 59 rfl))) (mvT hZ (wd hw 59 rfl)) (mvT hZ (wd hw 58 rfl)) (by decide) (backOf (W := 0) (rm_index l Z a0 hw [] b107 p1 T123.heap n0 Z124 f125) hZ (wd hw 60 rfl) (wd hw 33 rfl) (by decide) (by decide)) q132a q132c (g := (mkF m 138 #[.val (.int p1), .val (.int p2), .val (.int p3), .val (.int p4), .val (.ref b61), .val (.ref b72), .val (.int v106), .val (.ref b107), .val (.ref b113), .val (.ref b119), .val (.int 1), .val (.int 1), .val (.int 1), .unset] [(.ref b107)])) rfl (by rw [hml]; rfl) (Steps.refl _) (argsL := []) (rest := []) (lenOf pd_12 rfl) rfl (by show 2 * 0 + _ ≤ _; exact Nat.le_of_eq rfl) (hb hby at_138) (fun _ _ => ⟨rfl, hh131, Nat.le_of_ble_eq_true rfl, Nat.le_of_ble_eq_true rfl⟩)
      dsimp only [Pt.U, Pt.locs, Pt.cells, Pt.slots] at X132 l132 y132 z132 st132 hQ132
      subst l132 y132 z132
      obtain ⟨rfl, Nq132, hh132⟩ := hQ132
      have N132 := Fr.app N131 Nq132
      refine Go.by (B := (T132.setTop (mkF m 141 #[.val (.int p1), .val (.int p2), .val (.int p3), .val (.int p4), .val (.ref b61), .val (.ref b72), .val (.int v106), .val (.ref b107), .val (.ref b113), .val (.ref b119), .val (.int 1), .val (.int 1), .val (.int 1), .unset] [(.int p1)]))) (fun _ k => st132.trans k) ?_
      refine Go.by (B := (T132.setTop (mkF m 147 #[.val (.int p1), .val (.int p2), .val (.int p3), .val (.int p4), .val (.ref b61), .val (.ref b72), .val (.int v106), .val (.ref b107), .val (.ref b113), .val (.ref b119), .val (.int 1), .val (.int 1), .val (.int 1), .unset] [(.ref b107)]))) (fun _ k => XS.iloadN X132.here hx rfl (hb hby at_141) rfl (XS.icmpNo X132.here hx rfl (hb hby at_142) rfl (teq (rfl : p1 = p1)).2 (XS.aload X132.here hx rfl (hb hby at_145) rfl rfl k))) ?_
      have f133 := ((((p111_1.ext E113).keep K117 (ninS (Nat.ne_of_lt (Nat.lt_of_lt_of_le p111_0.lt sz_b113)) nin0)).ext E119).keep K123 (ninS (Nat.ne_of_lt (Nat.lt_of_lt_of_le ((p111_0.ext E113).keep K117).lt sz_b119)) nin0))
      obtain ⟨cq134, kq134, q134a, q134b, q134c⟩ := isOf hZ hh132 f127
      obtain ⟨_, _, ⟨T134, L134, k134, n134⟩, -, X134, ⟨Lc134, hQ134, l134, y134, z134⟩, st134⟩ := X132.virtualBack hx (y := (⟨"com/example/floatroom/floatroom/CsvReader$Column", "name", "()Ljava/lang/String;"⟩ : MethodName)) (z := (⟨"com/example/floatroom/floatroom/CsvReader$Column", "name", "()Ljava/lang/String;"⟩ : MethodName)) hown (mvT hZ (wd hw 61 rfl)) (mvT hZ (wd hw 62 rfl)) (notFace_of_selects (args := #[]) (mvT hZ (wd hw 64 rfl))) (mvT hZ (wd hw 64 rfl)) (mvT hZ (wd hw 63 rfl)) (by decide) (backOf (W := 0) (rm_name l Z a0 hw [] b107 b72 T123.heap n0 Z124 f133) hZ (wd hw 65 rfl) (wd hw 33 rfl) (by decide) (by decide)) q134a q134c (g := (mkF m 147 #[.val (.int p1), .val (.int p2), .val (.int p3), .val (.int p4), .val (.ref b61), .val (.ref b72), .val (.int v106), .val (.ref b107), .val (.ref b113), .val (.ref b119), .val (.int 1), .val (.int 1), .val (.int 1), .unset] [(.ref b107)])) rfl (by rw [hml]; rfl) (Steps.refl _) (argsL := []) (rest := []) (lenOf pd_13 rfl) rfl (by show 2 * 0 + _ ≤ _; exact Nat.le_of_eq rfl) (hb hby at_147) (fun _ _ => ⟨rfl, hh132, Nat.le_of_ble_eq_true rfl, Nat.le_of_ble_eq_true rfl⟩)
      dsimp only [Pt.U, Pt.locs, Pt.cells, Pt.slots] at X134 l134 y134 z134 st134 hQ134
      subst l134 y134 z134
      obtain ⟨rfl, Nq134, hh134⟩ := hQ134
      have N134 := Fr.app N132 Nq134
      refine Go.by (B := (T134.setTop (mkF m 150 #[.val (.int p1), .val (.int p2), .val (.int p3), .val (.int p4), .val (.ref b61), .val (.ref b72), .val (.int v106), .val (.ref b107), .val (.ref b113), .val (.ref b119), .val (.int 1), .val (.int 1), .val (.int 1), .unset] [(.ref b72)]))) (fun _ k => st134.trans k) ?_
      refine Go.by (B := (T134.setTop (mkF m 152 #[.val (.int p1), .val (.int p2), .val (.int p3), .val (.int p4), .val (.ref b61), .val (.ref b72), .val (.int v106), .val (.ref b107), .val (.ref b113), .val (.ref b119), .val (.int 1), .val (.int 1), .val (.int 1), .unset] [(.ref b72), (.ref b72)]))) (fun _ k => XS.aload X134.here hx rfl (hb hby at_150) rfl rfl k) ?_
      have f136 := ((((((p72_0.ext E107).keep K111).ext E113).keep K117).ext E119).keep K123)
      obtain ⟨cq135, kq135, q135a, q135b, q135c⟩ := isOf hZ hh134 f136
      obtain ⟨_, _, ⟨T135, L135, k135, n135⟩, -, X135, ⟨Lc135, hQ135, l135, y135, z135⟩, st135⟩ := X134.virtualBack hx (y := (⟨"java/lang/String", "equals", "(Ljava/lang/Object;)Z"⟩ : MethodName)) (z := (⟨"java/lang/String", "equals", "(Ljava/lang/Object;)Z"⟩ : MethodName)) hown (mvT hZ (wd hw 66 rfl)) (mvT hZ (wd hw 67 rfl)) (notFace_of_selects (args := #[]) (mvT hZ (wd hw 69 rfl))) (mvT hZ (wd hw 69 rfl)) (mvT hZ (wd hw 68 rfl)) (by decide) (backOf (W := 0) (rm_eqs l Z a0 hw [] b72 T123.heap n0 Z124 ) hZ (wd hw 70 rfl) (wd hw 3 rfl) (by decide) (by decide)) q135a q135c (g := (mkF m 152 #[.val (.int p1), .val (.int p2), .val (.int p3), .val (.int p4), .val (.ref b61), .val (.ref b72), .val (.int v106), .val (.ref b107), .val (.ref b113), .val (.ref b119), .val (.int 1), .val (.int 1), .val (.int 1), .unset] [(.ref b72), (.ref b72)])) rfl (by rw [hml]; rfl) (Steps.refl _) (argsL := [(.ref b72)]) (rest := []) (lenOf pd_14 rfl) rfl (by show 2 * 0 + _ ≤ _; exact Nat.le_of_eq rfl) (hb hby at_152) (fun _ _ => ⟨rfl, hh134, Nat.le_of_ble_eq_true rfl, Nat.le_of_ble_eq_true rfl⟩)
      dsimp only [Pt.U, Pt.locs, Pt.cells, Pt.slots] at X135 l135 y135 z135 st135 hQ135
      subst l135 y135 z135
      obtain ⟨rfl, Nq135, hh135⟩ := hQ135
      have N135 := Fr.app N134 Nq135
      refine Go.by (B := (T135.setTop (mkF m 155 #[.val (.int p1), .val (.int p2), .val (.int p3), .val (.int p4), .val (.ref b61), .val (.ref b72), .val (.int v106), .val (.ref b107), .val (.ref b113), .val (.ref b119), .val (.int 1), .val (.int 1), .val (.int 1), .unset] [(.int 1)]))) (fun _ k => st135.trans k) ?_
      refine Go.by (B := (T135.setTop (mkF m 175 #[.val (.int p1), .val (.int p2), .val (.int p3), .val (.int p4), .val (.ref b61), .val (.ref b72), .val (.int v106), .val (.ref b107), .val (.ref b113), .val (.ref b119), .val (.int 1), .val (.int 1), .val (.int 1), .val (.int 1)] []))) (fun _ k => XS.ifNo X135.here hx rfl (hb hby at_155) rfl ((if0 _ _).trans (feq (by decide : ¬ ((1 : Int32) = (0 : Int32)))).1) (XS.iconst X135.here hx rfl (hb hby at_158) (XS.goto X135.here hx rfl (pc0 := 159) (pc' := 163) rfl (hb hby at_159) (by decide) (by decide) (XS.istore X135.here hx rfl (hb hby at_163) rfl (l' := #[.val (.int p1), .val (.int p2), .val (.int p3), .val (.int p4), .val (.ref b61), .val (.ref b72), .val (.int v106), .val (.ref b107), .val (.ref b113), .val (.ref b119), .val (.int 1), .val (.int 1), .val (.int 1), .val (.int 1)]) rfl (XS.iload X135.here hx rfl (hb hby at_165) rfl (XS.ifNo X135.here hx rfl (hb hby at_167) rfl ((if0 _ _).trans (feq (by decide : ¬ ((1 : Int32) = (0 : Int32)))).1) (XS.iload X135.here hx rfl (hb hby at_170) rfl (XS.ifNo X135.here hx rfl (hb hby at_172) rfl ((if0 _ _).trans (feq (by decide : ¬ ((1 : Int32) = (0 : Int32)))).1) k)))))))) ?_
      refine Go.by (B := (T135.setTop (mkF m 190 #[.val (.int p1), .val (.int p2), .val (.int p3), .val (.int p4), .val (.ref b61), .val (.ref b72), .val (.int v106), .val (.ref b107), .val (.ref b113), .val (.ref b119), .val (.int 1), .val (.int 1), .val (.int 1), .val (.int 1)] [(.int 1)]))) (fun _ k => XS.iload X135.here hx rfl (hb hby at_175) rfl (XS.ifNo X135.here hx rfl (hb hby at_177) rfl ((if0 _ _).trans (feq (by decide : ¬ ((1 : Int32) = (0 : Int32)))).1) (XS.iload X135.here hx rfl (hb hby at_180) rfl (XS.ifNo X135.here hx rfl (hb hby at_182) rfl ((if0 _ _).trans (feq (by decide : ¬ ((1 : Int32) = (0 : Int32)))).1) (XS.iconst X135.here hx rfl (hb hby at_185) (XS.goto X135.here hx rfl (pc0 := 186) (pc' := 190) rfl (hb hby at_186) (by decide) (by decide) k)))))) ?_
      refine Go.ret X135 hx hlk (t := .boolean) hret rfl (Or.inl ⟨rfl, by simp, _, rfl⟩) (hb hby at_190) (by decide) (by decide) ?_
      exact ⟨rfl, N135⟩
  · skip
    refine Go.by (B := (T67.setTop (mkF m 31 #[.val (.int p1), .val (.int p2), .val (.int p3), .val (.int p4), .val (.ref b61), .unset, .unset, .unset, .unset, .unset, .unset, .unset, .unset, .unset] []))) (fun _ k => XS.ifNo X67.here hx rfl (hb hby at_28) rfl ((if0 _ _).trans (feq c69).1) k) ?_
    obtain ⟨T137, h137, X137, e137, E137, A137, D137, -, st137⟩ := newO X67 hx hZ hown (wd hw 1 rfl) (wd hw 2 rfl) (wd hw 3 rfl) e67 (g := (mkF m 31 #[.val (.int p1), .val (.int p2), .val (.int p3), .val (.int p4), .val (.ref b61), .unset, .unset, .unset, .unset, .unset, .unset, .unset, .unset, .unset] [])) rfl (hb hby at_31) (by decide) (by decide)
    obtain ⟨b137, g137⟩ : ∃ z, z = h67.size := ⟨_, rfl⟩
    rw [← g137] at A137 D137 st137
    have sz_b137 : h67.size ≤ b137 := Nat.le_of_eq g137.symm
    have O138 := O68.ext E137
    have Z138 : n0 ≤ h137.size := Nat.le_trans Z68 E137.1
    have F139 : Fld Z h137 b137 "java/lang/String" "coder" "B" (.int 0) := D137 (Or.inr (wd hw 27 rfl)) (ty := .byte) (by decide)
    have F140 : Fld Z h137 b137 "java/lang/String" "value" "[B" .null := D137 (Or.inr (wd hw 29 rfl)) (ty := (.array .byte)) (by decide)
    refine Go.by (B := (T137.setTop (mkF m 34 #[.val (.int p1), .val (.int p2), .val (.int p3), .val (.int p4), .val (.ref b61), .unset, .unset, .unset, .unset, .unset, .unset, .unset, .unset, .unset] [(.ref b137)]))) st137 ?_
    refine Go.by (B := (T137.setTop (mkF m 37 #[.val (.int p1), .val (.int p2), .val (.int p3), .val (.int p4), .val (.ref b61), .unset, .unset, .unset, .unset, .unset, .unset, .unset, .unset, .unset] [(.ref b61), (.ref b137), (.ref b137)]))) (fun _ k => XS.dup X137.here hx rfl (hb hby at_34) rfl rfl (XS.aload X137.here hx rfl (hb hby at_35) rfl rfl k)) ?_
    obtain ⟨_, _, ⟨T141, L141, k141, n141⟩, -, X141, ⟨Lc141, hQ141, l141, y141, z141⟩, st141⟩ := X137.specialBack hx (y := (⟨"java/lang/String", "<init>", "([C)V"⟩ : MethodName)) rfl hown (mvT hZ (wd hw 4 rfl)) (mvT hZ (wd hw 5 rfl)) (mvT hZ (wd hw 6 rfl)) (by decide) (backOf (W := 1) (rm_sC_2 l Z a0 hw [] b137 b61 k61 (nar .char ((p2 &&& (255 : Int32)).toUInt32.toUInt16.toUInt32.toInt32)) (nar .char ((p3 &&& (255 : Int32)).toUInt32.toUInt16.toUInt32.toInt32)) cs h137 n0 Z138 O138 pr1 hcs A137 F140 F139 (Nat.le_trans Z68 sz_b137) (V67.ext E137) (own_chn _) (own_chn _)) hZ (wd hw 6 rfl) (wd hw 3 rfl) (by decide) (by decide)) (g := (mkF m 37 #[.val (.int p1), .val (.int p2), .val (.int p3), .val (.int p4), .val (.ref b61), .unset, .unset, .unset, .unset, .unset, .unset, .unset, .unset, .unset] [(.ref b61), (.ref b137), (.ref b137)])) rfl (by rw [hml]; rfl) (Steps.refl _) (a := b137) (argsL := [(.ref b61)]) (rest := [(.ref b137)]) (lenOf pd_15 rfl) rfl (by show 2 * 0 + _ ≤ _; exact Nat.le_of_eq rfl) (hb hby at_37) (fun _ _ => ⟨rfl, e137, Nat.le_of_ble_eq_true rfl, Nat.le_of_ble_eq_true rfl⟩)
    dsimp only [Pt.U, Pt.locs, Pt.cells, Pt.slots] at X141 l141 y141 z141 st141 hQ141
    subst l141 y141 z141
    obtain ⟨t141, k141, rfl, Nq141, K141, p141_0, p141_1, p141_2, p141_3, p141_4⟩ := hQ141
    have N141 := Fr.app N67 Nq141
    have O142 := O138.keep K141 (allS (Nat.le_trans Z68 sz_b137) all0)
    have Z142 : n0 ≤ T141.heap.size := Nat.le_trans Z138 K141.1
    have sz_t141 : h137.size ≤ t141 := p141_4
    refine Go.by (B := (T141.setTop (mkF m 40 #[.val (.int p1), .val (.int p2), .val (.int p3), .val (.int p4), .val (.ref b61), .unset, .unset, .unset, .unset, .unset, .unset, .unset, .unset, .unset] [(.ref b137)]))) (fun _ k => st141.trans k) ?_
    refine Go.by (B := (T141.setTop (mkF m 52 #[.val (.int p1), .val (.int p2), .val (.int p3), .val (.int p4), .val (.ref b61), .val (.ref b137), .unset, .unset, .unset, .unset, .unset, .unset, .unset, .unset] []))) (fun _ k => XS.goto X141.here hx rfl (pc0 := 40) (pc' := 50) rfl (hb hby at_40) (by decide) (by decide) (XS.astore X141.here hx rfl (hb hby at_50) rfl rfl (l' := #[.val (.int p1), .val (.int p2), .val (.int p3), .val (.int p4), .val (.ref b61), .val (.ref b137), .unset, .unset, .unset, .unset, .unset, .unset, .unset, .unset]) rfl k)) ?_
    rcases Classical.em (p1 < (0 : Int32)) with c143 | c143
    · skip
      refine Go.by (B := (T141.setTop (mkF m 56 #[.val (.int p1), .val (.int p2), .val (.int p3), .val (.int p4), .val (.ref b61), .val (.ref b137), .unset, .unset, .unset, .unset, .unset, .unset, .unset, .unset] [(.int (p1 &&& (2147483647 : Int32)))]))) (fun _ k => XS.iloadN X141.here hx rfl (hb hby at_52) rfl (X141.ldcInt hx hown (mvT hZ (wd hw 30 rfl)) (g := (mkF m 53 #[.val (.int p1), .val (.int p2), .val (.int p3), .val (.int p4), .val (.ref b61), .val (.ref b137), .unset, .unset, .unset, .unset, .unset, .unset, .unset, .unset] [(.int p1)])) rfl (hb hby at_53) _ (XS.iand X141.here hx rfl (hb hby at_55) rfl k))) ?_
      obtain ⟨v144, hv144⟩ : ∃ v, v = (p1 &&& (2147483647 : Int32)) := ⟨_, rfl⟩
      refine Go.by (B := (T141.setTop (mkF m 58 #[.val (.int p1), .val (.int p2), .val (.int p3), .val (.int p4), .val (.ref b61), .val (.ref b137), .val (.int v144), .unset, .unset, .unset, .unset, .unset, .unset, .unset] []))) (fun _ k => XS.istore (x := v144) (rest := []) X141.here hx rfl (hb hby at_56) (by rw [hv144]) (l' := #[.val (.int p1), .val (.int p2), .val (.int p3), .val (.int p4), .val (.ref b61), .val (.ref b137), .val (.int v144), .unset, .unset, .unset, .unset, .unset, .unset, .unset]) rfl k) ?_
      have hpv144 : ¬ v144 < (0 : Int32) := hv144 ▸ own_pos _
      obtain ⟨T145, h145, X145, e145, E145, A145, D145, -, st145⟩ := newO X141 hx hZ hown (wd hw 31 rfl) (wd hw 32 rfl) (wd hw 33 rfl) rfl (g := (mkF m 58 #[.val (.int p1), .val (.int p2), .val (.int p3), .val (.int p4), .val (.ref b61), .val (.ref b137), .val (.int v144), .unset, .unset, .unset, .unset, .unset, .unset, .unset] [])) rfl (hb hby at_58) (by decide) (by decide)
      obtain ⟨b145, g145⟩ : ∃ z, z = T141.heap.size := ⟨_, rfl⟩
      rw [← g145] at A145 D145 st145
      have sz_b145 : T141.heap.size ≤ b145 := Nat.le_of_eq g145.symm
      have O146 := O142.ext E145
      have Z146 : n0 ≤ h145.size := Nat.le_trans Z142 E145.1
      have F147 : Fld Z h145 b145 "com/example/floatroom/floatroom/CsvReader$Column" "name" "Ljava/lang/String;" .null := D145 (Or.inr (wd hw 44 rfl)) (ty := (.object "java/lang/String")) (by decide)
      have F148 : Fld Z h145 b145 "com/example/floatroom/floatroom/CsvReader$Column" "index" "I" (.int 0) := D145 (Or.inr (wd hw 46 rfl)) (ty := .int) (by decide)
      refine Go.by (B := (T145.setTop (mkF m 61 #[.val (.int p1), .val (.int p2), .val (.int p3), .val (.int p4), .val (.ref b61), .val (.ref b137), .val (.int v144), .unset, .unset, .unset, .unset, .unset, .unset, .unset] [(.ref b145)]))) st145 ?_
      refine Go.by (B := (T145.setTop (mkF m 65 #[.val (.int p1), .val (.int p2), .val (.int p3), .val (.int p4), .val (.ref b61), .val (.ref b137), .val (.int v144), .unset, .unset, .unset, .unset, .unset, .unset, .unset] [(.int p1), (.ref b137), (.ref b145), (.ref b145)]))) (fun _ k => XS.dup X145.here hx rfl (hb hby at_61) rfl rfl (XS.aload X145.here hx rfl (hb hby at_62) rfl rfl (XS.iloadN X145.here hx rfl (hb hby at_64) rfl k))) ?_
      obtain ⟨_, _, ⟨T149, L149, k149, n149⟩, -, X149, ⟨Lc149, hQ149, l149, y149, z149⟩, st149⟩ := X145.specialBack hx (y := (⟨"com/example/floatroom/floatroom/CsvReader$Column", "<init>", "(Ljava/lang/String;I)V"⟩ : MethodName)) rfl hown (mvT hZ (wd hw 34 rfl)) (mvT hZ (wd hw 35 rfl)) (mvT hZ (wd hw 36 rfl)) (by decide) (backOf (W := 1) (rm_col l Z a0 hw [] b145 b137 p1 h145 n0 Z146 O146 A145 F147 F148 (Nat.le_trans Z142 sz_b145)) hZ (wd hw 36 rfl) (wd hw 33 rfl) (by decide) (by decide)) (g := (mkF m 65 #[.val (.int p1), .val (.int p2), .val (.int p3), .val (.int p4), .val (.ref b61), .val (.ref b137), .val (.int v144), .unset, .unset, .unset, .unset, .unset, .unset, .unset] [(.int p1), (.ref b137), (.ref b145), (.ref b145)])) rfl (by rw [hml]; rfl) (Steps.refl _) (a := b145) (argsL := [(.ref b137), (.int p1)]) (rest := [(.ref b145)]) (lenOf pd_9 rfl) rfl (by show 2 * 0 + _ ≤ _; exact Nat.le_of_eq rfl) (hb hby at_65) (fun _ _ => ⟨rfl, e145, Nat.le_of_ble_eq_true rfl, Nat.le_of_ble_eq_true rfl⟩)
      dsimp only [Pt.U, Pt.locs, Pt.cells, Pt.slots] at X149 l149 y149 z149 st149 hQ149
      subst l149 y149 z149
      obtain ⟨rfl, Nq149, K149, p149_0, p149_1, p149_2⟩ := hQ149
      have N149 := Fr.app N141 Nq149
      have O150 := O146.keep K149 (allS (Nat.le_trans Z142 sz_b145) all0)
      have Z150 : n0 ≤ T149.heap.size := Nat.le_trans Z146 K149.1
      refine Go.by (B := (T149.setTop (mkF m 68 #[.val (.int p1), .val (.int p2), .val (.int p3), .val (.int p4), .val (.ref b61), .val (.ref b137), .val (.int v144), .unset, .unset, .unset, .unset, .unset, .unset, .unset] [(.ref b145)]))) (fun _ k => st149.trans k) ?_
      refine Go.by (B := (T149.setTop (mkF m 70 #[.val (.int p1), .val (.int p2), .val (.int p3), .val (.int p4), .val (.ref b61), .val (.ref b137), .val (.int v144), .val (.ref b145), .unset, .unset, .unset, .unset, .unset, .unset] []))) (fun _ k => XS.astore X149.here hx rfl (hb hby at_68) rfl rfl (l' := #[.val (.int p1), .val (.int p2), .val (.int p3), .val (.int p4), .val (.ref b61), .val (.ref b137), .val (.int v144), .val (.ref b145), .unset, .unset, .unset, .unset, .unset, .unset]) rfl k) ?_
      obtain ⟨T151, h151, X151, e151, E151, A151, D151, -, st151⟩ := newO X149 hx hZ hown (wd hw 31 rfl) (wd hw 32 rfl) (wd hw 33 rfl) rfl (g := (mkF m 70 #[.val (.int p1), .val (.int p2), .val (.int p3), .val (.int p4), .val (.ref b61), .val (.ref b137), .val (.int v144), .val (.ref b145), .unset, .unset, .unset, .unset, .unset, .unset] [])) rfl (hb hby at_70) (by decide) (by decide)
      obtain ⟨b151, g151⟩ : ∃ z, z = T149.heap.size := ⟨_, rfl⟩
      rw [← g151] at A151 D151 st151
      have sz_b151 : T149.heap.size ≤ b151 := Nat.le_of_eq g151.symm
      have O152 := O150.ext E151
      have Z152 : n0 ≤ h151.size := Nat.le_trans Z150 E151.1
      have F153 : Fld Z h151 b151 "com/example/floatroom/floatroom/CsvReader$Column" "name" "Ljava/lang/String;" .null := D151 (Or.inr (wd hw 44 rfl)) (ty := (.object "java/lang/String")) (by decide)
      have F154 : Fld Z h151 b151 "com/example/floatroom/floatroom/CsvReader$Column" "index" "I" (.int 0) := D151 (Or.inr (wd hw 46 rfl)) (ty := .int) (by decide)
      refine Go.by (B := (T151.setTop (mkF m 73 #[.val (.int p1), .val (.int p2), .val (.int p3), .val (.int p4), .val (.ref b61), .val (.ref b137), .val (.int v144), .val (.ref b145), .unset, .unset, .unset, .unset, .unset, .unset] [(.ref b151)]))) st151 ?_
      refine Go.by (B := (T151.setTop (mkF m 77 #[.val (.int p1), .val (.int p2), .val (.int p3), .val (.int p4), .val (.ref b61), .val (.ref b137), .val (.int v144), .val (.ref b145), .unset, .unset, .unset, .unset, .unset, .unset] [(.int (-1 : Int32)), (.ref b137), (.ref b151), (.ref b151)]))) (fun _ k => XS.dup X151.here hx rfl (hb hby at_73) rfl rfl (XS.aload X151.here hx rfl (hb hby at_74) rfl rfl (XS.iconst X151.here hx rfl (hb hby at_76) k))) ?_
      obtain ⟨_, _, ⟨T155, L155, k155, n155⟩, -, X155, ⟨Lc155, hQ155, l155, y155, z155⟩, st155⟩ := X151.specialBack hx (y := (⟨"com/example/floatroom/floatroom/CsvReader$Column", "<init>", "(Ljava/lang/String;I)V"⟩ : MethodName)) rfl hown (mvT hZ (wd hw 34 rfl)) (mvT hZ (wd hw 35 rfl)) (mvT hZ (wd hw 36 rfl)) (by decide) (backOf (W := 1) (rm_col l Z a0 hw [] b151 b137 (-1 : Int32) h151 n0 Z152 O152 A151 F153 F154 (Nat.le_trans Z150 sz_b151)) hZ (wd hw 36 rfl) (wd hw 33 rfl) (by decide) (by decide)) (g := (mkF m 77 #[.val (.int p1), .val (.int p2), .val (.int p3), .val (.int p4), .val (.ref b61), .val (.ref b137), .val (.int v144), .val (.ref b145), .unset, .unset, .unset, .unset, .unset, .unset] [(.int (-1 : Int32)), (.ref b137), (.ref b151), (.ref b151)])) rfl (by rw [hml]; rfl) (Steps.refl _) (a := b151) (argsL := [(.ref b137), (.int (-1 : Int32))]) (rest := [(.ref b151)]) (lenOf pd_9 rfl) rfl (by show 2 * 0 + _ ≤ _; exact Nat.le_of_eq rfl) (hb hby at_77) (fun _ _ => ⟨rfl, e151, Nat.le_of_ble_eq_true rfl, Nat.le_of_ble_eq_true rfl⟩)
      dsimp only [Pt.U, Pt.locs, Pt.cells, Pt.slots] at X155 l155 y155 z155 st155 hQ155
      subst l155 y155 z155
      obtain ⟨rfl, Nq155, K155, p155_0, p155_1, p155_2⟩ := hQ155
      have N155 := Fr.app N149 Nq155
      have O156 := O152.keep K155 (allS (Nat.le_trans Z150 sz_b151) all0)
      have Z156 : n0 ≤ T155.heap.size := Nat.le_trans Z152 K155.1
      refine Go.by (B := (T155.setTop (mkF m 80 #[.val (.int p1), .val (.int p2), .val (.int p3), .val (.int p4), .val (.ref b61), .val (.ref b137), .val (.int v144), .val (.ref b145), .unset, .unset, .unset, .unset, .unset, .unset] [(.ref b151)]))) (fun _ k => st155.trans k) ?_
      refine Go.by (B := (T155.setTop (mkF m 82 #[.val (.int p1), .val (.int p2), .val (.int p3), .val (.int p4), .val (.ref b61), .val (.ref b137), .val (.int v144), .val (.ref b145), .val (.ref b151), .unset, .unset, .unset, .unset, .unset] []))) (fun _ k => XS.astore X155.here hx rfl (hb hby at_80) rfl rfl (l' := #[.val (.int p1), .val (.int p2), .val (.int p3), .val (.int p4), .val (.ref b61), .val (.ref b137), .val (.int v144), .val (.ref b145), .val (.ref b151), .unset, .unset, .unset, .unset, .unset]) rfl k) ?_
      obtain ⟨T157, h157, X157, e157, E157, A157, D157, -, st157⟩ := newO X155 hx hZ hown (wd hw 31 rfl) (wd hw 32 rfl) (wd hw 33 rfl) rfl (g := (mkF m 82 #[.val (.int p1), .val (.int p2), .val (.int p3), .val (.int p4), .val (.ref b61), .val (.ref b137), .val (.int v144), .val (.ref b145), .val (.ref b151), .unset, .unset, .unset, .unset, .unset] [])) rfl (hb hby at_82) (by decide) (by decide)
      obtain ⟨b157, g157⟩ : ∃ z, z = T155.heap.size := ⟨_, rfl⟩
      rw [← g157] at A157 D157 st157
      have sz_b157 : T155.heap.size ≤ b157 := Nat.le_of_eq g157.symm
      have O158 := O156.ext E157
      have Z158 : n0 ≤ h157.size := Nat.le_trans Z156 E157.1
      have F159 : Fld Z h157 b157 "com/example/floatroom/floatroom/CsvReader$Column" "name" "Ljava/lang/String;" .null := D157 (Or.inr (wd hw 44 rfl)) (ty := (.object "java/lang/String")) (by decide)
      have F160 : Fld Z h157 b157 "com/example/floatroom/floatroom/CsvReader$Column" "index" "I" (.int 0) := D157 (Or.inr (wd hw 46 rfl)) (ty := .int) (by decide)
      refine Go.by (B := (T157.setTop (mkF m 85 #[.val (.int p1), .val (.int p2), .val (.int p3), .val (.int p4), .val (.ref b61), .val (.ref b137), .val (.int v144), .val (.ref b145), .val (.ref b151), .unset, .unset, .unset, .unset, .unset] [(.ref b157)]))) st157 ?_
      refine Go.by (B := (T157.setTop (mkF m 90 #[.val (.int p1), .val (.int p2), .val (.int p3), .val (.int p4), .val (.ref b61), .val (.ref b137), .val (.int v144), .val (.ref b145), .val (.ref b151), .unset, .unset, .unset, .unset, .unset] [(.int v144), (.ref b137), (.ref b157), (.ref b157)]))) (fun _ k => XS.dup X157.here hx rfl (hb hby at_85) rfl rfl (XS.aload X157.here hx rfl (hb hby at_86) rfl rfl (XS.iload X157.here hx rfl (hb hby at_88) rfl k))) ?_
      obtain ⟨_, _, ⟨T161, L161, k161, n161⟩, -, X161, ⟨Lc161, hQ161, l161, y161, z161⟩, st161⟩ := X157.specialBack hx (y := (⟨"com/example/floatroom/floatroom/CsvReader$Column", "<init>", "(Ljava/lang/String;I)V"⟩ : MethodName)) rfl hown (mvT hZ (wd hw 34 rfl)) (mvT hZ (wd hw 35 rfl)) (mvT hZ (wd hw 36 rfl)) (by decide) (backOf (W := 1) (rm_col l Z a0 hw [] b157 b137 v144 h157 n0 Z158 O158 A157 F159 F160 (Nat.le_trans Z156 sz_b157)) hZ (wd hw 36 rfl) (wd hw 33 rfl) (by decide) (by decide)) (g := (mkF m 90 #[.val (.int p1), .val (.int p2), .val (.int p3), .val (.int p4), .val (.ref b61), .val (.ref b137), .val (.int v144), .val (.ref b145), .val (.ref b151), .unset, .unset, .unset, .unset, .unset] [(.int v144), (.ref b137), (.ref b157), (.ref b157)])) rfl (by rw [hml]; rfl) (Steps.refl _) (a := b157) (argsL := [(.ref b137), (.int v144)]) (rest := [(.ref b157)]) (lenOf pd_9 rfl) rfl (by show 2 * 0 + _ ≤ _; exact Nat.le_of_eq rfl) (hb hby at_90) (fun _ _ => ⟨rfl, e157, Nat.le_of_ble_eq_true rfl, Nat.le_of_ble_eq_true rfl⟩)
      dsimp only [Pt.U, Pt.locs, Pt.cells, Pt.slots] at X161 l161 y161 z161 st161 hQ161
      subst l161 y161 z161
      obtain ⟨rfl, Nq161, K161, p161_0, p161_1, p161_2⟩ := hQ161
      have N161 := Fr.app N155 Nq161
      have O162 := O158.keep K161 (allS (Nat.le_trans Z156 sz_b157) all0)
      have Z162 : n0 ≤ T161.heap.size := Nat.le_trans Z158 K161.1
      refine Go.by (B := (T161.setTop (mkF m 93 #[.val (.int p1), .val (.int p2), .val (.int p3), .val (.int p4), .val (.ref b61), .val (.ref b137), .val (.int v144), .val (.ref b145), .val (.ref b151), .unset, .unset, .unset, .unset, .unset] [(.ref b157)]))) (fun _ k => st161.trans k) ?_
      refine Go.by (B := (T161.setTop (mkF m 97 #[.val (.int p1), .val (.int p2), .val (.int p3), .val (.int p4), .val (.ref b61), .val (.ref b137), .val (.int v144), .val (.ref b145), .val (.ref b151), .val (.ref b157), .unset, .unset, .unset, .unset] [(.ref b145)]))) (fun _ k => XS.astore X161.here hx rfl (hb hby at_93) rfl rfl (l' := #[.val (.int p1), .val (.int p2), .val (.int p3), .val (.int p4), .val (.ref b61), .val (.ref b137), .val (.int v144), .val (.ref b145), .val (.ref b151), .val (.ref b157), .unset, .unset, .unset, .unset]) rfl (XS.aload X161.here hx rfl (hb hby at_95) rfl rfl k)) ?_
      have f163 := ((((p149_2.ext E151).keep K155 (ninS (Nat.ne_of_lt (Nat.lt_of_lt_of_le p149_0.lt sz_b151)) nin0)).ext E157).keep K161 (ninS (Nat.ne_of_lt (Nat.lt_of_lt_of_le ((p149_0.ext E151).keep K155).lt sz_b157)) nin0))
      have f165 := ((((p149_0.ext E151).keep K155).ext E157).keep K161)
      obtain ⟨cq164, kq164, q164a, q164b, q164c⟩ := isOf hZ rfl f165
      obtain ⟨_, _, ⟨T164, L164, k164, n164⟩, -, X164, ⟨Lc164, hQ164, l164, y164, z164⟩, st164⟩ := X161.virtualBack hx (y := (⟨"com/example/floatroom/floatroom/CsvReader$Column", "isPresent", "()Z"⟩ : MethodName)) (z := (⟨"com/example/floatroom/floatroom/CsvReader$Column", "isPresent", "()Z"⟩ : MethodName)) hown (mvT hZ (wd hw 47 rfl)) (mvT hZ (wd hw 48 rfl)) (notFace_of_selects (args := #[]) (mvT hZ (wd hw 50 rfl))) (mvT hZ (wd hw 50 rfl)) (mvT hZ (wd hw 49 rfl)) (by decide) (backOf (W := 0) (rm_pres_n l Z a0 hw [] b145 p1 T161.heap n0 Z162 f163 c143) hZ (wd hw 51 rfl) (wd hw 33 rfl) (by decide) (by decide)) q164a q164c (g := (mkF m 97 #[.val (.int p1), .val (.int p2), .val (.int p3), .val (.int p4), .val (.ref b61), .val (.ref b137), .val (.int v144), .val (.ref b145), .val (.ref b151), .val (.ref b157), .unset, .unset, .unset, .unset] [(.ref b145)])) rfl (by rw [hml]; rfl) (Steps.refl _) (argsL := []) (rest := []) (lenOf pd_10 rfl) rfl (by show 2 * 0 + _ ≤ _; exact Nat.le_of_eq rfl) (hb hby at_97) (fun _ _ => ⟨rfl, rfl, Nat.le_of_ble_eq_true rfl, Nat.le_of_ble_eq_true rfl⟩)
      dsimp only [Pt.U, Pt.locs, Pt.cells, Pt.slots] at X164 l164 y164 z164 st164 hQ164
      subst l164 y164 z164
      obtain ⟨rfl, Nq164, hh164⟩ := hQ164
      have N164 := Fr.app N161 Nq164
      refine Go.by (B := (T164.setTop (mkF m 100 #[.val (.int p1), .val (.int p2), .val (.int p3), .val (.int p4), .val (.ref b61), .val (.ref b137), .val (.int v144), .val (.ref b145), .val (.ref b151), .val (.ref b157), .unset, .unset, .unset, .unset] [(.int 0)]))) (fun _ k => st164.trans k) ?_
      refine Go.by (B := (T164.setTop (mkF m 101 #[.val (.int p1), .val (.int p2), .val (.int p3), .val (.int p4), .val (.ref b61), .val (.ref b137), .val (.int v144), .val (.ref b145), .val (.ref b151), .val (.ref b157), .unset, .unset, .unset, .unset] [(.int p1), (.int 0)]))) (fun _ k => XS.iloadN X164.here hx rfl (hb hby at_100) rfl k) ?_
      obtain ⟨_, _, ⟨T166, L166, k166, n166⟩, -, X166, ⟨Lc166, hQ166, l166, y166, z166⟩, st166⟩ := Jvm.LawKit.callS X164 hx (y := (⟨"com/example/floatroom/floatroom/ColumnIsPresentPinLaw", "expectedPresent", "(I)Z"⟩ : MethodName)) hown (mvT hZ (wd hw 52 rfl)) (mvT hZ (wd hw 53 rfl)) (mvT hZ (wd hw 54 rfl)) (mvT hZ (wd hw 55 rfl)) (by decide) (backOf (W := 1) (rm_exp_n l Z a0 hw [] p1 T161.heap n0 Z162 c143) hZ (wd hw 55 rfl) (wd hw 54 rfl) (by decide) (by decide)) (g := (mkF m 101 #[.val (.int p1), .val (.int p2), .val (.int p3), .val (.int p4), .val (.ref b61), .val (.ref b137), .val (.int v144), .val (.ref b145), .val (.ref b151), .val (.ref b157), .unset, .unset, .unset, .unset] [(.int p1), (.int 0)])) rfl (by rw [hml]; rfl) (argsL := [(.int p1)]) (rest := [(.int 0)]) (lenOf pd_11 rfl) rfl (by show 2 * 0 + _ ≤ _; exact Nat.le_of_eq rfl) (hb hby at_101) (fun _ _ => ⟨rfl, hh164, Nat.le_of_ble_eq_true rfl, Nat.le_of_ble_eq_true rfl⟩)
      dsimp only [Pt.U, Pt.locs, Pt.cells, Pt.slots] at X166 l166 y166 z166 st166 hQ166
      subst l166 y166 z166
      obtain ⟨rfl, Nq166, hh166⟩ := hQ166
      have N166 := Fr.app N164 Nq166
      refine Go.by (B := (T166.setTop (mkF m 104 #[.val (.int p1), .val (.int p2), .val (.int p3), .val (.int p4), .val (.ref b61), .val (.ref b137), .val (.int v144), .val (.ref b145), .val (.ref b151), .val (.ref b157), .unset, .unset, .unset, .unset] [(.int 0), (.int 0)]))) (fun _ k => st166 _ k) ?_
      refine Go.by (B := (T166.setTop (mkF m 116 #[.val (.int p1), .val (.int p2), .val (.int p3), .val (.int p4), .val (.ref b61), .val (.ref b137), .val (.int v144), .val (.ref b145), .val (.ref b151), .val (.ref b157), .val (.int 1), .unset, .unset, .unset] [(.ref b151)]))) (fun _ k => XS.icmpNo X166.here hx rfl (hb hby at_104) rfl (teq (by decide : (0 : Int32) = (0 : Int32))).2 (XS.iconst X166.here hx rfl (hb hby at_107) (XS.goto X166.here hx rfl (pc0 := 108) (pc' := 112) rfl (hb hby at_108) (by decide) (by decide) (XS.istore X166.here hx rfl (hb hby at_112) rfl (l' := #[.val (.int p1), .val (.int p2), .val (.int p3), .val (.int p4), .val (.ref b61), .val (.ref b137), .val (.int v144), .val (.ref b145), .val (.ref b151), .val (.ref b157), .val (.int 1), .unset, .unset, .unset]) rfl (XS.aload X166.here hx rfl (hb hby at_114) rfl rfl k))))) ?_
      have f167 := ((p155_2.ext E157).keep K161 (ninS (Nat.ne_of_lt (Nat.lt_of_lt_of_le p155_0.lt sz_b157)) nin0))
      obtain ⟨cq168, kq168, q168a, q168b, q168c⟩ := isOf hZ hh166 ((p155_0.ext E157).keep K161)
      obtain ⟨_, _, ⟨T168, L168, k168, n168⟩, -, X168, ⟨Lc168, hQ168, l168, y168, z168⟩, st168⟩ := X166.virtualBack hx (y := (⟨"com/example/floatroom/floatroom/CsvReader$Column", "isPresent", "()Z"⟩ : MethodName)) (z := (⟨"com/example/floatroom/floatroom/CsvReader$Column", "isPresent", "()Z"⟩ : MethodName)) hown (mvT hZ (wd hw 47 rfl)) (mvT hZ (wd hw 48 rfl)) (notFace_of_selects (args := #[]) (mvT hZ (wd hw 50 rfl))) (mvT hZ (wd hw 50 rfl)) (mvT hZ (wd hw 49 rfl)) (by decide) (backOf (W := 0) (rm_pres_n l Z a0 hw [] b151 (-1 : Int32) T161.heap n0 Z162 f167 (by decide)) hZ (wd hw 51 rfl) (wd hw 33 rfl) (by decide) (by decide)) q168a q168c (g := (mkF m 116 #[.val (.int p1), .val (.int p2), .val (.int p3), .val (.int p4), .val (.ref b61), .val (.ref b137), .val (.int v144), .val (.ref b145), .val (.ref b151), .val (.ref b157), .val (.int 1), .unset, .unset, .unset] [(.ref b151)])) rfl (by rw [hml]; rfl) (Steps.refl _) (argsL := []) (rest := []) (lenOf pd_10 rfl) rfl (by show 2 * 0 + _ ≤ _; exact Nat.le_of_eq rfl) (hb hby at_116) (fun _ _ => ⟨rfl, hh166, Nat.le_of_ble_eq_true rfl, Nat.le_of_ble_eq_true rfl⟩)
      dsimp only [Pt.U, Pt.locs, Pt.cells, Pt.slots] at X168 l168 y168 z168 st168 hQ168
      subst l168 y168 z168
      obtain ⟨rfl, Nq168, hh168⟩ := hQ168
      have N168 := Fr.app N166 Nq168
      refine Go.by (B := (T168.setTop (mkF m 119 #[.val (.int p1), .val (.int p2), .val (.int p3), .val (.int p4), .val (.ref b61), .val (.ref b137), .val (.int v144), .val (.ref b145), .val (.ref b151), .val (.ref b157), .val (.int 1), .unset, .unset, .unset] [(.int 0)]))) (fun _ k => st168.trans k) ?_
      refine Go.by (B := (T168.setTop (mkF m 131 #[.val (.int p1), .val (.int p2), .val (.int p3), .val (.int p4), .val (.ref b61), .val (.ref b137), .val (.int v144), .val (.ref b145), .val (.ref b151), .val (.ref b157), .val (.int 1), .val (.int 1), .unset, .unset] [(.ref b157)]))) (fun _ k => XS.ifNo X168.here hx rfl (hb hby at_119) rfl ((if0 _ _).trans (teq (by decide : (0 : Int32) = (0 : Int32))).2) (XS.iconst X168.here hx rfl (hb hby at_122) (XS.goto X168.here hx rfl (pc0 := 123) (pc' := 127) rfl (hb hby at_123) (by decide) (by decide) (XS.istore X168.here hx rfl (hb hby at_127) rfl (l' := #[.val (.int p1), .val (.int p2), .val (.int p3), .val (.int p4), .val (.ref b61), .val (.ref b137), .val (.int v144), .val (.ref b145), .val (.ref b151), .val (.ref b157), .val (.int 1), .val (.int 1), .unset, .unset]) rfl (XS.aload X168.here hx rfl (hb hby at_129) rfl rfl k))))) ?_
      obtain ⟨cq169, kq169, q169a, q169b, q169c⟩ := isOf hZ hh168 p161_0
      obtain ⟨_, _, ⟨T169, L169, k169, n169⟩, -, X169, ⟨Lc169, hQ169, l169, y169, z169⟩, st169⟩ := X168.virtualBack hx (y := (⟨"com/example/floatroom/floatroom/CsvReader$Column", "isPresent", "()Z"⟩ : MethodName)) (z := (⟨"com/example/floatroom/floatroom/CsvReader$Column", "isPresent", "()Z"⟩ : MethodName)) hown (mvT hZ (wd hw 47 rfl)) (mvT hZ (wd hw 48 rfl)) (notFace_of_selects (args := #[]) (mvT hZ (wd hw 50 rfl))) (mvT hZ (wd hw 50 rfl)) (mvT hZ (wd hw 49 rfl)) (by decide) (backOf (W := 0) (rm_pres_p l Z a0 hw [] b157 v144 T161.heap n0 Z162 p161_2 hpv144) hZ (wd hw 51 rfl) (wd hw 33 rfl) (by decide) (by decide)) q169a q169c (g := (mkF m 131 #[.val (.int p1), .val (.int p2), .val (.int p3), .val (.int p4), .val (.ref b61), .val (.ref b137), .val (.int v144), .val (.ref b145), .val (.ref b151), .val (.ref b157), .val (.int 1), .val (.int 1), .unset, .unset] [(.ref b157)])) rfl (by rw [hml]; rfl) (Steps.refl _) (argsL := []) (rest := []) (lenOf pd_10 rfl) rfl (by show 2 * 0 + _ ≤ _; exact Nat.le_of_eq rfl) (hb hby at_131) (fun _ _ => ⟨rfl, hh168, Nat.le_of_ble_eq_true rfl, Nat.le_of_ble_eq_true rfl⟩)
      dsimp only [Pt.U, Pt.locs, Pt.cells, Pt.slots] at X169 l169 y169 z169 st169 hQ169
      subst l169 y169 z169
      obtain ⟨rfl, Nq169, hh169⟩ := hQ169
      have N169 := Fr.app N168 Nq169
      refine Go.by (B := (T169.setTop (mkF m 134 #[.val (.int p1), .val (.int p2), .val (.int p3), .val (.int p4), .val (.ref b61), .val (.ref b137), .val (.int v144), .val (.ref b145), .val (.ref b151), .val (.ref b157), .val (.int 1), .val (.int 1), .unset, .unset] [(.int 1)]))) (fun _ k => st169.trans k) ?_
      refine Go.by (B := (T169.setTop (mkF m 138 #[.val (.int p1), .val (.int p2), .val (.int p3), .val (.int p4), .val (.ref b61), .val (.ref b137), .val (.int v144), .val (.ref b145), .val (.ref b151), .val (.ref b157), .val (.int 1), .val (.int 1), .val (.int 1), .unset] [(.ref b145)]))) (fun _ k => XS.istore X169.here hx rfl (hb hby at_134) rfl (l' := #[.val (.int p1), .val (.int p2), .val (.int p3), .val (.int p4), .val (.ref b61), .val (.ref b137), .val (.int v144), .val (.ref b145), .val (.ref b151), .val (.ref b157), .val (.int 1), .val (.int 1), .val (.int 1), .unset]) rfl (XS.aload X169.here hx rfl (hb hby at_136) rfl rfl k)) ?_
      obtain ⟨cq170, kq170, q170a, q170b, q170c⟩ := isOf hZ hh169 f165
      obtain ⟨_, _, ⟨T170, L170, k170, n170⟩, -, X170, ⟨Lc170, hQ170, l170, y170, z170⟩, st170⟩ := X169.virtualBack hx (y := (⟨"com/example/floatroom/floatroom/CsvReader$Column", "index", "()I"⟩ : MethodName)) (z := (⟨"com/example/floatroom/floatroom/CsvReader$Column", "index", "()I"⟩ : MethodName)) hown (mvT hZ (wd hw 56 rfl)) (mvT hZ (wd hw 57 rfl)) (notFace_of_selects (args := #[]) (mvT hZ (wd hw 59 rfl))) (mvT hZ (wd hw 59 rfl)) (mvT hZ (wd hw 58 rfl)) (by decide) (backOf (W := 0) (rm_index l Z a0 hw [] b145 p1 T161.heap n0 Z162 f163) hZ (wd hw 60 rfl) (wd hw 33 rfl) (by decide) (by decide)) q170a q170c (g := (mkF m 138 #[.val (.int p1), .val (.int p2), .val (.int p3), .val (.int p4), .val (.ref b61), .val (.ref b137), .val (.int v144), .val (.ref b145), .val (.ref b151), .val (.ref b157), .val (.int 1), .val (.int 1), .val (.int 1), .unset] [(.ref b145)])) rfl (by rw [hml]; rfl) (Steps.refl _) (argsL := []) (rest := []) (lenOf pd_12 rfl) rfl (by show 2 * 0 + _ ≤ _; exact Nat.le_of_eq rfl) (hb hby at_138) (fun _ _ => ⟨rfl, hh169, Nat.le_of_ble_eq_true rfl, Nat.le_of_ble_eq_true rfl⟩)
      dsimp only [Pt.U, Pt.locs, Pt.cells, Pt.slots] at X170 l170 y170 z170 st170 hQ170
      subst l170 y170 z170
      obtain ⟨rfl, Nq170, hh170⟩ := hQ170
      have N170 := Fr.app N169 Nq170
      refine Go.by (B := (T170.setTop (mkF m 141 #[.val (.int p1), .val (.int p2), .val (.int p3), .val (.int p4), .val (.ref b61), .val (.ref b137), .val (.int v144), .val (.ref b145), .val (.ref b151), .val (.ref b157), .val (.int 1), .val (.int 1), .val (.int 1), .unset] [(.int p1)]))) (fun _ k => st170.trans k) ?_
      refine Go.by (B := (T170.setTop (mkF m 147 #[.val (.int p1), .val (.int p2), .val (.int p3), .val (.int p4), .val (.ref b61), .val (.ref b137), .val (.int v144), .val (.ref b145), .val (.ref b151), .val (.ref b157), .val (.int 1), .val (.int 1), .val (.int 1), .unset] [(.ref b145)]))) (fun _ k => XS.iloadN X170.here hx rfl (hb hby at_141) rfl (XS.icmpNo X170.here hx rfl (hb hby at_142) rfl (teq (rfl : p1 = p1)).2 (XS.aload X170.here hx rfl (hb hby at_145) rfl rfl k))) ?_
      have f171 := ((((p149_1.ext E151).keep K155 (ninS (Nat.ne_of_lt (Nat.lt_of_lt_of_le p149_0.lt sz_b151)) nin0)).ext E157).keep K161 (ninS (Nat.ne_of_lt (Nat.lt_of_lt_of_le ((p149_0.ext E151).keep K155).lt sz_b157)) nin0))
      obtain ⟨cq172, kq172, q172a, q172b, q172c⟩ := isOf hZ hh170 f165
      obtain ⟨_, _, ⟨T172, L172, k172, n172⟩, -, X172, ⟨Lc172, hQ172, l172, y172, z172⟩, st172⟩ := X170.virtualBack hx (y := (⟨"com/example/floatroom/floatroom/CsvReader$Column", "name", "()Ljava/lang/String;"⟩ : MethodName)) (z := (⟨"com/example/floatroom/floatroom/CsvReader$Column", "name", "()Ljava/lang/String;"⟩ : MethodName)) hown (mvT hZ (wd hw 61 rfl)) (mvT hZ (wd hw 62 rfl)) (notFace_of_selects (args := #[]) (mvT hZ (wd hw 64 rfl))) (mvT hZ (wd hw 64 rfl)) (mvT hZ (wd hw 63 rfl)) (by decide) (backOf (W := 0) (rm_name l Z a0 hw [] b145 b137 T161.heap n0 Z162 f171) hZ (wd hw 65 rfl) (wd hw 33 rfl) (by decide) (by decide)) q172a q172c (g := (mkF m 147 #[.val (.int p1), .val (.int p2), .val (.int p3), .val (.int p4), .val (.ref b61), .val (.ref b137), .val (.int v144), .val (.ref b145), .val (.ref b151), .val (.ref b157), .val (.int 1), .val (.int 1), .val (.int 1), .unset] [(.ref b145)])) rfl (by rw [hml]; rfl) (Steps.refl _) (argsL := []) (rest := []) (lenOf pd_13 rfl) rfl (by show 2 * 0 + _ ≤ _; exact Nat.le_of_eq rfl) (hb hby at_147) (fun _ _ => ⟨rfl, hh170, Nat.le_of_ble_eq_true rfl, Nat.le_of_ble_eq_true rfl⟩)
      dsimp only [Pt.U, Pt.locs, Pt.cells, Pt.slots] at X172 l172 y172 z172 st172 hQ172
      subst l172 y172 z172
      obtain ⟨rfl, Nq172, hh172⟩ := hQ172
      have N172 := Fr.app N170 Nq172
      refine Go.by (B := (T172.setTop (mkF m 150 #[.val (.int p1), .val (.int p2), .val (.int p3), .val (.int p4), .val (.ref b61), .val (.ref b137), .val (.int v144), .val (.ref b145), .val (.ref b151), .val (.ref b157), .val (.int 1), .val (.int 1), .val (.int 1), .unset] [(.ref b137)]))) (fun _ k => st172.trans k) ?_
      refine Go.by (B := (T172.setTop (mkF m 152 #[.val (.int p1), .val (.int p2), .val (.int p3), .val (.int p4), .val (.ref b61), .val (.ref b137), .val (.int v144), .val (.ref b145), .val (.ref b151), .val (.ref b157), .val (.int 1), .val (.int 1), .val (.int 1), .unset] [(.ref b137), (.ref b137)]))) (fun _ k => XS.aload X172.here hx rfl (hb hby at_150) rfl rfl k) ?_
      have f174 := ((((((p141_0.ext E145).keep K149).ext E151).keep K155).ext E157).keep K161)
      obtain ⟨cq173, kq173, q173a, q173b, q173c⟩ := isOf hZ hh172 f174
      obtain ⟨_, _, ⟨T173, L173, k173, n173⟩, -, X173, ⟨Lc173, hQ173, l173, y173, z173⟩, st173⟩ := X172.virtualBack hx (y := (⟨"java/lang/String", "equals", "(Ljava/lang/Object;)Z"⟩ : MethodName)) (z := (⟨"java/lang/String", "equals", "(Ljava/lang/Object;)Z"⟩ : MethodName)) hown (mvT hZ (wd hw 66 rfl)) (mvT hZ (wd hw 67 rfl)) (notFace_of_selects (args := #[]) (mvT hZ (wd hw 69 rfl))) (mvT hZ (wd hw 69 rfl)) (mvT hZ (wd hw 68 rfl)) (by decide) (backOf (W := 0) (rm_eqs l Z a0 hw [] b137 T161.heap n0 Z162 ) hZ (wd hw 70 rfl) (wd hw 3 rfl) (by decide) (by decide)) q173a q173c (g := (mkF m 152 #[.val (.int p1), .val (.int p2), .val (.int p3), .val (.int p4), .val (.ref b61), .val (.ref b137), .val (.int v144), .val (.ref b145), .val (.ref b151), .val (.ref b157), .val (.int 1), .val (.int 1), .val (.int 1), .unset] [(.ref b137), (.ref b137)])) rfl (by rw [hml]; rfl) (Steps.refl _) (argsL := [(.ref b137)]) (rest := []) (lenOf pd_14 rfl) rfl (by show 2 * 0 + _ ≤ _; exact Nat.le_of_eq rfl) (hb hby at_152) (fun _ _ => ⟨rfl, hh172, Nat.le_of_ble_eq_true rfl, Nat.le_of_ble_eq_true rfl⟩)
      dsimp only [Pt.U, Pt.locs, Pt.cells, Pt.slots] at X173 l173 y173 z173 st173 hQ173
      subst l173 y173 z173
      obtain ⟨rfl, Nq173, hh173⟩ := hQ173
      have N173 := Fr.app N172 Nq173
      refine Go.by (B := (T173.setTop (mkF m 155 #[.val (.int p1), .val (.int p2), .val (.int p3), .val (.int p4), .val (.ref b61), .val (.ref b137), .val (.int v144), .val (.ref b145), .val (.ref b151), .val (.ref b157), .val (.int 1), .val (.int 1), .val (.int 1), .unset] [(.int 1)]))) (fun _ k => st173.trans k) ?_
      refine Go.by (B := (T173.setTop (mkF m 175 #[.val (.int p1), .val (.int p2), .val (.int p3), .val (.int p4), .val (.ref b61), .val (.ref b137), .val (.int v144), .val (.ref b145), .val (.ref b151), .val (.ref b157), .val (.int 1), .val (.int 1), .val (.int 1), .val (.int 1)] []))) (fun _ k => XS.ifNo X173.here hx rfl (hb hby at_155) rfl ((if0 _ _).trans (feq (by decide : ¬ ((1 : Int32) = (0 : Int32)))).1) (XS.iconst X173.here hx rfl (hb hby at_158) (XS.goto X173.here hx rfl (pc0 := 159) (pc' := 163) rfl (hb hby at_159) (by decide) (by decide) (XS.istore X173.here hx rfl (hb hby at_163) rfl (l' := #[.val (.int p1), .val (.int p2), .val (.int p3), .val (.int p4), .val (.ref b61), .val (.ref b137), .val (.int v144), .val (.ref b145), .val (.ref b151), .val (.ref b157), .val (.int 1), .val (.int 1), .val (.int 1), .val (.int 1)]) rfl (XS.iload X173.here hx rfl (hb hby at_165) rfl (XS.ifNo X173.here hx rfl (hb hby at_167) rfl ((if0 _ _).trans (feq (by decide : ¬ ((1 : Int32) = (0 : Int32)))).1) (XS.iload X173.here hx rfl (hb hby at_170) rfl (XS.ifNo X173.here hx rfl (hb hby at_172) rfl ((if0 _ _).trans (feq (by decide : ¬ ((1 : Int32) = (0 : Int32)))).1) k)))))))) ?_
      refine Go.by (B := (T173.setTop (mkF m 190 #[.val (.int p1), .val (.int p2), .val (.int p3), .val (.int p4), .val (.ref b61), .val (.ref b137), .val (.int v144), .val (.ref b145), .val (.ref b151), .val (.ref b157), .val (.int 1), .val (.int 1), .val (.int 1), .val (.int 1)] [(.int 1)]))) (fun _ k => XS.iload X173.here hx rfl (hb hby at_175) rfl (XS.ifNo X173.here hx rfl (hb hby at_177) rfl ((if0 _ _).trans (feq (by decide : ¬ ((1 : Int32) = (0 : Int32)))).1) (XS.iload X173.here hx rfl (hb hby at_180) rfl (XS.ifNo X173.here hx rfl (hb hby at_182) rfl ((if0 _ _).trans (feq (by decide : ¬ ((1 : Int32) = (0 : Int32)))).1) (XS.iconst X173.here hx rfl (hb hby at_185) (XS.goto X173.here hx rfl (pc0 := 186) (pc' := 190) rfl (hb hby at_186) (by decide) (by decide) k)))))) ?_
      refine Go.ret X173 hx hlk (t := .boolean) hret rfl (Or.inl ⟨rfl, by simp, _, rfl⟩) (hb hby at_190) (by decide) (by decide) ?_
      exact ⟨rfl, N173⟩
    · skip
      refine Go.by (B := (T141.setTop (mkF m 56 #[.val (.int p1), .val (.int p2), .val (.int p3), .val (.int p4), .val (.ref b61), .val (.ref b137), .unset, .unset, .unset, .unset, .unset, .unset, .unset, .unset] [(.int (p1 &&& (2147483647 : Int32)))]))) (fun _ k => XS.iloadN X141.here hx rfl (hb hby at_52) rfl (X141.ldcInt hx hown (mvT hZ (wd hw 30 rfl)) (g := (mkF m 53 #[.val (.int p1), .val (.int p2), .val (.int p3), .val (.int p4), .val (.ref b61), .val (.ref b137), .unset, .unset, .unset, .unset, .unset, .unset, .unset, .unset] [(.int p1)])) rfl (hb hby at_53) _ (XS.iand X141.here hx rfl (hb hby at_55) rfl k))) ?_
      obtain ⟨v175, hv175⟩ : ∃ v, v = (p1 &&& (2147483647 : Int32)) := ⟨_, rfl⟩
      refine Go.by (B := (T141.setTop (mkF m 58 #[.val (.int p1), .val (.int p2), .val (.int p3), .val (.int p4), .val (.ref b61), .val (.ref b137), .val (.int v175), .unset, .unset, .unset, .unset, .unset, .unset, .unset] []))) (fun _ k => XS.istore (x := v175) (rest := []) X141.here hx rfl (hb hby at_56) (by rw [hv175]) (l' := #[.val (.int p1), .val (.int p2), .val (.int p3), .val (.int p4), .val (.ref b61), .val (.ref b137), .val (.int v175), .unset, .unset, .unset, .unset, .unset, .unset, .unset]) rfl k) ?_
      have hpv175 : ¬ v175 < (0 : Int32) := hv175 ▸ own_pos _
      obtain ⟨T176, h176, X176, e176, E176, A176, D176, -, st176⟩ := newO X141 hx hZ hown (wd hw 31 rfl) (wd hw 32 rfl) (wd hw 33 rfl) rfl (g := (mkF m 58 #[.val (.int p1), .val (.int p2), .val (.int p3), .val (.int p4), .val (.ref b61), .val (.ref b137), .val (.int v175), .unset, .unset, .unset, .unset, .unset, .unset, .unset] [])) rfl (hb hby at_58) (by decide) (by decide)
      obtain ⟨b176, g176⟩ : ∃ z, z = T141.heap.size := ⟨_, rfl⟩
      rw [← g176] at A176 D176 st176
      have sz_b176 : T141.heap.size ≤ b176 := Nat.le_of_eq g176.symm
      have O177 := O142.ext E176
      have Z177 : n0 ≤ h176.size := Nat.le_trans Z142 E176.1
      have F178 : Fld Z h176 b176 "com/example/floatroom/floatroom/CsvReader$Column" "name" "Ljava/lang/String;" .null := D176 (Or.inr (wd hw 44 rfl)) (ty := (.object "java/lang/String")) (by decide)
      have F179 : Fld Z h176 b176 "com/example/floatroom/floatroom/CsvReader$Column" "index" "I" (.int 0) := D176 (Or.inr (wd hw 46 rfl)) (ty := .int) (by decide)
      refine Go.by (B := (T176.setTop (mkF m 61 #[.val (.int p1), .val (.int p2), .val (.int p3), .val (.int p4), .val (.ref b61), .val (.ref b137), .val (.int v175), .unset, .unset, .unset, .unset, .unset, .unset, .unset] [(.ref b176)]))) st176 ?_
      refine Go.by (B := (T176.setTop (mkF m 65 #[.val (.int p1), .val (.int p2), .val (.int p3), .val (.int p4), .val (.ref b61), .val (.ref b137), .val (.int v175), .unset, .unset, .unset, .unset, .unset, .unset, .unset] [(.int p1), (.ref b137), (.ref b176), (.ref b176)]))) (fun _ k => XS.dup X176.here hx rfl (hb hby at_61) rfl rfl (XS.aload X176.here hx rfl (hb hby at_62) rfl rfl (XS.iloadN X176.here hx rfl (hb hby at_64) rfl k))) ?_
      obtain ⟨_, _, ⟨T180, L180, k180, n180⟩, -, X180, ⟨Lc180, hQ180, l180, y180, z180⟩, st180⟩ := X176.specialBack hx (y := (⟨"com/example/floatroom/floatroom/CsvReader$Column", "<init>", "(Ljava/lang/String;I)V"⟩ : MethodName)) rfl hown (mvT hZ (wd hw 34 rfl)) (mvT hZ (wd hw 35 rfl)) (mvT hZ (wd hw 36 rfl)) (by decide) (backOf (W := 1) (rm_col l Z a0 hw [] b176 b137 p1 h176 n0 Z177 O177 A176 F178 F179 (Nat.le_trans Z142 sz_b176)) hZ (wd hw 36 rfl) (wd hw 33 rfl) (by decide) (by decide)) (g := (mkF m 65 #[.val (.int p1), .val (.int p2), .val (.int p3), .val (.int p4), .val (.ref b61), .val (.ref b137), .val (.int v175), .unset, .unset, .unset, .unset, .unset, .unset, .unset] [(.int p1), (.ref b137), (.ref b176), (.ref b176)])) rfl (by rw [hml]; rfl) (Steps.refl _) (a := b176) (argsL := [(.ref b137), (.int p1)]) (rest := [(.ref b176)]) (lenOf pd_9 rfl) rfl (by show 2 * 0 + _ ≤ _; exact Nat.le_of_eq rfl) (hb hby at_65) (fun _ _ => ⟨rfl, e176, Nat.le_of_ble_eq_true rfl, Nat.le_of_ble_eq_true rfl⟩)
      dsimp only [Pt.U, Pt.locs, Pt.cells, Pt.slots] at X180 l180 y180 z180 st180 hQ180
      subst l180 y180 z180
      obtain ⟨rfl, Nq180, K180, p180_0, p180_1, p180_2⟩ := hQ180
      have N180 := Fr.app N141 Nq180
      have O181 := O177.keep K180 (allS (Nat.le_trans Z142 sz_b176) all0)
      have Z181 : n0 ≤ T180.heap.size := Nat.le_trans Z177 K180.1
      refine Go.by (B := (T180.setTop (mkF m 68 #[.val (.int p1), .val (.int p2), .val (.int p3), .val (.int p4), .val (.ref b61), .val (.ref b137), .val (.int v175), .unset, .unset, .unset, .unset, .unset, .unset, .unset] [(.ref b176)]))) (fun _ k => st180.trans k) ?_
      refine Go.by (B := (T180.setTop (mkF m 70 #[.val (.int p1), .val (.int p2), .val (.int p3), .val (.int p4), .val (.ref b61), .val (.ref b137), .val (.int v175), .val (.ref b176), .unset, .unset, .unset, .unset, .unset, .unset] []))) (fun _ k => XS.astore X180.here hx rfl (hb hby at_68) rfl rfl (l' := #[.val (.int p1), .val (.int p2), .val (.int p3), .val (.int p4), .val (.ref b61), .val (.ref b137), .val (.int v175), .val (.ref b176), .unset, .unset, .unset, .unset, .unset, .unset]) rfl k) ?_
      obtain ⟨T182, h182, X182, e182, E182, A182, D182, -, st182⟩ := newO X180 hx hZ hown (wd hw 31 rfl) (wd hw 32 rfl) (wd hw 33 rfl) rfl (g := (mkF m 70 #[.val (.int p1), .val (.int p2), .val (.int p3), .val (.int p4), .val (.ref b61), .val (.ref b137), .val (.int v175), .val (.ref b176), .unset, .unset, .unset, .unset, .unset, .unset] [])) rfl (hb hby at_70) (by decide) (by decide)
      obtain ⟨b182, g182⟩ : ∃ z, z = T180.heap.size := ⟨_, rfl⟩
      rw [← g182] at A182 D182 st182
      have sz_b182 : T180.heap.size ≤ b182 := Nat.le_of_eq g182.symm
      have O183 := O181.ext E182
      have Z183 : n0 ≤ h182.size := Nat.le_trans Z181 E182.1
      have F184 : Fld Z h182 b182 "com/example/floatroom/floatroom/CsvReader$Column" "name" "Ljava/lang/String;" .null := D182 (Or.inr (wd hw 44 rfl)) (ty := (.object "java/lang/String")) (by decide)
      have F185 : Fld Z h182 b182 "com/example/floatroom/floatroom/CsvReader$Column" "index" "I" (.int 0) := D182 (Or.inr (wd hw 46 rfl)) (ty := .int) (by decide)
      refine Go.by (B := (T182.setTop (mkF m 73 #[.val (.int p1), .val (.int p2), .val (.int p3), .val (.int p4), .val (.ref b61), .val (.ref b137), .val (.int v175), .val (.ref b176), .unset, .unset, .unset, .unset, .unset, .unset] [(.ref b182)]))) st182 ?_
      refine Go.by (B := (T182.setTop (mkF m 77 #[.val (.int p1), .val (.int p2), .val (.int p3), .val (.int p4), .val (.ref b61), .val (.ref b137), .val (.int v175), .val (.ref b176), .unset, .unset, .unset, .unset, .unset, .unset] [(.int (-1 : Int32)), (.ref b137), (.ref b182), (.ref b182)]))) (fun _ k => XS.dup X182.here hx rfl (hb hby at_73) rfl rfl (XS.aload X182.here hx rfl (hb hby at_74) rfl rfl (XS.iconst X182.here hx rfl (hb hby at_76) k))) ?_
      obtain ⟨_, _, ⟨T186, L186, k186, n186⟩, -, X186, ⟨Lc186, hQ186, l186, y186, z186⟩, st186⟩ := X182.specialBack hx (y := (⟨"com/example/floatroom/floatroom/CsvReader$Column", "<init>", "(Ljava/lang/String;I)V"⟩ : MethodName)) rfl hown (mvT hZ (wd hw 34 rfl)) (mvT hZ (wd hw 35 rfl)) (mvT hZ (wd hw 36 rfl)) (by decide) (backOf (W := 1) (rm_col l Z a0 hw [] b182 b137 (-1 : Int32) h182 n0 Z183 O183 A182 F184 F185 (Nat.le_trans Z181 sz_b182)) hZ (wd hw 36 rfl) (wd hw 33 rfl) (by decide) (by decide)) (g := (mkF m 77 #[.val (.int p1), .val (.int p2), .val (.int p3), .val (.int p4), .val (.ref b61), .val (.ref b137), .val (.int v175), .val (.ref b176), .unset, .unset, .unset, .unset, .unset, .unset] [(.int (-1 : Int32)), (.ref b137), (.ref b182), (.ref b182)])) rfl (by rw [hml]; rfl) (Steps.refl _) (a := b182) (argsL := [(.ref b137), (.int (-1 : Int32))]) (rest := [(.ref b182)]) (lenOf pd_9 rfl) rfl (by show 2 * 0 + _ ≤ _; exact Nat.le_of_eq rfl) (hb hby at_77) (fun _ _ => ⟨rfl, e182, Nat.le_of_ble_eq_true rfl, Nat.le_of_ble_eq_true rfl⟩)
      dsimp only [Pt.U, Pt.locs, Pt.cells, Pt.slots] at X186 l186 y186 z186 st186 hQ186
      subst l186 y186 z186
      obtain ⟨rfl, Nq186, K186, p186_0, p186_1, p186_2⟩ := hQ186
      have N186 := Fr.app N180 Nq186
      have O187 := O183.keep K186 (allS (Nat.le_trans Z181 sz_b182) all0)
      have Z187 : n0 ≤ T186.heap.size := Nat.le_trans Z183 K186.1
      refine Go.by (B := (T186.setTop (mkF m 80 #[.val (.int p1), .val (.int p2), .val (.int p3), .val (.int p4), .val (.ref b61), .val (.ref b137), .val (.int v175), .val (.ref b176), .unset, .unset, .unset, .unset, .unset, .unset] [(.ref b182)]))) (fun _ k => st186.trans k) ?_
      refine Go.by (B := (T186.setTop (mkF m 82 #[.val (.int p1), .val (.int p2), .val (.int p3), .val (.int p4), .val (.ref b61), .val (.ref b137), .val (.int v175), .val (.ref b176), .val (.ref b182), .unset, .unset, .unset, .unset, .unset] []))) (fun _ k => XS.astore X186.here hx rfl (hb hby at_80) rfl rfl (l' := #[.val (.int p1), .val (.int p2), .val (.int p3), .val (.int p4), .val (.ref b61), .val (.ref b137), .val (.int v175), .val (.ref b176), .val (.ref b182), .unset, .unset, .unset, .unset, .unset]) rfl k) ?_
      obtain ⟨T188, h188, X188, e188, E188, A188, D188, -, st188⟩ := newO X186 hx hZ hown (wd hw 31 rfl) (wd hw 32 rfl) (wd hw 33 rfl) rfl (g := (mkF m 82 #[.val (.int p1), .val (.int p2), .val (.int p3), .val (.int p4), .val (.ref b61), .val (.ref b137), .val (.int v175), .val (.ref b176), .val (.ref b182), .unset, .unset, .unset, .unset, .unset] [])) rfl (hb hby at_82) (by decide) (by decide)
      obtain ⟨b188, g188⟩ : ∃ z, z = T186.heap.size := ⟨_, rfl⟩
      rw [← g188] at A188 D188 st188
      have sz_b188 : T186.heap.size ≤ b188 := Nat.le_of_eq g188.symm
      have O189 := O187.ext E188
      have Z189 : n0 ≤ h188.size := Nat.le_trans Z187 E188.1
      have F190 : Fld Z h188 b188 "com/example/floatroom/floatroom/CsvReader$Column" "name" "Ljava/lang/String;" .null := D188 (Or.inr (wd hw 44 rfl)) (ty := (.object "java/lang/String")) (by decide)
      have F191 : Fld Z h188 b188 "com/example/floatroom/floatroom/CsvReader$Column" "index" "I" (.int 0) := D188 (Or.inr (wd hw 46 rfl)) (ty := .int) (by decide)
      refine Go.by (B := (T188.setTop (mkF m 85 #[.val (.int p1), .val (.int p2), .val (.int p3), .val (.int p4), .val (.ref b61), .val (.ref b137), .val (.int v175), .val (.ref b176), .val (.ref b182), .unset, .unset, .unset, .unset, .unset] [(.ref b188)]))) st188 ?_
      refine Go.by (B := (T188.setTop (mkF m 90 #[.val (.int p1), .val (.int p2), .val (.int p3), .val (.int p4), .val (.ref b61), .val (.ref b137), .val (.int v175), .val (.ref b176), .val (.ref b182), .unset, .unset, .unset, .unset, .unset] [(.int v175), (.ref b137), (.ref b188), (.ref b188)]))) (fun _ k => XS.dup X188.here hx rfl (hb hby at_85) rfl rfl (XS.aload X188.here hx rfl (hb hby at_86) rfl rfl (XS.iload X188.here hx rfl (hb hby at_88) rfl k))) ?_
      obtain ⟨_, _, ⟨T192, L192, k192, n192⟩, -, X192, ⟨Lc192, hQ192, l192, y192, z192⟩, st192⟩ := X188.specialBack hx (y := (⟨"com/example/floatroom/floatroom/CsvReader$Column", "<init>", "(Ljava/lang/String;I)V"⟩ : MethodName)) rfl hown (mvT hZ (wd hw 34 rfl)) (mvT hZ (wd hw 35 rfl)) (mvT hZ (wd hw 36 rfl)) (by decide) (backOf (W := 1) (rm_col l Z a0 hw [] b188 b137 v175 h188 n0 Z189 O189 A188 F190 F191 (Nat.le_trans Z187 sz_b188)) hZ (wd hw 36 rfl) (wd hw 33 rfl) (by decide) (by decide)) (g := (mkF m 90 #[.val (.int p1), .val (.int p2), .val (.int p3), .val (.int p4), .val (.ref b61), .val (.ref b137), .val (.int v175), .val (.ref b176), .val (.ref b182), .unset, .unset, .unset, .unset, .unset] [(.int v175), (.ref b137), (.ref b188), (.ref b188)])) rfl (by rw [hml]; rfl) (Steps.refl _) (a := b188) (argsL := [(.ref b137), (.int v175)]) (rest := [(.ref b188)]) (lenOf pd_9 rfl) rfl (by show 2 * 0 + _ ≤ _; exact Nat.le_of_eq rfl) (hb hby at_90) (fun _ _ => ⟨rfl, e188, Nat.le_of_ble_eq_true rfl, Nat.le_of_ble_eq_true rfl⟩)
      dsimp only [Pt.U, Pt.locs, Pt.cells, Pt.slots] at X192 l192 y192 z192 st192 hQ192
      subst l192 y192 z192
      obtain ⟨rfl, Nq192, K192, p192_0, p192_1, p192_2⟩ := hQ192
      have N192 := Fr.app N186 Nq192
      have O193 := O189.keep K192 (allS (Nat.le_trans Z187 sz_b188) all0)
      have Z193 : n0 ≤ T192.heap.size := Nat.le_trans Z189 K192.1
      refine Go.by (B := (T192.setTop (mkF m 93 #[.val (.int p1), .val (.int p2), .val (.int p3), .val (.int p4), .val (.ref b61), .val (.ref b137), .val (.int v175), .val (.ref b176), .val (.ref b182), .unset, .unset, .unset, .unset, .unset] [(.ref b188)]))) (fun _ k => st192.trans k) ?_
      refine Go.by (B := (T192.setTop (mkF m 97 #[.val (.int p1), .val (.int p2), .val (.int p3), .val (.int p4), .val (.ref b61), .val (.ref b137), .val (.int v175), .val (.ref b176), .val (.ref b182), .val (.ref b188), .unset, .unset, .unset, .unset] [(.ref b176)]))) (fun _ k => XS.astore X192.here hx rfl (hb hby at_93) rfl rfl (l' := #[.val (.int p1), .val (.int p2), .val (.int p3), .val (.int p4), .val (.ref b61), .val (.ref b137), .val (.int v175), .val (.ref b176), .val (.ref b182), .val (.ref b188), .unset, .unset, .unset, .unset]) rfl (XS.aload X192.here hx rfl (hb hby at_95) rfl rfl k)) ?_
      have f194 := ((((p180_2.ext E182).keep K186 (ninS (Nat.ne_of_lt (Nat.lt_of_lt_of_le p180_0.lt sz_b182)) nin0)).ext E188).keep K192 (ninS (Nat.ne_of_lt (Nat.lt_of_lt_of_le ((p180_0.ext E182).keep K186).lt sz_b188)) nin0))
      have f196 := ((((p180_0.ext E182).keep K186).ext E188).keep K192)
      obtain ⟨cq195, kq195, q195a, q195b, q195c⟩ := isOf hZ rfl f196
      obtain ⟨_, _, ⟨T195, L195, k195, n195⟩, -, X195, ⟨Lc195, hQ195, l195, y195, z195⟩, st195⟩ := X192.virtualBack hx (y := (⟨"com/example/floatroom/floatroom/CsvReader$Column", "isPresent", "()Z"⟩ : MethodName)) (z := (⟨"com/example/floatroom/floatroom/CsvReader$Column", "isPresent", "()Z"⟩ : MethodName)) hown (mvT hZ (wd hw 47 rfl)) (mvT hZ (wd hw 48 rfl)) (notFace_of_selects (args := #[]) (mvT hZ (wd hw 50 rfl))) (mvT hZ (wd hw 50 rfl)) (mvT hZ (wd hw 49 rfl)) (by decide) (backOf (W := 0) (rm_pres_p l Z a0 hw [] b176 p1 T192.heap n0 Z193 f194 c143) hZ (wd hw 51 rfl) (wd hw 33 rfl) (by decide) (by decide)) q195a q195c (g := (mkF m 97 #[.val (.int p1), .val (.int p2), .val (.int p3), .val (.int p4), .val (.ref b61), .val (.ref b137), .val (.int v175), .val (.ref b176), .val (.ref b182), .val (.ref b188), .unset, .unset, .unset, .unset] [(.ref b176)])) rfl (by rw [hml]; rfl) (Steps.refl _) (argsL := []) (rest := []) (lenOf pd_10 rfl) rfl (by show 2 * 0 + _ ≤ _; exact Nat.le_of_eq rfl) (hb hby at_97) (fun _ _ => ⟨rfl, rfl, Nat.le_of_ble_eq_true rfl, Nat.le_of_ble_eq_true rfl⟩)
      dsimp only [Pt.U, Pt.locs, Pt.cells, Pt.slots] at X195 l195 y195 z195 st195 hQ195
      subst l195 y195 z195
      obtain ⟨rfl, Nq195, hh195⟩ := hQ195
      have N195 := Fr.app N192 Nq195
      refine Go.by (B := (T195.setTop (mkF m 100 #[.val (.int p1), .val (.int p2), .val (.int p3), .val (.int p4), .val (.ref b61), .val (.ref b137), .val (.int v175), .val (.ref b176), .val (.ref b182), .val (.ref b188), .unset, .unset, .unset, .unset] [(.int 1)]))) (fun _ k => st195.trans k) ?_
      refine Go.by (B := (T195.setTop (mkF m 101 #[.val (.int p1), .val (.int p2), .val (.int p3), .val (.int p4), .val (.ref b61), .val (.ref b137), .val (.int v175), .val (.ref b176), .val (.ref b182), .val (.ref b188), .unset, .unset, .unset, .unset] [(.int p1), (.int 1)]))) (fun _ k => XS.iloadN X195.here hx rfl (hb hby at_100) rfl k) ?_
      obtain ⟨_, _, ⟨T197, L197, k197, n197⟩, -, X197, ⟨Lc197, hQ197, l197, y197, z197⟩, st197⟩ := Jvm.LawKit.callS X195 hx (y := (⟨"com/example/floatroom/floatroom/ColumnIsPresentPinLaw", "expectedPresent", "(I)Z"⟩ : MethodName)) hown (mvT hZ (wd hw 52 rfl)) (mvT hZ (wd hw 53 rfl)) (mvT hZ (wd hw 54 rfl)) (mvT hZ (wd hw 55 rfl)) (by decide) (backOf (W := 1) (rm_exp_p l Z a0 hw [] p1 T192.heap n0 Z193 c143) hZ (wd hw 55 rfl) (wd hw 54 rfl) (by decide) (by decide)) (g := (mkF m 101 #[.val (.int p1), .val (.int p2), .val (.int p3), .val (.int p4), .val (.ref b61), .val (.ref b137), .val (.int v175), .val (.ref b176), .val (.ref b182), .val (.ref b188), .unset, .unset, .unset, .unset] [(.int p1), (.int 1)])) rfl (by rw [hml]; rfl) (argsL := [(.int p1)]) (rest := [(.int 1)]) (lenOf pd_11 rfl) rfl (by show 2 * 0 + _ ≤ _; exact Nat.le_of_eq rfl) (hb hby at_101) (fun _ _ => ⟨rfl, hh195, Nat.le_of_ble_eq_true rfl, Nat.le_of_ble_eq_true rfl⟩)
      dsimp only [Pt.U, Pt.locs, Pt.cells, Pt.slots] at X197 l197 y197 z197 st197 hQ197
      subst l197 y197 z197
      obtain ⟨rfl, Nq197, hh197⟩ := hQ197
      have N197 := Fr.app N195 Nq197
      refine Go.by (B := (T197.setTop (mkF m 104 #[.val (.int p1), .val (.int p2), .val (.int p3), .val (.int p4), .val (.ref b61), .val (.ref b137), .val (.int v175), .val (.ref b176), .val (.ref b182), .val (.ref b188), .unset, .unset, .unset, .unset] [(.int 1), (.int 1)]))) (fun _ k => st197 _ k) ?_
      refine Go.by (B := (T197.setTop (mkF m 116 #[.val (.int p1), .val (.int p2), .val (.int p3), .val (.int p4), .val (.ref b61), .val (.ref b137), .val (.int v175), .val (.ref b176), .val (.ref b182), .val (.ref b188), .val (.int 1), .unset, .unset, .unset] [(.ref b182)]))) (fun _ k => XS.icmpNo X197.here hx rfl (hb hby at_104) rfl (teq (by decide : (1 : Int32) = (1 : Int32))).2 (XS.iconst X197.here hx rfl (hb hby at_107) (XS.goto X197.here hx rfl (pc0 := 108) (pc' := 112) rfl (hb hby at_108) (by decide) (by decide) (XS.istore X197.here hx rfl (hb hby at_112) rfl (l' := #[.val (.int p1), .val (.int p2), .val (.int p3), .val (.int p4), .val (.ref b61), .val (.ref b137), .val (.int v175), .val (.ref b176), .val (.ref b182), .val (.ref b188), .val (.int 1), .unset, .unset, .unset]) rfl (XS.aload X197.here hx rfl (hb hby at_114) rfl rfl k))))) ?_
      have f198 := ((p186_2.ext E188).keep K192 (ninS (Nat.ne_of_lt (Nat.lt_of_lt_of_le p186_0.lt sz_b188)) nin0))
      obtain ⟨cq199, kq199, q199a, q199b, q199c⟩ := isOf hZ hh197 ((p186_0.ext E188).keep K192)
      obtain ⟨_, _, ⟨T199, L199, k199, n199⟩, -, X199, ⟨Lc199, hQ199, l199, y199, z199⟩, st199⟩ := X197.virtualBack hx (y := (⟨"com/example/floatroom/floatroom/CsvReader$Column", "isPresent", "()Z"⟩ : MethodName)) (z := (⟨"com/example/floatroom/floatroom/CsvReader$Column", "isPresent", "()Z"⟩ : MethodName)) hown (mvT hZ (wd hw 47 rfl)) (mvT hZ (wd hw 48 rfl)) (notFace_of_selects (args := #[]) (mvT hZ (wd hw 50 rfl))) (mvT hZ (wd hw 50 rfl)) (mvT hZ (wd hw 49 rfl)) (by decide) (backOf (W := 0) (rm_pres_n l Z a0 hw [] b182 (-1 : Int32) T192.heap n0 Z193 f198 (by decide)) hZ (wd hw 51 rfl) (wd hw 33 rfl) (by decide) (by decide)) q199a q199c (g := (mkF m 116 #[.val (.int p1), .val (.int p2), .val (.int p3), .val (.int p4), .val (.ref b61), .val (.ref b137), .val (.int v175), .val (.ref b176), .val (.ref b182), .val (.ref b188), .val (.int 1), .unset, .unset, .unset] [(.ref b182)])) rfl (by rw [hml]; rfl) (Steps.refl _) (argsL := []) (rest := []) (lenOf pd_10 rfl) rfl (by show 2 * 0 + _ ≤ _; exact Nat.le_of_eq rfl) (hb hby at_116) (fun _ _ => ⟨rfl, hh197, Nat.le_of_ble_eq_true rfl, Nat.le_of_ble_eq_true rfl⟩)
      dsimp only [Pt.U, Pt.locs, Pt.cells, Pt.slots] at X199 l199 y199 z199 st199 hQ199
      subst l199 y199 z199
      obtain ⟨rfl, Nq199, hh199⟩ := hQ199
      have N199 := Fr.app N197 Nq199
      refine Go.by (B := (T199.setTop (mkF m 119 #[.val (.int p1), .val (.int p2), .val (.int p3), .val (.int p4), .val (.ref b61), .val (.ref b137), .val (.int v175), .val (.ref b176), .val (.ref b182), .val (.ref b188), .val (.int 1), .unset, .unset, .unset] [(.int 0)]))) (fun _ k => st199.trans k) ?_
      refine Go.by (B := (T199.setTop (mkF m 131 #[.val (.int p1), .val (.int p2), .val (.int p3), .val (.int p4), .val (.ref b61), .val (.ref b137), .val (.int v175), .val (.ref b176), .val (.ref b182), .val (.ref b188), .val (.int 1), .val (.int 1), .unset, .unset] [(.ref b188)]))) (fun _ k => XS.ifNo X199.here hx rfl (hb hby at_119) rfl ((if0 _ _).trans (teq (by decide : (0 : Int32) = (0 : Int32))).2) (XS.iconst X199.here hx rfl (hb hby at_122) (XS.goto X199.here hx rfl (pc0 := 123) (pc' := 127) rfl (hb hby at_123) (by decide) (by decide) (XS.istore X199.here hx rfl (hb hby at_127) rfl (l' := #[.val (.int p1), .val (.int p2), .val (.int p3), .val (.int p4), .val (.ref b61), .val (.ref b137), .val (.int v175), .val (.ref b176), .val (.ref b182), .val (.ref b188), .val (.int 1), .val (.int 1), .unset, .unset]) rfl (XS.aload X199.here hx rfl (hb hby at_129) rfl rfl k))))) ?_
      obtain ⟨cq200, kq200, q200a, q200b, q200c⟩ := isOf hZ hh199 p192_0
      obtain ⟨_, _, ⟨T200, L200, k200, n200⟩, -, X200, ⟨Lc200, hQ200, l200, y200, z200⟩, st200⟩ := X199.virtualBack hx (y := (⟨"com/example/floatroom/floatroom/CsvReader$Column", "isPresent", "()Z"⟩ : MethodName)) (z := (⟨"com/example/floatroom/floatroom/CsvReader$Column", "isPresent", "()Z"⟩ : MethodName)) hown (mvT hZ (wd hw 47 rfl)) (mvT hZ (wd hw 48 rfl)) (notFace_of_selects (args := #[]) (mvT hZ (wd hw 50 rfl))) (mvT hZ (wd hw 50 rfl)) (mvT hZ (wd hw 49 rfl)) (by decide) (backOf (W := 0) (rm_pres_p l Z a0 hw [] b188 v175 T192.heap n0 Z193 p192_2 hpv175) hZ (wd hw 51 rfl) (wd hw 33 rfl) (by decide) (by decide)) q200a q200c (g := (mkF m 131 #[.val (.int p1), .val (.int p2), .val (.int p3), .val (.int p4), .val (.ref b61), .val (.ref b137), .val (.int v175), .val (.ref b176), .val (.ref b182), .val (.ref b188), .val (.int 1), .val (.int 1), .unset, .unset] [(.ref b188)])) rfl (by rw [hml]; rfl) (Steps.refl _) (argsL := []) (rest := []) (lenOf pd_10 rfl) rfl (by show 2 * 0 + _ ≤ _; exact Nat.le_of_eq rfl) (hb hby at_131) (fun _ _ => ⟨rfl, hh199, Nat.le_of_ble_eq_true rfl, Nat.le_of_ble_eq_true rfl⟩)
      dsimp only [Pt.U, Pt.locs, Pt.cells, Pt.slots] at X200 l200 y200 z200 st200 hQ200
      subst l200 y200 z200
      obtain ⟨rfl, Nq200, hh200⟩ := hQ200
      have N200 := Fr.app N199 Nq200
      refine Go.by (B := (T200.setTop (mkF m 134 #[.val (.int p1), .val (.int p2), .val (.int p3), .val (.int p4), .val (.ref b61), .val (.ref b137), .val (.int v175), .val (.ref b176), .val (.ref b182), .val (.ref b188), .val (.int 1), .val (.int 1), .unset, .unset] [(.int 1)]))) (fun _ k => st200.trans k) ?_
      refine Go.by (B := (T200.setTop (mkF m 138 #[.val (.int p1), .val (.int p2), .val (.int p3), .val (.int p4), .val (.ref b61), .val (.ref b137), .val (.int v175), .val (.ref b176), .val (.ref b182), .val (.ref b188), .val (.int 1), .val (.int 1), .val (.int 1), .unset] [(.ref b176)]))) (fun _ k => XS.istore X200.here hx rfl (hb hby at_134) rfl (l' := #[.val (.int p1), .val (.int p2), .val (.int p3), .val (.int p4), .val (.ref b61), .val (.ref b137), .val (.int v175), .val (.ref b176), .val (.ref b182), .val (.ref b188), .val (.int 1), .val (.int 1), .val (.int 1), .unset]) rfl (XS.aload X200.here hx rfl (hb hby at_136) rfl rfl k)) ?_
      obtain ⟨cq201, kq201, q201a, q201b, q201c⟩ := isOf hZ hh200 f196
      obtain ⟨_, _, ⟨T201, L201, k201, n201⟩, -, X201, ⟨Lc201, hQ201, l201, y201, z201⟩, st201⟩ := X200.virtualBack hx (y := (⟨"com/example/floatroom/floatroom/CsvReader$Column", "index", "()I"⟩ : MethodName)) (z := (⟨"com/example/floatroom/floatroom/CsvReader$Column", "index", "()I"⟩ : MethodName)) hown (mvT hZ (wd hw 56 rfl)) (mvT hZ (wd hw 57 rfl)) (notFace_of_selects (args := #[]) (mvT hZ (wd hw 59 rfl))) (mvT hZ (wd hw 59 rfl)) (mvT hZ (wd hw 58 rfl)) (by decide) (backOf (W := 0) (rm_index l Z a0 hw [] b176 p1 T192.heap n0 Z193 f194) hZ (wd hw 60 rfl) (wd hw 33 rfl) (by decide) (by decide)) q201a q201c (g := (mkF m 138 #[.val (.int p1), .val (.int p2), .val (.int p3), .val (.int p4), .val (.ref b61), .val (.ref b137), .val (.int v175), .val (.ref b176), .val (.ref b182), .val (.ref b188), .val (.int 1), .val (.int 1), .val (.int 1), .unset] [(.ref b176)])) rfl (by rw [hml]; rfl) (Steps.refl _) (argsL := []) (rest := []) (lenOf pd_12 rfl) rfl (by show 2 * 0 + _ ≤ _; exact Nat.le_of_eq rfl) (hb hby at_138) (fun _ _ => ⟨rfl, hh200, Nat.le_of_ble_eq_true rfl, Nat.le_of_ble_eq_true rfl⟩)
      dsimp only [Pt.U, Pt.locs, Pt.cells, Pt.slots] at X201 l201 y201 z201 st201 hQ201
      subst l201 y201 z201
      obtain ⟨rfl, Nq201, hh201⟩ := hQ201
      have N201 := Fr.app N200 Nq201
      refine Go.by (B := (T201.setTop (mkF m 141 #[.val (.int p1), .val (.int p2), .val (.int p3), .val (.int p4), .val (.ref b61), .val (.ref b137), .val (.int v175), .val (.ref b176), .val (.ref b182), .val (.ref b188), .val (.int 1), .val (.int 1), .val (.int 1), .unset] [(.int p1)]))) (fun _ k => st201.trans k) ?_
      refine Go.by (B := (T201.setTop (mkF m 147 #[.val (.int p1), .val (.int p2), .val (.int p3), .val (.int p4), .val (.ref b61), .val (.ref b137), .val (.int v175), .val (.ref b176), .val (.ref b182), .val (.ref b188), .val (.int 1), .val (.int 1), .val (.int 1), .unset] [(.ref b176)]))) (fun _ k => XS.iloadN X201.here hx rfl (hb hby at_141) rfl (XS.icmpNo X201.here hx rfl (hb hby at_142) rfl (teq (rfl : p1 = p1)).2 (XS.aload X201.here hx rfl (hb hby at_145) rfl rfl k))) ?_
      have f202 := ((((p180_1.ext E182).keep K186 (ninS (Nat.ne_of_lt (Nat.lt_of_lt_of_le p180_0.lt sz_b182)) nin0)).ext E188).keep K192 (ninS (Nat.ne_of_lt (Nat.lt_of_lt_of_le ((p180_0.ext E182).keep K186).lt sz_b188)) nin0))
      obtain ⟨cq203, kq203, q203a, q203b, q203c⟩ := isOf hZ hh201 f196
      obtain ⟨_, _, ⟨T203, L203, k203, n203⟩, -, X203, ⟨Lc203, hQ203, l203, y203, z203⟩, st203⟩ := X201.virtualBack hx (y := (⟨"com/example/floatroom/floatroom/CsvReader$Column", "name", "()Ljava/lang/String;"⟩ : MethodName)) (z := (⟨"com/example/floatroom/floatroom/CsvReader$Column", "name", "()Ljava/lang/String;"⟩ : MethodName)) hown (mvT hZ (wd hw 61 rfl)) (mvT hZ (wd hw 62 rfl)) (notFace_of_selects (args := #[]) (mvT hZ (wd hw 64 rfl))) (mvT hZ (wd hw 64 rfl)) (mvT hZ (wd hw 63 rfl)) (by decide) (backOf (W := 0) (rm_name l Z a0 hw [] b176 b137 T192.heap n0 Z193 f202) hZ (wd hw 65 rfl) (wd hw 33 rfl) (by decide) (by decide)) q203a q203c (g := (mkF m 147 #[.val (.int p1), .val (.int p2), .val (.int p3), .val (.int p4), .val (.ref b61), .val (.ref b137), .val (.int v175), .val (.ref b176), .val (.ref b182), .val (.ref b188), .val (.int 1), .val (.int 1), .val (.int 1), .unset] [(.ref b176)])) rfl (by rw [hml]; rfl) (Steps.refl _) (argsL := []) (rest := []) (lenOf pd_13 rfl) rfl (by show 2 * 0 + _ ≤ _; exact Nat.le_of_eq rfl) (hb hby at_147) (fun _ _ => ⟨rfl, hh201, Nat.le_of_ble_eq_true rfl, Nat.le_of_ble_eq_true rfl⟩)
      dsimp only [Pt.U, Pt.locs, Pt.cells, Pt.slots] at X203 l203 y203 z203 st203 hQ203
      subst l203 y203 z203
      obtain ⟨rfl, Nq203, hh203⟩ := hQ203
      have N203 := Fr.app N201 Nq203
      refine Go.by (B := (T203.setTop (mkF m 150 #[.val (.int p1), .val (.int p2), .val (.int p3), .val (.int p4), .val (.ref b61), .val (.ref b137), .val (.int v175), .val (.ref b176), .val (.ref b182), .val (.ref b188), .val (.int 1), .val (.int 1), .val (.int 1), .unset] [(.ref b137)]))) (fun _ k => st203.trans k) ?_
      refine Go.by (B := (T203.setTop (mkF m 152 #[.val (.int p1), .val (.int p2), .val (.int p3), .val (.int p4), .val (.ref b61), .val (.ref b137), .val (.int v175), .val (.ref b176), .val (.ref b182), .val (.ref b188), .val (.int 1), .val (.int 1), .val (.int 1), .unset] [(.ref b137), (.ref b137)]))) (fun _ k => XS.aload X203.here hx rfl (hb hby at_150) rfl rfl k) ?_
      have f205 := ((((((p141_0.ext E176).keep K180).ext E182).keep K186).ext E188).keep K192)
      obtain ⟨cq204, kq204, q204a, q204b, q204c⟩ := isOf hZ hh203 f205
      obtain ⟨_, _, ⟨T204, L204, k204, n204⟩, -, X204, ⟨Lc204, hQ204, l204, y204, z204⟩, st204⟩ := X203.virtualBack hx (y := (⟨"java/lang/String", "equals", "(Ljava/lang/Object;)Z"⟩ : MethodName)) (z := (⟨"java/lang/String", "equals", "(Ljava/lang/Object;)Z"⟩ : MethodName)) hown (mvT hZ (wd hw 66 rfl)) (mvT hZ (wd hw 67 rfl)) (notFace_of_selects (args := #[]) (mvT hZ (wd hw 69 rfl))) (mvT hZ (wd hw 69 rfl)) (mvT hZ (wd hw 68 rfl)) (by decide) (backOf (W := 0) (rm_eqs l Z a0 hw [] b137 T192.heap n0 Z193 ) hZ (wd hw 70 rfl) (wd hw 3 rfl) (by decide) (by decide)) q204a q204c (g := (mkF m 152 #[.val (.int p1), .val (.int p2), .val (.int p3), .val (.int p4), .val (.ref b61), .val (.ref b137), .val (.int v175), .val (.ref b176), .val (.ref b182), .val (.ref b188), .val (.int 1), .val (.int 1), .val (.int 1), .unset] [(.ref b137), (.ref b137)])) rfl (by rw [hml]; rfl) (Steps.refl _) (argsL := [(.ref b137)]) (rest := []) (lenOf pd_14 rfl) rfl (by show 2 * 0 + _ ≤ _; exact Nat.le_of_eq rfl) (hb hby at_152) (fun _ _ => ⟨rfl, hh203, Nat.le_of_ble_eq_true rfl, Nat.le_of_ble_eq_true rfl⟩)
      dsimp only [Pt.U, Pt.locs, Pt.cells, Pt.slots] at X204 l204 y204 z204 st204 hQ204
      subst l204 y204 z204
      obtain ⟨rfl, Nq204, hh204⟩ := hQ204
      have N204 := Fr.app N203 Nq204
      refine Go.by (B := (T204.setTop (mkF m 155 #[.val (.int p1), .val (.int p2), .val (.int p3), .val (.int p4), .val (.ref b61), .val (.ref b137), .val (.int v175), .val (.ref b176), .val (.ref b182), .val (.ref b188), .val (.int 1), .val (.int 1), .val (.int 1), .unset] [(.int 1)]))) (fun _ k => st204.trans k) ?_
      refine Go.by (B := (T204.setTop (mkF m 175 #[.val (.int p1), .val (.int p2), .val (.int p3), .val (.int p4), .val (.ref b61), .val (.ref b137), .val (.int v175), .val (.ref b176), .val (.ref b182), .val (.ref b188), .val (.int 1), .val (.int 1), .val (.int 1), .val (.int 1)] []))) (fun _ k => XS.ifNo X204.here hx rfl (hb hby at_155) rfl ((if0 _ _).trans (feq (by decide : ¬ ((1 : Int32) = (0 : Int32)))).1) (XS.iconst X204.here hx rfl (hb hby at_158) (XS.goto X204.here hx rfl (pc0 := 159) (pc' := 163) rfl (hb hby at_159) (by decide) (by decide) (XS.istore X204.here hx rfl (hb hby at_163) rfl (l' := #[.val (.int p1), .val (.int p2), .val (.int p3), .val (.int p4), .val (.ref b61), .val (.ref b137), .val (.int v175), .val (.ref b176), .val (.ref b182), .val (.ref b188), .val (.int 1), .val (.int 1), .val (.int 1), .val (.int 1)]) rfl (XS.iload X204.here hx rfl (hb hby at_165) rfl (XS.ifNo X204.here hx rfl (hb hby at_167) rfl ((if0 _ _).trans (feq (by decide : ¬ ((1 : Int32) = (0 : Int32)))).1) (XS.iload X204.here hx rfl (hb hby at_170) rfl (XS.ifNo X204.here hx rfl (hb hby at_172) rfl ((if0 _ _).trans (feq (by decide : ¬ ((1 : Int32) = (0 : Int32)))).1) k)))))))) ?_
      refine Go.by (B := (T204.setTop (mkF m 190 #[.val (.int p1), .val (.int p2), .val (.int p3), .val (.int p4), .val (.ref b61), .val (.ref b137), .val (.int v175), .val (.ref b176), .val (.ref b182), .val (.ref b188), .val (.int 1), .val (.int 1), .val (.int 1), .val (.int 1)] [(.int 1)]))) (fun _ k => XS.iload X204.here hx rfl (hb hby at_175) rfl (XS.ifNo X204.here hx rfl (hb hby at_177) rfl ((if0 _ _).trans (feq (by decide : ¬ ((1 : Int32) = (0 : Int32)))).1) (XS.iload X204.here hx rfl (hb hby at_180) rfl (XS.ifNo X204.here hx rfl (hb hby at_182) rfl ((if0 _ _).trans (feq (by decide : ¬ ((1 : Int32) = (0 : Int32)))).1) (XS.iconst X204.here hx rfl (hb hby at_185) (XS.goto X204.here hx rfl (pc0 := 186) (pc' := 190) rfl (hb hby at_186) (by decide) (by decide) k)))))) ?_
      refine Go.ret X204 hx hlk (t := .boolean) hret rfl (Or.inl ⟨rfl, by simp, _, rfl⟩) (hb hby at_190) (by decide) (by decide) ?_
      exact ⟨rfl, N204⟩
set_option maxRecDepth 65536 in
set_option maxHeartbeats 40000000 in
theorem comes_1 {Post : Tables → Env → Array Value → State → Outcome → State → Prop} (hpost : ∀ tb e args s v u, (limb_1_1.after args s (.returned v) u = true ∧ limb_1_2.after args s (.returned v) u = true ∧ True) → FrameEnd s (.returned v) u (Jvm.fieldLocs frame_1_writes args s ++ Jvm.arrayLocs frame_1_arrays args s ++ Jvm.staticLocs frame_1_statics s) 24 128 → Post tb e args s (.returned v) u) :
    ArmFor flags0 classFile x code maxLocals ret World_1 tables_1 room_1 Calls_1 rest_1 Pre_1 Post := by
  intro l hfl _ _ p e ha hc hk s m args below hf hA hF happ hP
  obtain ⟨hcalls, hrest, hpre⟩ := hP
  obtain ⟨-, -, -, hnamed, -, -, -, hat⟩ := (Spec.applies_iff hf).mp happ
  obtain ⟨hg, hn⟩ := and_e (Cond.before_iff.mp (show (Jvm.Cond.and given_1 narrow_1).before args s = true from hpre))
  obtain ⟨hg0, hgr0⟩ := and_e hg
  obtain ⟨ga0, hgr1⟩ := and_e hgr0
  obtain ⟨ga1, hgr2⟩ := and_e hgr1
  obtain ⟨ga2, hgr3⟩ := and_e hgr2
  obtain ⟨w0, w1, w2, w3, rfl⟩ : ∃ w0 w1 w2 w3 : Value, args = #[w0, w1, w2, w3] := by
    have hs : args.size = 4 := by simpa [Cond.value, given_1] using hg0
    obtain ⟨L⟩ := args
    match L, hs with
    | [w0, w1, w2, w3], _ => exact ⟨w0, w1, w2, w3, rfl⟩
  have hw := fun d (hd : d ∈ tables_1) => atoms_spec (ws := Jvm.Cond.code x code maxLocals ret :: tables_1) hat d (List.mem_cons_of_mem _ hd)
  have hfit : Fit s := fun {y c} hc i hi => by
    obtain ⟨ha, rfl⟩ := Array.getElem?_eq_some_iff.mp hc
    have q := List.all_eq_true.mp ((Array.all_eq_true_iff_forall_mem.mp hF) _ (Array.getElem_mem ha)) i (List.mem_range.mpr hi)
    simpa [Array.getElem?_eq_getElem hi] using q
  obtain ⟨hsets, hown0⟩ := atoms_of _ (rest_1_c_eq ▸ (show rest_1_c.before _ s = true from hrest))
  have hr0 := Cond.before_iff.mp hown0
  obtain ⟨i0, ei0⟩ := is_v ga0
  obtain rfl : w0 = (.int i0) := Option.some.inj ei0
  obtain ⟨i1, ei1⟩ := is_v ga1
  obtain rfl : w1 = (.int i1) := Option.some.inj ei1
  obtain ⟨i2, ei2⟩ := is_v ga2
  obtain rfl : w2 = (.int i2) := Option.some.inj ei2
  obtain ⟨i3, ei3⟩ := is_v hgr3
  obtain rfl : w3 = (.int i3) := Option.some.inj ei3
  have ncs := not_v (Cond.before_iff.mp (hsets _ (List.mem_of_getElem? (i := 2) rfl)))
  obtain ⟨cs, ecs⟩ := is_v (Cond.before_iff.mp (hsets _ (List.mem_of_getElem? (i := 1) rfl)))
  have Scs : Sta s s.heap "java/lang/String" "COMPACT_STRINGS" "Z" (.int cs) := Sta.start ecs (Or.inl (hsets _ (List.mem_of_getElem? (i := 0) rfl)))
  have hcs : ¬ (cs = (0 : Int32)) := gotF (Cond.eq_ints ecs (Term.int_eval (0))) ncs
  obtain ⟨n, o, h1, h2, h3, _, L, rfl, ⟨rfl, N⟩, hq⟩ := rm0 l s _ hw tables_1 i0 i1 i2 i3 cs s.heap s.heap.size (Nat.le_refl _) (Old.start s) Scs hcs p e ha hc hk s m _ below hf ((Spec.applies_iff_loose hf).mp happ).1 ⟨rfl, State.Warmed39.refl s, rfl⟩ trivial
  refine ⟨n, _, h1, h2, h3, hpost _ _ _ _ _ _ ⟨Cond.after_iff.mpr rfl, Cond.after_iff.mpr (eq_i res_at (Term.int_eval (1)) rfl), trivial⟩ ⟨hq.1, hq.2.1, (hq.2.2.sift fun y hy => Or.inr (N y hy)).mono (by decide) (by decide)⟩⟩
theorem main_1_1 : Claimed_1_1 := comes_1 fun _ _ _ _ _ _ h hF => ⟨h.1, hF⟩
theorem main_1_2 : Claimed_1_2 := comes_1 fun _ _ _ _ _ _ h hF => ⟨h.2.1, hF⟩
end Jvm.Pilot.@@N@@
namespace Jvm.Pilot.@@N@@
open Jvm Jvm.ClassFile Sem Op Lib Jvm.Free Jvm.Stand Jvm.Pilot.@@N@@.Jvm.D
/-! MADE BY PROGRAM (witnessworld.py) out of the Statement's table words and the real class files: 21 classes; the members and pool entries that the words name. The judged class is class 1, her method 2. -/
namespace start1
open Jvm.ClassFile
def u (s : String) : CpInfo := .utf8 (stringToUtf16 s)
/-- a pool by its gaps: so many unusable entries, then the entry; so many at the end -/
def gap : Nat → List CpInfo → List CpInfo
  | 0, r => r
  | n + 1, r => .unusable :: gap n r
def poolList (es : List (Nat × CpInfo)) (last : Nat) : List CpInfo := es.foldr (fun e r => gap e.1 (e.2 :: r)) (gap last [])
def pool (es : List (Nat × CpInfo)) (last : Nat) : Array CpInfo := ⟨poolList es last⟩
def fileOf (pool : Array CpInfo) (this : Nat) (attrs : Array Attribute := #[]) (ms : Array MethodInfo := #[]) (fl : Nat := 33) (sup : Nat := 0) (ifs : Array Nat := #[]) (fds : Array FieldInfo := #[]) : ClassFile where
  minorVersion := 0
  majorVersion := 65
  constantPool := pool
  accessFlags := fl
  thisClass := this
  superClass := sup
  interfaces := ifs
  fields := fds
  methods := ms
  attributes := attrs
def plain (name : String) (sup : Option ClassId) : Class where
  name := name
  kind := .ordinary
  loader := none
  accessFlags := 33
  super := sup
  interfaces := #[]
  cf := none
  fields := #[]
  methods := #[]
  instanceTypes := #[]
  staticTypes := #[]
  resolved := #[]
  callSites := []
  init := .initialized
  statics := none
  mirror := none

def pool0 : Array CpInfo := pool [(5, u "<init>"), (0, u "()V"), (1, .class_ 10), (1, u "java/lang/Object")] 113

def k0c0 : Code := { maxStack := 0, maxLocals := 1, code := object_method_1_code, exceptionTable := #[], attributes := #[] }
def k0m0 : Method := { name := "<init>", desc := "()V", sig := { parameters := [], returnType := none }, accessFlags := 1, code := some k0c0 }
/-- java/lang/Object -/
def k0 : Class := { plain "java/lang/Object" none with
  accessFlags := 33
  interfaces := #[]
  cf := some (fileOf pool0 8 #[] #[{ accessFlags := 1, nameIndex := 5, descriptorIndex := 6, attributes := #[] }] 33 0 #[] #[])
  fields := #[]
  methods := #[k0m0]
  instanceTypes := #[]
  staticTypes := #[]
  resolved := Array.replicate 124 none
  statics := none }

def pool1 : Array CpInfo := pool [(2, .class_ 4), (1, u "java/lang/Object"), (0, u "<init>"), (0, u "()V"), (0, .class_ 8), (0, u "java/lang/String"), (0, .methodref 7 10), (0, .nameAndType 5 11), (0, u "([C)V"), (0, .methodref 7 13), (0, .nameAndType 14 15), (0, u "valueOf"), (0, u "(C)Ljava/lang/String;"), (0, .integer 2147483647), (0, .class_ 18), (0, u "com/example/floatroom/floatroom/CsvReader$Column"), (0, .methodref 17 20), (0, .nameAndType 5 21), (0, u "(Ljava/lang/String;I)V"), (0, .methodref 17 23), (0, .nameAndType 24 25), (0, u "isPresent"), (0, u "()Z"), (0, .methodref 27 28), (0, .class_ 29), (0, .nameAndType 30 31), (0, u "com/example/floatroom/floatroom/ColumnIsPresentPinLaw"), (0, u "expectedPresent"), (0, u "(I)Z"), (0, .methodref 17 33), (0, .nameAndType 34 35), (0, u "index"), (0, u "()I"), (0, .methodref 17 37), (0, .nameAndType 38 39), (0, u "name"), (0, u "()Ljava/lang/String;"), (0, .methodref 7 41), (0, .nameAndType 42 43), (0, u "equals"), (0, u "(Ljava/lang/Object;)Z"), (3, u "law"), (0, u "(IIII)Z")] 8

def k1m0 : Method := { name := "<init>", desc := "()V", sig := { parameters := [], returnType := none }, accessFlags := 2, code := none }
def k1c1 : Code := { maxStack := 1, maxLocals := 1, code := method_2_code, exceptionTable := #[], attributes := #[] }
def k1m1 : Method := { name := "expectedPresent", desc := "(I)Z", sig := { parameters := [.int], returnType := some .boolean }, accessFlags := 10, code := some k1c1 }
def k1c2 : Code := { maxStack := 4, maxLocals := 14, code := code, exceptionTable := #[], attributes := #[] }
def k1m2 : Method := { name := "law", desc := "(IIII)Z", sig := { parameters := [.int, .int, .int, .int], returnType := some .boolean }, accessFlags := 9, code := some k1c2 }
/-- com/example/floatroom/floatroom/ColumnIsPresentPinLaw -/
def k1 : Class := { plain "com/example/floatroom/floatroom/ColumnIsPresentPinLaw" (some 0) with
  accessFlags := 49
  interfaces := #[]
  cf := some (fileOf pool1 27 #[] #[{ accessFlags := 2, nameIndex := 5, descriptorIndex := 6, attributes := #[] }, { accessFlags := 10, nameIndex := 30, descriptorIndex := 31, attributes := #[] }, { accessFlags := 9, nameIndex := 47, descriptorIndex := 48, attributes := #[] }] 49 2 #[] #[])
  fields := #[]
  methods := #[k1m0, k1m1, k1m2]
  instanceTypes := #[]
  staticTypes := #[]
  resolved := Array.replicate 57 none
  statics := none }

def pool2 : Array CpInfo := pool [(1, .class_ 2), (0, u "java/io/Serializable"), (0, .class_ 4), (0, u "java/lang/Object")] 2

/-- java/io/Serializable -/
def k2 : Class := { plain "java/io/Serializable" (some 0) with
  accessFlags := 1537
  interfaces := #[]
  cf := some (fileOf pool2 1 #[] #[] 1537 3 #[] #[])
  fields := #[]
  methods := #[]
  instanceTypes := #[]
  staticTypes := #[]
  resolved := Array.replicate 7 none
  statics := none }

def pool3 : Array CpInfo := pool [(1, .class_ 2), (0, u "java/lang/Comparable"), (0, .class_ 4), (0, u "java/lang/Object")] 7

/-- java/lang/Comparable -/
def k3 : Class := { plain "java/lang/Comparable" (some 0) with
  accessFlags := 1537
  interfaces := #[]
  cf := some (fileOf pool3 1 #[] #[] 1537 3 #[] #[])
  fields := #[]
  methods := #[]
  instanceTypes := #[]
  staticTypes := #[]
  resolved := Array.replicate 12 none
  statics := none }

def pool4 : Array CpInfo := pool [(2, .class_ 4), (1, u "java/lang/CharSequence"), (42, .class_ 48), (0, u "java/lang/CharSequence$1CodePointIterator"), (10, .class_ 60), (0, u "java/lang/CharSequence$1CharIterator"), (5, .class_ 67), (0, u "java/lang/Object")] 63

/-- java/lang/CharSequence -/
def k4 : Class := { plain "java/lang/CharSequence" (some 0) with
  accessFlags := 1537
  interfaces := #[]
  cf := some (fileOf pool4 2 #[.nestMembers #[47, 59]] #[] 1537 66 #[] #[])
  fields := #[]
  methods := #[]
  instanceTypes := #[]
  staticTypes := #[]
  resolved := Array.replicate 131 none
  statics := none }

def pool5 : Array CpInfo := pool [(1, .class_ 2), (0, u "java/lang/constant/Constable"), (0, .class_ 4), (0, u "java/lang/Object")] 6

/-- java/lang/constant/Constable -/
def k5 : Class := { plain "java/lang/constant/Constable" (some 0) with
  accessFlags := 1537
  interfaces := #[]
  cf := some (fileOf pool5 1 #[] #[] 1537 3 #[] #[])
  fields := #[]
  methods := #[]
  instanceTypes := #[]
  staticTypes := #[]
  resolved := Array.replicate 11 none
  statics := none }

def pool6 : Array CpInfo := pool [(1, .class_ 2), (0, u "java/lang/constant/ConstantDesc"), (0, .class_ 4), (0, u "java/lang/Object")] 32

/-- java/lang/constant/ConstantDesc -/
def k6 : Class := { plain "java/lang/constant/ConstantDesc" (some 0) with
  accessFlags := 1537
  interfaces := #[]
  cf := some (fileOf pool6 1 #[] #[] 1537 3 #[] #[])
  fields := #[]
  methods := #[]
  instanceTypes := #[]
  staticTypes := #[]
  resolved := Array.replicate 37 none
  statics := none }

def pool7 : Array CpInfo := pool [(1, .methodref 2 3), (0, .class_ 4), (0, .nameAndType 5 6), (0, u "java/lang/Object"), (0, u "<init>"), (0, u "()V"), (2, .fieldref 10 11), (0, .class_ 12), (0, .nameAndType 13 14), (0, u "java/lang/String"), (0, u "value"), (0, u "[B"), (0, .fieldref 10 16), (0, .nameAndType 17 18), (0, u "coder"), (0, u "B"), (2, u "hash"), (0, u "I"), (2, u "hashIsZero"), (0, u "Z"), (0, .methodref 10 28), (0, .nameAndType 5 29), (0, u "([CIILjava/lang/Void;)V"), (8, .fieldref 10 39), (0, .nameAndType 40 26), (0, u "COMPACT_STRINGS"), (1, .class_ 44), (1, u "java/lang/StringUTF16"), (0, u "compress"), (1, .methodref 42 48), (0, .nameAndType 49 50), (0, u "coderFromArrayLen"), (0, u "([BI)B"), (2, u "toBytes"), (53, .class_ 109), (1, u "java/lang/StringLatin1"), (67, .methodref 42 178), (0, .nameAndType 45 179), (0, u "([CII)[B"), (29, .methodref 10 210), (0, .nameAndType 5 211), (0, u "([BB)V"), (157, u "(C)Z"), (173, u "equals"), (29, u "(Ljava/lang/Object;)Z"), (1, .class_ 576), (0, u "java/lang/CharSequence"), (22, u "CASE_INSENSITIVE_ORDER"), (0, u "Ljava/util/Comparator;"), (181, u "valueOf"), (0, u "(C)Ljava/lang/String;"), (226, u "([C)V"), (4, .methodref 107 1016), (0, .nameAndType 1017 369), (0, u "canEncode"), (0, .methodref 107 1019), (0, .nameAndType 53 1020), (0, u "(C)[B"), (80, u "serialPersistentFields"), (0, u "[Ljava/io/ObjectStreamField;"), (0, .class_ 1104), (0, u "java/lang/String$CaseInsensitiveComparator"), (1, .class_ 1107), (0, u "java/io/Serializable"), (0, .class_ 1109), (0, u "java/lang/Comparable"), (0, .class_ 1111), (0, u "java/lang/constant/Constable"), (0, .class_ 1113), (0, u "java/lang/constant/ConstantDesc"), (2, u "serialVersionUID"), (0, u "J"), (3, u "REPL"), (0, u "C"), (2, u "LATIN1"), (1, u "UTF16")] 323

def k7m0 : Method := { name := "<init>", desc := "()V", sig := { parameters := [], returnType := none }, accessFlags := 1, code := none }
def k7c1 : Code := { maxStack := 5, maxLocals := 2, code := jdk_42_method_3_code, exceptionTable := #[], attributes := #[] }
def k7m1 : Method := { name := "<init>", desc := "([C)V", sig := { parameters := [(.array .char)], returnType := none }, accessFlags := 1, code := some k7c1 }
def k7c2 : Code := { maxStack := 2, maxLocals := 3, code := jdk_42_method_66_code, exceptionTable := #[], attributes := #[] }
def k7m2 : Method := { name := "equals", desc := "(Ljava/lang/Object;)Z", sig := { parameters := [(.object "java/lang/Object")], returnType := some .boolean }, accessFlags := 1, code := some k7c2 }
def k7c3 : Code := { maxStack := 4, maxLocals := 1, code := jdk_42_method_139_code, exceptionTable := #[], attributes := #[] }
def k7m3 : Method := { name := "valueOf", desc := "(C)Ljava/lang/String;", sig := { parameters := [.char], returnType := some (.object "java/lang/String") }, accessFlags := 9, code := some k7c3 }
def k7c4 : Code := { maxStack := 4, maxLocals := 6, code := jdk_42_method_149_code, exceptionTable := #[], attributes := #[] }
def k7m4 : Method := { name := "<init>", desc := "([CIILjava/lang/Void;)V", sig := { parameters := [(.array .char), .int, .int, (.object "java/lang/Void")], returnType := none }, accessFlags := 2, code := some k7c4 }
def k7c5 : Code := { maxStack := 2, maxLocals := 3, code := jdk_42_method_151_code, exceptionTable := #[], attributes := #[] }
def k7m5 : Method := { name := "<init>", desc := "([BB)V", sig := { parameters := [(.array .byte), .byte], returnType := none }, accessFlags := 0, code := some k7c5 }
/-- java/lang/String -/
def k7 : Class := { plain "java/lang/String" (some 0) with
  accessFlags := 49
  interfaces := #[2, 3, 4, 5, 6]
  cf := some (fileOf pool7 10 #[.nestMembers #[1103]] #[{ accessFlags := 1, nameIndex := 5, descriptorIndex := 6, attributes := #[] }, { accessFlags := 1, nameIndex := 5, descriptorIndex := 1010, attributes := #[] }, { accessFlags := 1, nameIndex := 543, descriptorIndex := 573, attributes := #[] }, { accessFlags := 9, nameIndex := 782, descriptorIndex := 783, attributes := #[] }, { accessFlags := 2, nameIndex := 5, descriptorIndex := 29, attributes := #[] }, { accessFlags := 0, nameIndex := 5, descriptorIndex := 211, attributes := #[] }] 49 2 #[1106, 1108, 575, 1110, 1112] #[{ accessFlags := 18, nameIndex := 13, descriptorIndex := 14, attributes := #[] }, { accessFlags := 18, nameIndex := 17, descriptorIndex := 18, attributes := #[] }, { accessFlags := 2, nameIndex := 21, descriptorIndex := 22, attributes := #[] }, { accessFlags := 2, nameIndex := 25, descriptorIndex := 26, attributes := #[] }, { accessFlags := 26, nameIndex := 1116, descriptorIndex := 1117, attributes := #[] }, { accessFlags := 24, nameIndex := 40, descriptorIndex := 26, attributes := #[] }, { accessFlags := 26, nameIndex := 1101, descriptorIndex := 1102, attributes := #[] }, { accessFlags := 26, nameIndex := 1121, descriptorIndex := 1122, attributes := #[] }, { accessFlags := 25, nameIndex := 599, descriptorIndex := 600, attributes := #[] }, { accessFlags := 24, nameIndex := 1125, descriptorIndex := 18, attributes := #[] }, { accessFlags := 24, nameIndex := 1127, descriptorIndex := 18, attributes := #[] }])
  fields := #[{ name := "value", type := (.array .byte), accessFlags := 18, slot := 0, constantValue := 0 }, { name := "coder", type := .byte, accessFlags := 18, slot := 1, constantValue := 0 }, { name := "hash", type := .int, accessFlags := 2, slot := 2, constantValue := 0 }, { name := "hashIsZero", type := .boolean, accessFlags := 2, slot := 3, constantValue := 0 }, { name := "serialVersionUID", type := .long, accessFlags := 26, slot := 0, constantValue := 0 }, { name := "COMPACT_STRINGS", type := .boolean, accessFlags := 24, slot := 1, constantValue := 0 }, { name := "serialPersistentFields", type := (.array (.object "java/io/ObjectStreamField")), accessFlags := 26, slot := 2, constantValue := 0 }, { name := "REPL", type := .char, accessFlags := 26, slot := 3, constantValue := 0 }, { name := "CASE_INSENSITIVE_ORDER", type := (.object "java/util/Comparator"), accessFlags := 25, slot := 4, constantValue := 0 }, { name := "LATIN1", type := .byte, accessFlags := 24, slot := 5, constantValue := 0 }, { name := "UTF16", type := .byte, accessFlags := 24, slot := 6, constantValue := 0 }]
  methods := #[k7m0, k7m1, k7m2, k7m3, k7m4, k7m5]
  instanceTypes := #[(.array .byte), .byte, .int, .boolean]
  staticTypes := #[.long, .boolean, (.array (.object "java/io/ObjectStreamField")), .char, (.object "java/util/Comparator"), .byte, .byte]
  resolved := Array.replicate 1451 none
  statics := some 0 }

def pool8 : Array CpInfo := pool [(6, .class_ 8), (1, u "java/lang/Object"), (0, u "<init>"), (0, u "()V"), (1, .class_ 14), (1, u "java/lang/StringUTF16"), (31, u "$assertionsDisabled"), (0, u "Z"), (13, u "HI_BYTE_SHIFT"), (0, u "I"), (2, u "LO_BYTE_SHIFT"), (49, .methodref 12 116), (0, .nameAndType 117 118), (0, u "compress"), (0, u "([CI[BII)I"), (3, u "([CII)[B"), (138, u "coderFromArrayLen"), (0, u "([BI)B"), (106, .class_ 371), (1, u "java/lang/StringUTF16$LinesSpliterator"), (58, u "MAX_LENGTH"), (196, .class_ 628), (0, u "java/lang/StringUTF16$CodePointsSpliterator"), (0, .class_ 630), (0, u "java/lang/StringUTF16$CharsSpliterator")] 4

def k8m0 : Method := { name := "<init>", desc := "()V", sig := { parameters := [], returnType := none }, accessFlags := 0, code := none }
def k8c1 : Code := { maxStack := 2, maxLocals := 2, code := jdk_52_method_15_code, exceptionTable := #[], attributes := #[] }
def k8m1 : Method := { name := "coderFromArrayLen", desc := "([BI)B", sig := { parameters := [(.array .byte), .int], returnType := some .byte }, accessFlags := 8, code := some k8c1 }
def k8c2 : Code := { maxStack := 5, maxLocals := 6, code := jdk_52_method_16_code, exceptionTable := #[], attributes := #[] }
def k8m2 : Method := { name := "compress", desc := "([CII)[B", sig := { parameters := [(.array .char), .int, .int], returnType := some (.array .byte) }, accessFlags := 9, code := some k8c2 }
def k8c3 : Code := { maxStack := 3, maxLocals := 7, code := jdk_52_method_21_code, exceptionTable := #[], attributes := #[] }
def k8m3 : Method := { name := "compress", desc := "([CI[BII)I", sig := { parameters := [(.array .char), .int, (.array .byte), .int, .int], returnType := some .int }, accessFlags := 9, code := some k8c3 }
/-- java/lang/StringUTF16 -/
def k8 : Class := { plain "java/lang/StringUTF16" (some 0) with
  accessFlags := 48
  interfaces := #[]
  cf := some (fileOf pool8 12 #[.nestMembers #[627, 629, 369]] #[{ accessFlags := 0, nameIndex := 9, descriptorIndex := 10, attributes := #[] }, { accessFlags := 8, nameIndex := 261, descriptorIndex := 262, attributes := #[] }, { accessFlags := 9, nameIndex := 117, descriptorIndex := 122, attributes := #[] }, { accessFlags := 9, nameIndex := 117, descriptorIndex := 118, attributes := #[] }] 48 6 #[] #[{ accessFlags := 26, nameIndex := 61, descriptorIndex := 62, attributes := #[] }, { accessFlags := 26, nameIndex := 65, descriptorIndex := 62, attributes := #[] }, { accessFlags := 24, nameIndex := 430, descriptorIndex := 62, attributes := #[] }, { accessFlags := 4120, nameIndex := 46, descriptorIndex := 47, attributes := #[] }])
  fields := #[{ name := "HI_BYTE_SHIFT", type := .int, accessFlags := 26, slot := 0, constantValue := 0 }, { name := "LO_BYTE_SHIFT", type := .int, accessFlags := 26, slot := 1, constantValue := 0 }, { name := "MAX_LENGTH", type := .int, accessFlags := 24, slot := 2, constantValue := 0 }, { name := "$assertionsDisabled", type := .boolean, accessFlags := 4120, slot := 3, constantValue := 0 }]
  methods := #[k8m0, k8m1, k8m2, k8m3]
  instanceTypes := #[]
  staticTypes := #[.int, .int, .int, .boolean]
  resolved := Array.replicate 635 none
  statics := none }

def pool9 : Array CpInfo := pool [(1, .methodref 2 3), (0, .class_ 4), (0, .nameAndType 5 6), (0, u "java/lang/Object"), (0, u "<init>"), (0, u "()V"), (0, .class_ 8), (0, u "java/lang/Record")] 13

def k9c0 : Code := { maxStack := 1, maxLocals := 1, code := jdk_30_method_1_code, exceptionTable := #[], attributes := #[] }
def k9m0 : Method := { name := "<init>", desc := "()V", sig := { parameters := [], returnType := none }, accessFlags := 4, code := some k9c0 }
/-- java/lang/Record -/
def k9 : Class := { plain "java/lang/Record" (some 0) with
  accessFlags := 1057
  interfaces := #[]
  cf := some (fileOf pool9 7 #[] #[{ accessFlags := 4, nameIndex := 5, descriptorIndex := 6, attributes := #[] }] 1057 2 #[] #[])
  fields := #[]
  methods := #[k9m0]
  instanceTypes := #[]
  staticTypes := #[]
  resolved := Array.replicate 22 none
  statics := none }

def pool10 : Array CpInfo := pool [(1, .methodref 2 3), (0, .class_ 4), (0, .nameAndType 5 6), (0, u "java/lang/Record"), (0, u "<init>"), (0, u "()V"), (0, .fieldref 8 9), (0, .class_ 10), (0, .nameAndType 11 12), (0, u "com/example/floatroom/floatroom/CsvReader$Column"), (0, u "name"), (0, u "Ljava/lang/String;"), (0, .fieldref 8 14), (0, .nameAndType 15 16), (0, u "index"), (0, u "I"), (12, u "(Ljava/lang/String;I)V"), (3, u "isPresent"), (0, u "()Z"), (1, u "()Ljava/lang/String;"), (0, u "()I"), (4, .class_ 43), (0, u "com/example/floatroom/floatroom/CsvReader")] 20

def k10c0 : Code := { maxStack := 2, maxLocals := 3, code := prog_13_method_1_code, exceptionTable := #[], attributes := #[] }
def k10m0 : Method := { name := "<init>", desc := "(Ljava/lang/String;I)V", sig := { parameters := [(.object "java/lang/String"), .int], returnType := none }, accessFlags := 0, code := some k10c0 }
def k10c1 : Code := { maxStack := 1, maxLocals := 1, code := prog_13_method_2_code, exceptionTable := #[], attributes := #[] }
def k10m1 : Method := { name := "isPresent", desc := "()Z", sig := { parameters := [], returnType := some .boolean }, accessFlags := 0, code := some k10c1 }
def k10c2 : Code := { maxStack := 1, maxLocals := 1, code := prog_13_method_6_code, exceptionTable := #[], attributes := #[] }
def k10m2 : Method := { name := "name", desc := "()Ljava/lang/String;", sig := { parameters := [], returnType := some (.object "java/lang/String") }, accessFlags := 1, code := some k10c2 }
def k10c3 : Code := { maxStack := 1, maxLocals := 1, code := prog_13_method_7_code, exceptionTable := #[], attributes := #[] }
def k10m3 : Method := { name := "index", desc := "()I", sig := { parameters := [], returnType := some .int }, accessFlags := 1, code := some k10c3 }
/-- com/example/floatroom/floatroom/CsvReader$Column -/
def k10 : Class := { plain "com/example/floatroom/floatroom/CsvReader$Column" (some 9) with
  accessFlags := 48
  interfaces := #[]
  cf := some (fileOf pool10 8 #[.nestHost 42] #[{ accessFlags := 0, nameIndex := 5, descriptorIndex := 29, attributes := #[] }, { accessFlags := 0, nameIndex := 33, descriptorIndex := 34, attributes := #[] }, { accessFlags := 1, nameIndex := 11, descriptorIndex := 36, attributes := #[] }, { accessFlags := 1, nameIndex := 15, descriptorIndex := 37, attributes := #[] }] 48 2 #[] #[{ accessFlags := 18, nameIndex := 11, descriptorIndex := 12, attributes := #[] }, { accessFlags := 18, nameIndex := 15, descriptorIndex := 16, attributes := #[] }])
  fields := #[{ name := "name", type := (.object "java/lang/String"), accessFlags := 18, slot := 0, constantValue := 0 }, { name := "index", type := .int, accessFlags := 18, slot := 1, constantValue := 0 }]
  methods := #[k10m0, k10m1, k10m2, k10m3]
  instanceTypes := #[(.object "java/lang/String"), .int]
  staticTypes := #[]
  resolved := Array.replicate 64 none
  statics := none }

def pool11 : Array CpInfo := pool [(4, .class_ 6), (1, u "java/lang/Object"), (0, u "<init>"), (0, u "()V"), (5, .class_ 16), (1, u "java/lang/StringLatin1"), (73, u "canEncode"), (14, u "(C)Z"), (15, u "$assertionsDisabled"), (0, u "Z"), (98, .class_ 223), (1, u "java/lang/StringLatin1$LinesSpliterator"), (156, u "toBytes"), (1, u "(C)[B"), (7, .class_ 391), (0, u "java/lang/StringLatin1$CharsSpliterator")] 3

def k11m0 : Method := { name := "<init>", desc := "()V", sig := { parameters := [], returnType := none }, accessFlags := 0, code := none }
def k11c1 : Code := { maxStack := 2, maxLocals := 1, code := jdk_43_method_3_code, exceptionTable := #[], attributes := #[] }
def k11m1 : Method := { name := "canEncode", desc := "(C)Z", sig := { parameters := [.char], returnType := some .boolean }, accessFlags := 9, code := some k11c1 }
def k11c2 : Code := { maxStack := 4, maxLocals := 1, code := jdk_43_method_46_code, exceptionTable := #[], attributes := #[] }
def k11m2 : Method := { name := "toBytes", desc := "(C)[B", sig := { parameters := [.char], returnType := some (.array .byte) }, accessFlags := 9, code := some k11c2 }
/-- java/lang/StringLatin1 -/
def k11 : Class := { plain "java/lang/StringLatin1" (some 0) with
  accessFlags := 48
  interfaces := #[]
  cf := some (fileOf pool11 14 #[.nestMembers #[390, 221]] #[{ accessFlags := 0, nameIndex := 7, descriptorIndex := 8, attributes := #[] }, { accessFlags := 9, nameIndex := 90, descriptorIndex := 105, attributes := #[] }, { accessFlags := 9, nameIndex := 380, descriptorIndex := 382, attributes := #[] }] 48 4 #[] #[{ accessFlags := 4120, nameIndex := 121, descriptorIndex := 122, attributes := #[] }])
  fields := #[{ name := "$assertionsDisabled", type := .boolean, accessFlags := 4120, slot := 0, constantValue := 0 }]
  methods := #[k11m0, k11m1, k11m2]
  instanceTypes := #[]
  staticTypes := #[.boolean]
  resolved := Array.replicate 395 none
  statics := none }

def pool12 : Array CpInfo := pool [(2, .class_ 4), (1, u "java/lang/Object"), (0, u "<init>"), (0, u "()V"), (17, .class_ 26), (1, u "jdk/internal/util/Preconditions"), (28, .class_ 56), (0, u "jdk/internal/util/Preconditions$4"), (57, .class_ 115), (0, u "jdk/internal/util/Preconditions$1"), (7, u "SIOOBE_FORMATTER"), (0, u "Ljava/util/function/BiFunction;"), (0, .class_ 126), (0, u "jdk/internal/util/Preconditions$2"), (3, u "AIOOBE_FORMATTER"), (0, .class_ 132), (0, u "jdk/internal/util/Preconditions$3"), (3, u "IOOBE_FORMATTER")] 57

def k12m0 : Method := { name := "<init>", desc := "()V", sig := { parameters := [], returnType := none }, accessFlags := 1, code := none }
/-- jdk/internal/util/Preconditions -/
def k12 : Class := { plain "jdk/internal/util/Preconditions" (some 0) with
  accessFlags := 33
  interfaces := #[]
  cf := some (fileOf pool12 24 #[.nestMembers #[55, 131, 125, 114]] #[{ accessFlags := 1, nameIndex := 5, descriptorIndex := 6, attributes := #[] }] 33 2 #[] #[{ accessFlags := 25, nameIndex := 123, descriptorIndex := 124, attributes := #[] }, { accessFlags := 25, nameIndex := 130, descriptorIndex := 124, attributes := #[] }, { accessFlags := 25, nameIndex := 136, descriptorIndex := 124, attributes := #[] }])
  fields := #[{ name := "SIOOBE_FORMATTER", type := (.object "java/util/function/BiFunction"), accessFlags := 25, slot := 0, constantValue := 0 }, { name := "AIOOBE_FORMATTER", type := (.object "java/util/function/BiFunction"), accessFlags := 25, slot := 1, constantValue := 0 }, { name := "IOOBE_FORMATTER", type := (.object "java/util/function/BiFunction"), accessFlags := 25, slot := 2, constantValue := 0 }]
  methods := #[k12m0]
  instanceTypes := #[]
  staticTypes := #[(.object "java/util/function/BiFunction"), (.object "java/util/function/BiFunction"), (.object "java/util/function/BiFunction")]
  resolved := Array.replicate 194 none
  statics := some 1 }

def pool13 : Array CpInfo := pool [(9, u "<init>"), (6, .class_ 18), (1, u "java/lang/Object"), (0, u "()V"), (1, .class_ 23), (1, u "jdk/internal/util/ArraysSupport"), (0, u "LOG2_ARRAY_LONG_INDEX_SCALE"), (0, u "I"), (2, u "U"), (0, u "Ljdk/internal/misc/Unsafe;"), (8, u "BIG_ENDIAN"), (0, u "Z"), (8, u "LOG2_BYTE_BIT_SIZE"), (4, u "LOG2_ARRAY_INT_INDEX_SCALE"), (54, u "JLA"), (0, u "Ljdk/internal/access/JavaLangAccess;"), (11, u "LOG2_ARRAY_BOOLEAN_INDEX_SCALE"), (9, u "LOG2_ARRAY_BYTE_INDEX_SCALE"), (5, u "LOG2_ARRAY_CHAR_INDEX_SCALE"), (5, u "LOG2_ARRAY_SHORT_INDEX_SCALE"), (18, u "LOG2_ARRAY_FLOAT_INDEX_SCALE"), (24, u "LOG2_ARRAY_DOUBLE_INDEX_SCALE"), (89, u "T_BOOLEAN"), (2, u "T_CHAR"), (1, u "T_FLOAT"), (1, u "T_DOUBLE"), (1, u "T_BYTE"), (1, u "T_SHORT"), (1, u "T_INT"), (1, u "T_LONG"), (1, u "SOFT_MAX_ARRAY_LENGTH")] 83

def k13m0 : Method := { name := "<init>", desc := "()V", sig := { parameters := [], returnType := none }, accessFlags := 2, code := none }
/-- jdk/internal/util/ArraysSupport -/
def k13 : Class := { plain "jdk/internal/util/ArraysSupport" (some 0) with
  accessFlags := 33
  interfaces := #[]
  cf := some (fileOf pool13 21 #[] #[{ accessFlags := 2, nameIndex := 9, descriptorIndex := 19, attributes := #[] }] 33 16 #[] #[{ accessFlags := 24, nameIndex := 28, descriptorIndex := 29, attributes := #[] }, { accessFlags := 26, nameIndex := 38, descriptorIndex := 39, attributes := #[] }, { accessFlags := 25, nameIndex := 121, descriptorIndex := 25, attributes := #[] }, { accessFlags := 25, nameIndex := 131, descriptorIndex := 25, attributes := #[] }, { accessFlags := 25, nameIndex := 137, descriptorIndex := 25, attributes := #[] }, { accessFlags := 25, nameIndex := 143, descriptorIndex := 25, attributes := #[] }, { accessFlags := 25, nameIndex := 53, descriptorIndex := 25, attributes := #[] }, { accessFlags := 25, nameIndex := 24, descriptorIndex := 25, attributes := #[] }, { accessFlags := 25, nameIndex := 162, descriptorIndex := 25, attributes := #[] }, { accessFlags := 25, nameIndex := 187, descriptorIndex := 25, attributes := #[] }, { accessFlags := 26, nameIndex := 48, descriptorIndex := 25, attributes := #[] }, { accessFlags := 25, nameIndex := 277, descriptorIndex := 25, attributes := #[] }, { accessFlags := 25, nameIndex := 280, descriptorIndex := 25, attributes := #[] }, { accessFlags := 25, nameIndex := 282, descriptorIndex := 25, attributes := #[] }, { accessFlags := 25, nameIndex := 284, descriptorIndex := 25, attributes := #[] }, { accessFlags := 25, nameIndex := 286, descriptorIndex := 25, attributes := #[] }, { accessFlags := 25, nameIndex := 288, descriptorIndex := 25, attributes := #[] }, { accessFlags := 25, nameIndex := 290, descriptorIndex := 25, attributes := #[] }, { accessFlags := 25, nameIndex := 292, descriptorIndex := 25, attributes := #[] }, { accessFlags := 26, nameIndex := 108, descriptorIndex := 109, attributes := #[] }, { accessFlags := 25, nameIndex := 294, descriptorIndex := 25, attributes := #[] }])
  fields := #[{ name := "U", type := (.object "jdk/internal/misc/Unsafe"), accessFlags := 24, slot := 0, constantValue := 0 }, { name := "BIG_ENDIAN", type := .boolean, accessFlags := 26, slot := 1, constantValue := 0 }, { name := "LOG2_ARRAY_BOOLEAN_INDEX_SCALE", type := .int, accessFlags := 25, slot := 2, constantValue := 0 }, { name := "LOG2_ARRAY_BYTE_INDEX_SCALE", type := .int, accessFlags := 25, slot := 3, constantValue := 0 }, { name := "LOG2_ARRAY_CHAR_INDEX_SCALE", type := .int, accessFlags := 25, slot := 4, constantValue := 0 }, { name := "LOG2_ARRAY_SHORT_INDEX_SCALE", type := .int, accessFlags := 25, slot := 5, constantValue := 0 }, { name := "LOG2_ARRAY_INT_INDEX_SCALE", type := .int, accessFlags := 25, slot := 6, constantValue := 0 }, { name := "LOG2_ARRAY_LONG_INDEX_SCALE", type := .int, accessFlags := 25, slot := 7, constantValue := 0 }, { name := "LOG2_ARRAY_FLOAT_INDEX_SCALE", type := .int, accessFlags := 25, slot := 8, constantValue := 0 }, { name := "LOG2_ARRAY_DOUBLE_INDEX_SCALE", type := .int, accessFlags := 25, slot := 9, constantValue := 0 }, { name := "LOG2_BYTE_BIT_SIZE", type := .int, accessFlags := 26, slot := 10, constantValue := 0 }, { name := "T_BOOLEAN", type := .int, accessFlags := 25, slot := 11, constantValue := 0 }, { name := "T_CHAR", type := .int, accessFlags := 25, slot := 12, constantValue := 0 }, { name := "T_FLOAT", type := .int, accessFlags := 25, slot := 13, constantValue := 0 }, { name := "T_DOUBLE", type := .int, accessFlags := 25, slot := 14, constantValue := 0 }, { name := "T_BYTE", type := .int, accessFlags := 25, slot := 15, constantValue := 0 }, { name := "T_SHORT", type := .int, accessFlags := 25, slot := 16, constantValue := 0 }, { name := "T_INT", type := .int, accessFlags := 25, slot := 17, constantValue := 0 }, { name := "T_LONG", type := .int, accessFlags := 25, slot := 18, constantValue := 0 }, { name := "JLA", type := (.object "jdk/internal/access/JavaLangAccess"), accessFlags := 26, slot := 19, constantValue := 0 }, { name := "SOFT_MAX_ARRAY_LENGTH", type := .int, accessFlags := 25, slot := 20, constantValue := 0 }]
  methods := #[k13m0]
  instanceTypes := #[]
  staticTypes := #[(.object "jdk/internal/misc/Unsafe"), .boolean, .int, .int, .int, .int, .int, .int, .int, .int, .int, .int, .int, .int, .int, .int, .int, .int, .int, (.object "jdk/internal/access/JavaLangAccess"), .int]
  resolved := Array.replicate 378 none
  statics := none }

def pool14 : Array CpInfo := pool [(1, u "java/lang/Cloneable"), (0, .class_ 1), (0, u "java/lang/Object"), (0, .class_ 3)] 3

/-- java/lang/Cloneable -/
def k14 : Class := { plain "java/lang/Cloneable" (some 0) with
  accessFlags := 1537
  interfaces := #[]
  cf := some (fileOf pool14 2 #[] #[] 1537 4 #[] #[])
  fields := #[]
  methods := #[]
  instanceTypes := #[]
  staticTypes := #[]
  resolved := Array.replicate 8 none
  statics := none }

/-- the primitive byte -/
def k15 : Class := { plain "byte" none with kind := .primitive 'B', accessFlags := 0x411 }
/-- [B -/
def k16 : Class := { plain "[B" (some 0) with kind := .array 15 .byte, interfaces := #[14, 2], accessFlags := 1041 }

/-- the primitive char -/
def k17 : Class := { plain "char" none with kind := .primitive 'C', accessFlags := 0x411 }
/-- [C -/
def k18 : Class := { plain "[C" (some 0) with kind := .array 17 .char, interfaces := #[14, 2], accessFlags := 1041 }

/-- the primitive int -/
def k19 : Class := { plain "int" none with kind := .primitive 'I', accessFlags := 0x411 }
/-- [I -/
def k20 : Class := { plain "[I" (some 0) with kind := .array 19 .int, interfaces := #[14, 2], accessFlags := 1041 }

def heap : Heap := #[{ cls := 7, slots := #[.long 0, .int 1, .null, .int 0, .null, .int 0, .int 0], vm := .statics 7 },
  { cls := 12, slots := #[.null, .null, .null], vm := .statics 12 }]
def classes : Array Class := #[k0, k1, k2, k3, k4, k5, k6, k7, k8, k9, k10, k11, k12, k13, k14, k15, k16, k17, k18, k19, k20]
def interned : List (Array UInt16 × Addr) := []
def slotsUsed : Nat := 10
def theMethod : MethodId := ⟨1, 2⟩
def args0 : Array Value := #[.int 5, .int 6, .int 7, .int 8]
def aboutOver (below : List Frame) : State where
  vm := { classes := classes, interned := interned.toArray }
  heap := heap
  slotsUsed := slotsUsed
  threads := #[{ frames := .invoking theMethod args0 :: below }]
def below0 : List Frame := [.native { method := ⟨0, 0⟩, args := #[] }]
def about1 : State := aboutOver below0
def p0 : Program := .bare "" "" ""
def e0 : Env := launch0.env 0 0 0
theorem w_frames : about1.frames = Frame.invoking theMethod args0 :: below0 := rfl
set_option maxRecDepth 65536 in
theorem w_args : argsFit about1.vm theMethod args0 = true := by decide +kernel
set_option maxRecDepth 65536 in
theorem w_heap : heapFits about1 = true := by decide +kernel
set_option maxRecDepth 65536 in
theorem w_runnable : about1.curStatus? = some .runnable := by decide +kernel
set_option maxRecDepth 65536 in
theorem w_alone : about1.alone = true := by decide +kernel
set_option maxRecDepth 65536 in
theorem w_named : about1.methodNamed? x = some theMethod := by decide +kernel
set_option maxRecDepth 65536 in
theorem w_hears : about1.hears theMethod below0 = true := by decide +kernel
set_option maxRecDepth 65536 in
theorem w_ripe : about1.ripe theMethod args0 below0 = true := by decide +kernel
theorem w_running : about1.status = .running := rfl
set_option maxRecDepth 65536 in
theorem w_room : about1.hasRoom e0.platform room_1 = true :=
  launch0.hasRoom_least _ room_1 (by decide +kernel) (by decide +kernel) (by decide +kernel) (by decide +kernel) (by decide +kernel) (by decide +kernel)
theorem allAtoms_all (ts : List Jvm.Cond) (a : Array Jvm.Value) (st : Jvm.State) : (allAtoms ts).before a st = ts.all (fun c => c.before a st) := by
  induction ts with
  | nil => rfl
  | cons c t ih =>
    show (Jvm.Cond.and c (allAtoms t)).before a st = _
    rw [Jvm.Cond.before_and, ih, List.all_cons]
def words1 : List Jvm.Cond := Jvm.Cond.code x code maxLocals ret :: tables_1
/-- a 'code' word, met by the world's own term for the bytes: nothing is compared byte by byte -/
theorem code_word {y : MethodName} {bytes : ByteArray} {mx : Nat} {rt : Option FieldType} {a : Array Value} {s : State} {m : MethodId} {meth : Method} {c : Code} (h1 : s.methodNamed? y = some m) (h2 : s.vm.method? m = some meth) (h3 : meth.code = some c) (h4 : c.code = bytes)
    (h5 : (c.maxLocals == mx && c.exceptionTable.isEmpty && decide (c.maxStack ≤ mostOperands) && decide (meth.sig.returnType = rt) && !meth.locks && decide (parseMethodDescriptor y.desc = some meth.sig)) = true) : (Jvm.Cond.code y bytes mx rt).before a s = true := by
  simp only [Bool.and_eq_true, beq_iff_eq, Bool.not_eq_true', decide_eq_true_eq] at h5
  obtain ⟨⟨⟨⟨⟨g1, g2⟩, g3⟩, g4⟩, g5⟩, g6⟩ := h5
  simp [Cond.before, Cond.holds, Cond.value, h1, h2, h3, h4, g1, g2, g3, g4, g5, g6]
def isCode : Jvm.Cond → Bool
  | .code _ _ _ _ => true
  | _ => false
theorem all_split {L : List Jvm.Cond} {P : Jvm.Cond → Bool} (h1 : L.all (fun c => isCode c || P c) = true) (h2 : ∀ c ∈ L.filter isCode, P c = true) : L.all P = true := by
  refine List.all_eq_true.mpr fun c hc => ?_
  have h := List.all_eq_true.mp h1 c hc
  rcases Bool.eq_false_or_eq_true (isCode c) with hi | hi
  · exact h2 c (List.mem_filter.mpr ⟨hc, hi⟩)
  · simpa [hi] using h
set_option maxRecDepth 65536 in
theorem w_c0 : (Jvm.Cond.code x code maxLocals ret).before args0 about1 = true := code_word (m := ⟨1, 2⟩) (meth := k1m2) (c := k1c2) (by decide +kernel) rfl rfl rfl (by decide +kernel)
set_option maxRecDepth 65536 in
theorem w_c1 : (Jvm.Cond.code ({ cls := "java/lang/String", name := "<init>", desc := "([C)V" } : Jvm.MethodName) jdk_42_method_3_code (2 : Nat) (Option.none : Option Jvm.ClassFile.FieldType)).before args0 about1 = true := code_word (m := ⟨7, 1⟩) (meth := k7m1) (c := k7c1) (by decide +kernel) rfl rfl rfl (by decide +kernel)
set_option maxRecDepth 65536 in
theorem w_c2 : (Jvm.Cond.code ({ cls := "java/lang/String", name := "<init>", desc := "([CIILjava/lang/Void;)V" } : Jvm.MethodName) jdk_42_method_149_code (6 : Nat) (Option.none : Option Jvm.ClassFile.FieldType)).before args0 about1 = true := code_word (m := ⟨7, 4⟩) (meth := k7m4) (c := k7c4) (by decide +kernel) rfl rfl rfl (by decide +kernel)
set_option maxRecDepth 65536 in
theorem w_c3 : (Jvm.Cond.code ({ cls := "java/lang/Object", name := "<init>", desc := "()V" } : Jvm.MethodName) object_method_1_code (1 : Nat) (Option.none : Option Jvm.ClassFile.FieldType)).before args0 about1 = true := code_word (m := ⟨0, 0⟩) (meth := k0m0) (c := k0c0) (by decide +kernel) rfl rfl rfl (by decide +kernel)
set_option maxRecDepth 65536 in
theorem w_c4 : (Jvm.Cond.code ({ cls := "java/lang/StringUTF16", name := "compress", desc := "([CII)[B" } : Jvm.MethodName) jdk_52_method_16_code (6 : Nat) (Option.some (Jvm.ClassFile.FieldType.array Jvm.ClassFile.FieldType.byte))).before args0 about1 = true := code_word (m := ⟨8, 2⟩) (meth := k8m2) (c := k8c2) (by decide +kernel) rfl rfl rfl (by decide +kernel)
set_option maxRecDepth 65536 in
theorem w_c5 : (Jvm.Cond.code ({ cls := "java/lang/StringUTF16", name := "compress", desc := "([CI[BII)I" } : Jvm.MethodName) jdk_52_method_21_code (7 : Nat) (Option.some Jvm.ClassFile.FieldType.int)).before args0 about1 = true := code_word (m := ⟨8, 3⟩) (meth := k8m3) (c := k8c3) (by decide +kernel) rfl rfl rfl (by decide +kernel)
set_option maxRecDepth 65536 in
theorem w_c6 : (Jvm.Cond.code ({ cls := "java/lang/StringUTF16", name := "coderFromArrayLen", desc := "([BI)B" } : Jvm.MethodName) jdk_52_method_15_code (2 : Nat) (Option.some Jvm.ClassFile.FieldType.byte)).before args0 about1 = true := code_word (m := ⟨8, 1⟩) (meth := k8m1) (c := k8c1) (by decide +kernel) rfl rfl rfl (by decide +kernel)
set_option maxRecDepth 65536 in
theorem w_c7 : (Jvm.Cond.code ({ cls := "com/example/floatroom/floatroom/CsvReader$Column", name := "<init>", desc := "(Ljava/lang/String;I)V" } : Jvm.MethodName) prog_13_method_1_code (3 : Nat) (Option.none : Option Jvm.ClassFile.FieldType)).before args0 about1 = true := code_word (m := ⟨10, 0⟩) (meth := k10m0) (c := k10c0) (by decide +kernel) rfl rfl rfl (by decide +kernel)
set_option maxRecDepth 65536 in
theorem w_c8 : (Jvm.Cond.code ({ cls := "java/lang/Record", name := "<init>", desc := "()V" } : Jvm.MethodName) jdk_30_method_1_code (1 : Nat) (Option.none : Option Jvm.ClassFile.FieldType)).before args0 about1 = true := code_word (m := ⟨9, 0⟩) (meth := k9m0) (c := k9c0) (by decide +kernel) rfl rfl rfl (by decide +kernel)
set_option maxRecDepth 65536 in
theorem w_c9 : (Jvm.Cond.code ({ cls := "com/example/floatroom/floatroom/CsvReader$Column", name := "isPresent", desc := "()Z" } : Jvm.MethodName) prog_13_method_2_code (1 : Nat) (Option.some Jvm.ClassFile.FieldType.boolean)).before args0 about1 = true := code_word (m := ⟨10, 1⟩) (meth := k10m1) (c := k10c1) (by decide +kernel) rfl rfl rfl (by decide +kernel)
set_option maxRecDepth 65536 in
theorem w_c10 : (Jvm.Cond.code ({ cls := "com/example/floatroom/floatroom/ColumnIsPresentPinLaw", name := "expectedPresent", desc := "(I)Z" } : Jvm.MethodName) method_2_code (1 : Nat) (Option.some Jvm.ClassFile.FieldType.boolean)).before args0 about1 = true := code_word (m := ⟨1, 1⟩) (meth := k1m1) (c := k1c1) (by decide +kernel) rfl rfl rfl (by decide +kernel)
set_option maxRecDepth 65536 in
theorem w_c11 : (Jvm.Cond.code ({ cls := "com/example/floatroom/floatroom/CsvReader$Column", name := "index", desc := "()I" } : Jvm.MethodName) prog_13_method_7_code (1 : Nat) (Option.some Jvm.ClassFile.FieldType.int)).before args0 about1 = true := code_word (m := ⟨10, 3⟩) (meth := k10m3) (c := k10c3) (by decide +kernel) rfl rfl rfl (by decide +kernel)
set_option maxRecDepth 65536 in
theorem w_c12 : (Jvm.Cond.code ({ cls := "com/example/floatroom/floatroom/CsvReader$Column", name := "name", desc := "()Ljava/lang/String;" } : Jvm.MethodName) prog_13_method_6_code (1 : Nat) (Option.some (Jvm.ClassFile.FieldType.object "java/lang/String"))).before args0 about1 = true := code_word (m := ⟨10, 2⟩) (meth := k10m2) (c := k10c2) (by decide +kernel) rfl rfl rfl (by decide +kernel)
set_option maxRecDepth 65536 in
theorem w_c13 : (Jvm.Cond.code ({ cls := "java/lang/String", name := "equals", desc := "(Ljava/lang/Object;)Z" } : Jvm.MethodName) jdk_42_method_66_code (3 : Nat) (Option.some Jvm.ClassFile.FieldType.boolean)).before args0 about1 = true := code_word (m := ⟨7, 2⟩) (meth := k7m2) (c := k7c2) (by decide +kernel) rfl rfl rfl (by decide +kernel)
set_option maxRecDepth 65536 in
theorem w_c14 : (Jvm.Cond.code ({ cls := "java/lang/String", name := "valueOf", desc := "(C)Ljava/lang/String;" } : Jvm.MethodName) jdk_42_method_139_code (1 : Nat) (Option.some (Jvm.ClassFile.FieldType.object "java/lang/String"))).before args0 about1 = true := code_word (m := ⟨7, 3⟩) (meth := k7m3) (c := k7c3) (by decide +kernel) rfl rfl rfl (by decide +kernel)
set_option maxRecDepth 65536 in
theorem w_c15 : (Jvm.Cond.code ({ cls := "java/lang/StringLatin1", name := "canEncode", desc := "(C)Z" } : Jvm.MethodName) jdk_43_method_3_code (1 : Nat) (Option.some Jvm.ClassFile.FieldType.boolean)).before args0 about1 = true := code_word (m := ⟨11, 1⟩) (meth := k11m1) (c := k11c1) (by decide +kernel) rfl rfl rfl (by decide +kernel)
set_option maxRecDepth 65536 in
theorem w_c16 : (Jvm.Cond.code ({ cls := "java/lang/StringLatin1", name := "toBytes", desc := "(C)[B" } : Jvm.MethodName) jdk_43_method_46_code (1 : Nat) (Option.some (Jvm.ClassFile.FieldType.array Jvm.ClassFile.FieldType.byte))).before args0 about1 = true := code_word (m := ⟨11, 2⟩) (meth := k11m2) (c := k11c2) (by decide +kernel) rfl rfl rfl (by decide +kernel)
set_option maxRecDepth 65536 in
theorem w_c17 : (Jvm.Cond.code ({ cls := "java/lang/String", name := "<init>", desc := "([BB)V" } : Jvm.MethodName) jdk_42_method_151_code (3 : Nat) (Option.none : Option Jvm.ClassFile.FieldType)).before args0 about1 = true := code_word (m := ⟨7, 5⟩) (meth := k7m5) (c := k7c5) (by decide +kernel) rfl rfl rfl (by decide +kernel)
def codes1 : List Jvm.Cond := [Jvm.Cond.code x code maxLocals ret, Jvm.Cond.code ({ cls := "java/lang/String", name := "<init>", desc := "([C)V" } : Jvm.MethodName) jdk_42_method_3_code (2 : Nat) (Option.none : Option Jvm.ClassFile.FieldType), Jvm.Cond.code ({ cls := "java/lang/String", name := "<init>", desc := "([CIILjava/lang/Void;)V" } : Jvm.MethodName) jdk_42_method_149_code (6 : Nat) (Option.none : Option Jvm.ClassFile.FieldType), Jvm.Cond.code ({ cls := "java/lang/Object", name := "<init>", desc := "()V" } : Jvm.MethodName) object_method_1_code (1 : Nat) (Option.none : Option Jvm.ClassFile.FieldType), Jvm.Cond.code ({ cls := "java/lang/StringUTF16", name := "compress", desc := "([CII)[B" } : Jvm.MethodName) jdk_52_method_16_code (6 : Nat) (Option.some (Jvm.ClassFile.FieldType.array Jvm.ClassFile.FieldType.byte)), Jvm.Cond.code ({ cls := "java/lang/StringUTF16", name := "compress", desc := "([CI[BII)I" } : Jvm.MethodName) jdk_52_method_21_code (7 : Nat) (Option.some Jvm.ClassFile.FieldType.int), Jvm.Cond.code ({ cls := "java/lang/StringUTF16", name := "coderFromArrayLen", desc := "([BI)B" } : Jvm.MethodName) jdk_52_method_15_code (2 : Nat) (Option.some Jvm.ClassFile.FieldType.byte), Jvm.Cond.code ({ cls := "com/example/floatroom/floatroom/CsvReader$Column", name := "<init>", desc := "(Ljava/lang/String;I)V" } : Jvm.MethodName) prog_13_method_1_code (3 : Nat) (Option.none : Option Jvm.ClassFile.FieldType), Jvm.Cond.code ({ cls := "java/lang/Record", name := "<init>", desc := "()V" } : Jvm.MethodName) jdk_30_method_1_code (1 : Nat) (Option.none : Option Jvm.ClassFile.FieldType), Jvm.Cond.code ({ cls := "com/example/floatroom/floatroom/CsvReader$Column", name := "isPresent", desc := "()Z" } : Jvm.MethodName) prog_13_method_2_code (1 : Nat) (Option.some Jvm.ClassFile.FieldType.boolean), Jvm.Cond.code ({ cls := "com/example/floatroom/floatroom/ColumnIsPresentPinLaw", name := "expectedPresent", desc := "(I)Z" } : Jvm.MethodName) method_2_code (1 : Nat) (Option.some Jvm.ClassFile.FieldType.boolean), Jvm.Cond.code ({ cls := "com/example/floatroom/floatroom/CsvReader$Column", name := "index", desc := "()I" } : Jvm.MethodName) prog_13_method_7_code (1 : Nat) (Option.some Jvm.ClassFile.FieldType.int), Jvm.Cond.code ({ cls := "com/example/floatroom/floatroom/CsvReader$Column", name := "name", desc := "()Ljava/lang/String;" } : Jvm.MethodName) prog_13_method_6_code (1 : Nat) (Option.some (Jvm.ClassFile.FieldType.object "java/lang/String")), Jvm.Cond.code ({ cls := "java/lang/String", name := "equals", desc := "(Ljava/lang/Object;)Z" } : Jvm.MethodName) jdk_42_method_66_code (3 : Nat) (Option.some Jvm.ClassFile.FieldType.boolean), Jvm.Cond.code ({ cls := "java/lang/String", name := "valueOf", desc := "(C)Ljava/lang/String;" } : Jvm.MethodName) jdk_42_method_139_code (1 : Nat) (Option.some (Jvm.ClassFile.FieldType.object "java/lang/String")), Jvm.Cond.code ({ cls := "java/lang/StringLatin1", name := "canEncode", desc := "(C)Z" } : Jvm.MethodName) jdk_43_method_3_code (1 : Nat) (Option.some Jvm.ClassFile.FieldType.boolean), Jvm.Cond.code ({ cls := "java/lang/StringLatin1", name := "toBytes", desc := "(C)[B" } : Jvm.MethodName) jdk_43_method_46_code (1 : Nat) (Option.some (Jvm.ClassFile.FieldType.array Jvm.ClassFile.FieldType.byte)), Jvm.Cond.code ({ cls := "java/lang/String", name := "<init>", desc := "([BB)V" } : Jvm.MethodName) jdk_42_method_151_code (3 : Nat) (Option.none : Option Jvm.ClassFile.FieldType)]
set_option maxRecDepth 65536 in
theorem codes_eq : words1.filter isCode = codes1 := rfl
theorem w_codes : ∀ c ∈ words1.filter isCode, c.before args0 about1 = true := by
  rw [codes_eq]
  intro c hc
  simp only [codes1, List.mem_cons, List.not_mem_nil, or_false] at hc
  rcases hc with rfl | rfl | rfl | rfl | rfl | rfl | rfl | rfl | rfl | rfl | rfl | rfl | rfl | rfl | rfl | rfl | rfl | rfl
  · exact w_c0
  · exact w_c1
  · exact w_c2
  · exact w_c3
  · exact w_c4
  · exact w_c5
  · exact w_c6
  · exact w_c7
  · exact w_c8
  · exact w_c9
  · exact w_c10
  · exact w_c11
  · exact w_c12
  · exact w_c13
  · exact w_c14
  · exact w_c15
  · exact w_c16
  · exact w_c17
set_option maxRecDepth 65536 in
theorem w_t1 : (words1.take 24).all (fun c => isCode c || c.before args0 about1) = true := by decide +kernel
set_option maxRecDepth 65536 in
theorem w_t2 : ((words1.drop 24).take 24).all (fun c => isCode c || c.before args0 about1) = true := by decide +kernel
set_option maxRecDepth 65536 in
theorem w_t3 : (((words1.drop 24).drop 24).take 24).all (fun c => isCode c || c.before args0 about1) = true := by decide +kernel
set_option maxRecDepth 65536 in
theorem w_t4 : (((words1.drop 24).drop 24).drop 24).all (fun c => isCode c || c.before args0 about1) = true := by decide +kernel
theorem w_tables : (allAtoms (Jvm.Cond.code x code maxLocals ret :: tables_1)).before args0 about1 = true := by
  rw [allAtoms_all]
  show words1.all (fun c => c.before args0 about1) = true
  refine all_split ?_ w_codes
  rw [← List.take_append_drop 24 words1, List.all_append, w_t1, ← List.take_append_drop 24 (words1.drop 24), List.all_append, w_t2, ← List.take_append_drop 24 ((words1.drop 24).drop 24), List.all_append, w_t3, w_t4]
  rfl
set_option maxRecDepth 65536 in
theorem w_rest : rest_1_c.before args0 about1 = true := by decide +kernel
set_option maxRecDepth 65536 in
theorem w_case : (Jvm.Cond.and given_1 narrow_1).before args0 about1 = true := by decide +kernel
theorem w_applies : (headSpec (Jvm.Cond.code x code maxLocals ret :: tables_1) room_1).applies x e0.platform about1 = true :=
  (Spec.applies_iff w_frames).mpr ⟨w_running, w_runnable, w_alone, w_named, w_hears, w_ripe, w_room, w_tables⟩
theorem atStart : AtStart classFile x code maxLocals ret World_1 tables_1 room_1 Calls_1 rest_1 Pre_1 launch0 p0 e0 about1 theMethod args0 below0 :=
  ⟨lists_1, trivial, launch0.admits_env _ _ _, launch0.least_env, fairChoices_fair.cas, fairChoices_fair.clock, w_frames, w_args, w_heap, w_applies, trivial, w_rest, w_case⟩
end start1
theorem witness_1 : WitnessClaimed_1 := ⟨start1.p0, start1.e0, start1.about1, start1.theMethod, start1.args0, start1.below0, start1.atStart⟩
end Jvm.Pilot.@@N@@
