import JvmDerived
import JvmDerived.Pilot.@@N@@Statement
import JvmDerived.Pilot.@@N@@Code
set_option linter.unusedVariables false
set_option linter.unusedSimpArgs false
namespace Jvm.RoadKit
open Sem ClassFile Op Lib Jvm.Stand Jvm.Free Jvm.LawKit
section Own
variable {p : Program} {l : Launch} {e : Env} {R : Room} {s : State} {m : MethodId} {args : Array Value} {below : List Frame} {meth : Method} {c : Code} {T A B : State} {locs : List Loc} {cells slots K N : Nat} {P : State → Outcome → Prop} {Q : Option Value → Heap → List Loc → Prop}
/-- the run that stands at A comes to an end of which P holds -/
def Go (p : Program) (e : Env) (below : List Frame) (P : State → Outcome → Prop) (A : State) : Prop := ∃ s₂ o, Steps p.tables e below A s₂ ∧ s₂.status = .running ∧ Ended s₂ below o ∧ P s₂ o
def PostW (s : State) (K N : Nat) (Q : Option Value → Heap → List Loc → Prop) : State → Outcome → Prop := fun s₂ o => ∃ v L, o = .returned v ∧ Q v s₂.heap L ∧ FrameEnd s o s₂ L K N
theorem Go.by (h : ∀ t, Steps p.tables e below B t → Steps p.tables e below A t) (k : Go p e below P B) : Go p e below P A := by
  obtain ⟨s₂, o, h1, h2⟩ := k
  exact ⟨s₂, o, h _ h1, h2⟩
theorem Go.to (h : Steps p.tables e below A B) (k : Go p e below P B) : Go p e below P A := Go.by (fun _ q => h.trans q) k
theorem Go.cast {g g' : JFrame} (q : g = g') (k : Go p e below P (T.setTop g')) : Go p e below P (T.setTop g) := q ▸ k
theorem Go.ret (X : Stand p l e R s m args below meth c T locs cells slots) (hx : p.tables.exec = Jvm.exec) (hlk : meth.locks = false) {pc : Nat} {Ls : Array Slot} {w : Value} {t : FieldType} {i : Instr} {rest : List Value} (hret : meth.sig.returnType = some t) (hn : narrow t w = w)
    (hi : (i = .ireturn ∧ (t = .int ∨ t = .boolean ∨ t = .byte ∨ t = .char ∨ t = .short) ∧ ∃ z, w = .int z) ∨ (i = .lreturn ∧ t = .long ∧ ∃ z, w = .long z) ∨ (i = .dreturn ∧ t = .double ∧ ∃ z, w = .double z) ∨ (i = .freturn ∧ t = .float ∧ ∃ z, w = .float z) ∨ (i = .areturn ∧ t.isReference = true ∧ w.isRef = true))
    (hd : decode c.code pc = .ok (i, 1)) (hc : cells ≤ K) (hs : slots ≤ N) (hQ : Q (some w) T.heap locs) : Go p e below (PostW s K N Q) (T.setTop (mkF m pc Ls (w :: rest))) := by
  obtain ⟨fs, hr, hrun, hended, hW, hsame⟩ := X.leave (v := some w) (fun h => by rw [hret] at h; cases h) hlk
  exact ⟨_, _, retOut X hx hret hn hi hd hr, hrun, hended, _, _, rfl, hQ, ⟨_, rfl⟩, hW, hsame.mono hc hs⟩
theorem Go.retZ (X : Stand p l e R s m args below meth c T locs cells slots) (hx : p.tables.exec = Jvm.exec) (hlk : meth.locks = false) {pc : Nat} {Ls : Array Slot} {z : Int32} {t : FieldType} {rest : List Value} (hret : meth.sig.returnType = some t) (ht : t = .boolean ∨ t = .byte ∨ t = .char ∨ t = .short)
    (hd : decode c.code pc = .ok (.ireturn, 1)) (hc : cells ≤ K) (hs : slots ≤ N) (hQ : Q (some (.int (nar t z))) T.heap locs) : Go p e below (PostW s K N Q) (T.setTop (mkF m pc Ls (.int z :: rest))) := by
  obtain ⟨fs, hr, hrun, hended, hW, hsame⟩ := X.leave (v := some (.int (nar t z))) (fun h => by rw [hret] at h; cases h) hlk
  exact ⟨_, _, retN X hx hret ht hd hr, hrun, hended, _, _, rfl, hQ, ⟨_, rfl⟩, hW, hsame.mono hc hs⟩
theorem own_cat {w : Value} (h : w.isRef = true) : w.category = 1 := by cases w <;> first | rfl | (simp [Value.isRef] at h)
theorem own_narR {w : Value} {t : FieldType} (h : w.isRef = true) (ht : t.isReference = true) : narrow t w = w := by cases t <;> first | (cases ht; done) | (cases w <;> first | rfl | (simp [Value.isRef] at h))
theorem own_fitR {w : Value} {t : FieldType} (h : w.isRef = true) (ht : t.isReference = true) : fits t w = true := by cases t <;> first | (cases ht; done) | (cases w <;> first | rfl | (simp [Value.isRef] at h))
theorem Go.retV (X : Stand p l e R s m args below meth c T locs cells slots) (hx : p.tables.exec = Jvm.exec) (hlk : meth.locks = false) {pc : Nat} {Ls : Array Slot} (hret : meth.sig.returnType = none)
    (hd : decode c.code pc = .ok (.return_, 1)) (hc : cells ≤ K) (hs : slots ≤ N) (hQ : Q none T.heap locs) : Go p e below (PostW s K N Q) (T.setTop (mkF m pc Ls [])) := by
  obtain ⟨fs, hr, hrun, hended, hW, hsame⟩ := X.leave (v := none) (fun _ => rfl) hlk
  exact ⟨_, _, X.returnOut hx hret hd hr, hrun, hended, _, _, rfl, hQ, ⟨_, rfl⟩, hW, hsame.mono hc hs⟩
theorem wd {L : List Cond} {a0 : Array Value} {Z : State} (hw : ∀ d ∈ L, d.before a0 Z = true) (i : Nat) {d : Cond} (h : L[i]? = some d) : d.before a0 Z = true := hw d (List.mem_of_getElem? h)
/-- a callee's contract, as the walks here say it -/
abbrev Met (l : Launch) (Z : State) (y : MethodName) (bytes : ByteArray) (maxL : Nat) (ret : Option FieldType) (ws : List Cond) (rm : Room) (as' : Array Value) (h0 : Heap) (Q : Option Value → Heap → List Loc → Prop) : Prop :=
  MetFree l y (head1 (Cond.code y bytes maxL ret :: ws) rm) (fun a U => a = as' ∧ Z.Warmed39 U.vm ∧ U.heap = h0) (fun _ _ _ _ _ => True) (fun _ U o U' => ∃ v L, o = .returned v ∧ Q v U'.heap L ∧ FrameEnd U o U' L rm.cells rm.slots)
theorem Met.enter {Z : State} {y : MethodName} {bytes : ByteArray} {maxL : Nat} {ret : Option FieldType} {ws : List Cond} {rm : Room} {as' : Array Value} {h0 : Heap} {f0 : MethodId → JFrame} (hpl : plainFor y = true) (hf0 : ∀ m, entryFrame m as' maxL = f0 m)
    (body : ∀ (p : Program) (e : Env) (s : State) (m : MethodId) (below : List Frame) (meth : Method) (c : Code) (s₁ : State), p.tables.exec = Jvm.exec → c.code = bytes → c.maxLocals = maxL → s.vm.findClass y.cls = some m.cls → meth.name = y.name → meth.sig.returnType = ret → meth.locks = false → Z.Warmed39 s.vm → Stand p l e rm s m as' below meth c s₁ [] 0 0 → s₁.heap = h0 → Go p e below (PostW s rm.cells rm.slots Q) (s₁.setTop (f0 m))) : Met l Z y bytes maxL ret ws rm as' h0 Q := by
  refine MetFree.of_bodySF hpl hisR ?_
  intro p e s m args below meth c s₁ Bd hml0 hP hK
  obtain ⟨rfl, hZ, hh⟩ := hP
  have q := body p e s m below meth c s₁ Bd.exec Bd.bytes hml0 (findClass_of_methodNamed Bd.named) (name_of_methodNamed Bd.named Bd.method).1 Bd.returns Bd.notSynchronized hZ (Stand.of_body Bd) (by rw [← hh, Bd.state]; rfl)
  rw [← hf0] at q
  exact q
end Own
end Jvm.RoadKit
namespace Jvm.Pilot.@@N@@
open Jvm Jvm.ClassFile Sem Op Lib Jvm.Free Jvm.Stand Jvm.LawKit Jvm.RoadKit Bundle Jvm.Pilot.@@N@@.Jvm.D
theorem own_eqk {args : Array Value} {first s : State} {o : Option Outcome} {idx : List Nat} {t : Term} {k : Int32} (h : (Jvm.Cond.eq t (Term.int k)).value args first o s idx = some true) : t.eval args first o idx s = some (.int k) := by
  obtain ⟨x, y, ex, ey, -, k2⟩ := cmp_v (Or.inl h)
  have e2 : y = .int k := Option.some.inj (ey.symm.trans (Term.int_eval k))
  subst e2
  obtain ⟨z, rfl⟩ := k2
  have := gotT (Cond.eq_ints ex (Term.int_eval k)) h
  rw [ex, this]

theorem own_ch (x : Int32) : ¬ (255 : Int32) < (x &&& (255 : Int32)).toUInt32.toUInt16.toUInt32.toInt32 := by
  rw [i2c_mask]
  have q := c_mask x 255 8 (by decide) (by decide)
  have z : (255 : Int32).toInt = 255 := by decide
  rw [Int32.lt_iff_toInt_lt, z]
  omega
theorem own_ch0 (x : Int32) : ¬ (x &&& (255 : Int32)).toUInt32.toUInt16.toUInt32.toInt32 < (0 : Int32) := by
  rw [i2c_mask]
  have q := c_mask x 255 8 (by decide) (by decide)
  have z : (0 : Int32).toInt = 0 := by decide
  rw [Int32.lt_iff_toInt_lt, z]
  omega
theorem own_nar (x : Int32) : nar .char ((x &&& (255 : Int32)).toUInt32.toUInt16.toUInt32.toInt32) = (x &&& (255 : Int32)) := by
  show ((x &&& (255 : Int32)).toUInt32.toUInt16.toUInt32.toInt32).toUInt32.toUInt16.toUInt32.toInt32 = _
  rw [i2c_mask, i2c_mask]
theorem own_chn (x : Int32) : ¬ (255 : Int32) < nar .char ((x &&& (255 : Int32)).toUInt32.toUInt16.toUInt32.toInt32) := by
  rw [own_nar]
  have q := c_mask x 255 8 (by decide) (by decide)
  have z : (255 : Int32).toInt = 255 := by decide
  rw [Int32.lt_iff_toInt_lt, z]
  omega

theorem ef_rm_Record_init (m : MethodId) (x0 : Addr) : entryFrame m #[(.ref x0)] 1 = mkF m 0 #[.val (.ref x0)] [] := by first | (simp [entryFrame, mkF, argsToLocals, Value.category]; done) | rfl
theorem d3_0 : decode jdk_30_method_1_code 0 = .ok (.aload_n 0, 1) := by decide +kernel
theorem d3_1 : decode jdk_30_method_1_code 1 = .ok (.invokespecial 1, 3) := by decide +kernel
theorem d3_4 : decode jdk_30_method_1_code 4 = .ok (.return_, 1) := by decide +kernel
theorem pn_java_lang_Record : plainName "java/lang/Record" = true := by first | (simp [plainName, overriddenIn]; done) | decide +kernel
def Q_rm_Record_init (Z : State) (a1 : Addr) (h0 : Heap) (n0 : Nat) (v : Option Value) (h : Heap) (L : List Loc) : Prop := v = none ∧ Fr n0 L ∧ h = h0
set_option maxRecDepth 65536 in
set_option maxHeartbeats 40000000 in
theorem rm_Record_init (l : Launch) (Z : State) (a0 : Array Value) (hw : ∀ d ∈ tables_1, d.before a0 Z = true) (ws : List Jvm.Cond) (a1 : Addr) (h0 : Heap) (n0 : Nat) (Z0 : n0 ≤ h0.size) :
    Met l Z (⟨"java/lang/Record", "<init>", "()V"⟩ : MethodName) jdk_30_method_1_code 1 none ws ({ frames := 1, cells := 0, slots := 0, locals := 12 } : Room) #[(.ref a1)] h0 (Q_rm_Record_init Z a1 h0 n0) := by
  refine Met.enter (f0 := fun m => mkF m 0 #[.val (.ref a1)] []) (plainFor_of_name pn_java_lang_Record) (fun m => ef_rm_Record_init m a1) ?_
  intro p e s m below meth c s₁ hx hby hml hown hnm hret hlk hZ X0 e0
  have hown : s.vm.findClass "java/lang/Record" = some m.cls := hown
  have hnm : meth.name = "<init>" := hnm
  have hml : c.maxLocals = 1 := hml
  have hby : c.code = jdk_30_method_1_code := hby
  have N0 := Fr.nil n0
  refine Go.by (B := (s₁.setTop (mkF m 1 #[.val (.ref a1)] [(.ref a1)]))) (fun _ k => XS.aloadN X0.here hx rfl (hb hby d3_0) rfl rfl k) ?_
  obtain ⟨T1, X1, e1, st1⟩ := initO X0 hx hZ hown (wd hw 19 rfl) (wd hw 20 rfl) (wd hw 21 rfl) e0 (g := (mkF m 1 #[.val (.ref a1)] [(.ref a1)])) rfl (by rw [hml]; rfl) rfl (hb hby d3_1) (by decide) (W := 0) (by show 2 * 0 + _ ≤ _; exact Nat.le_of_eq rfl) (by decide)
  refine Go.by (B := (T1.setTop (mkF m 4 #[.val (.ref a1)] []))) st1 ?_
  refine Go.retV X1 hx hlk hret (hb hby d3_4) (by decide) (by decide) ?_
  rw [e1]
  exact ⟨rfl, N0, rfl⟩
theorem ef_rm_cmp5_2 (m : MethodId) (x0 : Addr) (x2 : Addr) : entryFrame m #[(.ref x0), (.int 0), (.ref x2), (.int 0), (.int 2)] 7 = mkF m 0 #[.val (.ref x0), .val (.int 0), .val (.ref x2), .val (.int 0), .val (.int 2), .unset, .unset] [] := by first | (simp [entryFrame, mkF, argsToLocals, Value.category]; done) | rfl
theorem d11_0 : decode jdk_52_method_21_code 0 = .ok (.iconst 0, 1) := by decide +kernel
theorem d11_1 : decode jdk_52_method_21_code 1 = .ok (.istore 5, 2) := by decide +kernel
theorem d11_3 : decode jdk_52_method_21_code 3 = .ok (.iload 5, 2) := by decide +kernel
theorem d11_5 : decode jdk_52_method_21_code 5 = .ok (.iload 4, 2) := by decide +kernel
theorem d11_7 : decode jdk_52_method_21_code 7 = .ok (.if_icmp .ge 37, 3) := by decide +kernel
theorem d11_10 : decode jdk_52_method_21_code 10 = .ok (.aload_n 0, 1) := by decide +kernel
theorem d11_11 : decode jdk_52_method_21_code 11 = .ok (.iload_n 1, 1) := by decide +kernel
theorem d11_12 : decode jdk_52_method_21_code 12 = .ok (.caload, 1) := by decide +kernel
theorem d11_13 : decode jdk_52_method_21_code 13 = .ok (.istore 6, 2) := by decide +kernel
theorem d11_15 : decode jdk_52_method_21_code 15 = .ok (.iload 6, 2) := by decide +kernel
theorem d11_17 : decode jdk_52_method_21_code 17 = .ok (.sipush 255, 3) := by decide +kernel
theorem d11_20 : decode jdk_52_method_21_code 20 = .ok (.if_icmp .le 6, 3) := by decide +kernel
theorem d11_26 : decode jdk_52_method_21_code 26 = .ok (.aload_n 2, 1) := by decide +kernel
theorem d11_27 : decode jdk_52_method_21_code 27 = .ok (.iload_n 3, 1) := by decide +kernel
theorem d11_28 : decode jdk_52_method_21_code 28 = .ok (.iload 6, 2) := by decide +kernel
theorem d11_30 : decode jdk_52_method_21_code 30 = .ok (.i2b, 1) := by decide +kernel
theorem d11_31 : decode jdk_52_method_21_code 31 = .ok (.bastore, 1) := by decide +kernel
theorem d11_32 : decode jdk_52_method_21_code 32 = .ok (.iinc 1 1, 3) := by decide +kernel
theorem d11_35 : decode jdk_52_method_21_code 35 = .ok (.iinc 3 1, 3) := by decide +kernel
theorem d11_38 : decode jdk_52_method_21_code 38 = .ok (.iinc 5 1, 3) := by decide +kernel
theorem d11_41 : decode jdk_52_method_21_code 41 = .ok (.goto (-38), 3) := by decide +kernel
theorem d11_44 : decode jdk_52_method_21_code 44 = .ok (.iload 4, 2) := by decide +kernel
theorem d11_46 : decode jdk_52_method_21_code 46 = .ok (.ireturn, 1) := by decide +kernel
theorem pn_java_lang_StringUTF16 : plainName "java/lang/StringUTF16" = true := by first | (simp [plainName, overriddenIn]; done) | decide +kernel
def Q_rm_cmp5_2 (Z : State) (a1 : Addr) (b1 : Addr) (ka : ClassId) (kb : ClassId) (c0 : Int32) (c1 : Int32) (h0 : Heap) (n0 : Nat) (v : Option Value) (h : Heap) (L : List Loc) : Prop := v = some (.int 2) ∧ Fr n0 L ∧ Keep h0 h [b1] ∧ Arv Z h b1 kb .byte (2 : Int32) [(.int (nar .byte (c0.toInt8.toInt32))), (.int (nar .byte (c1.toInt8.toInt32)))] (.int 0)
set_option maxRecDepth 65536 in
set_option maxHeartbeats 40000000 in
theorem rm_cmp5_2 (l : Launch) (Z : State) (a0 : Array Value) (hw : ∀ d ∈ tables_1, d.before a0 Z = true) (ws : List Jvm.Cond) (a1 : Addr) (b1 : Addr) (ka : ClassId) (kb : ClassId) (c0 : Int32) (c1 : Int32) (h0 : Heap) (n0 : Nat) (Z0 : n0 ≤ h0.size) (pr0 : Old Z n0 h0) (pr1 : Arv Z h0 a1 ka .char (2 : Int32) [(.int c0), (.int c1)] (.int 0)) (pr2 : Arv Z h0 b1 kb .byte (2 : Int32) [(.int 0), (.int 0)] (.int 0)) (pr3 : n0 ≤ b1) (pr4 : a1 ≠ b1) (hc0 : ¬ ((255 : Int32) < c0)) (hc1 : ¬ ((255 : Int32) < c1)) :
    Met l Z (⟨"java/lang/StringUTF16", "compress", "([CI[BII)I"⟩ : MethodName) jdk_52_method_21_code 7 (some .int) ws ({ frames := 0, cells := 0, slots := 0, locals := 0 } : Room) #[(.ref a1), (.int 0), (.ref b1), (.int 0), (.int 2)] h0 (Q_rm_cmp5_2 Z a1 b1 ka kb c0 c1 h0 n0) := by
  refine Met.enter (f0 := fun m => mkF m 0 #[.val (.ref a1), .val (.int 0), .val (.ref b1), .val (.int 0), .val (.int 2), .unset, .unset] []) (plainFor_of_name pn_java_lang_StringUTF16) (fun m => ef_rm_cmp5_2 m a1 b1) ?_
  intro p e s m below meth c s₁ hx hby hml hown hnm hret hlk hZ X0 e0
  have hown : s.vm.findClass "java/lang/StringUTF16" = some m.cls := hown
  have hnm : meth.name = "compress" := hnm
  have hml : c.maxLocals = 7 := hml
  have hby : c.code = jdk_52_method_21_code := hby
  have N0 := Fr.nil n0
  refine Go.by (B := (s₁.setTop (mkF m 12 #[.val (.ref a1), .val (.int 0), .val (.ref b1), .val (.int 0), .val (.int 2), .val (.int 0), .unset] [(.int 0), (.ref a1)]))) (fun _ k => XS.iconst X0.here hx rfl (hb hby d11_0) (XS.istore X0.here hx rfl (hb hby d11_1) rfl (l' := #[.val (.ref a1), .val (.int 0), .val (.ref b1), .val (.int 0), .val (.int 2), .val (.int 0), .unset]) rfl (XS.iload X0.here hx rfl (hb hby d11_3) rfl (XS.iload X0.here hx rfl (hb hby d11_5) rfl (XS.icmpNo X0.here hx rfl (hb hby d11_7) rfl (tlt (by decide : (0 : Int32) < (2 : Int32))).2.1 (XS.aloadN X0.here hx rfl (hb hby d11_10) rfl rfl (XS.iloadN X0.here hx rfl (hb hby d11_11) rfl k))))))) ?_
  obtain ⟨cl2, Ar2, q2, S2, N_2, Hs2, G2⟩ := id pr1
  have hin3 : ¬ ((0 : Int32) < 0 ∨ cl2.slots.size ≤ ((0 : Int32)).toNatClampNeg) := inb_of S2 ⟨by decide, by decide⟩
  have hat3 : cl2.slots[((0 : Int32)).toNatClampNeg]? = some (.int c0) := Hs2.at hin3 rfl
  refine Go.by (B := (s₁.setTop (mkF m 13 #[.val (.ref a1), .val (.int 0), .val (.ref b1), .val (.int 0), .val (.int 2), .val (.int 0), .unset] [(.int c0)]))) (fun _ k => X0.caload hx (j := (0 : Int32)) (v := (.int c0)) (by rw [e0]; exact Ar2.1) (State.isArrayOf_alike hZ.alike Ar2.2.1) Ar2.2.2 hin3 hat3 (g := (mkF m 12 #[.val (.ref a1), .val (.int 0), .val (.ref b1), .val (.int 0), .val (.int 2), .val (.int 0), .unset] [(.int 0), (.ref a1)])) rfl rfl (hb hby d11_12) _ k) ?_
  refine Go.by (B := (s₁.setTop (mkF m 31 #[.val (.ref a1), .val (.int 0), .val (.ref b1), .val (.int 0), .val (.int 2), .val (.int 0), .val (.int c0)] [(.int (c0.toInt8.toInt32)), (.int 0), (.ref b1)]))) (fun _ k => XS.istore X0.here hx rfl (hb hby d11_13) rfl (l' := #[.val (.ref a1), .val (.int 0), .val (.ref b1), .val (.int 0), .val (.int 2), .val (.int 0), .val (.int c0)]) rfl (XS.iload X0.here hx rfl (hb hby d11_15) rfl (XS.sipush X0.here hx rfl (hb hby d11_17) (XS.icmpYes X0.here hx rfl (pc0 := 20) (pc' := 26) rfl (hb hby d11_20) rfl (flt hc0).2.2.2 (by decide) (by decide) (XS.aloadN X0.here hx rfl (hb hby d11_26) rfl rfl (XS.iloadN X0.here hx rfl (hb hby d11_27) rfl (XS.iload X0.here hx rfl (hb hby d11_28) rfl (XS.i2b X0.here hx rfl (hb hby d11_30) rfl k)))))))) ?_
  obtain ⟨cl4, Ar4, q4, S4, N_4, Hs4, G4⟩ := id pr2
  have hin5 : ¬ ((0 : Int32) < 0 ∨ cl4.slots.size ≤ ((0 : Int32)).toNatClampNeg) := inb_of S4 ⟨by decide, by decide⟩
  obtain ⟨T5, h5, X5, e5, W5, st5⟩ := stB X0 hx hZ e0 Ar4 (j := (0 : Int32)) hin5 (g := (mkF m 31 #[.val (.ref a1), .val (.int 0), .val (.ref b1), .val (.int 0), .val (.int 2), .val (.int 0), .val (.int c0)] [(.int (c0.toInt8.toInt32)), (.int 0), (.ref b1)])) rfl rfl (hb hby d11_31)
  have O6 := pr0.wr W5 pr3
  have Z6 : n0 ≤ h5.size := Nat.le_trans Z0 (Keep.of_wr W5).1
  have V5 : Arv Z h5 b1 kb .byte (2 : Int32) [(.int (nar .byte (c0.toInt8.toInt32))), (.int 0)] (.int 0) := Arv.set Ar4 q4 S4 N_4 Hs4 G4 (fits_nar_byte _) W5 0 rfl (Nat.le_of_ble_eq_true rfl)
  have N5 := Fr.snoc X5 N0 pr3
  refine Go.by (B := (T5.setTop (mkF m 32 #[.val (.ref a1), .val (.int 0), .val (.ref b1), .val (.int 0), .val (.int 2), .val (.int 0), .val (.int c0)] []))) st5 ?_
  refine Go.by (B := (T5.setTop (mkF m 11 #[.val (.ref a1), .val (.int 1), .val (.ref b1), .val (.int 1), .val (.int 2), .val (.int 1), .val (.int c0)] [(.ref a1)]))) (fun _ k => XS.iinc X5.here hx rfl (hb hby d11_32) rfl (l' := #[.val (.ref a1), .val (.int 1), .val (.ref b1), .val (.int 0), .val (.int 2), .val (.int 0), .val (.int c0)]) rfl (XS.iinc X5.here hx rfl (hb hby d11_35) rfl (l' := #[.val (.ref a1), .val (.int 1), .val (.ref b1), .val (.int 1), .val (.int 2), .val (.int 0), .val (.int c0)]) rfl (XS.iinc X5.here hx rfl (hb hby d11_38) rfl (l' := #[.val (.ref a1), .val (.int 1), .val (.ref b1), .val (.int 1), .val (.int 2), .val (.int 1), .val (.int c0)]) rfl (XS.goto X5.here hx rfl (pc0 := 41) (pc' := 3) rfl (hb hby d11_41) (by decide) (by decide) (XS.iload X5.here hx rfl (hb hby d11_3) rfl (XS.iload X5.here hx rfl (hb hby d11_5) rfl (XS.icmpNo X5.here hx rfl (hb hby d11_7) rfl (tlt (by decide : (1 : Int32) < (2 : Int32))).2.1 (XS.aloadN X5.here hx rfl (hb hby d11_10) rfl rfl k)))))))) ?_
  refine Go.by (B := (T5.setTop (mkF m 12 #[.val (.ref a1), .val (.int 1), .val (.ref b1), .val (.int 1), .val (.int 2), .val (.int 1), .val (.int c0)] [(.int 1), (.ref a1)]))) (fun _ k => XS.iloadN X5.here hx rfl (hb hby d11_11) rfl k) ?_
  obtain ⟨cl7, Ar7, q7, S7, N_7, Hs7, G7⟩ := id (pr1.other W5 pr4)
  have hin8 : ¬ ((1 : Int32) < 0 ∨ cl7.slots.size ≤ ((1 : Int32)).toNatClampNeg) := inb_of S7 ⟨by decide, by decide⟩
  have hat8 : cl7.slots[((1 : Int32)).toNatClampNeg]? = some (.int c1) := Hs7.at hin8 rfl
  refine Go.by (B := (T5.setTop (mkF m 13 #[.val (.ref a1), .val (.int 1), .val (.ref b1), .val (.int 1), .val (.int 2), .val (.int 1), .val (.int c0)] [(.int c1)]))) (fun _ k => X5.caload hx (j := (1 : Int32)) (v := (.int c1)) (by rw [e5]; exact Ar7.1) (State.isArrayOf_alike hZ.alike Ar7.2.1) Ar7.2.2 hin8 hat8 (g := (mkF m 12 #[.val (.ref a1), .val (.int 1), .val (.ref b1), .val (.int 1), .val (.int 2), .val (.int 1), .val (.int c0)] [(.int 1), (.ref a1)])) rfl rfl (hb hby d11_12) _ k) ?_
  refine Go.by (B := (T5.setTop (mkF m 31 #[.val (.ref a1), .val (.int 1), .val (.ref b1), .val (.int 1), .val (.int 2), .val (.int 1), .val (.int c1)] [(.int (c1.toInt8.toInt32)), (.int 1), (.ref b1)]))) (fun _ k => XS.istore X5.here hx rfl (hb hby d11_13) rfl (l' := #[.val (.ref a1), .val (.int 1), .val (.ref b1), .val (.int 1), .val (.int 2), .val (.int 1), .val (.int c1)]) rfl (XS.iload X5.here hx rfl (hb hby d11_15) rfl (XS.sipush X5.here hx rfl (hb hby d11_17) (XS.icmpYes X5.here hx rfl (pc0 := 20) (pc' := 26) rfl (hb hby d11_20) rfl (flt hc1).2.2.2 (by decide) (by decide) (XS.aloadN X5.here hx rfl (hb hby d11_26) rfl rfl (XS.iloadN X5.here hx rfl (hb hby d11_27) rfl (XS.iload X5.here hx rfl (hb hby d11_28) rfl (XS.i2b X5.here hx rfl (hb hby d11_30) rfl k)))))))) ?_
  obtain ⟨cl9, Ar9, q9, S9, N_9, Hs9, G9⟩ := id V5
  have hin10 : ¬ ((1 : Int32) < 0 ∨ cl9.slots.size ≤ ((1 : Int32)).toNatClampNeg) := inb_of S9 ⟨by decide, by decide⟩
  obtain ⟨T10, h10, X10, e10, W10, st10⟩ := stB X5 hx hZ e5 Ar9 (j := (1 : Int32)) hin10 (g := (mkF m 31 #[.val (.ref a1), .val (.int 1), .val (.ref b1), .val (.int 1), .val (.int 2), .val (.int 1), .val (.int c1)] [(.int (c1.toInt8.toInt32)), (.int 1), (.ref b1)])) rfl rfl (hb hby d11_31)
  have O11 := O6.wr W10 pr3
  have Z11 : n0 ≤ h10.size := Nat.le_trans Z6 (Keep.of_wr W10).1
  have V10 : Arv Z h10 b1 kb .byte (2 : Int32) [(.int (nar .byte (c0.toInt8.toInt32))), (.int (nar .byte (c1.toInt8.toInt32)))] (.int 0) := Arv.set Ar9 q9 S9 N_9 Hs9 G9 (fits_nar_byte _) W10 1 rfl (Nat.le_of_ble_eq_true rfl)
  have N10 := Fr.snoc X10 N5 pr3
  refine Go.by (B := (T10.setTop (mkF m 32 #[.val (.ref a1), .val (.int 1), .val (.ref b1), .val (.int 1), .val (.int 2), .val (.int 1), .val (.int c1)] []))) st10 ?_
  refine Go.by (B := (T10.setTop (mkF m 46 #[.val (.ref a1), .val (.int 2), .val (.ref b1), .val (.int 2), .val (.int 2), .val (.int 2), .val (.int c1)] [(.int 2)]))) (fun _ k => XS.iinc X10.here hx rfl (hb hby d11_32) rfl (l' := #[.val (.ref a1), .val (.int 2), .val (.ref b1), .val (.int 1), .val (.int 2), .val (.int 1), .val (.int c1)]) rfl (XS.iinc X10.here hx rfl (hb hby d11_35) rfl (l' := #[.val (.ref a1), .val (.int 2), .val (.ref b1), .val (.int 2), .val (.int 2), .val (.int 1), .val (.int c1)]) rfl (XS.iinc X10.here hx rfl (hb hby d11_38) rfl (l' := #[.val (.ref a1), .val (.int 2), .val (.ref b1), .val (.int 2), .val (.int 2), .val (.int 2), .val (.int c1)]) rfl (XS.goto X10.here hx rfl (pc0 := 41) (pc' := 3) rfl (hb hby d11_41) (by decide) (by decide) (XS.iload X10.here hx rfl (hb hby d11_3) rfl (XS.iload X10.here hx rfl (hb hby d11_5) rfl (XS.icmpYes X10.here hx rfl (pc0 := 7) (pc' := 44) rfl (hb hby d11_7) rfl (flt (by decide : ¬ ((2 : Int32) < (2 : Int32)))).2.1 (by decide) (by decide) (XS.iload X10.here hx rfl (hb hby d11_44) rfl k)))))))) ?_
  refine Go.ret X10 hx hlk (t := .int) hret rfl (Or.inl ⟨rfl, by simp, _, rfl⟩) (hb hby d11_46) (by decide) (by decide) ?_
  rw [e10]
  exact ⟨rfl, N10, (((Keep.refl h0 [b1]).wr W5 (Or.inl (List.mem_of_getElem? (i := 0) rfl))).wr W10 (Or.inl (List.mem_of_getElem? (i := 0) rfl))), V10⟩
theorem ef_rm_cmp3_2 (m : MethodId) (x0 : Addr) : entryFrame m #[(.ref x0), (.int 0), (.int 2)] 6 = mkF m 0 #[.val (.ref x0), .val (.int 0), .val (.int 2), .unset, .unset, .unset] [] := by first | (simp [entryFrame, mkF, argsToLocals, Value.category]; done) | rfl
theorem d10_0 : decode jdk_52_method_16_code 0 = .ok (.iload_n 2, 1) := by decide +kernel
theorem d10_1 : decode jdk_52_method_16_code 1 = .ok (.newarray .byte, 2) := by decide +kernel
theorem d10_3 : decode jdk_52_method_16_code 3 = .ok (.astore_n 3, 1) := by decide +kernel
theorem d10_4 : decode jdk_52_method_16_code 4 = .ok (.aload_n 0, 1) := by decide +kernel
theorem d10_5 : decode jdk_52_method_16_code 5 = .ok (.iload_n 1, 1) := by decide +kernel
theorem d10_6 : decode jdk_52_method_16_code 6 = .ok (.aload_n 3, 1) := by decide +kernel
theorem d10_7 : decode jdk_52_method_16_code 7 = .ok (.iconst 0, 1) := by decide +kernel
theorem d10_8 : decode jdk_52_method_16_code 8 = .ok (.iload_n 2, 1) := by decide +kernel
theorem d10_9 : decode jdk_52_method_16_code 9 = .ok (.invokestatic 115, 3) := by decide +kernel
theorem pd_0 : parseMethodDescriptor "([CI[BII)I" = some ⟨[(.array .char), .int, (.array .byte), .int, .int], some .int⟩ := by decide +kernel
theorem d10_12 : decode jdk_52_method_16_code 12 = .ok (.istore 4, 2) := by decide +kernel
theorem d10_14 : decode jdk_52_method_16_code 14 = .ok (.iload 4, 2) := by decide +kernel
theorem d10_16 : decode jdk_52_method_16_code 16 = .ok (.iload_n 2, 1) := by decide +kernel
theorem d10_17 : decode jdk_52_method_16_code 17 = .ok (.if_icmp .eq 40, 3) := by decide +kernel
theorem d10_57 : decode jdk_52_method_16_code 57 = .ok (.aload_n 3, 1) := by decide +kernel
theorem d10_58 : decode jdk_52_method_16_code 58 = .ok (.areturn, 1) := by decide +kernel
def Q_rm_cmp3_2 (Z : State) (a1 : Addr) (ka : ClassId) (c0 : Int32) (c1 : Int32) (h0 : Heap) (n0 : Nat) (v : Option Value) (h : Heap) (L : List Loc) : Prop := ∃ b : Addr, ∃ k : ClassId, v = some (.ref b) ∧ Fr n0 L ∧ Keep h0 h [] ∧ Arv Z h b k .byte (2 : Int32) [(.int (nar .byte (c0.toInt8.toInt32))), (.int (nar .byte (c1.toInt8.toInt32)))] (.int 0) ∧ h0.size ≤ b
set_option maxRecDepth 65536 in
set_option maxHeartbeats 40000000 in
theorem rm_cmp3_2 (l : Launch) (Z : State) (a0 : Array Value) (hw : ∀ d ∈ tables_1, d.before a0 Z = true) (ws : List Jvm.Cond) (a1 : Addr) (ka : ClassId) (c0 : Int32) (c1 : Int32) (h0 : Heap) (n0 : Nat) (Z0 : n0 ≤ h0.size) (pr0 : Old Z n0 h0) (pr1 : Arv Z h0 a1 ka .char (2 : Int32) [(.int c0), (.int c1)] (.int 0)) (hc0 : ¬ ((255 : Int32) < c0)) (hc1 : ¬ ((255 : Int32) < c1)) :
    Met l Z (⟨"java/lang/StringUTF16", "compress", "([CII)[B"⟩ : MethodName) jdk_52_method_16_code 6 (some (.array .byte)) ws ({ frames := 1, cells := 1, slots := 2, locals := 18 } : Room) #[(.ref a1), (.int 0), (.int 2)] h0 (Q_rm_cmp3_2 Z a1 ka c0 c1 h0 n0) := by
  refine Met.enter (f0 := fun m => mkF m 0 #[.val (.ref a1), .val (.int 0), .val (.int 2), .unset, .unset, .unset] []) (plainFor_of_name pn_java_lang_StringUTF16) (fun m => ef_rm_cmp3_2 m a1) ?_
  intro p e s m below meth c s₁ hx hby hml hown hnm hret hlk hZ X0 e0
  have hown : s.vm.findClass "java/lang/StringUTF16" = some m.cls := hown
  have hnm : meth.name = "compress" := hnm
  have hml : c.maxLocals = 6 := hml
  have hby : c.code = jdk_52_method_16_code := hby
  have N0 := Fr.nil n0
  refine Go.by (B := (s₁.setTop (mkF m 1 #[.val (.ref a1), .val (.int 0), .val (.int 2), .unset, .unset, .unset] [(.int 2)]))) (fun _ k => XS.iloadN X0.here hx rfl (hb hby d10_0) rfl k) ?_
  obtain ⟨T12, h12, k12, X12, e12, E12, A12, st12⟩ := newP X0 hx hZ (wd hw 63 rfl) e0 (g := (mkF m 1 #[.val (.ref a1), .val (.int 0), .val (.int 2), .unset, .unset, .unset] [(.int 2)])) rfl (hb hby d10_1) rfl (by decide) (cap := 2) (by decide) (by decide) (by decide) (by decide)
  obtain ⟨b12, g12⟩ : ∃ z, z = h0.size := ⟨_, rfl⟩
  rw [← g12] at A12 st12
  have sz_b12 : h0.size ≤ b12 := Nat.le_of_eq g12.symm
  have V12 : Arv Z h12 b12 k12 .byte (2 : Int32) [(.int 0), (.int 0)] (.int 0) := (Arv.new A12 (by decide)).pad (pad_rep [] (.int 0) 2)
  have O13 := pr0.ext E12
  have Z13 : n0 ≤ h12.size := Nat.le_trans Z0 E12.1
  refine Go.by (B := (T12.setTop (mkF m 3 #[.val (.ref a1), .val (.int 0), .val (.int 2), .unset, .unset, .unset] [(.ref b12)]))) st12 ?_
  refine Go.by (B := (T12.setTop (mkF m 9 #[.val (.ref a1), .val (.int 0), .val (.int 2), .val (.ref b12), .unset, .unset] [(.int 2), (.int 0), (.ref b12), (.int 0), (.ref a1)]))) (fun _ k => XS.astoreN X12.here hx rfl (hb hby d10_3) rfl rfl (l' := #[.val (.ref a1), .val (.int 0), .val (.int 2), .val (.ref b12), .unset, .unset]) rfl (XS.aloadN X12.here hx rfl (hb hby d10_4) rfl rfl (XS.iloadN X12.here hx rfl (hb hby d10_5) rfl (XS.aloadN X12.here hx rfl (hb hby d10_6) rfl rfl (XS.iconst X12.here hx rfl (hb hby d10_7) (XS.iloadN X12.here hx rfl (hb hby d10_8) rfl k)))))) ?_
  obtain ⟨_, _, ⟨T14, L14, k14, n14⟩, -, X14, ⟨Lc14, hQ14, l14, y14, z14⟩, st14⟩ := Jvm.LawKit.callS X12 hx (y := (⟨"java/lang/StringUTF16", "compress", "([CI[BII)I"⟩ : MethodName)) hown (mvT hZ (wd hw 64 rfl)) (mvT hZ (wd hw 65 rfl)) (mvT hZ (wd hw 61 rfl)) (mvT hZ (wd hw 66 rfl)) (by decide) (backOf (W := 0) (rm_cmp5_2 l Z a0 hw [] a1 b12 ka k12 c0 c1 h12 n0 Z13 O13 (pr1.ext E12) V12 (Nat.le_trans Z0 sz_b12) (Nat.ne_of_lt (Nat.lt_of_lt_of_le pr1.lt sz_b12)) hc0 hc1) hZ (wd hw 66 rfl) (wd hw 61 rfl) (by decide) (by decide)) (g := (mkF m 9 #[.val (.ref a1), .val (.int 0), .val (.int 2), .val (.ref b12), .unset, .unset] [(.int 2), (.int 0), (.ref b12), (.int 0), (.ref a1)])) rfl (by rw [hml]; rfl) (argsL := [(.ref a1), (.int 0), (.ref b12), (.int 0), (.int 2)]) (rest := []) (lenOf pd_0 rfl) rfl (by show 2 * 0 + _ ≤ _; exact Nat.le_of_eq rfl) (hb hby d10_9) (fun _ _ => ⟨rfl, e12, Nat.le_of_ble_eq_true rfl, Nat.le_of_ble_eq_true rfl⟩)
  dsimp only [Pt.U, Pt.locs, Pt.cells, Pt.slots] at X14 l14 y14 z14 st14 hQ14
  subst l14 y14 z14
  obtain ⟨rfl, Nq14, K14, p14_0⟩ := hQ14
  have N14 := Fr.app N0 Nq14
  have O15 := O13.keep K14 (allS (Nat.le_trans Z0 sz_b12) all0)
  have Z15 : n0 ≤ T14.heap.size := Nat.le_trans Z13 K14.1
  refine Go.by (B := (T14.setTop (mkF m 12 #[.val (.ref a1), .val (.int 0), .val (.int 2), .val (.ref b12), .unset, .unset] [(.int 2)]))) (fun _ k => st14 _ k) ?_
  refine Go.by (B := (T14.setTop (mkF m 58 #[.val (.ref a1), .val (.int 0), .val (.int 2), .val (.ref b12), .val (.int 2), .unset] [(.ref b12)]))) (fun _ k => XS.istore X14.here hx rfl (hb hby d10_12) rfl (l' := #[.val (.ref a1), .val (.int 0), .val (.int 2), .val (.ref b12), .val (.int 2), .unset]) rfl (XS.iload X14.here hx rfl (hb hby d10_14) rfl (XS.iloadN X14.here hx rfl (hb hby d10_16) rfl (XS.icmpYes X14.here hx rfl (pc0 := 17) (pc' := 57) rfl (hb hby d10_17) rfl (teq (by decide : (2 : Int32) = (2 : Int32))).1 (by decide) (by decide) (XS.aloadN X14.here hx rfl (hb hby d10_57) rfl rfl k))))) ?_
  refine Go.ret X14 hx hlk (t := (.array .byte)) hret rfl (Or.inr (Or.inr (Or.inr (Or.inr ⟨rfl, rfl, rfl⟩)))) (hb hby d10_58) (by decide) (by decide) ?_
  exact ⟨b12, k12, rfl, N14, (((Keep.refl h0 []).ext E12).trans K14 (allS (Or.inr (Nat.le_trans (Nat.le_refl _) sz_b12)) all0)), p14_0, (Nat.le_trans (Nat.le_refl _) sz_b12)⟩
theorem ef_rm_cfal_2 (m : MethodId) (x0 : Addr) : entryFrame m #[(.ref x0), (.int 2)] 2 = mkF m 0 #[.val (.ref x0), .val (.int 2)] [] := by first | (simp [entryFrame, mkF, argsToLocals, Value.category]; done) | rfl
theorem d12_0 : decode jdk_52_method_15_code 0 = .ok (.iload_n 1, 1) := by decide +kernel
theorem d12_1 : decode jdk_52_method_15_code 1 = .ok (.aload_n 0, 1) := by decide +kernel
theorem d12_2 : decode jdk_52_method_15_code 2 = .ok (.arraylength, 1) := by decide +kernel
theorem d12_3 : decode jdk_52_method_15_code 3 = .ok (.isub, 1) := by decide +kernel
theorem d12_4 : decode jdk_52_method_15_code 4 = .ok (.bipush 31, 2) := by decide +kernel
theorem d12_6 : decode jdk_52_method_15_code 6 = .ok (.iushr, 1) := by decide +kernel
theorem d12_7 : decode jdk_52_method_15_code 7 = .ok (.i2b, 1) := by decide +kernel
theorem d12_8 : decode jdk_52_method_15_code 8 = .ok (.ireturn, 1) := by decide +kernel
def Q_rm_cfal_2 (Z : State) (b1 : Addr) (kb : ClassId) (c0 : Int32) (c1 : Int32) (h0 : Heap) (n0 : Nat) (v : Option Value) (h : Heap) (L : List Loc) : Prop := v = some (.int 0) ∧ Fr n0 L ∧ h = h0
set_option maxRecDepth 65536 in
set_option maxHeartbeats 40000000 in
theorem rm_cfal_2 (l : Launch) (Z : State) (a0 : Array Value) (hw : ∀ d ∈ tables_1, d.before a0 Z = true) (ws : List Jvm.Cond) (b1 : Addr) (kb : ClassId) (c0 : Int32) (c1 : Int32) (h0 : Heap) (n0 : Nat) (Z0 : n0 ≤ h0.size) (pr0 : Arv Z h0 b1 kb .byte (2 : Int32) [(.int (nar .byte (c0.toInt8.toInt32))), (.int (nar .byte (c1.toInt8.toInt32)))] (.int 0)) :
    Met l Z (⟨"java/lang/StringUTF16", "coderFromArrayLen", "([BI)B"⟩ : MethodName) jdk_52_method_15_code 2 (some .byte) ws ({ frames := 0, cells := 0, slots := 0, locals := 0 } : Room) #[(.ref b1), (.int 2)] h0 (Q_rm_cfal_2 Z b1 kb c0 c1 h0 n0) := by
  refine Met.enter (f0 := fun m => mkF m 0 #[.val (.ref b1), .val (.int 2)] []) (plainFor_of_name pn_java_lang_StringUTF16) (fun m => ef_rm_cfal_2 m b1) ?_
  intro p e s m below meth c s₁ hx hby hml hown hnm hret hlk hZ X0 e0
  have hown : s.vm.findClass "java/lang/StringUTF16" = some m.cls := hown
  have hnm : meth.name = "coderFromArrayLen" := hnm
  have hml : c.maxLocals = 2 := hml
  have hby : c.code = jdk_52_method_15_code := hby
  have N0 := Fr.nil n0
  refine Go.by (B := (s₁.setTop (mkF m 2 #[.val (.ref b1), .val (.int 2)] [(.ref b1), (.int 2)]))) (fun _ k => XS.iloadN X0.here hx rfl (hb hby d12_0) rfl (XS.aloadN X0.here hx rfl (hb hby d12_1) rfl rfl k)) ?_
  obtain ⟨cl16, Ar16, q16, S16, N_16, Hs16, G16⟩ := id pr0
  refine Go.by (B := (s₁.setTop (mkF m 3 #[.val (.ref b1), .val (.int 2)] [(.int 2), (.int 2)]))) (fun _ k => X0.arraylength hx (by rw [e0]; exact Ar16.1) (State.isArrayOf_alike hZ.alike Ar16.2.1) (g := (mkF m 2 #[.val (.ref b1), .val (.int 2)] [(.ref b1), (.int 2)])) rfl rfl (hb hby d12_2) _ (by rw [len_of S16 N_16]; exact k)) ?_
  refine Go.by (B := (s₁.setTop (mkF m 8 #[.val (.ref b1), .val (.int 2)] [(.int 0)]))) (fun _ k => XS.isub X0.here hx rfl (hb hby d12_3) rfl (XS.bipush X0.here hx rfl (hb hby d12_4) (XS.iushr X0.here hx rfl (hb hby d12_6) rfl (XS.i2b X0.here hx rfl (hb hby d12_7) rfl k)))) ?_
  refine Go.ret X0 hx hlk (t := .byte) hret rfl (Or.inl ⟨rfl, by simp, _, rfl⟩) (hb hby d12_8) (by decide) (by decide) ?_
  rw [e0]
  exact ⟨rfl, N0, rfl⟩
theorem ef_rm_sV_2 (m : MethodId) (x0 : Addr) (x1 : Addr) : entryFrame m #[(.ref x0), (.ref x1), (.int 0), (.int 2), .null] 6 = mkF m 0 #[.val (.ref x0), .val (.ref x1), .val (.int 0), .val (.int 2), .val .null, .unset] [] := by first | (simp [entryFrame, mkF, argsToLocals, Value.category]; done) | rfl
theorem d9_0 : decode jdk_42_method_149_code 0 = .ok (.aload_n 0, 1) := by decide +kernel
theorem d9_1 : decode jdk_42_method_149_code 1 = .ok (.invokespecial 1, 3) := by decide +kernel
theorem d9_4 : decode jdk_42_method_149_code 4 = .ok (.iload_n 3, 1) := by decide +kernel
theorem d9_5 : decode jdk_42_method_149_code 5 = .ok (.ifCond .ne 22, 3) := by decide +kernel
theorem d9_27 : decode jdk_42_method_149_code 27 = .ok (.getstatic 38, 3) := by decide +kernel
theorem d9_30 : decode jdk_42_method_149_code 30 = .ok (.ifCond .eq 28, 3) := by decide +kernel
theorem d9_33 : decode jdk_42_method_149_code 33 = .ok (.aload_n 1, 1) := by decide +kernel
theorem d9_34 : decode jdk_42_method_149_code 34 = .ok (.iload_n 2, 1) := by decide +kernel
theorem d9_35 : decode jdk_42_method_149_code 35 = .ok (.iload_n 3, 1) := by decide +kernel
theorem d9_36 : decode jdk_42_method_149_code 36 = .ok (.invokestatic 177, 3) := by decide +kernel
theorem pd_1 : parseMethodDescriptor "([CII)[B" = some ⟨[(.array .char), .int, .int], some (.array .byte)⟩ := by decide +kernel
theorem d9_39 : decode jdk_42_method_149_code 39 = .ok (.astore 5, 2) := by decide +kernel
theorem d9_41 : decode jdk_42_method_149_code 41 = .ok (.aload_n 0, 1) := by decide +kernel
theorem d9_42 : decode jdk_42_method_149_code 42 = .ok (.aload 5, 2) := by decide +kernel
theorem d9_44 : decode jdk_42_method_149_code 44 = .ok (.iload_n 3, 1) := by decide +kernel
theorem d9_45 : decode jdk_42_method_149_code 45 = .ok (.invokestatic 47, 3) := by decide +kernel
theorem pd_2 : parseMethodDescriptor "([BI)B" = some ⟨[(.array .byte), .int], some .byte⟩ := by decide +kernel
theorem d9_48 : decode jdk_42_method_149_code 48 = .ok (.putfield 15, 3) := by decide +kernel
theorem d9_51 : decode jdk_42_method_149_code 51 = .ok (.aload_n 0, 1) := by decide +kernel
theorem d9_52 : decode jdk_42_method_149_code 52 = .ok (.aload 5, 2) := by decide +kernel
theorem d9_54 : decode jdk_42_method_149_code 54 = .ok (.putfield 9, 3) := by decide +kernel
theorem d9_57 : decode jdk_42_method_149_code 57 = .ok (.return_, 1) := by decide +kernel
theorem pn_java_lang_String : plainName "java/lang/String" = true := by first | (simp [plainName, overriddenIn]; done) | decide +kernel
def Q_rm_sV_2 (Z : State) (a1 : Addr) (v1 : Addr) (ka : ClassId) (c0 : Int32) (c1 : Int32) (cs : Int32) (h0 : Heap) (n0 : Nat) (v : Option Value) (h : Heap) (L : List Loc) : Prop := ∃ t : Addr, ∃ k : ClassId, v = none ∧ Fr n0 L ∧ Keep h0 h [a1] ∧ Exa Z h a1 "java/lang/String" ∧ Fld Z h a1 "java/lang/String" "value" "[B" (.ref t) ∧ Fld Z h a1 "java/lang/String" "coder" "B" (.int 0) ∧ Arv Z h t k .byte (2 : Int32) [(.int (nar .byte (c0.toInt8.toInt32))), (.int (nar .byte (c1.toInt8.toInt32)))] (.int 0) ∧ h0.size ≤ t
set_option maxRecDepth 65536 in
set_option maxHeartbeats 40000000 in
theorem rm_sV_2 (l : Launch) (Z : State) (a0 : Array Value) (hw : ∀ d ∈ tables_1, d.before a0 Z = true) (ws : List Jvm.Cond) (a1 : Addr) (v1 : Addr) (ka : ClassId) (c0 : Int32) (c1 : Int32) (cs : Int32) (h0 : Heap) (n0 : Nat) (Z0 : n0 ≤ h0.size) (pr0 : Old Z n0 h0) (pr1 : Sta Z Z.heap "java/lang/String" "COMPACT_STRINGS" "Z" (.int cs)) (hcs : ¬ (cs = (0 : Int32))) (pr3 : Exa Z h0 a1 "java/lang/String") (pr4 : Fld Z h0 a1 "java/lang/String" "value" "[B" .null) (pr5 : Fld Z h0 a1 "java/lang/String" "coder" "B" (.int 0)) (pr6 : n0 ≤ a1) (pr7 : Arv Z h0 v1 ka .char (2 : Int32) [(.int c0), (.int c1)] (.int 0)) (hc0 : ¬ ((255 : Int32) < c0)) (hc1 : ¬ ((255 : Int32) < c1)) :
    Met l Z (⟨"java/lang/String", "<init>", "([CIILjava/lang/Void;)V"⟩ : MethodName) jdk_42_method_149_code 6 none ws ({ frames := 2, cells := 1, slots := 2, locals := 35 } : Room) #[(.ref a1), (.ref v1), (.int 0), (.int 2), .null] h0 (Q_rm_sV_2 Z a1 v1 ka c0 c1 cs h0 n0) := by
  refine Met.enter (f0 := fun m => mkF m 0 #[.val (.ref a1), .val (.ref v1), .val (.int 0), .val (.int 2), .val .null, .unset] []) (plainFor_of_name pn_java_lang_String) (fun m => ef_rm_sV_2 m a1 v1) ?_
  intro p e s m below meth c s₁ hx hby hml hown hnm hret hlk hZ X0 e0
  have hown : s.vm.findClass "java/lang/String" = some m.cls := hown
  have hnm : meth.name = "<init>" := hnm
  have hml : c.maxLocals = 6 := hml
  have hby : c.code = jdk_42_method_149_code := hby
  have N0 := Fr.nil n0
  refine Go.by (B := (s₁.setTop (mkF m 1 #[.val (.ref a1), .val (.ref v1), .val (.int 0), .val (.int 2), .val .null, .unset] [(.ref a1)]))) (fun _ k => XS.aloadN X0.here hx rfl (hb hby d9_0) rfl rfl k) ?_
  obtain ⟨T17, X17, e17, st17⟩ := initO X0 hx hZ hown (wd hw 57 rfl) (wd hw 20 rfl) (wd hw 21 rfl) e0 (g := (mkF m 1 #[.val (.ref a1), .val (.ref v1), .val (.int 0), .val (.int 2), .val .null, .unset] [(.ref a1)])) rfl (by rw [hml]; rfl) rfl (hb hby d9_1) (by decide) (W := 0) (by show 2 * 0 + _ ≤ _; exact Nat.le_of_eq rfl) (by decide)
  refine Go.by (B := (T17.setTop (mkF m 4 #[.val (.ref a1), .val (.ref v1), .val (.int 0), .val (.int 2), .val .null, .unset] []))) st17 ?_
  refine Go.by (B := (T17.setTop (mkF m 27 #[.val (.ref a1), .val (.ref v1), .val (.int 0), .val (.int 2), .val .null, .unset] []))) (fun _ k => XS.iloadN X17.here hx rfl (hb hby d9_4) rfl (XS.ifYes X17.here hx rfl (pc0 := 5) (pc' := 27) rfl (hb hby d9_5) rfl ((if0 _ _).trans (feq (by decide : ¬ ((2 : Int32) = (0 : Int32)))).2) (by decide) (by decide) k)) ?_
  obtain ⟨T18, X18, e18, st18⟩ := getS2 X17 hx hZ hown (host := "") (Or.inl (wd hw 58 rfl)) Via.refl e17 (pr1.ext pr0.2) (g := (mkF m 27 #[.val (.ref a1), .val (.ref v1), .val (.int 0), .val (.int 2), .val .null, .unset] [])) rfl (hb hby d9_27)
  refine Go.by (B := (T18.setTop (mkF m 30 #[.val (.ref a1), .val (.ref v1), .val (.int 0), .val (.int 2), .val .null, .unset] [(.int cs)]))) st18 ?_
  refine Go.by (B := (T18.setTop (mkF m 36 #[.val (.ref a1), .val (.ref v1), .val (.int 0), .val (.int 2), .val .null, .unset] [(.int 2), (.int 0), (.ref v1)]))) (fun _ k => XS.ifNo X18.here hx rfl (hb hby d9_30) rfl ((if0 _ _).trans (feq hcs).1) (XS.aloadN X18.here hx rfl (hb hby d9_33) rfl rfl (XS.iloadN X18.here hx rfl (hb hby d9_34) rfl (XS.iloadN X18.here hx rfl (hb hby d9_35) rfl k)))) ?_
  obtain ⟨_, _, ⟨T19, L19, k19, n19⟩, -, X19, ⟨Lc19, hQ19, l19, y19, z19⟩, st19⟩ := Jvm.LawKit.callS X18 hx (y := (⟨"java/lang/StringUTF16", "compress", "([CII)[B"⟩ : MethodName)) hown (mvT hZ (wd hw 59 rfl)) (mvT hZ (wd hw 60 rfl)) (mvT hZ (wd hw 61 rfl)) (mvT hZ (wd hw 62 rfl)) (by decide) (backOf (W := 0) (rm_cmp3_2 l Z a0 hw [] v1 ka c0 c1 h0 n0 Z0 pr0 pr7 hc0 hc1) hZ (wd hw 62 rfl) (wd hw 61 rfl) (by decide) (by decide)) (g := (mkF m 36 #[.val (.ref a1), .val (.ref v1), .val (.int 0), .val (.int 2), .val .null, .unset] [(.int 2), (.int 0), (.ref v1)])) rfl (by rw [hml]; rfl) (argsL := [(.ref v1), (.int 0), (.int 2)]) (rest := []) (lenOf pd_1 rfl) rfl (by show 2 * 0 + _ ≤ _; exact Nat.le_of_eq rfl) (hb hby d9_36) (fun _ _ => ⟨rfl, e18, Nat.le_of_ble_eq_true rfl, Nat.le_of_ble_eq_true rfl⟩)
  dsimp only [Pt.U, Pt.locs, Pt.cells, Pt.slots] at X19 l19 y19 z19 st19 hQ19
  subst l19 y19 z19
  obtain ⟨b19, k19, rfl, Nq19, K19, p19_0, p19_1⟩ := hQ19
  have N19 := Fr.app N0 Nq19
  have O20 := pr0.keep K19 all0
  have Z20 : n0 ≤ T19.heap.size := Nat.le_trans Z0 K19.1
  have sz_b19 : h0.size ≤ b19 := p19_1
  refine Go.by (B := (T19.setTop (mkF m 39 #[.val (.ref a1), .val (.ref v1), .val (.int 0), .val (.int 2), .val .null, .unset] [(.ref b19)]))) (fun _ k => st19 _ k) ?_
  refine Go.by (B := (T19.setTop (mkF m 45 #[.val (.ref a1), .val (.ref v1), .val (.int 0), .val (.int 2), .val .null, .val (.ref b19)] [(.int 2), (.ref b19), (.ref a1)]))) (fun _ k => XS.astore X19.here hx rfl (hb hby d9_39) rfl rfl (l' := #[.val (.ref a1), .val (.ref v1), .val (.int 0), .val (.int 2), .val .null, .val (.ref b19)]) rfl (XS.aloadN X19.here hx rfl (hb hby d9_41) rfl rfl (XS.aload X19.here hx rfl (hb hby d9_42) rfl rfl (XS.iloadN X19.here hx rfl (hb hby d9_44) rfl k)))) ?_
  obtain ⟨_, _, ⟨T21, L21, k21, n21⟩, -, X21, ⟨Lc21, hQ21, l21, y21, z21⟩, st21⟩ := Jvm.LawKit.callS X19 hx (y := (⟨"java/lang/StringUTF16", "coderFromArrayLen", "([BI)B"⟩ : MethodName)) hown (mvT hZ (wd hw 67 rfl)) (mvT hZ (wd hw 68 rfl)) (mvT hZ (wd hw 61 rfl)) (mvT hZ (wd hw 69 rfl)) (by decide) (backOf (W := 1) (rm_cfal_2 l Z a0 hw [] b19 k19 c0 c1 T19.heap n0 Z20 p19_0) hZ (wd hw 69 rfl) (wd hw 61 rfl) (by decide) (by decide)) (g := (mkF m 45 #[.val (.ref a1), .val (.ref v1), .val (.int 0), .val (.int 2), .val .null, .val (.ref b19)] [(.int 2), (.ref b19), (.ref a1)])) rfl (by rw [hml]; rfl) (argsL := [(.ref b19), (.int 2)]) (rest := [(.ref a1)]) (lenOf pd_2 rfl) rfl (by show 2 * 0 + _ ≤ _; exact Nat.le_of_eq rfl) (hb hby d9_45) (fun _ _ => ⟨rfl, rfl, Nat.le_of_ble_eq_true rfl, Nat.le_of_ble_eq_true rfl⟩)
  dsimp only [Pt.U, Pt.locs, Pt.cells, Pt.slots] at X21 l21 y21 z21 st21 hQ21
  subst l21 y21 z21
  obtain ⟨rfl, Nq21, hh21⟩ := hQ21
  have N21 := Fr.app N19 Nq21
  refine Go.by (B := (T21.setTop (mkF m 48 #[.val (.ref a1), .val (.ref v1), .val (.int 0), .val (.int 2), .val .null, .val (.ref b19)] [(.int 0), (.ref a1)]))) (fun _ k => st21 _ k) ?_
  obtain ⟨T22, h22, X22, e22, W22, st22⟩ := putFN X21 hx hZ hown (wd hw 70 rfl) Via.refl hh21 (pr5.keep K19 nin0) (pr3.keep K19) (Or.inr ⟨(wd hw 71 rfl), rfl, hnm⟩) (wd hw 48 rfl) (ty := .byte) (v' := (.int 0)) (by decide) rfl rfl (g := (mkF m 48 #[.val (.ref a1), .val (.ref v1), .val (.int 0), .val (.int 2), .val .null, .val (.ref b19)] [(.int 0), (.ref a1)])) rfl rfl (hb hby d9_48)
  have N22 := Fr.snoc X22 N21 pr6
  have O23 := O20.wr W22 pr6
  have Z23 : n0 ≤ h22.size := Nat.le_trans Z20 (Keep.of_wr W22).1
  have F22 := (pr5.keep K19 nin0).same W22
  refine Go.by (B := (T22.setTop (mkF m 51 #[.val (.ref a1), .val (.ref v1), .val (.int 0), .val (.int 2), .val .null, .val (.ref b19)] []))) st22 ?_
  refine Go.by (B := (T22.setTop (mkF m 54 #[.val (.ref a1), .val (.ref v1), .val (.int 0), .val (.int 2), .val .null, .val (.ref b19)] [(.ref b19), (.ref a1)]))) (fun _ k => XS.aloadN X22.here hx rfl (hb hby d9_51) rfl rfl (XS.aload X22.here hx rfl (hb hby d9_52) rfl rfl k)) ?_
  have f24 := ((pr4.keep K19 nin0).other W22 (Or.inr (slot_ne (Or.inr (wd hw 73 rfl)) (Or.inr (wd hw 71 rfl)) (by decide) (t := (.array .byte)) (t' := .byte) (by decide) (by decide))))
  obtain ⟨T25, h25, X25, e25, W25, st25⟩ := putF X22 hx hZ hown (host := "") (Or.inl (wd hw 72 rfl)) Via.refl e22 f24 ((pr3.keep K19).wr W22) (Or.inr ⟨(wd hw 73 rfl), rfl, hnm⟩) (wd hw 48 rfl) (ty := (.array .byte)) (by decide) rfl rfl (g := (mkF m 54 #[.val (.ref a1), .val (.ref v1), .val (.int 0), .val (.int 2), .val .null, .val (.ref b19)] [(.ref b19), (.ref a1)])) rfl rfl (hb hby d9_54)
  have N25 := Fr.snoc X25 N22 pr6
  have O26 := O23.wr W25 pr6
  have Z26 : n0 ≤ h25.size := Nat.le_trans Z23 (Keep.of_wr W25).1
  have F25 := f24.same W25
  refine Go.by (B := (T25.setTop (mkF m 57 #[.val (.ref a1), .val (.ref v1), .val (.int 0), .val (.int 2), .val .null, .val (.ref b19)] []))) st25 ?_
  refine Go.retV X25 hx hlk hret (hb hby d9_57) (by decide) (by decide) ?_
  rw [e25]
  exact ⟨b19, k19, rfl, N25, ((((Keep.refl h0 [a1]).trans K19 all0).wr W22 (Or.inl (List.mem_of_getElem? (i := 0) rfl))).wr W25 (Or.inl (List.mem_of_getElem? (i := 0) rfl))), (((pr3.keep K19).wr W22).wr W25), F25, (F22.other W25 (Or.inr (slot_ne (Or.inr (wd hw 71 rfl)) (Or.inr (wd hw 73 rfl)) (by decide) (t := .byte) (t' := (.array .byte)) (by decide) (by decide)))), ((p19_0.other W22 (Ne.symm (Nat.ne_of_lt (Nat.lt_of_lt_of_le pr3.lt sz_b19)))).other W25 (Ne.symm (Nat.ne_of_lt (Nat.lt_of_lt_of_le pr3.lt sz_b19)))), (Nat.le_trans (Nat.le_refl _) sz_b19)⟩
theorem ef_rm_sC_2 (m : MethodId) (x0 : Addr) (x1 : Addr) : entryFrame m #[(.ref x0), (.ref x1)] 2 = mkF m 0 #[.val (.ref x0), .val (.ref x1)] [] := by first | (simp [entryFrame, mkF, argsToLocals, Value.category]; done) | rfl
theorem d8_0 : decode jdk_42_method_3_code 0 = .ok (.aload_n 0, 1) := by decide +kernel
theorem d8_1 : decode jdk_42_method_3_code 1 = .ok (.aload_n 1, 1) := by decide +kernel
theorem d8_2 : decode jdk_42_method_3_code 2 = .ok (.iconst 0, 1) := by decide +kernel
theorem d8_3 : decode jdk_42_method_3_code 3 = .ok (.aload_n 1, 1) := by decide +kernel
theorem d8_4 : decode jdk_42_method_3_code 4 = .ok (.arraylength, 1) := by decide +kernel
theorem d8_5 : decode jdk_42_method_3_code 5 = .ok (.aconst_null, 1) := by decide +kernel
theorem d8_6 : decode jdk_42_method_3_code 6 = .ok (.invokespecial 27, 3) := by decide +kernel
theorem pd_3 : parseMethodDescriptor "([CIILjava/lang/Void;)V" = some ⟨[(.array .char), .int, .int, (.object "java/lang/Void")], none⟩ := by decide +kernel
theorem d8_9 : decode jdk_42_method_3_code 9 = .ok (.return_, 1) := by decide +kernel
def Q_rm_sC_2 (Z : State) (a1 : Addr) (v1 : Addr) (ka : ClassId) (c0 : Int32) (c1 : Int32) (cs : Int32) (h0 : Heap) (n0 : Nat) (v : Option Value) (h : Heap) (L : List Loc) : Prop := ∃ t : Addr, ∃ k : ClassId, v = none ∧ Fr n0 L ∧ Keep h0 h [a1] ∧ Exa Z h a1 "java/lang/String" ∧ Fld Z h a1 "java/lang/String" "value" "[B" (.ref t) ∧ Fld Z h a1 "java/lang/String" "coder" "B" (.int 0) ∧ Arv Z h t k .byte (2 : Int32) [(.int (nar .byte (c0.toInt8.toInt32))), (.int (nar .byte (c1.toInt8.toInt32)))] (.int 0) ∧ h0.size ≤ t
set_option maxRecDepth 65536 in
set_option maxHeartbeats 40000000 in
theorem rm_sC_2 (l : Launch) (Z : State) (a0 : Array Value) (hw : ∀ d ∈ tables_1, d.before a0 Z = true) (ws : List Jvm.Cond) (a1 : Addr) (v1 : Addr) (ka : ClassId) (c0 : Int32) (c1 : Int32) (cs : Int32) (h0 : Heap) (n0 : Nat) (Z0 : n0 ≤ h0.size) (pr0 : Old Z n0 h0) (pr1 : Sta Z Z.heap "java/lang/String" "COMPACT_STRINGS" "Z" (.int cs)) (hcs : ¬ (cs = (0 : Int32))) (pr3 : Exa Z h0 a1 "java/lang/String") (pr4 : Fld Z h0 a1 "java/lang/String" "value" "[B" .null) (pr5 : Fld Z h0 a1 "java/lang/String" "coder" "B" (.int 0)) (pr6 : n0 ≤ a1) (pr7 : Arv Z h0 v1 ka .char (2 : Int32) [(.int c0), (.int c1)] (.int 0)) (hc0 : ¬ ((255 : Int32) < c0)) (hc1 : ¬ ((255 : Int32) < c1)) :
    Met l Z (⟨"java/lang/String", "<init>", "([C)V"⟩ : MethodName) jdk_42_method_3_code 2 none ws ({ frames := 3, cells := 1, slots := 2, locals := 52 } : Room) #[(.ref a1), (.ref v1)] h0 (Q_rm_sC_2 Z a1 v1 ka c0 c1 cs h0 n0) := by
  refine Met.enter (f0 := fun m => mkF m 0 #[.val (.ref a1), .val (.ref v1)] []) (plainFor_of_name pn_java_lang_String) (fun m => ef_rm_sC_2 m a1 v1) ?_
  intro p e s m below meth c s₁ hx hby hml hown hnm hret hlk hZ X0 e0
  have hown : s.vm.findClass "java/lang/String" = some m.cls := hown
  have hnm : meth.name = "<init>" := hnm
  have hml : c.maxLocals = 2 := hml
  have hby : c.code = jdk_42_method_3_code := hby
  have N0 := Fr.nil n0
  refine Go.by (B := (s₁.setTop (mkF m 4 #[.val (.ref a1), .val (.ref v1)] [(.ref v1), (.int 0), (.ref v1), (.ref a1)]))) (fun _ k => XS.aloadN X0.here hx rfl (hb hby d8_0) rfl rfl (XS.aloadN X0.here hx rfl (hb hby d8_1) rfl rfl (XS.iconst X0.here hx rfl (hb hby d8_2) (XS.aloadN X0.here hx rfl (hb hby d8_3) rfl rfl k)))) ?_
  obtain ⟨cl27, Ar27, q27, S27, N_27, Hs27, G27⟩ := id pr7
  refine Go.by (B := (s₁.setTop (mkF m 5 #[.val (.ref a1), .val (.ref v1)] [(.int 2), (.int 0), (.ref v1), (.ref a1)]))) (fun _ k => X0.arraylength hx (by rw [e0]; exact Ar27.1) (State.isArrayOf_alike hZ.alike Ar27.2.1) (g := (mkF m 4 #[.val (.ref a1), .val (.ref v1)] [(.ref v1), (.int 0), (.ref v1), (.ref a1)])) rfl rfl (hb hby d8_4) _ (by rw [len_of S27 N_27]; exact k)) ?_
  refine Go.by (B := (s₁.setTop (mkF m 6 #[.val (.ref a1), .val (.ref v1)] [.null, (.int 2), (.int 0), (.ref v1), (.ref a1)]))) (fun _ k => XS.aconstNull X0.here hx rfl (hb hby d8_5) k) ?_
  obtain ⟨_, _, ⟨T28, L28, k28, n28⟩, -, X28, ⟨Lc28, hQ28, l28, y28, z28⟩, st28⟩ := X0.specialBack hx (y := (⟨"java/lang/String", "<init>", "([CIILjava/lang/Void;)V"⟩ : MethodName)) rfl hown (mvT hZ (wd hw 53 rfl)) (mvT hZ (wd hw 54 rfl)) (mvT hZ (wd hw 56 rfl)) (by decide) (backOf (W := 0) (rm_sV_2 l Z a0 hw [] a1 v1 ka c0 c1 cs h0 n0 Z0 pr0 pr1 hcs pr3 pr4 pr5 pr6 pr7 hc0 hc1) hZ (wd hw 56 rfl) (wd hw 49 rfl) (by decide) (by decide)) (g := (mkF m 6 #[.val (.ref a1), .val (.ref v1)] [.null, (.int 2), (.int 0), (.ref v1), (.ref a1)])) rfl (by rw [hml]; rfl) (Steps.refl _) (a := a1) (argsL := [(.ref v1), (.int 0), (.int 2), .null]) (rest := []) (lenOf pd_3 rfl) rfl (by show 2 * 0 + _ ≤ _; exact Nat.le_of_eq rfl) (hb hby d8_6) (fun _ _ => ⟨rfl, e0, Nat.le_of_ble_eq_true rfl, Nat.le_of_ble_eq_true rfl⟩)
  dsimp only [Pt.U, Pt.locs, Pt.cells, Pt.slots] at X28 l28 y28 z28 st28 hQ28
  subst l28 y28 z28
  obtain ⟨t28, k28, rfl, Nq28, K28, p28_0, p28_1, p28_2, p28_3, p28_4⟩ := hQ28
  have N28 := Fr.app N0 Nq28
  have O29 := pr0.keep K28 (allS pr6 all0)
  have Z29 : n0 ≤ T28.heap.size := Nat.le_trans Z0 K28.1
  have sz_t28 : h0.size ≤ t28 := p28_4
  refine Go.by (B := (T28.setTop (mkF m 9 #[.val (.ref a1), .val (.ref v1)] []))) (fun _ k => st28.trans k) ?_
  refine Go.retV X28 hx hlk hret (hb hby d8_9) (by decide) (by decide) ?_
  exact ⟨t28, k28, rfl, N28, ((Keep.refl h0 [a1]).trans K28 (allS (Or.inl (List.mem_of_getElem? (i := 0) rfl)) all0)), p28_0, p28_1, p28_2, p28_3, (Nat.le_trans (Nat.le_refl _) sz_t28)⟩
theorem ef_rm_status (m : MethodId) (x0 : Int32) : entryFrame m #[(.int x0)] 1 = mkF m 0 #[.val (.int x0)] [] := by first | (simp [entryFrame, mkF, argsToLocals, Value.category]; done) | rfl
theorem d1_0 : decode method_3_code 0 = .ok (.iload_n 0, 1) := by decide +kernel
theorem d1_1 : decode method_3_code 1 = .ok (.ifCond .ne 7, 3) := by decide +kernel
theorem d1_4 : decode method_3_code 4 = .ok (.getstatic 36, 3) := by decide +kernel
theorem d1_7 : decode method_3_code 7 = .ok (.areturn, 1) := by decide +kernel
theorem d1_8 : decode method_3_code 8 = .ok (.iload_n 0, 1) := by decide +kernel
theorem d1_9 : decode method_3_code 9 = .ok (.iconst 1, 1) := by decide +kernel
theorem d1_10 : decode method_3_code 10 = .ok (.if_icmp .ne 7, 3) := by decide +kernel
theorem d1_13 : decode method_3_code 13 = .ok (.getstatic 42, 3) := by decide +kernel
theorem d1_16 : decode method_3_code 16 = .ok (.areturn, 1) := by decide +kernel
theorem d1_17 : decode method_3_code 17 = .ok (.iload_n 0, 1) := by decide +kernel
theorem d1_18 : decode method_3_code 18 = .ok (.iconst 2, 1) := by decide +kernel
theorem d1_19 : decode method_3_code 19 = .ok (.if_icmp .ne 7, 3) := by decide +kernel
theorem d1_22 : decode method_3_code 22 = .ok (.getstatic 45, 3) := by decide +kernel
theorem d1_25 : decode method_3_code 25 = .ok (.areturn, 1) := by decide +kernel
theorem d1_26 : decode method_3_code 26 = .ok (.getstatic 48, 3) := by decide +kernel
theorem d1_29 : decode method_3_code 29 = .ok (.areturn, 1) := by decide +kernel
theorem pn_com_example_pland_pland_billing_ChargeMadePinLaw : plainName "com/example/pland/pland/billing/ChargeMadePinLaw" = true := by first | (simp [plainName, overriddenIn]; done) | decide +kernel
def Q_rm_status (Z : State) (p1 : Int32) (w0 : Addr) (w1 : Addr) (w2 : Addr) (w3 : Addr) (h0 : Heap) (n0 : Nat) (v : Option Value) (h : Heap) (L : List Loc) : Prop := ∃ o : Addr, v = some (.ref o) ∧ Fr n0 L ∧ h = h0
set_option maxRecDepth 65536 in
set_option maxHeartbeats 40000000 in
theorem rm_status (l : Launch) (Z : State) (a0 : Array Value) (hw : ∀ d ∈ tables_1, d.before a0 Z = true) (ws : List Jvm.Cond) (p1 : Int32) (w0 : Addr) (w1 : Addr) (w2 : Addr) (w3 : Addr) (h0 : Heap) (n0 : Nat) (Z0 : n0 ≤ h0.size) (pr0 : Old Z n0 h0) (pr1 : Sta Z Z.heap "com/example/pland/pland/payment/ChargeResult$Status" "SUCCEEDED" "Lcom/example/pland/pland/payment/ChargeResult$Status;" (.ref w0)) (pr2 : Sta Z Z.heap "com/example/pland/pland/payment/ChargeResult$Status" "DECLINED" "Lcom/example/pland/pland/payment/ChargeResult$Status;" (.ref w1)) (pr3 : Sta Z Z.heap "com/example/pland/pland/payment/ChargeResult$Status" "REQUIRES_AUTHENTICATION" "Lcom/example/pland/pland/payment/ChargeResult$Status;" (.ref w2)) (pr4 : Sta Z Z.heap "com/example/pland/pland/payment/ChargeResult$Status" "FAILED" "Lcom/example/pland/pland/payment/ChargeResult$Status;" (.ref w3)) :
    Met l Z (⟨"com/example/pland/pland/billing/ChargeMadePinLaw", "status", "(I)Lcom/example/pland/pland/payment/ChargeResult$Status;"⟩ : MethodName) method_3_code 1 (some (.object "com/example/pland/pland/payment/ChargeResult$Status")) ws ({ frames := 0, cells := 0, slots := 0, locals := 0 } : Room) #[(.int p1)] h0 (Q_rm_status Z p1 w0 w1 w2 w3 h0 n0) := by
  refine Met.enter (f0 := fun m => mkF m 0 #[.val (.int p1)] []) (plainFor_of_name pn_com_example_pland_pland_billing_ChargeMadePinLaw) (fun m => ef_rm_status m p1) ?_
  intro p e s m below meth c s₁ hx hby hml hown hnm hret hlk hZ X0 e0
  have hown : s.vm.findClass "com/example/pland/pland/billing/ChargeMadePinLaw" = some m.cls := hown
  have hnm : meth.name = "status" := hnm
  have hml : c.maxLocals = 1 := hml
  have hby : c.code = method_3_code := hby
  have N0 := Fr.nil n0
  refine Go.by (B := (s₁.setTop (mkF m 1 #[.val (.int p1)] [(.int p1)]))) (fun _ k => XS.iloadN X0.here hx rfl (hb hby d1_0) rfl k) ?_
  by_cases c30 : p1 = (0 : Int32)
  · skip
    refine Go.by (B := (s₁.setTop (mkF m 4 #[.val (.int p1)] []))) (fun _ k => XS.ifNo X0.here hx rfl (hb hby d1_1) rfl ((if0 _ _).trans (teq c30).2) k) ?_
    obtain ⟨T31, X31, e31, st31⟩ := getS2 X0 hx hZ hown (host := "") (Or.inl (wd hw 5 rfl)) Via.refl e0 (pr1.ext pr0.2) (g := (mkF m 4 #[.val (.int p1)] [])) rfl (hb hby d1_4)
    refine Go.by (B := (T31.setTop (mkF m 7 #[.val (.int p1)] [(.ref w0)]))) st31 ?_
    refine Go.ret X31 hx hlk (t := (.object "com/example/pland/pland/payment/ChargeResult$Status")) hret rfl (Or.inr (Or.inr (Or.inr (Or.inr ⟨rfl, rfl, rfl⟩)))) (hb hby d1_7) (by decide) (by decide) ?_
    rw [e31]
    exact ⟨w0, rfl, N0, rfl⟩
  · skip
    refine Go.by (B := (s₁.setTop (mkF m 10 #[.val (.int p1)] [(.int 1), (.int p1)]))) (fun _ k => XS.ifYes X0.here hx rfl (pc0 := 1) (pc' := 8) rfl (hb hby d1_1) rfl ((if0 _ _).trans (feq c30).2) (by decide) (by decide) (XS.iloadN X0.here hx rfl (hb hby d1_8) rfl (XS.iconst X0.here hx rfl (hb hby d1_9) k))) ?_
    by_cases c32 : p1 = (1 : Int32)
    · skip
      refine Go.by (B := (s₁.setTop (mkF m 13 #[.val (.int p1)] []))) (fun _ k => XS.icmpNo X0.here hx rfl (hb hby d1_10) rfl (teq c32).2 k) ?_
      obtain ⟨T33, X33, e33, st33⟩ := getS2 X0 hx hZ hown (host := "") (Or.inl (wd hw 74 rfl)) Via.refl e0 (pr2.ext pr0.2) (g := (mkF m 13 #[.val (.int p1)] [])) rfl (hb hby d1_13)
      refine Go.by (B := (T33.setTop (mkF m 16 #[.val (.int p1)] [(.ref w1)]))) st33 ?_
      refine Go.ret X33 hx hlk (t := (.object "com/example/pland/pland/payment/ChargeResult$Status")) hret rfl (Or.inr (Or.inr (Or.inr (Or.inr ⟨rfl, rfl, rfl⟩)))) (hb hby d1_16) (by decide) (by decide) ?_
      rw [e33]
      exact ⟨w1, rfl, N0, rfl⟩
    · skip
      refine Go.by (B := (s₁.setTop (mkF m 19 #[.val (.int p1)] [(.int 2), (.int p1)]))) (fun _ k => XS.icmpYes X0.here hx rfl (pc0 := 10) (pc' := 17) rfl (hb hby d1_10) rfl (feq c32).2 (by decide) (by decide) (XS.iloadN X0.here hx rfl (hb hby d1_17) rfl (XS.iconst X0.here hx rfl (hb hby d1_18) k))) ?_
      by_cases c34 : p1 = (2 : Int32)
      · skip
        refine Go.by (B := (s₁.setTop (mkF m 22 #[.val (.int p1)] []))) (fun _ k => XS.icmpNo X0.here hx rfl (hb hby d1_19) rfl (teq c34).2 k) ?_
        obtain ⟨T35, X35, e35, st35⟩ := getS2 X0 hx hZ hown (host := "") (Or.inl (wd hw 76 rfl)) Via.refl e0 (pr3.ext pr0.2) (g := (mkF m 22 #[.val (.int p1)] [])) rfl (hb hby d1_22)
        refine Go.by (B := (T35.setTop (mkF m 25 #[.val (.int p1)] [(.ref w2)]))) st35 ?_
        refine Go.ret X35 hx hlk (t := (.object "com/example/pland/pland/payment/ChargeResult$Status")) hret rfl (Or.inr (Or.inr (Or.inr (Or.inr ⟨rfl, rfl, rfl⟩)))) (hb hby d1_25) (by decide) (by decide) ?_
        rw [e35]
        exact ⟨w2, rfl, N0, rfl⟩
      · skip
        refine Go.by (B := (s₁.setTop (mkF m 26 #[.val (.int p1)] []))) (fun _ k => XS.icmpYes X0.here hx rfl (pc0 := 19) (pc' := 26) rfl (hb hby d1_19) rfl (feq c34).2 (by decide) (by decide) k) ?_
        obtain ⟨T36, X36, e36, st36⟩ := getS2 X0 hx hZ hown (host := "") (Or.inl (wd hw 78 rfl)) Via.refl e0 (pr4.ext pr0.2) (g := (mkF m 26 #[.val (.int p1)] [])) rfl (hb hby d1_26)
        refine Go.by (B := (T36.setTop (mkF m 29 #[.val (.int p1)] [(.ref w3)]))) st36 ?_
        refine Go.ret X36 hx hlk (t := (.object "com/example/pland/pland/payment/ChargeResult$Status")) hret rfl (Or.inr (Or.inr (Or.inr (Or.inr ⟨rfl, rfl, rfl⟩)))) (hb hby d1_29) (by decide) (by decide) ?_
        rw [e36]
        exact ⟨w3, rfl, N0, rfl⟩
theorem ef_rm_cr0 (m : MethodId) (x0 : Addr) (x1 : Addr) (x2 : Addr) : entryFrame m #[(.ref x0), (.ref x1), (.ref x2)] 3 = mkF m 0 #[.val (.ref x0), .val (.ref x1), .val (.ref x2)] [] := by first | (simp [entryFrame, mkF, argsToLocals, Value.category]; done) | rfl
theorem d7_0 : decode prog_37_method_1_code 0 = .ok (.aload_n 0, 1) := by decide +kernel
theorem d7_1 : decode prog_37_method_1_code 1 = .ok (.invokespecial 1, 3) := by decide +kernel
theorem pd_4 : parseMethodDescriptor "()V" = some ⟨[], none⟩ := by decide +kernel
theorem d7_4 : decode prog_37_method_1_code 4 = .ok (.aload_n 0, 1) := by decide +kernel
theorem d7_5 : decode prog_37_method_1_code 5 = .ok (.aload_n 1, 1) := by decide +kernel
theorem d7_6 : decode prog_37_method_1_code 6 = .ok (.putfield 7, 3) := by decide +kernel
theorem d7_9 : decode prog_37_method_1_code 9 = .ok (.aload_n 0, 1) := by decide +kernel
theorem d7_10 : decode prog_37_method_1_code 10 = .ok (.aload_n 2, 1) := by decide +kernel
theorem d7_11 : decode prog_37_method_1_code 11 = .ok (.putfield 13, 3) := by decide +kernel
theorem d7_14 : decode prog_37_method_1_code 14 = .ok (.return_, 1) := by decide +kernel
theorem pn_com_example_pland_pland_payment_ChargeResult : plainName "com/example/pland/pland/payment/ChargeResult" = true := by first | (simp [plainName, overriddenIn]; done) | decide +kernel
def Q_rm_cr0 (Z : State) (a1 : Addr) (x1 : Addr) (x2 : Addr) (h0 : Heap) (n0 : Nat) (v : Option Value) (h : Heap) (L : List Loc) : Prop := v = none ∧ Fr n0 L ∧ Keep h0 h [a1] ∧ Exa Z h a1 "com/example/pland/pland/payment/ChargeResult" ∧ Fld Z h a1 "com/example/pland/pland/payment/ChargeResult" "status" "Lcom/example/pland/pland/payment/ChargeResult$Status;" (.ref x1) ∧ Fld Z h a1 "com/example/pland/pland/payment/ChargeResult" "declineCode" "Ljava/lang/String;" (.ref x2)
set_option maxRecDepth 65536 in
set_option maxHeartbeats 40000000 in
theorem rm_cr0 (l : Launch) (Z : State) (a0 : Array Value) (hw : ∀ d ∈ tables_1, d.before a0 Z = true) (ws : List Jvm.Cond) (a1 : Addr) (x1 : Addr) (x2 : Addr) (h0 : Heap) (n0 : Nat) (Z0 : n0 ≤ h0.size) (pr0 : Old Z n0 h0) (pr1 : Exa Z h0 a1 "com/example/pland/pland/payment/ChargeResult") (pr2 : Fld Z h0 a1 "com/example/pland/pland/payment/ChargeResult" "status" "Lcom/example/pland/pland/payment/ChargeResult$Status;" .null) (pr3 : Fld Z h0 a1 "com/example/pland/pland/payment/ChargeResult" "declineCode" "Ljava/lang/String;" .null) (pr4 : n0 ≤ a1) :
    Met l Z (⟨"com/example/pland/pland/payment/ChargeResult", "<init>", "(Lcom/example/pland/pland/payment/ChargeResult$Status;Ljava/lang/String;)V"⟩ : MethodName) prog_37_method_1_code 3 none ws ({ frames := 2, cells := 0, slots := 0, locals := 24 } : Room) #[(.ref a1), (.ref x1), (.ref x2)] h0 (Q_rm_cr0 Z a1 x1 x2 h0 n0) := by
  refine Met.enter (f0 := fun m => mkF m 0 #[.val (.ref a1), .val (.ref x1), .val (.ref x2)] []) (plainFor_of_name pn_com_example_pland_pland_payment_ChargeResult) (fun m => ef_rm_cr0 m a1 x1 x2) ?_
  intro p e s m below meth c s₁ hx hby hml hown hnm hret hlk hZ X0 e0
  have hown : s.vm.findClass "com/example/pland/pland/payment/ChargeResult" = some m.cls := hown
  have hnm : meth.name = "<init>" := hnm
  have hml : c.maxLocals = 3 := hml
  have hby : c.code = prog_37_method_1_code := hby
  have N0 := Fr.nil n0
  refine Go.by (B := (s₁.setTop (mkF m 1 #[.val (.ref a1), .val (.ref x1), .val (.ref x2)] [(.ref a1)]))) (fun _ k => XS.aloadN X0.here hx rfl (hb hby d7_0) rfl rfl k) ?_
  obtain ⟨_, _, ⟨T37, L37, k37, n37⟩, -, X37, ⟨Lc37, hQ37, l37, y37, z37⟩, st37⟩ := X0.specialBack hx (y := (⟨"java/lang/Record", "<init>", "()V"⟩ : MethodName)) rfl hown (mvT hZ (wd hw 42 rfl)) (mvT hZ (wd hw 15 rfl)) (mvT hZ (wd hw 18 rfl)) (by decide) (backOf (W := 0) (rm_Record_init l Z a0 hw [] a1 h0 n0 Z0 ) hZ (wd hw 18 rfl) (wd hw 17 rfl) (by decide) (by decide)) (g := (mkF m 1 #[.val (.ref a1), .val (.ref x1), .val (.ref x2)] [(.ref a1)])) rfl (by rw [hml]; rfl) (Steps.refl _) (a := a1) (argsL := []) (rest := []) (lenOf pd_4 rfl) rfl (by show 2 * 0 + _ ≤ _; exact Nat.le_of_eq rfl) (hb hby d7_1) (fun _ _ => ⟨rfl, e0, Nat.le_of_ble_eq_true rfl, Nat.le_of_ble_eq_true rfl⟩)
  dsimp only [Pt.U, Pt.locs, Pt.cells, Pt.slots] at X37 l37 y37 z37 st37 hQ37
  subst l37 y37 z37
  obtain ⟨rfl, Nq37, hh37⟩ := hQ37
  have N37 := Fr.app N0 Nq37
  refine Go.by (B := (T37.setTop (mkF m 4 #[.val (.ref a1), .val (.ref x1), .val (.ref x2)] []))) (fun _ k => st37.trans k) ?_
  refine Go.by (B := (T37.setTop (mkF m 6 #[.val (.ref a1), .val (.ref x1), .val (.ref x2)] [(.ref x1), (.ref a1)]))) (fun _ k => XS.aloadN X37.here hx rfl (hb hby d7_4) rfl rfl (XS.aloadN X37.here hx rfl (hb hby d7_5) rfl rfl k)) ?_
  obtain ⟨T38, h38, X38, e38, W38, st38⟩ := putF X37 hx hZ hown (host := "") (Or.inl (wd hw 43 rfl)) Via.refl hh37 pr2 pr1 (Or.inr ⟨(wd hw 44 rfl), rfl, hnm⟩) (wd hw 37 rfl) (ty := (.object "com/example/pland/pland/payment/ChargeResult$Status")) (by decide) rfl rfl (g := (mkF m 6 #[.val (.ref a1), .val (.ref x1), .val (.ref x2)] [(.ref x1), (.ref a1)])) rfl rfl (hb hby d7_6)
  have N38 := Fr.snoc X38 N37 pr4
  have O39 := pr0.wr W38 pr4
  have Z39 : n0 ≤ h38.size := Nat.le_trans Z0 (Keep.of_wr W38).1
  have F38 := pr2.same W38
  refine Go.by (B := (T38.setTop (mkF m 9 #[.val (.ref a1), .val (.ref x1), .val (.ref x2)] []))) st38 ?_
  refine Go.by (B := (T38.setTop (mkF m 11 #[.val (.ref a1), .val (.ref x1), .val (.ref x2)] [(.ref x2), (.ref a1)]))) (fun _ k => XS.aloadN X38.here hx rfl (hb hby d7_9) rfl rfl (XS.aloadN X38.here hx rfl (hb hby d7_10) rfl rfl k)) ?_
  have f40 := (pr3.other W38 (Or.inr (slot_ne (Or.inr (wd hw 46 rfl)) (Or.inr (wd hw 44 rfl)) (by decide) (t := (.object "java/lang/String")) (t' := (.object "com/example/pland/pland/payment/ChargeResult$Status")) (by decide) (by decide))))
  obtain ⟨T41, h41, X41, e41, W41, st41⟩ := putF X38 hx hZ hown (host := "") (Or.inl (wd hw 45 rfl)) Via.refl e38 f40 (pr1.wr W38) (Or.inr ⟨(wd hw 46 rfl), rfl, hnm⟩) (wd hw 37 rfl) (ty := (.object "java/lang/String")) (by decide) rfl rfl (g := (mkF m 11 #[.val (.ref a1), .val (.ref x1), .val (.ref x2)] [(.ref x2), (.ref a1)])) rfl rfl (hb hby d7_11)
  have N41 := Fr.snoc X41 N38 pr4
  have O42 := O39.wr W41 pr4
  have Z42 : n0 ≤ h41.size := Nat.le_trans Z39 (Keep.of_wr W41).1
  have F41 := f40.same W41
  refine Go.by (B := (T41.setTop (mkF m 14 #[.val (.ref a1), .val (.ref x1), .val (.ref x2)] []))) st41 ?_
  refine Go.retV X41 hx hlk hret (hb hby d7_14) (by decide) (by decide) ?_
  rw [e41]
  exact ⟨rfl, N41, (((Keep.refl h0 [a1]).wr W38 (Or.inl (List.mem_of_getElem? (i := 0) rfl))).wr W41 (Or.inl (List.mem_of_getElem? (i := 0) rfl))), ((pr1.wr W38).wr W41), (F38.other W41 (Or.inr (slot_ne (Or.inr (wd hw 44 rfl)) (Or.inr (wd hw 46 rfl)) (by decide) (t := (.object "com/example/pland/pland/payment/ChargeResult$Status")) (t' := (.object "java/lang/String")) (by decide) (by decide)))), F41⟩
theorem ef_rm_cr1 (m : MethodId) (x0 : Addr) (x1 : Addr) : entryFrame m #[(.ref x0), (.ref x1), .null] 3 = mkF m 0 #[.val (.ref x0), .val (.ref x1), .val .null] [] := by first | (simp [entryFrame, mkF, argsToLocals, Value.category]; done) | rfl
def Q_rm_cr1 (Z : State) (a1 : Addr) (x1 : Addr) (h0 : Heap) (n0 : Nat) (v : Option Value) (h : Heap) (L : List Loc) : Prop := v = none ∧ Fr n0 L ∧ Keep h0 h [a1] ∧ Exa Z h a1 "com/example/pland/pland/payment/ChargeResult" ∧ Fld Z h a1 "com/example/pland/pland/payment/ChargeResult" "status" "Lcom/example/pland/pland/payment/ChargeResult$Status;" (.ref x1) ∧ Fld Z h a1 "com/example/pland/pland/payment/ChargeResult" "declineCode" "Ljava/lang/String;" .null
set_option maxRecDepth 65536 in
set_option maxHeartbeats 40000000 in
theorem rm_cr1 (l : Launch) (Z : State) (a0 : Array Value) (hw : ∀ d ∈ tables_1, d.before a0 Z = true) (ws : List Jvm.Cond) (a1 : Addr) (x1 : Addr) (h0 : Heap) (n0 : Nat) (Z0 : n0 ≤ h0.size) (pr0 : Old Z n0 h0) (pr1 : Exa Z h0 a1 "com/example/pland/pland/payment/ChargeResult") (pr2 : Fld Z h0 a1 "com/example/pland/pland/payment/ChargeResult" "status" "Lcom/example/pland/pland/payment/ChargeResult$Status;" .null) (pr3 : Fld Z h0 a1 "com/example/pland/pland/payment/ChargeResult" "declineCode" "Ljava/lang/String;" .null) (pr4 : n0 ≤ a1) :
    Met l Z (⟨"com/example/pland/pland/payment/ChargeResult", "<init>", "(Lcom/example/pland/pland/payment/ChargeResult$Status;Ljava/lang/String;)V"⟩ : MethodName) prog_37_method_1_code 3 none ws ({ frames := 2, cells := 0, slots := 0, locals := 24 } : Room) #[(.ref a1), (.ref x1), .null] h0 (Q_rm_cr1 Z a1 x1 h0 n0) := by
  refine Met.enter (f0 := fun m => mkF m 0 #[.val (.ref a1), .val (.ref x1), .val .null] []) (plainFor_of_name pn_com_example_pland_pland_payment_ChargeResult) (fun m => ef_rm_cr1 m a1 x1) ?_
  intro p e s m below meth c s₁ hx hby hml hown hnm hret hlk hZ X0 e0
  have hown : s.vm.findClass "com/example/pland/pland/payment/ChargeResult" = some m.cls := hown
  have hnm : meth.name = "<init>" := hnm
  have hml : c.maxLocals = 3 := hml
  have hby : c.code = prog_37_method_1_code := hby
  have N0 := Fr.nil n0
  refine Go.by (B := (s₁.setTop (mkF m 1 #[.val (.ref a1), .val (.ref x1), .val .null] [(.ref a1)]))) (fun _ k => XS.aloadN X0.here hx rfl (hb hby d7_0) rfl rfl k) ?_
  obtain ⟨_, _, ⟨T43, L43, k43, n43⟩, -, X43, ⟨Lc43, hQ43, l43, y43, z43⟩, st43⟩ := X0.specialBack hx (y := (⟨"java/lang/Record", "<init>", "()V"⟩ : MethodName)) rfl hown (mvT hZ (wd hw 42 rfl)) (mvT hZ (wd hw 15 rfl)) (mvT hZ (wd hw 18 rfl)) (by decide) (backOf (W := 0) (rm_Record_init l Z a0 hw [] a1 h0 n0 Z0 ) hZ (wd hw 18 rfl) (wd hw 17 rfl) (by decide) (by decide)) (g := (mkF m 1 #[.val (.ref a1), .val (.ref x1), .val .null] [(.ref a1)])) rfl (by rw [hml]; rfl) (Steps.refl _) (a := a1) (argsL := []) (rest := []) (lenOf pd_4 rfl) rfl (by show 2 * 0 + _ ≤ _; exact Nat.le_of_eq rfl) (hb hby d7_1) (fun _ _ => ⟨rfl, e0, Nat.le_of_ble_eq_true rfl, Nat.le_of_ble_eq_true rfl⟩)
  dsimp only [Pt.U, Pt.locs, Pt.cells, Pt.slots] at X43 l43 y43 z43 st43 hQ43
  subst l43 y43 z43
  obtain ⟨rfl, Nq43, hh43⟩ := hQ43
  have N43 := Fr.app N0 Nq43
  refine Go.by (B := (T43.setTop (mkF m 4 #[.val (.ref a1), .val (.ref x1), .val .null] []))) (fun _ k => st43.trans k) ?_
  refine Go.by (B := (T43.setTop (mkF m 6 #[.val (.ref a1), .val (.ref x1), .val .null] [(.ref x1), (.ref a1)]))) (fun _ k => XS.aloadN X43.here hx rfl (hb hby d7_4) rfl rfl (XS.aloadN X43.here hx rfl (hb hby d7_5) rfl rfl k)) ?_
  obtain ⟨T44, h44, X44, e44, W44, st44⟩ := putF X43 hx hZ hown (host := "") (Or.inl (wd hw 43 rfl)) Via.refl hh43 pr2 pr1 (Or.inr ⟨(wd hw 44 rfl), rfl, hnm⟩) (wd hw 37 rfl) (ty := (.object "com/example/pland/pland/payment/ChargeResult$Status")) (by decide) rfl rfl (g := (mkF m 6 #[.val (.ref a1), .val (.ref x1), .val .null] [(.ref x1), (.ref a1)])) rfl rfl (hb hby d7_6)
  have N44 := Fr.snoc X44 N43 pr4
  have O45 := pr0.wr W44 pr4
  have Z45 : n0 ≤ h44.size := Nat.le_trans Z0 (Keep.of_wr W44).1
  have F44 := pr2.same W44
  refine Go.by (B := (T44.setTop (mkF m 9 #[.val (.ref a1), .val (.ref x1), .val .null] []))) st44 ?_
  refine Go.by (B := (T44.setTop (mkF m 11 #[.val (.ref a1), .val (.ref x1), .val .null] [.null, (.ref a1)]))) (fun _ k => XS.aloadN X44.here hx rfl (hb hby d7_9) rfl rfl (XS.aloadN X44.here hx rfl (hb hby d7_10) rfl rfl k)) ?_
  have f46 := (pr3.other W44 (Or.inr (slot_ne (Or.inr (wd hw 46 rfl)) (Or.inr (wd hw 44 rfl)) (by decide) (t := (.object "java/lang/String")) (t' := (.object "com/example/pland/pland/payment/ChargeResult$Status")) (by decide) (by decide))))
  obtain ⟨T47, h47, X47, e47, W47, st47⟩ := putF X44 hx hZ hown (host := "") (Or.inl (wd hw 45 rfl)) Via.refl e44 f46 (pr1.wr W44) (Or.inr ⟨(wd hw 46 rfl), rfl, hnm⟩) (wd hw 37 rfl) (ty := (.object "java/lang/String")) (by decide) rfl rfl (g := (mkF m 11 #[.val (.ref a1), .val (.ref x1), .val .null] [.null, (.ref a1)])) rfl rfl (hb hby d7_11)
  have N47 := Fr.snoc X47 N44 pr4
  have O48 := O45.wr W47 pr4
  have Z48 : n0 ≤ h47.size := Nat.le_trans Z45 (Keep.of_wr W47).1
  have F47 := f46.same W47
  refine Go.by (B := (T47.setTop (mkF m 14 #[.val (.ref a1), .val (.ref x1), .val .null] []))) st47 ?_
  refine Go.retV X47 hx hlk hret (hb hby d7_14) (by decide) (by decide) ?_
  rw [e47]
  exact ⟨rfl, N47, (((Keep.refl h0 [a1]).wr W44 (Or.inl (List.mem_of_getElem? (i := 0) rfl))).wr W47 (Or.inl (List.mem_of_getElem? (i := 0) rfl))), ((pr1.wr W44).wr W47), (F44.other W47 (Or.inr (slot_ne (Or.inr (wd hw 44 rfl)) (Or.inr (wd hw 46 rfl)) (by decide) (t := (.object "com/example/pland/pland/payment/ChargeResult$Status")) (t' := (.object "java/lang/String")) (by decide) (by decide)))), F47⟩
theorem ef_rm_ch0 (m : MethodId) (x0 : Addr) (x1 : Addr) (x2 : Addr) : entryFrame m #[(.ref x0), (.ref x1), (.ref x2)] 3 = mkF m 0 #[.val (.ref x0), .val (.ref x1), .val (.ref x2)] [] := by first | (simp [entryFrame, mkF, argsToLocals, Value.category]; done) | rfl
theorem d2_0 : decode prog_6_method_1_code 0 = .ok (.aload_n 0, 1) := by decide +kernel
theorem d2_1 : decode prog_6_method_1_code 1 = .ok (.invokespecial 1, 3) := by decide +kernel
theorem d2_4 : decode prog_6_method_1_code 4 = .ok (.aload_n 0, 1) := by decide +kernel
theorem d2_5 : decode prog_6_method_1_code 5 = .ok (.aload_n 1, 1) := by decide +kernel
theorem d2_6 : decode prog_6_method_1_code 6 = .ok (.putfield 7, 3) := by decide +kernel
theorem d2_9 : decode prog_6_method_1_code 9 = .ok (.aload_n 0, 1) := by decide +kernel
theorem d2_10 : decode prog_6_method_1_code 10 = .ok (.aload_n 2, 1) := by decide +kernel
theorem d2_11 : decode prog_6_method_1_code 11 = .ok (.putfield 13, 3) := by decide +kernel
theorem d2_14 : decode prog_6_method_1_code 14 = .ok (.return_, 1) := by decide +kernel
theorem pn_com_example_pland_pland_billing_Charge : plainName "com/example/pland/pland/billing/Charge" = true := by first | (simp [plainName, overriddenIn]; done) | decide +kernel
def Q_rm_ch0 (Z : State) (a1 : Addr) (x1 : Addr) (x2 : Addr) (h0 : Heap) (n0 : Nat) (v : Option Value) (h : Heap) (L : List Loc) : Prop := v = none ∧ Fr n0 L ∧ Keep h0 h [a1] ∧ Exa Z h a1 "com/example/pland/pland/billing/Charge" ∧ Fld Z h a1 "com/example/pland/pland/billing/Charge" "paymentMethod" "Ljava/lang/String;" (.ref x1) ∧ Fld Z h a1 "com/example/pland/pland/billing/Charge" "result" "Lcom/example/pland/pland/payment/ChargeResult;" (.ref x2)
set_option maxRecDepth 65536 in
set_option maxHeartbeats 40000000 in
theorem rm_ch0 (l : Launch) (Z : State) (a0 : Array Value) (hw : ∀ d ∈ tables_1, d.before a0 Z = true) (ws : List Jvm.Cond) (a1 : Addr) (x1 : Addr) (x2 : Addr) (h0 : Heap) (n0 : Nat) (Z0 : n0 ≤ h0.size) (pr0 : Old Z n0 h0) (pr1 : Exa Z h0 a1 "com/example/pland/pland/billing/Charge") (pr2 : Fld Z h0 a1 "com/example/pland/pland/billing/Charge" "paymentMethod" "Ljava/lang/String;" .null) (pr3 : Fld Z h0 a1 "com/example/pland/pland/billing/Charge" "result" "Lcom/example/pland/pland/payment/ChargeResult;" .null) (pr4 : n0 ≤ a1) :
    Met l Z (⟨"com/example/pland/pland/billing/Charge", "<init>", "(Ljava/lang/String;Lcom/example/pland/pland/payment/ChargeResult;)V"⟩ : MethodName) prog_6_method_1_code 3 none ws ({ frames := 2, cells := 0, slots := 0, locals := 24 } : Room) #[(.ref a1), (.ref x1), (.ref x2)] h0 (Q_rm_ch0 Z a1 x1 x2 h0 n0) := by
  refine Met.enter (f0 := fun m => mkF m 0 #[.val (.ref a1), .val (.ref x1), .val (.ref x2)] []) (plainFor_of_name pn_com_example_pland_pland_billing_Charge) (fun m => ef_rm_ch0 m a1 x1 x2) ?_
  intro p e s m below meth c s₁ hx hby hml hown hnm hret hlk hZ X0 e0
  have hown : s.vm.findClass "com/example/pland/pland/billing/Charge" = some m.cls := hown
  have hnm : meth.name = "<init>" := hnm
  have hml : c.maxLocals = 3 := hml
  have hby : c.code = prog_6_method_1_code := hby
  have N0 := Fr.nil n0
  refine Go.by (B := (s₁.setTop (mkF m 1 #[.val (.ref a1), .val (.ref x1), .val (.ref x2)] [(.ref a1)]))) (fun _ k => XS.aloadN X0.here hx rfl (hb hby d2_0) rfl rfl k) ?_
  obtain ⟨_, _, ⟨T49, L49, k49, n49⟩, -, X49, ⟨Lc49, hQ49, l49, y49, z49⟩, st49⟩ := X0.specialBack hx (y := (⟨"java/lang/Record", "<init>", "()V"⟩ : MethodName)) rfl hown (mvT hZ (wd hw 14 rfl)) (mvT hZ (wd hw 15 rfl)) (mvT hZ (wd hw 18 rfl)) (by decide) (backOf (W := 0) (rm_Record_init l Z a0 hw [] a1 h0 n0 Z0 ) hZ (wd hw 18 rfl) (wd hw 17 rfl) (by decide) (by decide)) (g := (mkF m 1 #[.val (.ref a1), .val (.ref x1), .val (.ref x2)] [(.ref a1)])) rfl (by rw [hml]; rfl) (Steps.refl _) (a := a1) (argsL := []) (rest := []) (lenOf pd_4 rfl) rfl (by show 2 * 0 + _ ≤ _; exact Nat.le_of_eq rfl) (hb hby d2_1) (fun _ _ => ⟨rfl, e0, Nat.le_of_ble_eq_true rfl, Nat.le_of_ble_eq_true rfl⟩)
  dsimp only [Pt.U, Pt.locs, Pt.cells, Pt.slots] at X49 l49 y49 z49 st49 hQ49
  subst l49 y49 z49
  obtain ⟨rfl, Nq49, hh49⟩ := hQ49
  have N49 := Fr.app N0 Nq49
  refine Go.by (B := (T49.setTop (mkF m 4 #[.val (.ref a1), .val (.ref x1), .val (.ref x2)] []))) (fun _ k => st49.trans k) ?_
  refine Go.by (B := (T49.setTop (mkF m 6 #[.val (.ref a1), .val (.ref x1), .val (.ref x2)] [(.ref x1), (.ref a1)]))) (fun _ k => XS.aloadN X49.here hx rfl (hb hby d2_4) rfl rfl (XS.aloadN X49.here hx rfl (hb hby d2_5) rfl rfl k)) ?_
  obtain ⟨T50, h50, X50, e50, W50, st50⟩ := putF X49 hx hZ hown (host := "") (Or.inl (wd hw 22 rfl)) Via.refl hh49 pr2 pr1 (Or.inr ⟨(wd hw 23 rfl), rfl, hnm⟩) (wd hw 9 rfl) (ty := (.object "java/lang/String")) (by decide) rfl rfl (g := (mkF m 6 #[.val (.ref a1), .val (.ref x1), .val (.ref x2)] [(.ref x1), (.ref a1)])) rfl rfl (hb hby d2_6)
  have N50 := Fr.snoc X50 N49 pr4
  have O51 := pr0.wr W50 pr4
  have Z51 : n0 ≤ h50.size := Nat.le_trans Z0 (Keep.of_wr W50).1
  have F50 := pr2.same W50
  refine Go.by (B := (T50.setTop (mkF m 9 #[.val (.ref a1), .val (.ref x1), .val (.ref x2)] []))) st50 ?_
  refine Go.by (B := (T50.setTop (mkF m 11 #[.val (.ref a1), .val (.ref x1), .val (.ref x2)] [(.ref x2), (.ref a1)]))) (fun _ k => XS.aloadN X50.here hx rfl (hb hby d2_9) rfl rfl (XS.aloadN X50.here hx rfl (hb hby d2_10) rfl rfl k)) ?_
  have f52 := (pr3.other W50 (Or.inr (slot_ne (Or.inr (wd hw 25 rfl)) (Or.inr (wd hw 23 rfl)) (by decide) (t := (.object "com/example/pland/pland/payment/ChargeResult")) (t' := (.object "java/lang/String")) (by decide) (by decide))))
  obtain ⟨T53, h53, X53, e53, W53, st53⟩ := putF X50 hx hZ hown (host := "") (Or.inl (wd hw 24 rfl)) Via.refl e50 f52 (pr1.wr W50) (Or.inr ⟨(wd hw 25 rfl), rfl, hnm⟩) (wd hw 9 rfl) (ty := (.object "com/example/pland/pland/payment/ChargeResult")) (by decide) rfl rfl (g := (mkF m 11 #[.val (.ref a1), .val (.ref x1), .val (.ref x2)] [(.ref x2), (.ref a1)])) rfl rfl (hb hby d2_11)
  have N53 := Fr.snoc X53 N50 pr4
  have O54 := O51.wr W53 pr4
  have Z54 : n0 ≤ h53.size := Nat.le_trans Z51 (Keep.of_wr W53).1
  have F53 := f52.same W53
  refine Go.by (B := (T53.setTop (mkF m 14 #[.val (.ref a1), .val (.ref x1), .val (.ref x2)] []))) st53 ?_
  refine Go.retV X53 hx hlk hret (hb hby d2_14) (by decide) (by decide) ?_
  rw [e53]
  exact ⟨rfl, N53, (((Keep.refl h0 [a1]).wr W50 (Or.inl (List.mem_of_getElem? (i := 0) rfl))).wr W53 (Or.inl (List.mem_of_getElem? (i := 0) rfl))), ((pr1.wr W50).wr W53), (F50.other W53 (Or.inr (slot_ne (Or.inr (wd hw 23 rfl)) (Or.inr (wd hw 25 rfl)) (by decide) (t := (.object "java/lang/String")) (t' := (.object "com/example/pland/pland/payment/ChargeResult")) (by decide) (by decide)))), F53⟩
theorem ef_rm_ch1 (m : MethodId) (x0 : Addr) (x1 : Addr) : entryFrame m #[(.ref x0), (.ref x1), .null] 3 = mkF m 0 #[.val (.ref x0), .val (.ref x1), .val .null] [] := by first | (simp [entryFrame, mkF, argsToLocals, Value.category]; done) | rfl
def Q_rm_ch1 (Z : State) (a1 : Addr) (x1 : Addr) (h0 : Heap) (n0 : Nat) (v : Option Value) (h : Heap) (L : List Loc) : Prop := v = none ∧ Fr n0 L ∧ Keep h0 h [a1] ∧ Exa Z h a1 "com/example/pland/pland/billing/Charge" ∧ Fld Z h a1 "com/example/pland/pland/billing/Charge" "paymentMethod" "Ljava/lang/String;" (.ref x1) ∧ Fld Z h a1 "com/example/pland/pland/billing/Charge" "result" "Lcom/example/pland/pland/payment/ChargeResult;" .null
set_option maxRecDepth 65536 in
set_option maxHeartbeats 40000000 in
theorem rm_ch1 (l : Launch) (Z : State) (a0 : Array Value) (hw : ∀ d ∈ tables_1, d.before a0 Z = true) (ws : List Jvm.Cond) (a1 : Addr) (x1 : Addr) (h0 : Heap) (n0 : Nat) (Z0 : n0 ≤ h0.size) (pr0 : Old Z n0 h0) (pr1 : Exa Z h0 a1 "com/example/pland/pland/billing/Charge") (pr2 : Fld Z h0 a1 "com/example/pland/pland/billing/Charge" "paymentMethod" "Ljava/lang/String;" .null) (pr3 : Fld Z h0 a1 "com/example/pland/pland/billing/Charge" "result" "Lcom/example/pland/pland/payment/ChargeResult;" .null) (pr4 : n0 ≤ a1) :
    Met l Z (⟨"com/example/pland/pland/billing/Charge", "<init>", "(Ljava/lang/String;Lcom/example/pland/pland/payment/ChargeResult;)V"⟩ : MethodName) prog_6_method_1_code 3 none ws ({ frames := 2, cells := 0, slots := 0, locals := 24 } : Room) #[(.ref a1), (.ref x1), .null] h0 (Q_rm_ch1 Z a1 x1 h0 n0) := by
  refine Met.enter (f0 := fun m => mkF m 0 #[.val (.ref a1), .val (.ref x1), .val .null] []) (plainFor_of_name pn_com_example_pland_pland_billing_Charge) (fun m => ef_rm_ch1 m a1 x1) ?_
  intro p e s m below meth c s₁ hx hby hml hown hnm hret hlk hZ X0 e0
  have hown : s.vm.findClass "com/example/pland/pland/billing/Charge" = some m.cls := hown
  have hnm : meth.name = "<init>" := hnm
  have hml : c.maxLocals = 3 := hml
  have hby : c.code = prog_6_method_1_code := hby
  have N0 := Fr.nil n0
  refine Go.by (B := (s₁.setTop (mkF m 1 #[.val (.ref a1), .val (.ref x1), .val .null] [(.ref a1)]))) (fun _ k => XS.aloadN X0.here hx rfl (hb hby d2_0) rfl rfl k) ?_
  obtain ⟨_, _, ⟨T55, L55, k55, n55⟩, -, X55, ⟨Lc55, hQ55, l55, y55, z55⟩, st55⟩ := X0.specialBack hx (y := (⟨"java/lang/Record", "<init>", "()V"⟩ : MethodName)) rfl hown (mvT hZ (wd hw 14 rfl)) (mvT hZ (wd hw 15 rfl)) (mvT hZ (wd hw 18 rfl)) (by decide) (backOf (W := 0) (rm_Record_init l Z a0 hw [] a1 h0 n0 Z0 ) hZ (wd hw 18 rfl) (wd hw 17 rfl) (by decide) (by decide)) (g := (mkF m 1 #[.val (.ref a1), .val (.ref x1), .val .null] [(.ref a1)])) rfl (by rw [hml]; rfl) (Steps.refl _) (a := a1) (argsL := []) (rest := []) (lenOf pd_4 rfl) rfl (by show 2 * 0 + _ ≤ _; exact Nat.le_of_eq rfl) (hb hby d2_1) (fun _ _ => ⟨rfl, e0, Nat.le_of_ble_eq_true rfl, Nat.le_of_ble_eq_true rfl⟩)
  dsimp only [Pt.U, Pt.locs, Pt.cells, Pt.slots] at X55 l55 y55 z55 st55 hQ55
  subst l55 y55 z55
  obtain ⟨rfl, Nq55, hh55⟩ := hQ55
  have N55 := Fr.app N0 Nq55
  refine Go.by (B := (T55.setTop (mkF m 4 #[.val (.ref a1), .val (.ref x1), .val .null] []))) (fun _ k => st55.trans k) ?_
  refine Go.by (B := (T55.setTop (mkF m 6 #[.val (.ref a1), .val (.ref x1), .val .null] [(.ref x1), (.ref a1)]))) (fun _ k => XS.aloadN X55.here hx rfl (hb hby d2_4) rfl rfl (XS.aloadN X55.here hx rfl (hb hby d2_5) rfl rfl k)) ?_
  obtain ⟨T56, h56, X56, e56, W56, st56⟩ := putF X55 hx hZ hown (host := "") (Or.inl (wd hw 22 rfl)) Via.refl hh55 pr2 pr1 (Or.inr ⟨(wd hw 23 rfl), rfl, hnm⟩) (wd hw 9 rfl) (ty := (.object "java/lang/String")) (by decide) rfl rfl (g := (mkF m 6 #[.val (.ref a1), .val (.ref x1), .val .null] [(.ref x1), (.ref a1)])) rfl rfl (hb hby d2_6)
  have N56 := Fr.snoc X56 N55 pr4
  have O57 := pr0.wr W56 pr4
  have Z57 : n0 ≤ h56.size := Nat.le_trans Z0 (Keep.of_wr W56).1
  have F56 := pr2.same W56
  refine Go.by (B := (T56.setTop (mkF m 9 #[.val (.ref a1), .val (.ref x1), .val .null] []))) st56 ?_
  refine Go.by (B := (T56.setTop (mkF m 11 #[.val (.ref a1), .val (.ref x1), .val .null] [.null, (.ref a1)]))) (fun _ k => XS.aloadN X56.here hx rfl (hb hby d2_9) rfl rfl (XS.aloadN X56.here hx rfl (hb hby d2_10) rfl rfl k)) ?_
  have f58 := (pr3.other W56 (Or.inr (slot_ne (Or.inr (wd hw 25 rfl)) (Or.inr (wd hw 23 rfl)) (by decide) (t := (.object "com/example/pland/pland/payment/ChargeResult")) (t' := (.object "java/lang/String")) (by decide) (by decide))))
  obtain ⟨T59, h59, X59, e59, W59, st59⟩ := putF X56 hx hZ hown (host := "") (Or.inl (wd hw 24 rfl)) Via.refl e56 f58 (pr1.wr W56) (Or.inr ⟨(wd hw 25 rfl), rfl, hnm⟩) (wd hw 9 rfl) (ty := (.object "com/example/pland/pland/payment/ChargeResult")) (by decide) rfl rfl (g := (mkF m 11 #[.val (.ref a1), .val (.ref x1), .val .null] [.null, (.ref a1)])) rfl rfl (hb hby d2_11)
  have N59 := Fr.snoc X59 N56 pr4
  have O60 := O57.wr W59 pr4
  have Z60 : n0 ≤ h59.size := Nat.le_trans Z57 (Keep.of_wr W59).1
  have F59 := f58.same W59
  refine Go.by (B := (T59.setTop (mkF m 14 #[.val (.ref a1), .val (.ref x1), .val .null] []))) st59 ?_
  refine Go.retV X59 hx hlk hret (hb hby d2_14) (by decide) (by decide) ?_
  rw [e59]
  exact ⟨rfl, N59, (((Keep.refl h0 [a1]).wr W56 (Or.inl (List.mem_of_getElem? (i := 0) rfl))).wr W59 (Or.inl (List.mem_of_getElem? (i := 0) rfl))), ((pr1.wr W56).wr W59), (F56.other W59 (Or.inr (slot_ne (Or.inr (wd hw 23 rfl)) (Or.inr (wd hw 25 rfl)) (by decide) (t := (.object "java/lang/String")) (t' := (.object "com/example/pland/pland/payment/ChargeResult")) (by decide) (by decide)))), F59⟩
theorem ef_rm_ch2 (m : MethodId) (x0 : Addr) (x2 : Addr) : entryFrame m #[(.ref x0), .null, (.ref x2)] 3 = mkF m 0 #[.val (.ref x0), .val .null, .val (.ref x2)] [] := by first | (simp [entryFrame, mkF, argsToLocals, Value.category]; done) | rfl
def Q_rm_ch2 (Z : State) (a1 : Addr) (x2 : Addr) (h0 : Heap) (n0 : Nat) (v : Option Value) (h : Heap) (L : List Loc) : Prop := v = none ∧ Fr n0 L ∧ Keep h0 h [a1] ∧ Exa Z h a1 "com/example/pland/pland/billing/Charge" ∧ Fld Z h a1 "com/example/pland/pland/billing/Charge" "paymentMethod" "Ljava/lang/String;" .null ∧ Fld Z h a1 "com/example/pland/pland/billing/Charge" "result" "Lcom/example/pland/pland/payment/ChargeResult;" (.ref x2)
set_option maxRecDepth 65536 in
set_option maxHeartbeats 40000000 in
theorem rm_ch2 (l : Launch) (Z : State) (a0 : Array Value) (hw : ∀ d ∈ tables_1, d.before a0 Z = true) (ws : List Jvm.Cond) (a1 : Addr) (x2 : Addr) (h0 : Heap) (n0 : Nat) (Z0 : n0 ≤ h0.size) (pr0 : Old Z n0 h0) (pr1 : Exa Z h0 a1 "com/example/pland/pland/billing/Charge") (pr2 : Fld Z h0 a1 "com/example/pland/pland/billing/Charge" "paymentMethod" "Ljava/lang/String;" .null) (pr3 : Fld Z h0 a1 "com/example/pland/pland/billing/Charge" "result" "Lcom/example/pland/pland/payment/ChargeResult;" .null) (pr4 : n0 ≤ a1) :
    Met l Z (⟨"com/example/pland/pland/billing/Charge", "<init>", "(Ljava/lang/String;Lcom/example/pland/pland/payment/ChargeResult;)V"⟩ : MethodName) prog_6_method_1_code 3 none ws ({ frames := 2, cells := 0, slots := 0, locals := 24 } : Room) #[(.ref a1), .null, (.ref x2)] h0 (Q_rm_ch2 Z a1 x2 h0 n0) := by
  refine Met.enter (f0 := fun m => mkF m 0 #[.val (.ref a1), .val .null, .val (.ref x2)] []) (plainFor_of_name pn_com_example_pland_pland_billing_Charge) (fun m => ef_rm_ch2 m a1 x2) ?_
  intro p e s m below meth c s₁ hx hby hml hown hnm hret hlk hZ X0 e0
  have hown : s.vm.findClass "com/example/pland/pland/billing/Charge" = some m.cls := hown
  have hnm : meth.name = "<init>" := hnm
  have hml : c.maxLocals = 3 := hml
  have hby : c.code = prog_6_method_1_code := hby
  have N0 := Fr.nil n0
  refine Go.by (B := (s₁.setTop (mkF m 1 #[.val (.ref a1), .val .null, .val (.ref x2)] [(.ref a1)]))) (fun _ k => XS.aloadN X0.here hx rfl (hb hby d2_0) rfl rfl k) ?_
  obtain ⟨_, _, ⟨T61, L61, k61, n61⟩, -, X61, ⟨Lc61, hQ61, l61, y61, z61⟩, st61⟩ := X0.specialBack hx (y := (⟨"java/lang/Record", "<init>", "()V"⟩ : MethodName)) rfl hown (mvT hZ (wd hw 14 rfl)) (mvT hZ (wd hw 15 rfl)) (mvT hZ (wd hw 18 rfl)) (by decide) (backOf (W := 0) (rm_Record_init l Z a0 hw [] a1 h0 n0 Z0 ) hZ (wd hw 18 rfl) (wd hw 17 rfl) (by decide) (by decide)) (g := (mkF m 1 #[.val (.ref a1), .val .null, .val (.ref x2)] [(.ref a1)])) rfl (by rw [hml]; rfl) (Steps.refl _) (a := a1) (argsL := []) (rest := []) (lenOf pd_4 rfl) rfl (by show 2 * 0 + _ ≤ _; exact Nat.le_of_eq rfl) (hb hby d2_1) (fun _ _ => ⟨rfl, e0, Nat.le_of_ble_eq_true rfl, Nat.le_of_ble_eq_true rfl⟩)
  dsimp only [Pt.U, Pt.locs, Pt.cells, Pt.slots] at X61 l61 y61 z61 st61 hQ61
  subst l61 y61 z61
  obtain ⟨rfl, Nq61, hh61⟩ := hQ61
  have N61 := Fr.app N0 Nq61
  refine Go.by (B := (T61.setTop (mkF m 4 #[.val (.ref a1), .val .null, .val (.ref x2)] []))) (fun _ k => st61.trans k) ?_
  refine Go.by (B := (T61.setTop (mkF m 6 #[.val (.ref a1), .val .null, .val (.ref x2)] [.null, (.ref a1)]))) (fun _ k => XS.aloadN X61.here hx rfl (hb hby d2_4) rfl rfl (XS.aloadN X61.here hx rfl (hb hby d2_5) rfl rfl k)) ?_
  obtain ⟨T62, h62, X62, e62, W62, st62⟩ := putF X61 hx hZ hown (host := "") (Or.inl (wd hw 22 rfl)) Via.refl hh61 pr2 pr1 (Or.inr ⟨(wd hw 23 rfl), rfl, hnm⟩) (wd hw 9 rfl) (ty := (.object "java/lang/String")) (by decide) rfl rfl (g := (mkF m 6 #[.val (.ref a1), .val .null, .val (.ref x2)] [.null, (.ref a1)])) rfl rfl (hb hby d2_6)
  have N62 := Fr.snoc X62 N61 pr4
  have O63 := pr0.wr W62 pr4
  have Z63 : n0 ≤ h62.size := Nat.le_trans Z0 (Keep.of_wr W62).1
  have F62 := pr2.same W62
  refine Go.by (B := (T62.setTop (mkF m 9 #[.val (.ref a1), .val .null, .val (.ref x2)] []))) st62 ?_
  refine Go.by (B := (T62.setTop (mkF m 11 #[.val (.ref a1), .val .null, .val (.ref x2)] [(.ref x2), (.ref a1)]))) (fun _ k => XS.aloadN X62.here hx rfl (hb hby d2_9) rfl rfl (XS.aloadN X62.here hx rfl (hb hby d2_10) rfl rfl k)) ?_
  have f64 := (pr3.other W62 (Or.inr (slot_ne (Or.inr (wd hw 25 rfl)) (Or.inr (wd hw 23 rfl)) (by decide) (t := (.object "com/example/pland/pland/payment/ChargeResult")) (t' := (.object "java/lang/String")) (by decide) (by decide))))
  obtain ⟨T65, h65, X65, e65, W65, st65⟩ := putF X62 hx hZ hown (host := "") (Or.inl (wd hw 24 rfl)) Via.refl e62 f64 (pr1.wr W62) (Or.inr ⟨(wd hw 25 rfl), rfl, hnm⟩) (wd hw 9 rfl) (ty := (.object "com/example/pland/pland/payment/ChargeResult")) (by decide) rfl rfl (g := (mkF m 11 #[.val (.ref a1), .val .null, .val (.ref x2)] [(.ref x2), (.ref a1)])) rfl rfl (hb hby d2_11)
  have N65 := Fr.snoc X65 N62 pr4
  have O66 := O63.wr W65 pr4
  have Z66 : n0 ≤ h65.size := Nat.le_trans Z63 (Keep.of_wr W65).1
  have F65 := f64.same W65
  refine Go.by (B := (T65.setTop (mkF m 14 #[.val (.ref a1), .val .null, .val (.ref x2)] []))) st65 ?_
  refine Go.retV X65 hx hlk hret (hb hby d2_14) (by decide) (by decide) ?_
  rw [e65]
  exact ⟨rfl, N65, (((Keep.refl h0 [a1]).wr W62 (Or.inl (List.mem_of_getElem? (i := 0) rfl))).wr W65 (Or.inl (List.mem_of_getElem? (i := 0) rfl))), ((pr1.wr W62).wr W65), (F62.other W65 (Or.inr (slot_ne (Or.inr (wd hw 23 rfl)) (Or.inr (wd hw 25 rfl)) (by decide) (t := (.object "java/lang/String")) (t' := (.object "com/example/pland/pland/payment/ChargeResult")) (by decide) (by decide)))), F65⟩
theorem ef_rm_ch3 (m : MethodId) (x0 : Addr) : entryFrame m #[(.ref x0), .null, .null] 3 = mkF m 0 #[.val (.ref x0), .val .null, .val .null] [] := by first | (simp [entryFrame, mkF, argsToLocals, Value.category]; done) | rfl
def Q_rm_ch3 (Z : State) (a1 : Addr) (h0 : Heap) (n0 : Nat) (v : Option Value) (h : Heap) (L : List Loc) : Prop := v = none ∧ Fr n0 L ∧ Keep h0 h [a1] ∧ Exa Z h a1 "com/example/pland/pland/billing/Charge" ∧ Fld Z h a1 "com/example/pland/pland/billing/Charge" "paymentMethod" "Ljava/lang/String;" .null ∧ Fld Z h a1 "com/example/pland/pland/billing/Charge" "result" "Lcom/example/pland/pland/payment/ChargeResult;" .null
set_option maxRecDepth 65536 in
set_option maxHeartbeats 40000000 in
theorem rm_ch3 (l : Launch) (Z : State) (a0 : Array Value) (hw : ∀ d ∈ tables_1, d.before a0 Z = true) (ws : List Jvm.Cond) (a1 : Addr) (h0 : Heap) (n0 : Nat) (Z0 : n0 ≤ h0.size) (pr0 : Old Z n0 h0) (pr1 : Exa Z h0 a1 "com/example/pland/pland/billing/Charge") (pr2 : Fld Z h0 a1 "com/example/pland/pland/billing/Charge" "paymentMethod" "Ljava/lang/String;" .null) (pr3 : Fld Z h0 a1 "com/example/pland/pland/billing/Charge" "result" "Lcom/example/pland/pland/payment/ChargeResult;" .null) (pr4 : n0 ≤ a1) :
    Met l Z (⟨"com/example/pland/pland/billing/Charge", "<init>", "(Ljava/lang/String;Lcom/example/pland/pland/payment/ChargeResult;)V"⟩ : MethodName) prog_6_method_1_code 3 none ws ({ frames := 2, cells := 0, slots := 0, locals := 24 } : Room) #[(.ref a1), .null, .null] h0 (Q_rm_ch3 Z a1 h0 n0) := by
  refine Met.enter (f0 := fun m => mkF m 0 #[.val (.ref a1), .val .null, .val .null] []) (plainFor_of_name pn_com_example_pland_pland_billing_Charge) (fun m => ef_rm_ch3 m a1) ?_
  intro p e s m below meth c s₁ hx hby hml hown hnm hret hlk hZ X0 e0
  have hown : s.vm.findClass "com/example/pland/pland/billing/Charge" = some m.cls := hown
  have hnm : meth.name = "<init>" := hnm
  have hml : c.maxLocals = 3 := hml
  have hby : c.code = prog_6_method_1_code := hby
  have N0 := Fr.nil n0
  refine Go.by (B := (s₁.setTop (mkF m 1 #[.val (.ref a1), .val .null, .val .null] [(.ref a1)]))) (fun _ k => XS.aloadN X0.here hx rfl (hb hby d2_0) rfl rfl k) ?_
  obtain ⟨_, _, ⟨T67, L67, k67, n67⟩, -, X67, ⟨Lc67, hQ67, l67, y67, z67⟩, st67⟩ := X0.specialBack hx (y := (⟨"java/lang/Record", "<init>", "()V"⟩ : MethodName)) rfl hown (mvT hZ (wd hw 14 rfl)) (mvT hZ (wd hw 15 rfl)) (mvT hZ (wd hw 18 rfl)) (by decide) (backOf (W := 0) (rm_Record_init l Z a0 hw [] a1 h0 n0 Z0 ) hZ (wd hw 18 rfl) (wd hw 17 rfl) (by decide) (by decide)) (g := (mkF m 1 #[.val (.ref a1), .val .null, .val .null] [(.ref a1)])) rfl (by rw [hml]; rfl) (Steps.refl _) (a := a1) (argsL := []) (rest := []) (lenOf pd_4 rfl) rfl (by show 2 * 0 + _ ≤ _; exact Nat.le_of_eq rfl) (hb hby d2_1) (fun _ _ => ⟨rfl, e0, Nat.le_of_ble_eq_true rfl, Nat.le_of_ble_eq_true rfl⟩)
  dsimp only [Pt.U, Pt.locs, Pt.cells, Pt.slots] at X67 l67 y67 z67 st67 hQ67
  subst l67 y67 z67
  obtain ⟨rfl, Nq67, hh67⟩ := hQ67
  have N67 := Fr.app N0 Nq67
  refine Go.by (B := (T67.setTop (mkF m 4 #[.val (.ref a1), .val .null, .val .null] []))) (fun _ k => st67.trans k) ?_
  refine Go.by (B := (T67.setTop (mkF m 6 #[.val (.ref a1), .val .null, .val .null] [.null, (.ref a1)]))) (fun _ k => XS.aloadN X67.here hx rfl (hb hby d2_4) rfl rfl (XS.aloadN X67.here hx rfl (hb hby d2_5) rfl rfl k)) ?_
  obtain ⟨T68, h68, X68, e68, W68, st68⟩ := putF X67 hx hZ hown (host := "") (Or.inl (wd hw 22 rfl)) Via.refl hh67 pr2 pr1 (Or.inr ⟨(wd hw 23 rfl), rfl, hnm⟩) (wd hw 9 rfl) (ty := (.object "java/lang/String")) (by decide) rfl rfl (g := (mkF m 6 #[.val (.ref a1), .val .null, .val .null] [.null, (.ref a1)])) rfl rfl (hb hby d2_6)
  have N68 := Fr.snoc X68 N67 pr4
  have O69 := pr0.wr W68 pr4
  have Z69 : n0 ≤ h68.size := Nat.le_trans Z0 (Keep.of_wr W68).1
  have F68 := pr2.same W68
  refine Go.by (B := (T68.setTop (mkF m 9 #[.val (.ref a1), .val .null, .val .null] []))) st68 ?_
  refine Go.by (B := (T68.setTop (mkF m 11 #[.val (.ref a1), .val .null, .val .null] [.null, (.ref a1)]))) (fun _ k => XS.aloadN X68.here hx rfl (hb hby d2_9) rfl rfl (XS.aloadN X68.here hx rfl (hb hby d2_10) rfl rfl k)) ?_
  have f70 := (pr3.other W68 (Or.inr (slot_ne (Or.inr (wd hw 25 rfl)) (Or.inr (wd hw 23 rfl)) (by decide) (t := (.object "com/example/pland/pland/payment/ChargeResult")) (t' := (.object "java/lang/String")) (by decide) (by decide))))
  obtain ⟨T71, h71, X71, e71, W71, st71⟩ := putF X68 hx hZ hown (host := "") (Or.inl (wd hw 24 rfl)) Via.refl e68 f70 (pr1.wr W68) (Or.inr ⟨(wd hw 25 rfl), rfl, hnm⟩) (wd hw 9 rfl) (ty := (.object "com/example/pland/pland/payment/ChargeResult")) (by decide) rfl rfl (g := (mkF m 11 #[.val (.ref a1), .val .null, .val .null] [.null, (.ref a1)])) rfl rfl (hb hby d2_11)
  have N71 := Fr.snoc X71 N68 pr4
  have O72 := O69.wr W71 pr4
  have Z72 : n0 ≤ h71.size := Nat.le_trans Z69 (Keep.of_wr W71).1
  have F71 := f70.same W71
  refine Go.by (B := (T71.setTop (mkF m 14 #[.val (.ref a1), .val .null, .val .null] []))) st71 ?_
  refine Go.retV X71 hx hlk hret (hb hby d2_14) (by decide) (by decide) ?_
  rw [e71]
  exact ⟨rfl, N71, (((Keep.refl h0 [a1]).wr W68 (Or.inl (List.mem_of_getElem? (i := 0) rfl))).wr W71 (Or.inl (List.mem_of_getElem? (i := 0) rfl))), ((pr1.wr W68).wr W71), (F68.other W71 (Or.inr (slot_ne (Or.inr (wd hw 23 rfl)) (Or.inr (wd hw 25 rfl)) (by decide) (t := (.object "java/lang/String")) (t' := (.object "com/example/pland/pland/payment/ChargeResult")) (by decide) (by decide)))), F71⟩
theorem ef_rm_none (m : MethodId)  : entryFrame m #[] 0 = mkF m 0 #[] [] := by first | (simp [entryFrame, mkF, argsToLocals, Value.category]; done) | rfl
theorem d5_0 : decode prog_6_method_2_code 0 = .ok (.new 8, 3) := by decide +kernel
theorem d5_3 : decode prog_6_method_2_code 3 = .ok (.dup, 1) := by decide +kernel
theorem d5_4 : decode prog_6_method_2_code 4 = .ok (.aconst_null, 1) := by decide +kernel
theorem d5_5 : decode prog_6_method_2_code 5 = .ok (.aconst_null, 1) := by decide +kernel
theorem d5_6 : decode prog_6_method_2_code 6 = .ok (.invokespecial 17, 3) := by decide +kernel
theorem pd_5 : parseMethodDescriptor "(Ljava/lang/String;Lcom/example/pland/pland/payment/ChargeResult;)V" = some ⟨[(.object "java/lang/String"), (.object "com/example/pland/pland/payment/ChargeResult")], none⟩ := by decide +kernel
theorem d5_9 : decode prog_6_method_2_code 9 = .ok (.areturn, 1) := by decide +kernel
def Q_rm_none (Z : State)  (h0 : Heap) (n0 : Nat) (v : Option Value) (h : Heap) (L : List Loc) : Prop := ∃ b : Addr, v = some (.ref b) ∧ Fr n0 L ∧ Keep h0 h [] ∧ Exa Z h b "com/example/pland/pland/billing/Charge" ∧ Fld Z h b "com/example/pland/pland/billing/Charge" "result" "Lcom/example/pland/pland/payment/ChargeResult;" .null ∧ h0.size ≤ b
set_option maxRecDepth 65536 in
set_option maxHeartbeats 40000000 in
theorem rm_none (l : Launch) (Z : State) (a0 : Array Value) (hw : ∀ d ∈ tables_1, d.before a0 Z = true) (ws : List Jvm.Cond)  (h0 : Heap) (n0 : Nat) (Z0 : n0 ≤ h0.size) (pr0 : Old Z n0 h0) :
    Met l Z (⟨"com/example/pland/pland/billing/Charge", "none", "()Lcom/example/pland/pland/billing/Charge;"⟩ : MethodName) prog_6_method_2_code 0 (some (.object "com/example/pland/pland/billing/Charge")) ws ({ frames := 3, cells := 1, slots := 2, locals := 39 } : Room) #[] h0 (Q_rm_none Z  h0 n0) := by
  refine Met.enter (f0 := fun m => mkF m 0 #[] []) (plainFor_of_name pn_com_example_pland_pland_billing_Charge) (fun m => ef_rm_none m ) ?_
  intro p e s m below meth c s₁ hx hby hml hown hnm hret hlk hZ X0 e0
  have hown : s.vm.findClass "com/example/pland/pland/billing/Charge" = some m.cls := hown
  have hnm : meth.name = "none" := hnm
  have hml : c.maxLocals = 0 := hml
  have hby : c.code = prog_6_method_2_code := hby
  have N0 := Fr.nil n0
  obtain ⟨T73, h73, X73, e73, E73, A73, D73, -, st73⟩ := newO X0 hx hZ hown (wd hw 29 rfl) (wd hw 9 rfl) (wd hw 10 rfl) e0 (g := (mkF m 0 #[] [])) rfl (hb hby d5_0) (by decide) (by decide)
  obtain ⟨b73, g73⟩ : ∃ z, z = h0.size := ⟨_, rfl⟩
  rw [← g73] at A73 D73 st73
  have sz_b73 : h0.size ≤ b73 := Nat.le_of_eq g73.symm
  have O74 := pr0.ext E73
  have Z74 : n0 ≤ h73.size := Nat.le_trans Z0 E73.1
  have F75 : Fld Z h73 b73 "com/example/pland/pland/billing/Charge" "paymentMethod" "Ljava/lang/String;" .null := D73 (Or.inr (wd hw 23 rfl)) (ty := (.object "java/lang/String")) (by decide)
  have F76 : Fld Z h73 b73 "com/example/pland/pland/billing/Charge" "result" "Lcom/example/pland/pland/payment/ChargeResult;" .null := D73 (Or.inr (wd hw 25 rfl)) (ty := (.object "com/example/pland/pland/payment/ChargeResult")) (by decide)
  refine Go.by (B := (T73.setTop (mkF m 3 #[] [(.ref b73)]))) st73 ?_
  refine Go.by (B := (T73.setTop (mkF m 6 #[] [.null, .null, (.ref b73), (.ref b73)]))) (fun _ k => XS.dup X73.here hx rfl (hb hby d5_3) rfl rfl (XS.aconstNull X73.here hx rfl (hb hby d5_4) (XS.aconstNull X73.here hx rfl (hb hby d5_5) k))) ?_
  obtain ⟨_, _, ⟨T77, L77, k77, n77⟩, -, X77, ⟨Lc77, hQ77, l77, y77, z77⟩, st77⟩ := X73.specialBack hx (y := (⟨"com/example/pland/pland/billing/Charge", "<init>", "(Ljava/lang/String;Lcom/example/pland/pland/payment/ChargeResult;)V"⟩ : MethodName)) rfl hown (mvT hZ (wd hw 30 rfl)) (mvT hZ (wd hw 12 rfl)) (mvT hZ (wd hw 13 rfl)) (by decide) (backOf (W := 1) (rm_ch3 l Z a0 hw [] b73 h73 n0 Z74 O74 A73 F75 F76 (Nat.le_trans Z0 sz_b73)) hZ (wd hw 13 rfl) (wd hw 10 rfl) (by decide) (by decide)) (g := (mkF m 6 #[] [.null, .null, (.ref b73), (.ref b73)])) rfl (by rw [hml]; rfl) (Steps.refl _) (a := b73) (argsL := [.null, .null]) (rest := [(.ref b73)]) (lenOf pd_5 rfl) rfl (by show 2 * 0 + _ ≤ _; exact Nat.le_of_eq rfl) (hb hby d5_6) (fun _ _ => ⟨rfl, e73, Nat.le_of_ble_eq_true rfl, Nat.le_of_ble_eq_true rfl⟩)
  dsimp only [Pt.U, Pt.locs, Pt.cells, Pt.slots] at X77 l77 y77 z77 st77 hQ77
  subst l77 y77 z77
  obtain ⟨rfl, Nq77, K77, p77_0, p77_1, p77_2⟩ := hQ77
  have N77 := Fr.app N0 Nq77
  have O78 := O74.keep K77 (allS (Nat.le_trans Z0 sz_b73) all0)
  have Z78 : n0 ≤ T77.heap.size := Nat.le_trans Z74 K77.1
  refine Go.by (B := (T77.setTop (mkF m 9 #[] [(.ref b73)]))) (fun _ k => st77.trans k) ?_
  refine Go.ret X77 hx hlk (t := (.object "com/example/pland/pland/billing/Charge")) hret rfl (Or.inr (Or.inr (Or.inr (Or.inr ⟨rfl, rfl, rfl⟩)))) (hb hby d5_9) (by decide) (by decide) ?_
  exact ⟨b73, rfl, N77, (((Keep.refl h0 []).ext E73).trans K77 (allS (Or.inr (Nat.le_trans (Nat.le_refl _) sz_b73)) all0)), p77_0, p77_2, (Nat.le_trans (Nat.le_refl _) sz_b73)⟩
theorem ef_rm_made0 (m : MethodId) (x0 : Addr) : entryFrame m #[(.ref x0)] 1 = mkF m 0 #[.val (.ref x0)] [] := by first | (simp [entryFrame, mkF, argsToLocals, Value.category]; done) | rfl
theorem d6_0 : decode prog_6_method_3_code 0 = .ok (.aload_n 0, 1) := by decide +kernel
theorem d6_1 : decode prog_6_method_3_code 1 = .ok (.getfield 13, 3) := by decide +kernel
theorem d6_4 : decode prog_6_method_3_code 4 = .ok (.ifnull 7, 3) := by decide +kernel
theorem d6_11 : decode prog_6_method_3_code 11 = .ok (.iconst 0, 1) := by decide +kernel
theorem d6_12 : decode prog_6_method_3_code 12 = .ok (.ireturn, 1) := by decide +kernel
def Q_rm_made0 (Z : State) (a1 : Addr) (h0 : Heap) (n0 : Nat) (v : Option Value) (h : Heap) (L : List Loc) : Prop := v = some (.int 0) ∧ Fr n0 L ∧ h = h0
set_option maxRecDepth 65536 in
set_option maxHeartbeats 40000000 in
theorem rm_made0 (l : Launch) (Z : State) (a0 : Array Value) (hw : ∀ d ∈ tables_1, d.before a0 Z = true) (ws : List Jvm.Cond) (a1 : Addr) (h0 : Heap) (n0 : Nat) (Z0 : n0 ≤ h0.size) (pr0 : Fld Z h0 a1 "com/example/pland/pland/billing/Charge" "result" "Lcom/example/pland/pland/payment/ChargeResult;" .null) :
    Met l Z (⟨"com/example/pland/pland/billing/Charge", "made", "()Z"⟩ : MethodName) prog_6_method_3_code 1 (some .boolean) ws ({ frames := 0, cells := 0, slots := 0, locals := 0 } : Room) #[(.ref a1)] h0 (Q_rm_made0 Z a1 h0 n0) := by
  refine Met.enter (f0 := fun m => mkF m 0 #[.val (.ref a1)] []) (plainFor_of_name pn_com_example_pland_pland_billing_Charge) (fun m => ef_rm_made0 m a1) ?_
  intro p e s m below meth c s₁ hx hby hml hown hnm hret hlk hZ X0 e0
  have hown : s.vm.findClass "com/example/pland/pland/billing/Charge" = some m.cls := hown
  have hnm : meth.name = "made" := hnm
  have hml : c.maxLocals = 1 := hml
  have hby : c.code = prog_6_method_3_code := hby
  have N0 := Fr.nil n0
  refine Go.by (B := (s₁.setTop (mkF m 1 #[.val (.ref a1)] [(.ref a1)]))) (fun _ k => XS.aloadN X0.here hx rfl (hb hby d6_0) rfl rfl k) ?_
  obtain ⟨T79, X79, e79, st79⟩ := getF X0 hx hZ hown (host := "") (Or.inl (wd hw 24 rfl)) Via.refl e0 pr0 (g := (mkF m 1 #[.val (.ref a1)] [(.ref a1)])) rfl rfl (hb hby d6_1)
  refine Go.by (B := (T79.setTop (mkF m 4 #[.val (.ref a1)] [.null]))) st79 ?_
  refine Go.by (B := (T79.setTop (mkF m 12 #[.val (.ref a1)] [(.int 0)]))) (fun _ k => XS.ifnullYes X79.here hx rfl (pc0 := 4) (pc' := 11) rfl (hb hby d6_4) rfl (by decide) (by decide) (XS.iconst X79.here hx rfl (hb hby d6_11) k)) ?_
  refine Go.ret X79 hx hlk (t := .boolean) hret rfl (Or.inl ⟨rfl, by simp, _, rfl⟩) (hb hby d6_12) (by decide) (by decide) ?_
  rw [e79]
  exact ⟨rfl, N0, rfl⟩
theorem ef_rm_made1 (m : MethodId) (x0 : Addr) : entryFrame m #[(.ref x0)] 1 = mkF m 0 #[.val (.ref x0)] [] := by first | (simp [entryFrame, mkF, argsToLocals, Value.category]; done) | rfl
theorem d6_7 : decode prog_6_method_3_code 7 = .ok (.iconst 1, 1) := by decide +kernel
theorem d6_8 : decode prog_6_method_3_code 8 = .ok (.goto 4, 3) := by decide +kernel
def Q_rm_made1 (Z : State) (a1 : Addr) (x1 : Addr) (h0 : Heap) (n0 : Nat) (v : Option Value) (h : Heap) (L : List Loc) : Prop := v = some (.int 1) ∧ Fr n0 L ∧ h = h0
set_option maxRecDepth 65536 in
set_option maxHeartbeats 40000000 in
theorem rm_made1 (l : Launch) (Z : State) (a0 : Array Value) (hw : ∀ d ∈ tables_1, d.before a0 Z = true) (ws : List Jvm.Cond) (a1 : Addr) (x1 : Addr) (h0 : Heap) (n0 : Nat) (Z0 : n0 ≤ h0.size) (pr0 : Fld Z h0 a1 "com/example/pland/pland/billing/Charge" "result" "Lcom/example/pland/pland/payment/ChargeResult;" (.ref x1)) :
    Met l Z (⟨"com/example/pland/pland/billing/Charge", "made", "()Z"⟩ : MethodName) prog_6_method_3_code 1 (some .boolean) ws ({ frames := 0, cells := 0, slots := 0, locals := 0 } : Room) #[(.ref a1)] h0 (Q_rm_made1 Z a1 x1 h0 n0) := by
  refine Met.enter (f0 := fun m => mkF m 0 #[.val (.ref a1)] []) (plainFor_of_name pn_com_example_pland_pland_billing_Charge) (fun m => ef_rm_made1 m a1) ?_
  intro p e s m below meth c s₁ hx hby hml hown hnm hret hlk hZ X0 e0
  have hown : s.vm.findClass "com/example/pland/pland/billing/Charge" = some m.cls := hown
  have hnm : meth.name = "made" := hnm
  have hml : c.maxLocals = 1 := hml
  have hby : c.code = prog_6_method_3_code := hby
  have N0 := Fr.nil n0
  refine Go.by (B := (s₁.setTop (mkF m 1 #[.val (.ref a1)] [(.ref a1)]))) (fun _ k => XS.aloadN X0.here hx rfl (hb hby d6_0) rfl rfl k) ?_
  obtain ⟨T80, X80, e80, st80⟩ := getF X0 hx hZ hown (host := "") (Or.inl (wd hw 24 rfl)) Via.refl e0 pr0 (g := (mkF m 1 #[.val (.ref a1)] [(.ref a1)])) rfl rfl (hb hby d6_1)
  refine Go.by (B := (T80.setTop (mkF m 4 #[.val (.ref a1)] [(.ref x1)]))) st80 ?_
  refine Go.by (B := (T80.setTop (mkF m 12 #[.val (.ref a1)] [(.int 1)]))) (fun _ k => XS.ifnullNo X80.here hx rfl (hb hby d6_4) rfl (XS.iconst X80.here hx rfl (hb hby d6_7) (XS.goto X80.here hx rfl (pc0 := 8) (pc' := 12) rfl (hb hby d6_8) (by decide) (by decide) k))) ?_
  refine Go.ret X80 hx hlk (t := .boolean) hret rfl (Or.inl ⟨rfl, by simp, _, rfl⟩) (hb hby d6_12) (by decide) (by decide) ?_
  rw [e80]
  exact ⟨rfl, N0, rfl⟩
theorem ef_rm0 (m : MethodId) (x0 : Int32) (x1 : Int32) (x2 : Int32) : entryFrame m #[(.int x0), (.int x1), (.int x2)] maxLocals = mkF m 0 #[.val (.int x0), .val (.int x1), .val (.int x2), .unset, .unset, .unset, .unset, .unset, .unset, .unset, .unset, .unset, .unset, .unset, .unset] [] := by first | (simp [entryFrame, mkF, argsToLocals, Value.category, maxLocals]; done) | rfl
theorem pd_6 : parseMethodDescriptor "(I)Lcom/example/pland/pland/payment/ChargeResult$Status;" = some ⟨[.int], some (.object "com/example/pland/pland/payment/ChargeResult$Status")⟩ := by decide +kernel
theorem pd_7 : parseMethodDescriptor "()Lcom/example/pland/pland/billing/Charge;" = some ⟨[], some (.object "com/example/pland/pland/billing/Charge")⟩ := by decide +kernel
theorem pd_8 : parseMethodDescriptor "()Z" = some ⟨[], some .boolean⟩ := by decide +kernel
theorem pd_9 : parseMethodDescriptor "([C)V" = some ⟨[(.array .char)], none⟩ := by decide +kernel
theorem pd_10 : parseMethodDescriptor "(Lcom/example/pland/pland/payment/ChargeResult$Status;Ljava/lang/String;)V" = some ⟨[(.object "com/example/pland/pland/payment/ChargeResult$Status"), (.object "java/lang/String")], none⟩ := by decide +kernel
def Q_rm0 (Z : State) (p1 : Int32) (p2 : Int32) (p3 : Int32) (cs : Int32) (w0 : Addr) (w1 : Addr) (w2 : Addr) (w3 : Addr) (h0 : Heap) (n0 : Nat) (v : Option Value) (h : Heap) (L : List Loc) : Prop := v = some (.int 1) ∧ Fr n0 L
set_option maxRecDepth 65536 in
set_option maxHeartbeats 40000000 in
theorem rm0 (l : Launch) (Z : State) (a0 : Array Value) (hw : ∀ d ∈ tables_1, d.before a0 Z = true) (ws : List Jvm.Cond) (p1 : Int32) (p2 : Int32) (p3 : Int32) (cs : Int32) (w0 : Addr) (w1 : Addr) (w2 : Addr) (w3 : Addr) (h0 : Heap) (n0 : Nat) (Z0 : n0 ≤ h0.size) (pr0 : Old Z n0 h0) (pr1 : Sta Z Z.heap "java/lang/String" "COMPACT_STRINGS" "Z" (.int cs)) (hcs : ¬ (cs = (0 : Int32))) (pr3 : Sta Z Z.heap "com/example/pland/pland/payment/ChargeResult$Status" "SUCCEEDED" "Lcom/example/pland/pland/payment/ChargeResult$Status;" (.ref w0)) (pr4 : Sta Z Z.heap "com/example/pland/pland/payment/ChargeResult$Status" "DECLINED" "Lcom/example/pland/pland/payment/ChargeResult$Status;" (.ref w1)) (pr5 : Sta Z Z.heap "com/example/pland/pland/payment/ChargeResult$Status" "REQUIRES_AUTHENTICATION" "Lcom/example/pland/pland/payment/ChargeResult$Status;" (.ref w2)) (pr6 : Sta Z Z.heap "com/example/pland/pland/payment/ChargeResult$Status" "FAILED" "Lcom/example/pland/pland/payment/ChargeResult$Status;" (.ref w3)) :
    Met l Z x code maxLocals ret ws room_1 #[(.int p1), (.int p2), (.int p3)] h0 (Q_rm0 Z p1 p2 p3 cs w0 w1 w2 w3 h0 n0) := by
  refine Met.enter (f0 := fun m => mkF m 0 #[.val (.int p1), .val (.int p2), .val (.int p3), .unset, .unset, .unset, .unset, .unset, .unset, .unset, .unset, .unset, .unset, .unset, .unset] []) (plainFor_of_name pn_com_example_pland_pland_billing_ChargeMadePinLaw) (fun m => ef_rm0 m p1 p2 p3) ?_
  intro p e s m below meth c s₁ hx hby hml hown hnm hret hlk hZ X0 e0
  have hown : s.vm.findClass "com/example/pland/pland/billing/ChargeMadePinLaw" = some m.cls := hown
  have hnm : meth.name = "law" := hnm
  have hml : c.maxLocals = 15 := hml
  have hby : c.code = code := hby
  have N0 := Fr.nil n0
  refine Go.by (B := (s₁.setTop (mkF m 3 #[.val (.int p1), .val (.int p2), .val (.int p3), .unset, .unset, .unset, .unset, .unset, .unset, .unset, .unset, .unset, .unset, .unset, .unset] [(.int (p1 &&& (1 : Int32)))]))) (fun _ k => XS.iloadN X0.here hx rfl (hb hby at_0) rfl (XS.iconst X0.here hx rfl (hb hby at_1) (XS.iand X0.here hx rfl (hb hby at_2) rfl k))) ?_
  by_cases c81 : (p1 &&& (1 : Int32)) = (0 : Int32)
  · skip
    refine Go.by (B := (s₁.setTop (mkF m 12 #[.val (.int p1), .val (.int p2), .val (.int p3), .val (.int 0), .unset, .unset, .unset, .unset, .unset, .unset, .unset, .unset, .unset, .unset, .unset] []))) (fun _ k => XS.ifYes X0.here hx rfl (pc0 := 3) (pc' := 10) rfl (hb hby at_3) rfl ((if0 _ _).trans (teq c81).1) (by decide) (by decide) (XS.iconst X0.here hx rfl (hb hby at_10) (XS.istoreN X0.here hx rfl (hb hby at_11) rfl (l' := #[.val (.int p1), .val (.int p2), .val (.int p3), .val (.int 0), .unset, .unset, .unset, .unset, .unset, .unset, .unset, .unset, .unset, .unset, .unset]) rfl k))) ?_
    obtain ⟨lc82, X82, N82⟩ : ∃ lc, Stand p l e room_1 s m #[(.int p1), (.int p2), (.int p3)] below meth c s₁ lc 0 0 ∧ Fr n0 lc := ⟨_, X0, N0⟩
    have e82 : s₁.heap = h0 := e0
    have J82 : ∀ (T83 : State) (X83 : Stand p l e room_1 s m #[(.int p1), (.int p2), (.int p3)] below meth c T83 lc82 0 0) (e83 : T83.heap = h0) (hp83 : Int32), Go p e below (PostW s room_1.cells room_1.slots (Q_rm0 Z p1 p2 p3 cs w0 w1 w2 w3 h0 n0)) (T83.setTop (mkF m 23 #[.val (.int p1), .val (.int p2), .val (.int p3), .val (.int 0), .unset, .unset, .unset, .unset, .unset, .unset, .unset, .unset, .unset, .unset, .unset] [(.int hp83)])) := by
      intro T83 X83 e83 hp83
      refine Go.by (B := (T83.setTop (mkF m 25 #[.val (.int p1), .val (.int p2), .val (.int p3), .val (.int 0), .val (.int hp83), .unset, .unset, .unset, .unset, .unset, .unset, .unset, .unset, .unset, .unset] []))) (fun _ k => XS.istore X83.here hx rfl (hb hby at_23) rfl (l' := #[.val (.int p1), .val (.int p2), .val (.int p3), .val (.int 0), .val (.int hp83), .unset, .unset, .unset, .unset, .unset, .unset, .unset, .unset, .unset, .unset]) rfl k) ?_
      obtain ⟨lc84, X84, N84⟩ : ∃ lc, Stand p l e room_1 s m #[(.int p1), (.int p2), (.int p3)] below meth c T83 lc 0 0 ∧ Fr n0 lc := ⟨_, X83, N82⟩
      have e84 : T83.heap = h0 := e83
      have J84 : ∀ (T85 : State) (X85 : Stand p l e room_1 s m #[(.int p1), (.int p2), (.int p3)] below meth c T85 lc84 0 0) (e85 : T85.heap = h0) (hc85 : Int32), Go p e below (PostW s room_1.cells room_1.slots (Q_rm0 Z p1 p2 p3 cs w0 w1 w2 w3 h0 n0)) (T85.setTop (mkF m 36 #[.val (.int p1), .val (.int p2), .val (.int p3), .val (.int 0), .val (.int hp83), .unset, .unset, .unset, .unset, .unset, .unset, .unset, .unset, .unset, .unset] [(.int hc85)])) := by
        intro T85 X85 e85 hc85
        refine Go.by (B := (T85.setTop (mkF m 43 #[.val (.int p1), .val (.int p2), .val (.int p3), .val (.int 0), .val (.int hp83), .val (.int hc85), .unset, .unset, .unset, .unset, .unset, .unset, .unset, .unset, .unset] [(.int (((p1.toUInt32 >>> ((3 : Int32) &&& 31).toUInt32).toInt32) &&& (3 : Int32)))]))) (fun _ k => XS.istore X85.here hx rfl (hb hby at_36) rfl (l' := #[.val (.int p1), .val (.int p2), .val (.int p3), .val (.int 0), .val (.int hp83), .val (.int hc85), .unset, .unset, .unset, .unset, .unset, .unset, .unset, .unset, .unset]) rfl (XS.iloadN X85.here hx rfl (hb hby at_38) rfl (XS.iconst X85.here hx rfl (hb hby at_39) (XS.iushr X85.here hx rfl (hb hby at_40) rfl (XS.iconst X85.here hx rfl (hb hby at_41) (XS.iand X85.here hx rfl (hb hby at_42) rfl k)))))) ?_
        obtain ⟨v86, hv86⟩ : ∃ v, v = (((p1.toUInt32 >>> ((3 : Int32) &&& 31).toUInt32).toInt32) &&& (3 : Int32)) := ⟨_, rfl⟩
        refine Go.by (B := (T85.setTop (mkF m 46 #[.val (.int p1), .val (.int p2), .val (.int p3), .val (.int 0), .val (.int hp83), .val (.int hc85), .val (.int v86), .unset, .unset, .unset, .unset, .unset, .unset, .unset, .unset] [(.int 2)]))) (fun _ k => XS.istore (x := v86) (rest := []) X85.here hx rfl (hb hby at_43) (by rw [hv86]) (l' := #[.val (.int p1), .val (.int p2), .val (.int p3), .val (.int 0), .val (.int hp83), .val (.int hc85), .val (.int v86), .unset, .unset, .unset, .unset, .unset, .unset, .unset, .unset]) rfl (XS.iconst X85.here hx rfl (hb hby at_45) k)) ?_
        obtain ⟨T87, h87, k87, X87, e87, E87, A87, st87⟩ := newP X85 hx hZ (wd hw 0 rfl) e85 (g := (mkF m 46 #[.val (.int p1), .val (.int p2), .val (.int p3), .val (.int 0), .val (.int hp83), .val (.int hc85), .val (.int v86), .unset, .unset, .unset, .unset, .unset, .unset, .unset, .unset] [(.int 2)])) rfl (hb hby at_46) rfl (by decide) (cap := 2) (by decide) (by decide) (by decide) (by decide)
        obtain ⟨b87, g87⟩ : ∃ z, z = h0.size := ⟨_, rfl⟩
        rw [← g87] at A87 st87
        have sz_b87 : h0.size ≤ b87 := Nat.le_of_eq g87.symm
        have V87 : Arv Z h87 b87 k87 .char (2 : Int32) [(.int 0), (.int 0)] (.int 0) := (Arv.new A87 (by decide)).pad (pad_rep [] (.int 0) 2)
        have O88 := pr0.ext E87
        have Z88 : n0 ≤ h87.size := Nat.le_trans Z0 E87.1
        refine Go.by (B := (T87.setTop (mkF m 48 #[.val (.int p1), .val (.int p2), .val (.int p3), .val (.int 0), .val (.int hp83), .val (.int hc85), .val (.int v86), .unset, .unset, .unset, .unset, .unset, .unset, .unset, .unset] [(.ref b87)]))) st87 ?_
        refine Go.by (B := (T87.setTop (mkF m 56 #[.val (.int p1), .val (.int p2), .val (.int p3), .val (.int 0), .val (.int hp83), .val (.int hc85), .val (.int v86), .unset, .unset, .unset, .unset, .unset, .unset, .unset, .unset] [(.int ((p2 &&& (255 : Int32)).toUInt32.toUInt16.toUInt32.toInt32)), (.int 0), (.ref b87), (.ref b87)]))) (fun _ k => XS.dup X87.here hx rfl (hb hby at_48) rfl rfl (XS.iconst X87.here hx rfl (hb hby at_49) (XS.iloadN X87.here hx rfl (hb hby at_50) rfl (XS.sipush X87.here hx rfl (hb hby at_51) (XS.iand X87.here hx rfl (hb hby at_54) rfl (XS.i2c X87.here hx rfl (hb hby at_55) rfl k)))))) ?_
        obtain ⟨cl89, Ar89, q89, S89, N_89, Hs89, G89⟩ := id V87
        have hin90 : ¬ ((0 : Int32) < 0 ∨ cl89.slots.size ≤ ((0 : Int32)).toNatClampNeg) := inb_of S89 ⟨by decide, by decide⟩
        obtain ⟨T90, h90, X90, e90, W90, st90⟩ := stC X87 hx hZ e87 Ar89 (j := (0 : Int32)) hin90 (g := (mkF m 56 #[.val (.int p1), .val (.int p2), .val (.int p3), .val (.int 0), .val (.int hp83), .val (.int hc85), .val (.int v86), .unset, .unset, .unset, .unset, .unset, .unset, .unset, .unset] [(.int ((p2 &&& (255 : Int32)).toUInt32.toUInt16.toUInt32.toInt32)), (.int 0), (.ref b87), (.ref b87)])) rfl rfl (hb hby at_56)
        have O91 := O88.wr W90 (Nat.le_trans Z0 sz_b87)
        have Z91 : n0 ≤ h90.size := Nat.le_trans Z88 (Keep.of_wr W90).1
        have V90 : Arv Z h90 b87 k87 .char (2 : Int32) [(.int (nar .char ((p2 &&& (255 : Int32)).toUInt32.toUInt16.toUInt32.toInt32))), (.int 0)] (.int 0) := Arv.set Ar89 q89 S89 N_89 Hs89 G89 (fits_nar_char _) W90 0 rfl (Nat.le_of_ble_eq_true rfl)
        have N90 := Fr.snoc X90 N84 (Nat.le_trans Z0 sz_b87)
        refine Go.by (B := (T90.setTop (mkF m 57 #[.val (.int p1), .val (.int p2), .val (.int p3), .val (.int 0), .val (.int hp83), .val (.int hc85), .val (.int v86), .unset, .unset, .unset, .unset, .unset, .unset, .unset, .unset] [(.ref b87)]))) st90 ?_
        refine Go.by (B := (T90.setTop (mkF m 68 #[.val (.int p1), .val (.int p2), .val (.int p3), .val (.int 0), .val (.int hp83), .val (.int hc85), .val (.int v86), .unset, .unset, .unset, .unset, .unset, .unset, .unset, .unset] [(.int ((((p2.toUInt32 >>> ((8 : Int32) &&& 31).toUInt32).toInt32) &&& (255 : Int32)).toUInt32.toUInt16.toUInt32.toInt32)), (.int 1), (.ref b87), (.ref b87)]))) (fun _ k => XS.dup X90.here hx rfl (hb hby at_57) rfl rfl (XS.iconst X90.here hx rfl (hb hby at_58) (XS.iloadN X90.here hx rfl (hb hby at_59) rfl (XS.bipush X90.here hx rfl (hb hby at_60) (XS.iushr X90.here hx rfl (hb hby at_62) rfl (XS.sipush X90.here hx rfl (hb hby at_63) (XS.iand X90.here hx rfl (hb hby at_66) rfl (XS.i2c X90.here hx rfl (hb hby at_67) rfl k)))))))) ?_
        obtain ⟨cl92, Ar92, q92, S92, N_92, Hs92, G92⟩ := id V90
        have hin93 : ¬ ((1 : Int32) < 0 ∨ cl92.slots.size ≤ ((1 : Int32)).toNatClampNeg) := inb_of S92 ⟨by decide, by decide⟩
        obtain ⟨T93, h93, X93, e93, W93, st93⟩ := stC X90 hx hZ e90 Ar92 (j := (1 : Int32)) hin93 (g := (mkF m 68 #[.val (.int p1), .val (.int p2), .val (.int p3), .val (.int 0), .val (.int hp83), .val (.int hc85), .val (.int v86), .unset, .unset, .unset, .unset, .unset, .unset, .unset, .unset] [(.int ((((p2.toUInt32 >>> ((8 : Int32) &&& 31).toUInt32).toInt32) &&& (255 : Int32)).toUInt32.toUInt16.toUInt32.toInt32)), (.int 1), (.ref b87), (.ref b87)])) rfl rfl (hb hby at_68)
        have O94 := O91.wr W93 (Nat.le_trans Z0 sz_b87)
        have Z94 : n0 ≤ h93.size := Nat.le_trans Z91 (Keep.of_wr W93).1
        have V93 : Arv Z h93 b87 k87 .char (2 : Int32) [(.int (nar .char ((p2 &&& (255 : Int32)).toUInt32.toUInt16.toUInt32.toInt32))), (.int (nar .char ((((p2.toUInt32 >>> ((8 : Int32) &&& 31).toUInt32).toInt32) &&& (255 : Int32)).toUInt32.toUInt16.toUInt32.toInt32)))] (.int 0) := Arv.set Ar92 q92 S92 N_92 Hs92 G92 (fits_nar_char _) W93 1 rfl (Nat.le_of_ble_eq_true rfl)
        have N93 := Fr.snoc X93 N90 (Nat.le_trans Z0 sz_b87)
        refine Go.by (B := (T93.setTop (mkF m 69 #[.val (.int p1), .val (.int p2), .val (.int p3), .val (.int 0), .val (.int hp83), .val (.int hc85), .val (.int v86), .unset, .unset, .unset, .unset, .unset, .unset, .unset, .unset] [(.ref b87)]))) st93 ?_
        refine Go.by (B := (T93.setTop (mkF m 72 #[.val (.int p1), .val (.int p2), .val (.int p3), .val (.int 0), .val (.int hp83), .val (.int hc85), .val (.int v86), .val (.ref b87), .unset, .unset, .unset, .unset, .unset, .unset, .unset] [(.int 2)]))) (fun _ k => XS.astore X93.here hx rfl (hb hby at_69) rfl rfl (l' := #[.val (.int p1), .val (.int p2), .val (.int p3), .val (.int 0), .val (.int hp83), .val (.int hc85), .val (.int v86), .val (.ref b87), .unset, .unset, .unset, .unset, .unset, .unset, .unset]) rfl (XS.iconst X93.here hx rfl (hb hby at_71) k)) ?_
        obtain ⟨T95, h95, k95, X95, e95, E95, A95, st95⟩ := newP X93 hx hZ (wd hw 0 rfl) e93 (g := (mkF m 72 #[.val (.int p1), .val (.int p2), .val (.int p3), .val (.int 0), .val (.int hp83), .val (.int hc85), .val (.int v86), .val (.ref b87), .unset, .unset, .unset, .unset, .unset, .unset, .unset] [(.int 2)])) rfl (hb hby at_72) rfl (by decide) (cap := 2) (by decide) (by decide) (by decide) (by decide)
        obtain ⟨b95, g95⟩ : ∃ z, z = h93.size := ⟨_, rfl⟩
        rw [← g95] at A95 st95
        have sz_b95 : h93.size ≤ b95 := Nat.le_of_eq g95.symm
        have V95 : Arv Z h95 b95 k95 .char (2 : Int32) [(.int 0), (.int 0)] (.int 0) := (Arv.new A95 (by decide)).pad (pad_rep [] (.int 0) 2)
        have O96 := O94.ext E95
        have Z96 : n0 ≤ h95.size := Nat.le_trans Z94 E95.1
        refine Go.by (B := (T95.setTop (mkF m 74 #[.val (.int p1), .val (.int p2), .val (.int p3), .val (.int 0), .val (.int hp83), .val (.int hc85), .val (.int v86), .val (.ref b87), .unset, .unset, .unset, .unset, .unset, .unset, .unset] [(.ref b95)]))) st95 ?_
        refine Go.by (B := (T95.setTop (mkF m 82 #[.val (.int p1), .val (.int p2), .val (.int p3), .val (.int 0), .val (.int hp83), .val (.int hc85), .val (.int v86), .val (.ref b87), .unset, .unset, .unset, .unset, .unset, .unset, .unset] [(.int ((p3 &&& (255 : Int32)).toUInt32.toUInt16.toUInt32.toInt32)), (.int 0), (.ref b95), (.ref b95)]))) (fun _ k => XS.dup X95.here hx rfl (hb hby at_74) rfl rfl (XS.iconst X95.here hx rfl (hb hby at_75) (XS.iloadN X95.here hx rfl (hb hby at_76) rfl (XS.sipush X95.here hx rfl (hb hby at_77) (XS.iand X95.here hx rfl (hb hby at_80) rfl (XS.i2c X95.here hx rfl (hb hby at_81) rfl k)))))) ?_
        obtain ⟨cl97, Ar97, q97, S97, N_97, Hs97, G97⟩ := id V95
        have hin98 : ¬ ((0 : Int32) < 0 ∨ cl97.slots.size ≤ ((0 : Int32)).toNatClampNeg) := inb_of S97 ⟨by decide, by decide⟩
        obtain ⟨T98, h98, X98, e98, W98, st98⟩ := stC X95 hx hZ e95 Ar97 (j := (0 : Int32)) hin98 (g := (mkF m 82 #[.val (.int p1), .val (.int p2), .val (.int p3), .val (.int 0), .val (.int hp83), .val (.int hc85), .val (.int v86), .val (.ref b87), .unset, .unset, .unset, .unset, .unset, .unset, .unset] [(.int ((p3 &&& (255 : Int32)).toUInt32.toUInt16.toUInt32.toInt32)), (.int 0), (.ref b95), (.ref b95)])) rfl rfl (hb hby at_82)
        have O99 := O96.wr W98 (Nat.le_trans Z94 sz_b95)
        have Z99 : n0 ≤ h98.size := Nat.le_trans Z96 (Keep.of_wr W98).1
        have V98 : Arv Z h98 b95 k95 .char (2 : Int32) [(.int (nar .char ((p3 &&& (255 : Int32)).toUInt32.toUInt16.toUInt32.toInt32))), (.int 0)] (.int 0) := Arv.set Ar97 q97 S97 N_97 Hs97 G97 (fits_nar_char _) W98 0 rfl (Nat.le_of_ble_eq_true rfl)
        have N98 := Fr.snoc X98 N93 (Nat.le_trans Z94 sz_b95)
        refine Go.by (B := (T98.setTop (mkF m 83 #[.val (.int p1), .val (.int p2), .val (.int p3), .val (.int 0), .val (.int hp83), .val (.int hc85), .val (.int v86), .val (.ref b87), .unset, .unset, .unset, .unset, .unset, .unset, .unset] [(.ref b95)]))) st98 ?_
        refine Go.by (B := (T98.setTop (mkF m 94 #[.val (.int p1), .val (.int p2), .val (.int p3), .val (.int 0), .val (.int hp83), .val (.int hc85), .val (.int v86), .val (.ref b87), .unset, .unset, .unset, .unset, .unset, .unset, .unset] [(.int ((((p3.toUInt32 >>> ((8 : Int32) &&& 31).toUInt32).toInt32) &&& (255 : Int32)).toUInt32.toUInt16.toUInt32.toInt32)), (.int 1), (.ref b95), (.ref b95)]))) (fun _ k => XS.dup X98.here hx rfl (hb hby at_83) rfl rfl (XS.iconst X98.here hx rfl (hb hby at_84) (XS.iloadN X98.here hx rfl (hb hby at_85) rfl (XS.bipush X98.here hx rfl (hb hby at_86) (XS.iushr X98.here hx rfl (hb hby at_88) rfl (XS.sipush X98.here hx rfl (hb hby at_89) (XS.iand X98.here hx rfl (hb hby at_92) rfl (XS.i2c X98.here hx rfl (hb hby at_93) rfl k)))))))) ?_
        obtain ⟨cl100, Ar100, q100, S100, N_100, Hs100, G100⟩ := id V98
        have hin101 : ¬ ((1 : Int32) < 0 ∨ cl100.slots.size ≤ ((1 : Int32)).toNatClampNeg) := inb_of S100 ⟨by decide, by decide⟩
        obtain ⟨T101, h101, X101, e101, W101, st101⟩ := stC X98 hx hZ e98 Ar100 (j := (1 : Int32)) hin101 (g := (mkF m 94 #[.val (.int p1), .val (.int p2), .val (.int p3), .val (.int 0), .val (.int hp83), .val (.int hc85), .val (.int v86), .val (.ref b87), .unset, .unset, .unset, .unset, .unset, .unset, .unset] [(.int ((((p3.toUInt32 >>> ((8 : Int32) &&& 31).toUInt32).toInt32) &&& (255 : Int32)).toUInt32.toUInt16.toUInt32.toInt32)), (.int 1), (.ref b95), (.ref b95)])) rfl rfl (hb hby at_94)
        have O102 := O99.wr W101 (Nat.le_trans Z94 sz_b95)
        have Z102 : n0 ≤ h101.size := Nat.le_trans Z99 (Keep.of_wr W101).1
        have V101 : Arv Z h101 b95 k95 .char (2 : Int32) [(.int (nar .char ((p3 &&& (255 : Int32)).toUInt32.toUInt16.toUInt32.toInt32))), (.int (nar .char ((((p3.toUInt32 >>> ((8 : Int32) &&& 31).toUInt32).toInt32) &&& (255 : Int32)).toUInt32.toUInt16.toUInt32.toInt32)))] (.int 0) := Arv.set Ar100 q100 S100 N_100 Hs100 G100 (fits_nar_char _) W101 1 rfl (Nat.le_of_ble_eq_true rfl)
        have N101 := Fr.snoc X101 N98 (Nat.le_trans Z94 sz_b95)
        refine Go.by (B := (T101.setTop (mkF m 95 #[.val (.int p1), .val (.int p2), .val (.int p3), .val (.int 0), .val (.int hp83), .val (.int hc85), .val (.int v86), .val (.ref b87), .unset, .unset, .unset, .unset, .unset, .unset, .unset] [(.ref b95)]))) st101 ?_
        refine Go.by (B := (T101.setTop (mkF m 99 #[.val (.int p1), .val (.int p2), .val (.int p3), .val (.int 0), .val (.int hp83), .val (.int hc85), .val (.int v86), .val (.ref b87), .val (.ref b95), .unset, .unset, .unset, .unset, .unset, .unset] [(.int hp83)]))) (fun _ k => XS.astore X101.here hx rfl (hb hby at_95) rfl rfl (l' := #[.val (.int p1), .val (.int p2), .val (.int p3), .val (.int 0), .val (.int hp83), .val (.int hc85), .val (.int v86), .val (.ref b87), .val (.ref b95), .unset, .unset, .unset, .unset, .unset, .unset]) rfl (XS.iload X101.here hx rfl (hb hby at_97) rfl k)) ?_
        by_cases c103 : hp83 = (0 : Int32)
        · skip
          refine Go.by (B := (T101.setTop (mkF m 119 #[.val (.int p1), .val (.int p2), .val (.int p3), .val (.int 0), .val (.int hp83), .val (.int hc85), .val (.int v86), .val (.ref b87), .val (.ref b95), .val .null, .unset, .unset, .unset, .unset, .unset] [(.int hc85)]))) (fun _ k => XS.ifYes X101.here hx rfl (pc0 := 99) (pc' := 114) rfl (hb hby at_99) rfl ((if0 _ _).trans (teq c103).1) (by decide) (by decide) (XS.aconstNull X101.here hx rfl (hb hby at_114) (XS.astore X101.here hx rfl (hb hby at_115) rfl rfl (l' := #[.val (.int p1), .val (.int p2), .val (.int p3), .val (.int 0), .val (.int hp83), .val (.int hc85), .val (.int v86), .val (.ref b87), .val (.ref b95), .val .null, .unset, .unset, .unset, .unset, .unset]) rfl (XS.iload X101.here hx rfl (hb hby at_117) rfl k)))) ?_
          by_cases c104 : hc85 = (0 : Int32)
          · skip
            refine Go.by (B := (T101.setTop (mkF m 139 #[.val (.int p1), .val (.int p2), .val (.int p3), .val (.int 0), .val (.int hp83), .val (.int hc85), .val (.int v86), .val (.ref b87), .val (.ref b95), .val .null, .val .null, .unset, .unset, .unset, .unset] [(.int v86)]))) (fun _ k => XS.ifYes X101.here hx rfl (pc0 := 119) (pc' := 134) rfl (hb hby at_119) rfl ((if0 _ _).trans (teq c104).1) (by decide) (by decide) (XS.aconstNull X101.here hx rfl (hb hby at_134) (XS.astore X101.here hx rfl (hb hby at_135) rfl rfl (l' := #[.val (.int p1), .val (.int p2), .val (.int p3), .val (.int 0), .val (.int hp83), .val (.int hc85), .val (.int v86), .val (.ref b87), .val (.ref b95), .val .null, .val .null, .unset, .unset, .unset, .unset]) rfl (XS.iload X101.here hx rfl (hb hby at_137) rfl k)))) ?_
            obtain ⟨_, _, ⟨T105, L105, k105, n105⟩, -, X105, ⟨Lc105, hQ105, l105, y105, z105⟩, st105⟩ := Jvm.LawKit.callS X101 hx (y := (⟨"com/example/pland/pland/billing/ChargeMadePinLaw", "status", "(I)Lcom/example/pland/pland/payment/ChargeResult$Status;"⟩ : MethodName)) hown (mvT hZ (wd hw 1 rfl)) (mvT hZ (wd hw 2 rfl)) (mvT hZ (wd hw 3 rfl)) (mvT hZ (wd hw 4 rfl)) (by decide) (backOf (W := 0) (rm_status l Z a0 hw [] v86 w0 w1 w2 w3 h101 n0 Z102 O102 pr3 pr4 pr5 pr6) hZ (wd hw 4 rfl) (wd hw 3 rfl) (by decide) (by decide)) (g := (mkF m 139 #[.val (.int p1), .val (.int p2), .val (.int p3), .val (.int 0), .val (.int hp83), .val (.int hc85), .val (.int v86), .val (.ref b87), .val (.ref b95), .val .null, .val .null, .unset, .unset, .unset, .unset] [(.int v86)])) rfl (by rw [hml]; rfl) (argsL := [(.int v86)]) (rest := []) (lenOf pd_6 rfl) rfl (by show 2 * 0 + _ ≤ _; exact Nat.le_of_eq rfl) (hb hby at_139) (fun _ _ => ⟨rfl, e101, Nat.le_of_ble_eq_true rfl, Nat.le_of_ble_eq_true rfl⟩)
            dsimp only [Pt.U, Pt.locs, Pt.cells, Pt.slots] at X105 l105 y105 z105 st105 hQ105
            subst l105 y105 z105
            obtain ⟨o105, rfl, Nq105, hh105⟩ := hQ105
            have N105 := Fr.app N101 Nq105
            refine Go.by (B := (T105.setTop (mkF m 142 #[.val (.int p1), .val (.int p2), .val (.int p3), .val (.int 0), .val (.int hp83), .val (.int hc85), .val (.int v86), .val (.ref b87), .val (.ref b95), .val .null, .val .null, .unset, .unset, .unset, .unset] [(.ref o105)]))) (fun _ k => st105 _ k) ?_
            refine Go.by (B := (T105.setTop (mkF m 165 #[.val (.int p1), .val (.int p2), .val (.int p3), .val (.int 0), .val (.int hp83), .val (.int hc85), .val (.int v86), .val (.ref b87), .val (.ref b95), .val .null, .val .null, .val (.ref o105), .val .null, .unset, .unset] []))) (fun _ k => XS.astore X105.here hx rfl (hb hby at_142) rfl rfl (l' := #[.val (.int p1), .val (.int p2), .val (.int p3), .val (.int 0), .val (.int hp83), .val (.int hc85), .val (.int v86), .val (.ref b87), .val (.ref b95), .val .null, .val .null, .val (.ref o105), .unset, .unset, .unset]) rfl (XS.iloadN X105.here hx rfl (hb hby at_144) rfl (XS.ifYes X105.here hx rfl (pc0 := 145) (pc' := 162) rfl (hb hby at_145) rfl ((if0 _ _).trans (teq (by decide : (0 : Int32) = (0 : Int32))).1) (by decide) (by decide) (XS.aconstNull X105.here hx rfl (hb hby at_162) (XS.astore X105.here hx rfl (hb hby at_163) rfl rfl (l' := #[.val (.int p1), .val (.int p2), .val (.int p3), .val (.int 0), .val (.int hp83), .val (.int hc85), .val (.int v86), .val (.ref b87), .val (.ref b95), .val .null, .val .null, .val (.ref o105), .val .null, .unset, .unset]) rfl k))))) ?_
            obtain ⟨T106, h106, X106, e106, E106, A106, D106, -, st106⟩ := newO X105 hx hZ hown (wd hw 8 rfl) (wd hw 9 rfl) (wd hw 10 rfl) hh105 (g := (mkF m 165 #[.val (.int p1), .val (.int p2), .val (.int p3), .val (.int 0), .val (.int hp83), .val (.int hc85), .val (.int v86), .val (.ref b87), .val (.ref b95), .val .null, .val .null, .val (.ref o105), .val .null, .unset, .unset] [])) rfl (hb hby at_165) (by decide) (by decide)
            obtain ⟨b106, g106⟩ : ∃ z, z = h101.size := ⟨_, rfl⟩
            rw [← g106] at A106 D106 st106
            have sz_b106 : h101.size ≤ b106 := Nat.le_of_eq g106.symm
            have O107 := O102.ext E106
            have Z107 : n0 ≤ h106.size := Nat.le_trans Z102 E106.1
            have F108 : Fld Z h106 b106 "com/example/pland/pland/billing/Charge" "paymentMethod" "Ljava/lang/String;" .null := D106 (Or.inr (wd hw 23 rfl)) (ty := (.object "java/lang/String")) (by decide)
            have F109 : Fld Z h106 b106 "com/example/pland/pland/billing/Charge" "result" "Lcom/example/pland/pland/payment/ChargeResult;" .null := D106 (Or.inr (wd hw 25 rfl)) (ty := (.object "com/example/pland/pland/payment/ChargeResult")) (by decide)
            refine Go.by (B := (T106.setTop (mkF m 168 #[.val (.int p1), .val (.int p2), .val (.int p3), .val (.int 0), .val (.int hp83), .val (.int hc85), .val (.int v86), .val (.ref b87), .val (.ref b95), .val .null, .val .null, .val (.ref o105), .val .null, .unset, .unset] [(.ref b106)]))) st106 ?_
            refine Go.by (B := (T106.setTop (mkF m 173 #[.val (.int p1), .val (.int p2), .val (.int p3), .val (.int 0), .val (.int hp83), .val (.int hc85), .val (.int v86), .val (.ref b87), .val (.ref b95), .val .null, .val .null, .val (.ref o105), .val .null, .unset, .unset] [.null, .null, (.ref b106), (.ref b106)]))) (fun _ k => XS.dup X106.here hx rfl (hb hby at_168) rfl rfl (XS.aload X106.here hx rfl (hb hby at_169) rfl rfl (XS.aload X106.here hx rfl (hb hby at_171) rfl rfl k))) ?_
            obtain ⟨_, _, ⟨T110, L110, k110, n110⟩, -, X110, ⟨Lc110, hQ110, l110, y110, z110⟩, st110⟩ := X106.specialBack hx (y := (⟨"com/example/pland/pland/billing/Charge", "<init>", "(Ljava/lang/String;Lcom/example/pland/pland/payment/ChargeResult;)V"⟩ : MethodName)) rfl hown (mvT hZ (wd hw 11 rfl)) (mvT hZ (wd hw 12 rfl)) (mvT hZ (wd hw 13 rfl)) (by decide) (backOf (W := 1) (rm_ch3 l Z a0 hw [] b106 h106 n0 Z107 O107 A106 F108 F109 (Nat.le_trans Z102 sz_b106)) hZ (wd hw 13 rfl) (wd hw 10 rfl) (by decide) (by decide)) (g := (mkF m 173 #[.val (.int p1), .val (.int p2), .val (.int p3), .val (.int 0), .val (.int hp83), .val (.int hc85), .val (.int v86), .val (.ref b87), .val (.ref b95), .val .null, .val .null, .val (.ref o105), .val .null, .unset, .unset] [.null, .null, (.ref b106), (.ref b106)])) rfl (by rw [hml]; rfl) (Steps.refl _) (a := b106) (argsL := [.null, .null]) (rest := [(.ref b106)]) (lenOf pd_5 rfl) rfl (by show 2 * 0 + _ ≤ _; exact Nat.le_of_eq rfl) (hb hby at_173) (fun _ _ => ⟨rfl, e106, Nat.le_of_ble_eq_true rfl, Nat.le_of_ble_eq_true rfl⟩)
            dsimp only [Pt.U, Pt.locs, Pt.cells, Pt.slots] at X110 l110 y110 z110 st110 hQ110
            subst l110 y110 z110
            obtain ⟨rfl, Nq110, K110, p110_0, p110_1, p110_2⟩ := hQ110
            have N110 := Fr.app N105 Nq110
            have O111 := O107.keep K110 (allS (Nat.le_trans Z102 sz_b106) all0)
            have Z111 : n0 ≤ T110.heap.size := Nat.le_trans Z107 K110.1
            refine Go.by (B := (T110.setTop (mkF m 176 #[.val (.int p1), .val (.int p2), .val (.int p3), .val (.int 0), .val (.int hp83), .val (.int hc85), .val (.int v86), .val (.ref b87), .val (.ref b95), .val .null, .val .null, .val (.ref o105), .val .null, .unset, .unset] [(.ref b106)]))) (fun _ k => st110.trans k) ?_
            refine Go.by (B := (T110.setTop (mkF m 178 #[.val (.int p1), .val (.int p2), .val (.int p3), .val (.int 0), .val (.int hp83), .val (.int hc85), .val (.int v86), .val (.ref b87), .val (.ref b95), .val .null, .val .null, .val (.ref o105), .val .null, .val (.ref b106), .unset] []))) (fun _ k => XS.astore X110.here hx rfl (hb hby at_176) rfl rfl (l' := #[.val (.int p1), .val (.int p2), .val (.int p3), .val (.int 0), .val (.int hp83), .val (.int hc85), .val (.int v86), .val (.ref b87), .val (.ref b95), .val .null, .val .null, .val (.ref o105), .val .null, .val (.ref b106), .unset]) rfl k) ?_
            obtain ⟨_, _, ⟨T112, L112, k112, n112⟩, -, X112, ⟨Lc112, hQ112, l112, y112, z112⟩, st112⟩ := Jvm.LawKit.callS X110 hx (y := (⟨"com/example/pland/pland/billing/Charge", "none", "()Lcom/example/pland/pland/billing/Charge;"⟩ : MethodName)) hown (mvT hZ (wd hw 26 rfl)) (mvT hZ (wd hw 27 rfl)) (mvT hZ (wd hw 10 rfl)) (mvT hZ (wd hw 28 rfl)) (by decide) (backOf (W := 0) (rm_none l Z a0 hw []  T110.heap n0 Z111 O111) hZ (wd hw 28 rfl) (wd hw 10 rfl) (by decide) (by decide)) (g := (mkF m 178 #[.val (.int p1), .val (.int p2), .val (.int p3), .val (.int 0), .val (.int hp83), .val (.int hc85), .val (.int v86), .val (.ref b87), .val (.ref b95), .val .null, .val .null, .val (.ref o105), .val .null, .val (.ref b106), .unset] [])) rfl (by rw [hml]; rfl) (argsL := []) (rest := []) (lenOf pd_7 rfl) rfl (by show 2 * 0 + _ ≤ _; exact Nat.le_of_eq rfl) (hb hby at_178) (fun _ _ => ⟨rfl, rfl, Nat.le_of_ble_eq_true rfl, Nat.le_of_ble_eq_true rfl⟩)
            dsimp only [Pt.U, Pt.locs, Pt.cells, Pt.slots] at X112 l112 y112 z112 st112 hQ112
            subst l112 y112 z112
            obtain ⟨b112, rfl, Nq112, K112, p112_0, p112_1, p112_2⟩ := hQ112
            have N112 := Fr.app N110 Nq112
            have O113 := O111.keep K112 all0
            have Z113 : n0 ≤ T112.heap.size := Nat.le_trans Z111 K112.1
            have sz_b112 : T110.heap.size ≤ b112 := p112_2
            refine Go.by (B := (T112.setTop (mkF m 181 #[.val (.int p1), .val (.int p2), .val (.int p3), .val (.int 0), .val (.int hp83), .val (.int hc85), .val (.int v86), .val (.ref b87), .val (.ref b95), .val .null, .val .null, .val (.ref o105), .val .null, .val (.ref b106), .unset] [(.ref b112)]))) (fun _ k => st112 _ k) ?_
            obtain ⟨cq114, kq114, q114a, q114b, q114c⟩ := isOf hZ rfl p112_0
            obtain ⟨_, _, ⟨T114, L114, k114, n114⟩, -, X114, ⟨Lc114, hQ114, l114, y114, z114⟩, st114⟩ := X112.virtualBack hx (y := (⟨"com/example/pland/pland/billing/Charge", "made", "()Z"⟩ : MethodName)) (z := (⟨"com/example/pland/pland/billing/Charge", "made", "()Z"⟩ : MethodName)) hown (mvT hZ (wd hw 31 rfl)) (mvT hZ (wd hw 32 rfl)) (notFace_of_selects (args := #[]) (mvT hZ (wd hw 34 rfl))) (mvT hZ (wd hw 34 rfl)) (mvT hZ (wd hw 33 rfl)) (by decide) (backOf (W := 0) (rm_made0 l Z a0 hw [] b112 T112.heap n0 Z113 p112_1) hZ (wd hw 35 rfl) (wd hw 10 rfl) (by decide) (by decide)) q114a q114c (g := (mkF m 181 #[.val (.int p1), .val (.int p2), .val (.int p3), .val (.int 0), .val (.int hp83), .val (.int hc85), .val (.int v86), .val (.ref b87), .val (.ref b95), .val .null, .val .null, .val (.ref o105), .val .null, .val (.ref b106), .unset] [(.ref b112)])) rfl (by rw [hml]; rfl) (Steps.refl _) (argsL := []) (rest := []) (lenOf pd_8 rfl) rfl (by show 2 * 0 + _ ≤ _; exact Nat.le_of_eq rfl) (hb hby at_181) (fun _ _ => ⟨rfl, rfl, Nat.le_of_ble_eq_true rfl, Nat.le_of_ble_eq_true rfl⟩)
            dsimp only [Pt.U, Pt.locs, Pt.cells, Pt.slots] at X114 l114 y114 z114 st114 hQ114
            subst l114 y114 z114
            obtain ⟨rfl, Nq114, hh114⟩ := hQ114
            have N114 := Fr.app N112 Nq114
            refine Go.by (B := (T114.setTop (mkF m 184 #[.val (.int p1), .val (.int p2), .val (.int p3), .val (.int 0), .val (.int hp83), .val (.int hc85), .val (.int v86), .val (.ref b87), .val (.ref b95), .val .null, .val .null, .val (.ref o105), .val .null, .val (.ref b106), .unset] [(.int 0)]))) (fun _ k => st114.trans k) ?_
            refine Go.by (B := (T114.setTop (mkF m 201 #[.val (.int p1), .val (.int p2), .val (.int p3), .val (.int 0), .val (.int hp83), .val (.int hc85), .val (.int v86), .val (.ref b87), .val (.ref b95), .val .null, .val .null, .val (.ref o105), .val .null, .val (.ref b106), .val (.int 1)] [(.ref b106)]))) (fun _ k => XS.ifNo X114.here hx rfl (hb hby at_184) rfl ((if0 _ _).trans (teq (by decide : (0 : Int32) = (0 : Int32))).2) (XS.iconst X114.here hx rfl (hb hby at_187) (XS.goto X114.here hx rfl (pc0 := 188) (pc' := 192) rfl (hb hby at_188) (by decide) (by decide) (XS.istore X114.here hx rfl (hb hby at_192) rfl (l' := #[.val (.int p1), .val (.int p2), .val (.int p3), .val (.int 0), .val (.int hp83), .val (.int hc85), .val (.int v86), .val (.ref b87), .val (.ref b95), .val .null, .val .null, .val (.ref o105), .val .null, .val (.ref b106), .val (.int 1)]) rfl (XS.iload X114.here hx rfl (hb hby at_194) rfl (XS.ifNo X114.here hx rfl (hb hby at_196) rfl ((if0 _ _).trans (feq (by decide : ¬ ((1 : Int32) = (0 : Int32)))).1) (XS.aload X114.here hx rfl (hb hby at_199) rfl rfl k))))))) ?_
            obtain ⟨cq115, kq115, q115a, q115b, q115c⟩ := isOf hZ hh114 (p110_0.keep K112)
            obtain ⟨_, _, ⟨T115, L115, k115, n115⟩, -, X115, ⟨Lc115, hQ115, l115, y115, z115⟩, st115⟩ := X114.virtualBack hx (y := (⟨"com/example/pland/pland/billing/Charge", "made", "()Z"⟩ : MethodName)) (z := (⟨"com/example/pland/pland/billing/Charge", "made", "()Z"⟩ : MethodName)) hown (mvT hZ (wd hw 31 rfl)) (mvT hZ (wd hw 32 rfl)) (notFace_of_selects (args := #[]) (mvT hZ (wd hw 34 rfl))) (mvT hZ (wd hw 34 rfl)) (mvT hZ (wd hw 33 rfl)) (by decide) (backOf (W := 0) (rm_made0 l Z a0 hw [] b106 T112.heap n0 Z113 (p110_2.keep K112 nin0)) hZ (wd hw 35 rfl) (wd hw 10 rfl) (by decide) (by decide)) q115a q115c (g := (mkF m 201 #[.val (.int p1), .val (.int p2), .val (.int p3), .val (.int 0), .val (.int hp83), .val (.int hc85), .val (.int v86), .val (.ref b87), .val (.ref b95), .val .null, .val .null, .val (.ref o105), .val .null, .val (.ref b106), .val (.int 1)] [(.ref b106)])) rfl (by rw [hml]; rfl) (Steps.refl _) (argsL := []) (rest := []) (lenOf pd_8 rfl) rfl (by show 2 * 0 + _ ≤ _; exact Nat.le_of_eq rfl) (hb hby at_201) (fun _ _ => ⟨rfl, hh114, Nat.le_of_ble_eq_true rfl, Nat.le_of_ble_eq_true rfl⟩)
            dsimp only [Pt.U, Pt.locs, Pt.cells, Pt.slots] at X115 l115 y115 z115 st115 hQ115
            subst l115 y115 z115
            obtain ⟨rfl, Nq115, hh115⟩ := hQ115
            have N115 := Fr.app N114 Nq115
            refine Go.by (B := (T115.setTop (mkF m 204 #[.val (.int p1), .val (.int p2), .val (.int p3), .val (.int 0), .val (.int hp83), .val (.int hc85), .val (.int v86), .val (.ref b87), .val (.ref b95), .val .null, .val .null, .val (.ref o105), .val .null, .val (.ref b106), .val (.int 1)] [(.int 0)]))) (fun _ k => st115.trans k) ?_
            refine Go.by (B := (T115.setTop (mkF m 213 #[.val (.int p1), .val (.int p2), .val (.int p3), .val (.int 0), .val (.int hp83), .val (.int hc85), .val (.int v86), .val (.ref b87), .val (.ref b95), .val .null, .val .null, .val (.ref o105), .val .null, .val (.ref b106), .val (.int 1)] [(.int 1)]))) (fun _ k => XS.iloadN X115.here hx rfl (hb hby at_204) rfl (XS.icmpNo X115.here hx rfl (hb hby at_205) rfl (teq (by decide : (0 : Int32) = (0 : Int32))).2 (XS.iconst X115.here hx rfl (hb hby at_208) (XS.goto X115.here hx rfl (pc0 := 209) (pc' := 213) rfl (hb hby at_209) (by decide) (by decide) k)))) ?_
            refine Go.ret X115 hx hlk (t := .boolean) hret rfl (Or.inl ⟨rfl, by simp, _, rfl⟩) (hb hby at_213) (by decide) (by decide) ?_
            exact ⟨rfl, N115⟩
          · skip
            refine Go.by (B := (T101.setTop (mkF m 122 #[.val (.int p1), .val (.int p2), .val (.int p3), .val (.int 0), .val (.int hp83), .val (.int hc85), .val (.int v86), .val (.ref b87), .val (.ref b95), .val .null, .unset, .unset, .unset, .unset, .unset] []))) (fun _ k => XS.ifNo X101.here hx rfl (hb hby at_119) rfl ((if0 _ _).trans (feq c104).1) k) ?_
            obtain ⟨T116, h116, X116, e116, E116, A116, D116, -, st116⟩ := newO X101 hx hZ hown (wd hw 47 rfl) (wd hw 48 rfl) (wd hw 49 rfl) e101 (g := (mkF m 122 #[.val (.int p1), .val (.int p2), .val (.int p3), .val (.int 0), .val (.int hp83), .val (.int hc85), .val (.int v86), .val (.ref b87), .val (.ref b95), .val .null, .unset, .unset, .unset, .unset, .unset] [])) rfl (hb hby at_122) (by decide) (by decide)
            obtain ⟨b116, g116⟩ : ∃ z, z = h101.size := ⟨_, rfl⟩
            rw [← g116] at A116 D116 st116
            have sz_b116 : h101.size ≤ b116 := Nat.le_of_eq g116.symm
            have O117 := O102.ext E116
            have Z117 : n0 ≤ h116.size := Nat.le_trans Z102 E116.1
            have F118 : Fld Z h116 b116 "java/lang/String" "coder" "B" (.int 0) := D116 (Or.inr (wd hw 71 rfl)) (ty := .byte) (by decide)
            have F119 : Fld Z h116 b116 "java/lang/String" "value" "[B" .null := D116 (Or.inr (wd hw 73 rfl)) (ty := (.array .byte)) (by decide)
            refine Go.by (B := (T116.setTop (mkF m 125 #[.val (.int p1), .val (.int p2), .val (.int p3), .val (.int 0), .val (.int hp83), .val (.int hc85), .val (.int v86), .val (.ref b87), .val (.ref b95), .val .null, .unset, .unset, .unset, .unset, .unset] [(.ref b116)]))) st116 ?_
            refine Go.by (B := (T116.setTop (mkF m 128 #[.val (.int p1), .val (.int p2), .val (.int p3), .val (.int 0), .val (.int hp83), .val (.int hc85), .val (.int v86), .val (.ref b87), .val (.ref b95), .val .null, .unset, .unset, .unset, .unset, .unset] [(.ref b95), (.ref b116), (.ref b116)]))) (fun _ k => XS.dup X116.here hx rfl (hb hby at_125) rfl rfl (XS.aload X116.here hx rfl (hb hby at_126) rfl rfl k)) ?_
            obtain ⟨_, _, ⟨T120, L120, k120, n120⟩, -, X120, ⟨Lc120, hQ120, l120, y120, z120⟩, st120⟩ := X116.specialBack hx (y := (⟨"java/lang/String", "<init>", "([C)V"⟩ : MethodName)) rfl hown (mvT hZ (wd hw 50 rfl)) (mvT hZ (wd hw 51 rfl)) (mvT hZ (wd hw 52 rfl)) (by decide) (backOf (W := 1) (rm_sC_2 l Z a0 hw [] b116 b95 k95 (nar .char ((p3 &&& (255 : Int32)).toUInt32.toUInt16.toUInt32.toInt32)) (nar .char ((((p3.toUInt32 >>> ((8 : Int32) &&& 31).toUInt32).toInt32) &&& (255 : Int32)).toUInt32.toUInt16.toUInt32.toInt32)) cs h116 n0 Z117 O117 pr1 hcs A116 F119 F118 (Nat.le_trans Z102 sz_b116) (V101.ext E116) (own_chn _) (own_chn _)) hZ (wd hw 52 rfl) (wd hw 49 rfl) (by decide) (by decide)) (g := (mkF m 128 #[.val (.int p1), .val (.int p2), .val (.int p3), .val (.int 0), .val (.int hp83), .val (.int hc85), .val (.int v86), .val (.ref b87), .val (.ref b95), .val .null, .unset, .unset, .unset, .unset, .unset] [(.ref b95), (.ref b116), (.ref b116)])) rfl (by rw [hml]; rfl) (Steps.refl _) (a := b116) (argsL := [(.ref b95)]) (rest := [(.ref b116)]) (lenOf pd_9 rfl) rfl (by show 2 * 0 + _ ≤ _; exact Nat.le_of_eq rfl) (hb hby at_128) (fun _ _ => ⟨rfl, e116, Nat.le_of_ble_eq_true rfl, Nat.le_of_ble_eq_true rfl⟩)
            dsimp only [Pt.U, Pt.locs, Pt.cells, Pt.slots] at X120 l120 y120 z120 st120 hQ120
            subst l120 y120 z120
            obtain ⟨t120, k120, rfl, Nq120, K120, p120_0, p120_1, p120_2, p120_3, p120_4⟩ := hQ120
            have N120 := Fr.app N101 Nq120
            have O121 := O117.keep K120 (allS (Nat.le_trans Z102 sz_b116) all0)
            have Z121 : n0 ≤ T120.heap.size := Nat.le_trans Z117 K120.1
            have sz_t120 : h116.size ≤ t120 := p120_4
            refine Go.by (B := (T120.setTop (mkF m 131 #[.val (.int p1), .val (.int p2), .val (.int p3), .val (.int 0), .val (.int hp83), .val (.int hc85), .val (.int v86), .val (.ref b87), .val (.ref b95), .val .null, .unset, .unset, .unset, .unset, .unset] [(.ref b116)]))) (fun _ k => st120.trans k) ?_
            refine Go.by (B := (T120.setTop (mkF m 139 #[.val (.int p1), .val (.int p2), .val (.int p3), .val (.int 0), .val (.int hp83), .val (.int hc85), .val (.int v86), .val (.ref b87), .val (.ref b95), .val .null, .val (.ref b116), .unset, .unset, .unset, .unset] [(.int v86)]))) (fun _ k => XS.goto X120.here hx rfl (pc0 := 131) (pc' := 135) rfl (hb hby at_131) (by decide) (by decide) (XS.astore X120.here hx rfl (hb hby at_135) rfl rfl (l' := #[.val (.int p1), .val (.int p2), .val (.int p3), .val (.int 0), .val (.int hp83), .val (.int hc85), .val (.int v86), .val (.ref b87), .val (.ref b95), .val .null, .val (.ref b116), .unset, .unset, .unset, .unset]) rfl (XS.iload X120.here hx rfl (hb hby at_137) rfl k))) ?_
            obtain ⟨_, _, ⟨T122, L122, k122, n122⟩, -, X122, ⟨Lc122, hQ122, l122, y122, z122⟩, st122⟩ := Jvm.LawKit.callS X120 hx (y := (⟨"com/example/pland/pland/billing/ChargeMadePinLaw", "status", "(I)Lcom/example/pland/pland/payment/ChargeResult$Status;"⟩ : MethodName)) hown (mvT hZ (wd hw 1 rfl)) (mvT hZ (wd hw 2 rfl)) (mvT hZ (wd hw 3 rfl)) (mvT hZ (wd hw 4 rfl)) (by decide) (backOf (W := 0) (rm_status l Z a0 hw [] v86 w0 w1 w2 w3 T120.heap n0 Z121 O121 pr3 pr4 pr5 pr6) hZ (wd hw 4 rfl) (wd hw 3 rfl) (by decide) (by decide)) (g := (mkF m 139 #[.val (.int p1), .val (.int p2), .val (.int p3), .val (.int 0), .val (.int hp83), .val (.int hc85), .val (.int v86), .val (.ref b87), .val (.ref b95), .val .null, .val (.ref b116), .unset, .unset, .unset, .unset] [(.int v86)])) rfl (by rw [hml]; rfl) (argsL := [(.int v86)]) (rest := []) (lenOf pd_6 rfl) rfl (by show 2 * 0 + _ ≤ _; exact Nat.le_of_eq rfl) (hb hby at_139) (fun _ _ => ⟨rfl, rfl, Nat.le_of_ble_eq_true rfl, Nat.le_of_ble_eq_true rfl⟩)
            dsimp only [Pt.U, Pt.locs, Pt.cells, Pt.slots] at X122 l122 y122 z122 st122 hQ122
            subst l122 y122 z122
            obtain ⟨o122, rfl, Nq122, hh122⟩ := hQ122
            have N122 := Fr.app N120 Nq122
            refine Go.by (B := (T122.setTop (mkF m 142 #[.val (.int p1), .val (.int p2), .val (.int p3), .val (.int 0), .val (.int hp83), .val (.int hc85), .val (.int v86), .val (.ref b87), .val (.ref b95), .val .null, .val (.ref b116), .unset, .unset, .unset, .unset] [(.ref o122)]))) (fun _ k => st122 _ k) ?_
            refine Go.by (B := (T122.setTop (mkF m 165 #[.val (.int p1), .val (.int p2), .val (.int p3), .val (.int 0), .val (.int hp83), .val (.int hc85), .val (.int v86), .val (.ref b87), .val (.ref b95), .val .null, .val (.ref b116), .val (.ref o122), .val .null, .unset, .unset] []))) (fun _ k => XS.astore X122.here hx rfl (hb hby at_142) rfl rfl (l' := #[.val (.int p1), .val (.int p2), .val (.int p3), .val (.int 0), .val (.int hp83), .val (.int hc85), .val (.int v86), .val (.ref b87), .val (.ref b95), .val .null, .val (.ref b116), .val (.ref o122), .unset, .unset, .unset]) rfl (XS.iloadN X122.here hx rfl (hb hby at_144) rfl (XS.ifYes X122.here hx rfl (pc0 := 145) (pc' := 162) rfl (hb hby at_145) rfl ((if0 _ _).trans (teq (by decide : (0 : Int32) = (0 : Int32))).1) (by decide) (by decide) (XS.aconstNull X122.here hx rfl (hb hby at_162) (XS.astore X122.here hx rfl (hb hby at_163) rfl rfl (l' := #[.val (.int p1), .val (.int p2), .val (.int p3), .val (.int 0), .val (.int hp83), .val (.int hc85), .val (.int v86), .val (.ref b87), .val (.ref b95), .val .null, .val (.ref b116), .val (.ref o122), .val .null, .unset, .unset]) rfl k))))) ?_
            obtain ⟨T123, h123, X123, e123, E123, A123, D123, -, st123⟩ := newO X122 hx hZ hown (wd hw 8 rfl) (wd hw 9 rfl) (wd hw 10 rfl) hh122 (g := (mkF m 165 #[.val (.int p1), .val (.int p2), .val (.int p3), .val (.int 0), .val (.int hp83), .val (.int hc85), .val (.int v86), .val (.ref b87), .val (.ref b95), .val .null, .val (.ref b116), .val (.ref o122), .val .null, .unset, .unset] [])) rfl (hb hby at_165) (by decide) (by decide)
            obtain ⟨b123, g123⟩ : ∃ z, z = T120.heap.size := ⟨_, rfl⟩
            rw [← g123] at A123 D123 st123
            have sz_b123 : T120.heap.size ≤ b123 := Nat.le_of_eq g123.symm
            have O124 := O121.ext E123
            have Z124 : n0 ≤ h123.size := Nat.le_trans Z121 E123.1
            have F125 : Fld Z h123 b123 "com/example/pland/pland/billing/Charge" "paymentMethod" "Ljava/lang/String;" .null := D123 (Or.inr (wd hw 23 rfl)) (ty := (.object "java/lang/String")) (by decide)
            have F126 : Fld Z h123 b123 "com/example/pland/pland/billing/Charge" "result" "Lcom/example/pland/pland/payment/ChargeResult;" .null := D123 (Or.inr (wd hw 25 rfl)) (ty := (.object "com/example/pland/pland/payment/ChargeResult")) (by decide)
            refine Go.by (B := (T123.setTop (mkF m 168 #[.val (.int p1), .val (.int p2), .val (.int p3), .val (.int 0), .val (.int hp83), .val (.int hc85), .val (.int v86), .val (.ref b87), .val (.ref b95), .val .null, .val (.ref b116), .val (.ref o122), .val .null, .unset, .unset] [(.ref b123)]))) st123 ?_
            refine Go.by (B := (T123.setTop (mkF m 173 #[.val (.int p1), .val (.int p2), .val (.int p3), .val (.int 0), .val (.int hp83), .val (.int hc85), .val (.int v86), .val (.ref b87), .val (.ref b95), .val .null, .val (.ref b116), .val (.ref o122), .val .null, .unset, .unset] [.null, .null, (.ref b123), (.ref b123)]))) (fun _ k => XS.dup X123.here hx rfl (hb hby at_168) rfl rfl (XS.aload X123.here hx rfl (hb hby at_169) rfl rfl (XS.aload X123.here hx rfl (hb hby at_171) rfl rfl k))) ?_
            obtain ⟨_, _, ⟨T127, L127, k127, n127⟩, -, X127, ⟨Lc127, hQ127, l127, y127, z127⟩, st127⟩ := X123.specialBack hx (y := (⟨"com/example/pland/pland/billing/Charge", "<init>", "(Ljava/lang/String;Lcom/example/pland/pland/payment/ChargeResult;)V"⟩ : MethodName)) rfl hown (mvT hZ (wd hw 11 rfl)) (mvT hZ (wd hw 12 rfl)) (mvT hZ (wd hw 13 rfl)) (by decide) (backOf (W := 1) (rm_ch3 l Z a0 hw [] b123 h123 n0 Z124 O124 A123 F125 F126 (Nat.le_trans Z121 sz_b123)) hZ (wd hw 13 rfl) (wd hw 10 rfl) (by decide) (by decide)) (g := (mkF m 173 #[.val (.int p1), .val (.int p2), .val (.int p3), .val (.int 0), .val (.int hp83), .val (.int hc85), .val (.int v86), .val (.ref b87), .val (.ref b95), .val .null, .val (.ref b116), .val (.ref o122), .val .null, .unset, .unset] [.null, .null, (.ref b123), (.ref b123)])) rfl (by rw [hml]; rfl) (Steps.refl _) (a := b123) (argsL := [.null, .null]) (rest := [(.ref b123)]) (lenOf pd_5 rfl) rfl (by show 2 * 0 + _ ≤ _; exact Nat.le_of_eq rfl) (hb hby at_173) (fun _ _ => ⟨rfl, e123, Nat.le_of_ble_eq_true rfl, Nat.le_of_ble_eq_true rfl⟩)
            dsimp only [Pt.U, Pt.locs, Pt.cells, Pt.slots] at X127 l127 y127 z127 st127 hQ127
            subst l127 y127 z127
            obtain ⟨rfl, Nq127, K127, p127_0, p127_1, p127_2⟩ := hQ127
            have N127 := Fr.app N122 Nq127
            have O128 := O124.keep K127 (allS (Nat.le_trans Z121 sz_b123) all0)
            have Z128 : n0 ≤ T127.heap.size := Nat.le_trans Z124 K127.1
            refine Go.by (B := (T127.setTop (mkF m 176 #[.val (.int p1), .val (.int p2), .val (.int p3), .val (.int 0), .val (.int hp83), .val (.int hc85), .val (.int v86), .val (.ref b87), .val (.ref b95), .val .null, .val (.ref b116), .val (.ref o122), .val .null, .unset, .unset] [(.ref b123)]))) (fun _ k => st127.trans k) ?_
            refine Go.by (B := (T127.setTop (mkF m 178 #[.val (.int p1), .val (.int p2), .val (.int p3), .val (.int 0), .val (.int hp83), .val (.int hc85), .val (.int v86), .val (.ref b87), .val (.ref b95), .val .null, .val (.ref b116), .val (.ref o122), .val .null, .val (.ref b123), .unset] []))) (fun _ k => XS.astore X127.here hx rfl (hb hby at_176) rfl rfl (l' := #[.val (.int p1), .val (.int p2), .val (.int p3), .val (.int 0), .val (.int hp83), .val (.int hc85), .val (.int v86), .val (.ref b87), .val (.ref b95), .val .null, .val (.ref b116), .val (.ref o122), .val .null, .val (.ref b123), .unset]) rfl k) ?_
            obtain ⟨_, _, ⟨T129, L129, k129, n129⟩, -, X129, ⟨Lc129, hQ129, l129, y129, z129⟩, st129⟩ := Jvm.LawKit.callS X127 hx (y := (⟨"com/example/pland/pland/billing/Charge", "none", "()Lcom/example/pland/pland/billing/Charge;"⟩ : MethodName)) hown (mvT hZ (wd hw 26 rfl)) (mvT hZ (wd hw 27 rfl)) (mvT hZ (wd hw 10 rfl)) (mvT hZ (wd hw 28 rfl)) (by decide) (backOf (W := 0) (rm_none l Z a0 hw []  T127.heap n0 Z128 O128) hZ (wd hw 28 rfl) (wd hw 10 rfl) (by decide) (by decide)) (g := (mkF m 178 #[.val (.int p1), .val (.int p2), .val (.int p3), .val (.int 0), .val (.int hp83), .val (.int hc85), .val (.int v86), .val (.ref b87), .val (.ref b95), .val .null, .val (.ref b116), .val (.ref o122), .val .null, .val (.ref b123), .unset] [])) rfl (by rw [hml]; rfl) (argsL := []) (rest := []) (lenOf pd_7 rfl) rfl (by show 2 * 0 + _ ≤ _; exact Nat.le_of_eq rfl) (hb hby at_178) (fun _ _ => ⟨rfl, rfl, Nat.le_of_ble_eq_true rfl, Nat.le_of_ble_eq_true rfl⟩)
            dsimp only [Pt.U, Pt.locs, Pt.cells, Pt.slots] at X129 l129 y129 z129 st129 hQ129
            subst l129 y129 z129
            obtain ⟨b129, rfl, Nq129, K129, p129_0, p129_1, p129_2⟩ := hQ129
            have N129 := Fr.app N127 Nq129
            have O130 := O128.keep K129 all0
            have Z130 : n0 ≤ T129.heap.size := Nat.le_trans Z128 K129.1
            have sz_b129 : T127.heap.size ≤ b129 := p129_2
            refine Go.by (B := (T129.setTop (mkF m 181 #[.val (.int p1), .val (.int p2), .val (.int p3), .val (.int 0), .val (.int hp83), .val (.int hc85), .val (.int v86), .val (.ref b87), .val (.ref b95), .val .null, .val (.ref b116), .val (.ref o122), .val .null, .val (.ref b123), .unset] [(.ref b129)]))) (fun _ k => st129 _ k) ?_
            obtain ⟨cq131, kq131, q131a, q131b, q131c⟩ := isOf hZ rfl p129_0
            obtain ⟨_, _, ⟨T131, L131, k131, n131⟩, -, X131, ⟨Lc131, hQ131, l131, y131, z131⟩, st131⟩ := X129.virtualBack hx (y := (⟨"com/example/pland/pland/billing/Charge", "made", "()Z"⟩ : MethodName)) (z := (⟨"com/example/pland/pland/billing/Charge", "made", "()Z"⟩ : MethodName)) hown (mvT hZ (wd hw 31 rfl)) (mvT hZ (wd hw 32 rfl)) (notFace_of_selects (args := #[]) (mvT hZ (wd hw 34 rfl))) (mvT hZ (wd hw 34 rfl)) (mvT hZ (wd hw 33 rfl)) (by decide) (backOf (W := 0) (rm_made0 l Z a0 hw [] b129 T129.heap n0 Z130 p129_1) hZ (wd hw 35 rfl) (wd hw 10 rfl) (by decide) (by decide)) q131a q131c (g := (mkF m 181 #[.val (.int p1), .val (.int p2), .val (.int p3), .val (.int 0), .val (.int hp83), .val (.int hc85), .val (.int v86), .val (.ref b87), .val (.ref b95), .val .null, .val (.ref b116), .val (.ref o122), .val .null, .val (.ref b123), .unset] [(.ref b129)])) rfl (by rw [hml]; rfl) (Steps.refl _) (argsL := []) (rest := []) (lenOf pd_8 rfl) rfl (by show 2 * 0 + _ ≤ _; exact Nat.le_of_eq rfl) (hb hby at_181) (fun _ _ => ⟨rfl, rfl, Nat.le_of_ble_eq_true rfl, Nat.le_of_ble_eq_true rfl⟩)
            dsimp only [Pt.U, Pt.locs, Pt.cells, Pt.slots] at X131 l131 y131 z131 st131 hQ131
            subst l131 y131 z131
            obtain ⟨rfl, Nq131, hh131⟩ := hQ131
            have N131 := Fr.app N129 Nq131
            refine Go.by (B := (T131.setTop (mkF m 184 #[.val (.int p1), .val (.int p2), .val (.int p3), .val (.int 0), .val (.int hp83), .val (.int hc85), .val (.int v86), .val (.ref b87), .val (.ref b95), .val .null, .val (.ref b116), .val (.ref o122), .val .null, .val (.ref b123), .unset] [(.int 0)]))) (fun _ k => st131.trans k) ?_
            refine Go.by (B := (T131.setTop (mkF m 201 #[.val (.int p1), .val (.int p2), .val (.int p3), .val (.int 0), .val (.int hp83), .val (.int hc85), .val (.int v86), .val (.ref b87), .val (.ref b95), .val .null, .val (.ref b116), .val (.ref o122), .val .null, .val (.ref b123), .val (.int 1)] [(.ref b123)]))) (fun _ k => XS.ifNo X131.here hx rfl (hb hby at_184) rfl ((if0 _ _).trans (teq (by decide : (0 : Int32) = (0 : Int32))).2) (XS.iconst X131.here hx rfl (hb hby at_187) (XS.goto X131.here hx rfl (pc0 := 188) (pc' := 192) rfl (hb hby at_188) (by decide) (by decide) (XS.istore X131.here hx rfl (hb hby at_192) rfl (l' := #[.val (.int p1), .val (.int p2), .val (.int p3), .val (.int 0), .val (.int hp83), .val (.int hc85), .val (.int v86), .val (.ref b87), .val (.ref b95), .val .null, .val (.ref b116), .val (.ref o122), .val .null, .val (.ref b123), .val (.int 1)]) rfl (XS.iload X131.here hx rfl (hb hby at_194) rfl (XS.ifNo X131.here hx rfl (hb hby at_196) rfl ((if0 _ _).trans (feq (by decide : ¬ ((1 : Int32) = (0 : Int32)))).1) (XS.aload X131.here hx rfl (hb hby at_199) rfl rfl k))))))) ?_
            obtain ⟨cq132, kq132, q132a, q132b, q132c⟩ := isOf hZ hh131 (p127_0.keep K129)
            obtain ⟨_, _, ⟨T132, L132, k132, n132⟩, -, X132, ⟨Lc132, hQ132, l132, y132, z132⟩, st132⟩ := X131.virtualBack hx (y := (⟨"com/example/pland/pland/billing/Charge", "made", "()Z"⟩ : MethodName)) (z := (⟨"com/example/pland/pland/billing/Charge", "made", "()Z"⟩ : MethodName)) hown (mvT hZ (wd hw 31 rfl)) (mvT hZ (wd hw 32 rfl)) (notFace_of_selects (args := #[]) (mvT hZ (wd hw 34 rfl))) (mvT hZ (wd hw 34 rfl)) (mvT hZ (wd hw 33 rfl)) (by decide) (backOf (W := 0) (rm_made0 l Z a0 hw [] b123 T129.heap n0 Z130 (p127_2.keep K129 nin0)) hZ (wd hw 35 rfl) (wd hw 10 rfl) (by decide) (by decide)) q132a q132c (g := (mkF m 201 #[.val (.int p1), .val (.int p2), .val (.int p3), .val (.int 0), .val (.int hp83), .val (.int hc85), .val (.int v86), .val (.ref b87), .val (.ref b95), .val .null, .val (.ref b116), .val (.ref o122), .val .null, .val (.ref b123), .val (.int 1)] [(.ref b123)])) rfl (by rw [hml]; rfl) (Steps.refl _) (argsL := []) (rest := []) (lenOf pd_8 rfl) rfl (by show 2 * 0 + _ ≤ _; exact Nat.le_of_eq rfl) (hb hby at_201) (fun _ _ => ⟨rfl, hh131, Nat.le_of_ble_eq_true rfl, Nat.le_of_ble_eq_true rfl⟩)
            dsimp only [Pt.U, Pt.locs, Pt.cells, Pt.slots] at X132 l132 y132 z132 st132 hQ132
            subst l132 y132 z132
            obtain ⟨rfl, Nq132, hh132⟩ := hQ132
            have N132 := Fr.app N131 Nq132
            refine Go.by (B := (T132.setTop (mkF m 204 #[.val (.int p1), .val (.int p2), .val (.int p3), .val (.int 0), .val (.int hp83), .val (.int hc85), .val (.int v86), .val (.ref b87), .val (.ref b95), .val .null, .val (.ref b116), .val (.ref o122), .val .null, .val (.ref b123), .val (.int 1)] [(.int 0)]))) (fun _ k => st132.trans k) ?_
            refine Go.by (B := (T132.setTop (mkF m 213 #[.val (.int p1), .val (.int p2), .val (.int p3), .val (.int 0), .val (.int hp83), .val (.int hc85), .val (.int v86), .val (.ref b87), .val (.ref b95), .val .null, .val (.ref b116), .val (.ref o122), .val .null, .val (.ref b123), .val (.int 1)] [(.int 1)]))) (fun _ k => XS.iloadN X132.here hx rfl (hb hby at_204) rfl (XS.icmpNo X132.here hx rfl (hb hby at_205) rfl (teq (by decide : (0 : Int32) = (0 : Int32))).2 (XS.iconst X132.here hx rfl (hb hby at_208) (XS.goto X132.here hx rfl (pc0 := 209) (pc' := 213) rfl (hb hby at_209) (by decide) (by decide) k)))) ?_
            refine Go.ret X132 hx hlk (t := .boolean) hret rfl (Or.inl ⟨rfl, by simp, _, rfl⟩) (hb hby at_213) (by decide) (by decide) ?_
            exact ⟨rfl, N132⟩
        · skip
          refine Go.by (B := (T101.setTop (mkF m 102 #[.val (.int p1), .val (.int p2), .val (.int p3), .val (.int 0), .val (.int hp83), .val (.int hc85), .val (.int v86), .val (.ref b87), .val (.ref b95), .unset, .unset, .unset, .unset, .unset, .unset] []))) (fun _ k => XS.ifNo X101.here hx rfl (hb hby at_99) rfl ((if0 _ _).trans (feq c103).1) k) ?_
          obtain ⟨T133, h133, X133, e133, E133, A133, D133, -, st133⟩ := newO X101 hx hZ hown (wd hw 47 rfl) (wd hw 48 rfl) (wd hw 49 rfl) e101 (g := (mkF m 102 #[.val (.int p1), .val (.int p2), .val (.int p3), .val (.int 0), .val (.int hp83), .val (.int hc85), .val (.int v86), .val (.ref b87), .val (.ref b95), .unset, .unset, .unset, .unset, .unset, .unset] [])) rfl (hb hby at_102) (by decide) (by decide)
          obtain ⟨b133, g133⟩ : ∃ z, z = h101.size := ⟨_, rfl⟩
          rw [← g133] at A133 D133 st133
          have sz_b133 : h101.size ≤ b133 := Nat.le_of_eq g133.symm
          have O134 := O102.ext E133
          have Z134 : n0 ≤ h133.size := Nat.le_trans Z102 E133.1
          have F135 : Fld Z h133 b133 "java/lang/String" "coder" "B" (.int 0) := D133 (Or.inr (wd hw 71 rfl)) (ty := .byte) (by decide)
          have F136 : Fld Z h133 b133 "java/lang/String" "value" "[B" .null := D133 (Or.inr (wd hw 73 rfl)) (ty := (.array .byte)) (by decide)
          refine Go.by (B := (T133.setTop (mkF m 105 #[.val (.int p1), .val (.int p2), .val (.int p3), .val (.int 0), .val (.int hp83), .val (.int hc85), .val (.int v86), .val (.ref b87), .val (.ref b95), .unset, .unset, .unset, .unset, .unset, .unset] [(.ref b133)]))) st133 ?_
          refine Go.by (B := (T133.setTop (mkF m 108 #[.val (.int p1), .val (.int p2), .val (.int p3), .val (.int 0), .val (.int hp83), .val (.int hc85), .val (.int v86), .val (.ref b87), .val (.ref b95), .unset, .unset, .unset, .unset, .unset, .unset] [(.ref b87), (.ref b133), (.ref b133)]))) (fun _ k => XS.dup X133.here hx rfl (hb hby at_105) rfl rfl (XS.aload X133.here hx rfl (hb hby at_106) rfl rfl k)) ?_
          have f137 := ((((V93.ext E95).other W98 (Nat.ne_of_lt (Nat.lt_of_lt_of_le V93.lt sz_b95))).other W101 (Nat.ne_of_lt (Nat.lt_of_lt_of_le V93.lt sz_b95))).ext E133)
          obtain ⟨_, _, ⟨T138, L138, k138, n138⟩, -, X138, ⟨Lc138, hQ138, l138, y138, z138⟩, st138⟩ := X133.specialBack hx (y := (⟨"java/lang/String", "<init>", "([C)V"⟩ : MethodName)) rfl hown (mvT hZ (wd hw 50 rfl)) (mvT hZ (wd hw 51 rfl)) (mvT hZ (wd hw 52 rfl)) (by decide) (backOf (W := 1) (rm_sC_2 l Z a0 hw [] b133 b87 k87 (nar .char ((p2 &&& (255 : Int32)).toUInt32.toUInt16.toUInt32.toInt32)) (nar .char ((((p2.toUInt32 >>> ((8 : Int32) &&& 31).toUInt32).toInt32) &&& (255 : Int32)).toUInt32.toUInt16.toUInt32.toInt32)) cs h133 n0 Z134 O134 pr1 hcs A133 F136 F135 (Nat.le_trans Z102 sz_b133) f137 (own_chn _) (own_chn _)) hZ (wd hw 52 rfl) (wd hw 49 rfl) (by decide) (by decide)) (g := (mkF m 108 #[.val (.int p1), .val (.int p2), .val (.int p3), .val (.int 0), .val (.int hp83), .val (.int hc85), .val (.int v86), .val (.ref b87), .val (.ref b95), .unset, .unset, .unset, .unset, .unset, .unset] [(.ref b87), (.ref b133), (.ref b133)])) rfl (by rw [hml]; rfl) (Steps.refl _) (a := b133) (argsL := [(.ref b87)]) (rest := [(.ref b133)]) (lenOf pd_9 rfl) rfl (by show 2 * 0 + _ ≤ _; exact Nat.le_of_eq rfl) (hb hby at_108) (fun _ _ => ⟨rfl, e133, Nat.le_of_ble_eq_true rfl, Nat.le_of_ble_eq_true rfl⟩)
          dsimp only [Pt.U, Pt.locs, Pt.cells, Pt.slots] at X138 l138 y138 z138 st138 hQ138
          subst l138 y138 z138
          obtain ⟨t138, k138, rfl, Nq138, K138, p138_0, p138_1, p138_2, p138_3, p138_4⟩ := hQ138
          have N138 := Fr.app N101 Nq138
          have O139 := O134.keep K138 (allS (Nat.le_trans Z102 sz_b133) all0)
          have Z139 : n0 ≤ T138.heap.size := Nat.le_trans Z134 K138.1
          have sz_t138 : h133.size ≤ t138 := p138_4
          refine Go.by (B := (T138.setTop (mkF m 111 #[.val (.int p1), .val (.int p2), .val (.int p3), .val (.int 0), .val (.int hp83), .val (.int hc85), .val (.int v86), .val (.ref b87), .val (.ref b95), .unset, .unset, .unset, .unset, .unset, .unset] [(.ref b133)]))) (fun _ k => st138.trans k) ?_
          refine Go.by (B := (T138.setTop (mkF m 119 #[.val (.int p1), .val (.int p2), .val (.int p3), .val (.int 0), .val (.int hp83), .val (.int hc85), .val (.int v86), .val (.ref b87), .val (.ref b95), .val (.ref b133), .unset, .unset, .unset, .unset, .unset] [(.int hc85)]))) (fun _ k => XS.goto X138.here hx rfl (pc0 := 111) (pc' := 115) rfl (hb hby at_111) (by decide) (by decide) (XS.astore X138.here hx rfl (hb hby at_115) rfl rfl (l' := #[.val (.int p1), .val (.int p2), .val (.int p3), .val (.int 0), .val (.int hp83), .val (.int hc85), .val (.int v86), .val (.ref b87), .val (.ref b95), .val (.ref b133), .unset, .unset, .unset, .unset, .unset]) rfl (XS.iload X138.here hx rfl (hb hby at_117) rfl k))) ?_
          by_cases c140 : hc85 = (0 : Int32)
          · skip
            refine Go.by (B := (T138.setTop (mkF m 139 #[.val (.int p1), .val (.int p2), .val (.int p3), .val (.int 0), .val (.int hp83), .val (.int hc85), .val (.int v86), .val (.ref b87), .val (.ref b95), .val (.ref b133), .val .null, .unset, .unset, .unset, .unset] [(.int v86)]))) (fun _ k => XS.ifYes X138.here hx rfl (pc0 := 119) (pc' := 134) rfl (hb hby at_119) rfl ((if0 _ _).trans (teq c140).1) (by decide) (by decide) (XS.aconstNull X138.here hx rfl (hb hby at_134) (XS.astore X138.here hx rfl (hb hby at_135) rfl rfl (l' := #[.val (.int p1), .val (.int p2), .val (.int p3), .val (.int 0), .val (.int hp83), .val (.int hc85), .val (.int v86), .val (.ref b87), .val (.ref b95), .val (.ref b133), .val .null, .unset, .unset, .unset, .unset]) rfl (XS.iload X138.here hx rfl (hb hby at_137) rfl k)))) ?_
            obtain ⟨_, _, ⟨T141, L141, k141, n141⟩, -, X141, ⟨Lc141, hQ141, l141, y141, z141⟩, st141⟩ := Jvm.LawKit.callS X138 hx (y := (⟨"com/example/pland/pland/billing/ChargeMadePinLaw", "status", "(I)Lcom/example/pland/pland/payment/ChargeResult$Status;"⟩ : MethodName)) hown (mvT hZ (wd hw 1 rfl)) (mvT hZ (wd hw 2 rfl)) (mvT hZ (wd hw 3 rfl)) (mvT hZ (wd hw 4 rfl)) (by decide) (backOf (W := 0) (rm_status l Z a0 hw [] v86 w0 w1 w2 w3 T138.heap n0 Z139 O139 pr3 pr4 pr5 pr6) hZ (wd hw 4 rfl) (wd hw 3 rfl) (by decide) (by decide)) (g := (mkF m 139 #[.val (.int p1), .val (.int p2), .val (.int p3), .val (.int 0), .val (.int hp83), .val (.int hc85), .val (.int v86), .val (.ref b87), .val (.ref b95), .val (.ref b133), .val .null, .unset, .unset, .unset, .unset] [(.int v86)])) rfl (by rw [hml]; rfl) (argsL := [(.int v86)]) (rest := []) (lenOf pd_6 rfl) rfl (by show 2 * 0 + _ ≤ _; exact Nat.le_of_eq rfl) (hb hby at_139) (fun _ _ => ⟨rfl, rfl, Nat.le_of_ble_eq_true rfl, Nat.le_of_ble_eq_true rfl⟩)
            dsimp only [Pt.U, Pt.locs, Pt.cells, Pt.slots] at X141 l141 y141 z141 st141 hQ141
            subst l141 y141 z141
            obtain ⟨o141, rfl, Nq141, hh141⟩ := hQ141
            have N141 := Fr.app N138 Nq141
            refine Go.by (B := (T141.setTop (mkF m 142 #[.val (.int p1), .val (.int p2), .val (.int p3), .val (.int 0), .val (.int hp83), .val (.int hc85), .val (.int v86), .val (.ref b87), .val (.ref b95), .val (.ref b133), .val .null, .unset, .unset, .unset, .unset] [(.ref o141)]))) (fun _ k => st141 _ k) ?_
            refine Go.by (B := (T141.setTop (mkF m 165 #[.val (.int p1), .val (.int p2), .val (.int p3), .val (.int 0), .val (.int hp83), .val (.int hc85), .val (.int v86), .val (.ref b87), .val (.ref b95), .val (.ref b133), .val .null, .val (.ref o141), .val .null, .unset, .unset] []))) (fun _ k => XS.astore X141.here hx rfl (hb hby at_142) rfl rfl (l' := #[.val (.int p1), .val (.int p2), .val (.int p3), .val (.int 0), .val (.int hp83), .val (.int hc85), .val (.int v86), .val (.ref b87), .val (.ref b95), .val (.ref b133), .val .null, .val (.ref o141), .unset, .unset, .unset]) rfl (XS.iloadN X141.here hx rfl (hb hby at_144) rfl (XS.ifYes X141.here hx rfl (pc0 := 145) (pc' := 162) rfl (hb hby at_145) rfl ((if0 _ _).trans (teq (by decide : (0 : Int32) = (0 : Int32))).1) (by decide) (by decide) (XS.aconstNull X141.here hx rfl (hb hby at_162) (XS.astore X141.here hx rfl (hb hby at_163) rfl rfl (l' := #[.val (.int p1), .val (.int p2), .val (.int p3), .val (.int 0), .val (.int hp83), .val (.int hc85), .val (.int v86), .val (.ref b87), .val (.ref b95), .val (.ref b133), .val .null, .val (.ref o141), .val .null, .unset, .unset]) rfl k))))) ?_
            obtain ⟨T142, h142, X142, e142, E142, A142, D142, -, st142⟩ := newO X141 hx hZ hown (wd hw 8 rfl) (wd hw 9 rfl) (wd hw 10 rfl) hh141 (g := (mkF m 165 #[.val (.int p1), .val (.int p2), .val (.int p3), .val (.int 0), .val (.int hp83), .val (.int hc85), .val (.int v86), .val (.ref b87), .val (.ref b95), .val (.ref b133), .val .null, .val (.ref o141), .val .null, .unset, .unset] [])) rfl (hb hby at_165) (by decide) (by decide)
            obtain ⟨b142, g142⟩ : ∃ z, z = T138.heap.size := ⟨_, rfl⟩
            rw [← g142] at A142 D142 st142
            have sz_b142 : T138.heap.size ≤ b142 := Nat.le_of_eq g142.symm
            have O143 := O139.ext E142
            have Z143 : n0 ≤ h142.size := Nat.le_trans Z139 E142.1
            have F144 : Fld Z h142 b142 "com/example/pland/pland/billing/Charge" "paymentMethod" "Ljava/lang/String;" .null := D142 (Or.inr (wd hw 23 rfl)) (ty := (.object "java/lang/String")) (by decide)
            have F145 : Fld Z h142 b142 "com/example/pland/pland/billing/Charge" "result" "Lcom/example/pland/pland/payment/ChargeResult;" .null := D142 (Or.inr (wd hw 25 rfl)) (ty := (.object "com/example/pland/pland/payment/ChargeResult")) (by decide)
            refine Go.by (B := (T142.setTop (mkF m 168 #[.val (.int p1), .val (.int p2), .val (.int p3), .val (.int 0), .val (.int hp83), .val (.int hc85), .val (.int v86), .val (.ref b87), .val (.ref b95), .val (.ref b133), .val .null, .val (.ref o141), .val .null, .unset, .unset] [(.ref b142)]))) st142 ?_
            refine Go.by (B := (T142.setTop (mkF m 173 #[.val (.int p1), .val (.int p2), .val (.int p3), .val (.int 0), .val (.int hp83), .val (.int hc85), .val (.int v86), .val (.ref b87), .val (.ref b95), .val (.ref b133), .val .null, .val (.ref o141), .val .null, .unset, .unset] [.null, (.ref b133), (.ref b142), (.ref b142)]))) (fun _ k => XS.dup X142.here hx rfl (hb hby at_168) rfl rfl (XS.aload X142.here hx rfl (hb hby at_169) rfl rfl (XS.aload X142.here hx rfl (hb hby at_171) rfl rfl k))) ?_
            obtain ⟨_, _, ⟨T146, L146, k146, n146⟩, -, X146, ⟨Lc146, hQ146, l146, y146, z146⟩, st146⟩ := X142.specialBack hx (y := (⟨"com/example/pland/pland/billing/Charge", "<init>", "(Ljava/lang/String;Lcom/example/pland/pland/payment/ChargeResult;)V"⟩ : MethodName)) rfl hown (mvT hZ (wd hw 11 rfl)) (mvT hZ (wd hw 12 rfl)) (mvT hZ (wd hw 13 rfl)) (by decide) (backOf (W := 1) (rm_ch1 l Z a0 hw [] b142 b133 h142 n0 Z143 O143 A142 F144 F145 (Nat.le_trans Z139 sz_b142)) hZ (wd hw 13 rfl) (wd hw 10 rfl) (by decide) (by decide)) (g := (mkF m 173 #[.val (.int p1), .val (.int p2), .val (.int p3), .val (.int 0), .val (.int hp83), .val (.int hc85), .val (.int v86), .val (.ref b87), .val (.ref b95), .val (.ref b133), .val .null, .val (.ref o141), .val .null, .unset, .unset] [.null, (.ref b133), (.ref b142), (.ref b142)])) rfl (by rw [hml]; rfl) (Steps.refl _) (a := b142) (argsL := [(.ref b133), .null]) (rest := [(.ref b142)]) (lenOf pd_5 rfl) rfl (by show 2 * 0 + _ ≤ _; exact Nat.le_of_eq rfl) (hb hby at_173) (fun _ _ => ⟨rfl, e142, Nat.le_of_ble_eq_true rfl, Nat.le_of_ble_eq_true rfl⟩)
            dsimp only [Pt.U, Pt.locs, Pt.cells, Pt.slots] at X146 l146 y146 z146 st146 hQ146
            subst l146 y146 z146
            obtain ⟨rfl, Nq146, K146, p146_0, p146_1, p146_2⟩ := hQ146
            have N146 := Fr.app N141 Nq146
            have O147 := O143.keep K146 (allS (Nat.le_trans Z139 sz_b142) all0)
            have Z147 : n0 ≤ T146.heap.size := Nat.le_trans Z143 K146.1
            refine Go.by (B := (T146.setTop (mkF m 176 #[.val (.int p1), .val (.int p2), .val (.int p3), .val (.int 0), .val (.int hp83), .val (.int hc85), .val (.int v86), .val (.ref b87), .val (.ref b95), .val (.ref b133), .val .null, .val (.ref o141), .val .null, .unset, .unset] [(.ref b142)]))) (fun _ k => st146.trans k) ?_
            refine Go.by (B := (T146.setTop (mkF m 178 #[.val (.int p1), .val (.int p2), .val (.int p3), .val (.int 0), .val (.int hp83), .val (.int hc85), .val (.int v86), .val (.ref b87), .val (.ref b95), .val (.ref b133), .val .null, .val (.ref o141), .val .null, .val (.ref b142), .unset] []))) (fun _ k => XS.astore X146.here hx rfl (hb hby at_176) rfl rfl (l' := #[.val (.int p1), .val (.int p2), .val (.int p3), .val (.int 0), .val (.int hp83), .val (.int hc85), .val (.int v86), .val (.ref b87), .val (.ref b95), .val (.ref b133), .val .null, .val (.ref o141), .val .null, .val (.ref b142), .unset]) rfl k) ?_
            obtain ⟨_, _, ⟨T148, L148, k148, n148⟩, -, X148, ⟨Lc148, hQ148, l148, y148, z148⟩, st148⟩ := Jvm.LawKit.callS X146 hx (y := (⟨"com/example/pland/pland/billing/Charge", "none", "()Lcom/example/pland/pland/billing/Charge;"⟩ : MethodName)) hown (mvT hZ (wd hw 26 rfl)) (mvT hZ (wd hw 27 rfl)) (mvT hZ (wd hw 10 rfl)) (mvT hZ (wd hw 28 rfl)) (by decide) (backOf (W := 0) (rm_none l Z a0 hw []  T146.heap n0 Z147 O147) hZ (wd hw 28 rfl) (wd hw 10 rfl) (by decide) (by decide)) (g := (mkF m 178 #[.val (.int p1), .val (.int p2), .val (.int p3), .val (.int 0), .val (.int hp83), .val (.int hc85), .val (.int v86), .val (.ref b87), .val (.ref b95), .val (.ref b133), .val .null, .val (.ref o141), .val .null, .val (.ref b142), .unset] [])) rfl (by rw [hml]; rfl) (argsL := []) (rest := []) (lenOf pd_7 rfl) rfl (by show 2 * 0 + _ ≤ _; exact Nat.le_of_eq rfl) (hb hby at_178) (fun _ _ => ⟨rfl, rfl, Nat.le_of_ble_eq_true rfl, Nat.le_of_ble_eq_true rfl⟩)
            dsimp only [Pt.U, Pt.locs, Pt.cells, Pt.slots] at X148 l148 y148 z148 st148 hQ148
            subst l148 y148 z148
            obtain ⟨b148, rfl, Nq148, K148, p148_0, p148_1, p148_2⟩ := hQ148
            have N148 := Fr.app N146 Nq148
            have O149 := O147.keep K148 all0
            have Z149 : n0 ≤ T148.heap.size := Nat.le_trans Z147 K148.1
            have sz_b148 : T146.heap.size ≤ b148 := p148_2
            refine Go.by (B := (T148.setTop (mkF m 181 #[.val (.int p1), .val (.int p2), .val (.int p3), .val (.int 0), .val (.int hp83), .val (.int hc85), .val (.int v86), .val (.ref b87), .val (.ref b95), .val (.ref b133), .val .null, .val (.ref o141), .val .null, .val (.ref b142), .unset] [(.ref b148)]))) (fun _ k => st148 _ k) ?_
            obtain ⟨cq150, kq150, q150a, q150b, q150c⟩ := isOf hZ rfl p148_0
            obtain ⟨_, _, ⟨T150, L150, k150, n150⟩, -, X150, ⟨Lc150, hQ150, l150, y150, z150⟩, st150⟩ := X148.virtualBack hx (y := (⟨"com/example/pland/pland/billing/Charge", "made", "()Z"⟩ : MethodName)) (z := (⟨"com/example/pland/pland/billing/Charge", "made", "()Z"⟩ : MethodName)) hown (mvT hZ (wd hw 31 rfl)) (mvT hZ (wd hw 32 rfl)) (notFace_of_selects (args := #[]) (mvT hZ (wd hw 34 rfl))) (mvT hZ (wd hw 34 rfl)) (mvT hZ (wd hw 33 rfl)) (by decide) (backOf (W := 0) (rm_made0 l Z a0 hw [] b148 T148.heap n0 Z149 p148_1) hZ (wd hw 35 rfl) (wd hw 10 rfl) (by decide) (by decide)) q150a q150c (g := (mkF m 181 #[.val (.int p1), .val (.int p2), .val (.int p3), .val (.int 0), .val (.int hp83), .val (.int hc85), .val (.int v86), .val (.ref b87), .val (.ref b95), .val (.ref b133), .val .null, .val (.ref o141), .val .null, .val (.ref b142), .unset] [(.ref b148)])) rfl (by rw [hml]; rfl) (Steps.refl _) (argsL := []) (rest := []) (lenOf pd_8 rfl) rfl (by show 2 * 0 + _ ≤ _; exact Nat.le_of_eq rfl) (hb hby at_181) (fun _ _ => ⟨rfl, rfl, Nat.le_of_ble_eq_true rfl, Nat.le_of_ble_eq_true rfl⟩)
            dsimp only [Pt.U, Pt.locs, Pt.cells, Pt.slots] at X150 l150 y150 z150 st150 hQ150
            subst l150 y150 z150
            obtain ⟨rfl, Nq150, hh150⟩ := hQ150
            have N150 := Fr.app N148 Nq150
            refine Go.by (B := (T150.setTop (mkF m 184 #[.val (.int p1), .val (.int p2), .val (.int p3), .val (.int 0), .val (.int hp83), .val (.int hc85), .val (.int v86), .val (.ref b87), .val (.ref b95), .val (.ref b133), .val .null, .val (.ref o141), .val .null, .val (.ref b142), .unset] [(.int 0)]))) (fun _ k => st150.trans k) ?_
            refine Go.by (B := (T150.setTop (mkF m 201 #[.val (.int p1), .val (.int p2), .val (.int p3), .val (.int 0), .val (.int hp83), .val (.int hc85), .val (.int v86), .val (.ref b87), .val (.ref b95), .val (.ref b133), .val .null, .val (.ref o141), .val .null, .val (.ref b142), .val (.int 1)] [(.ref b142)]))) (fun _ k => XS.ifNo X150.here hx rfl (hb hby at_184) rfl ((if0 _ _).trans (teq (by decide : (0 : Int32) = (0 : Int32))).2) (XS.iconst X150.here hx rfl (hb hby at_187) (XS.goto X150.here hx rfl (pc0 := 188) (pc' := 192) rfl (hb hby at_188) (by decide) (by decide) (XS.istore X150.here hx rfl (hb hby at_192) rfl (l' := #[.val (.int p1), .val (.int p2), .val (.int p3), .val (.int 0), .val (.int hp83), .val (.int hc85), .val (.int v86), .val (.ref b87), .val (.ref b95), .val (.ref b133), .val .null, .val (.ref o141), .val .null, .val (.ref b142), .val (.int 1)]) rfl (XS.iload X150.here hx rfl (hb hby at_194) rfl (XS.ifNo X150.here hx rfl (hb hby at_196) rfl ((if0 _ _).trans (feq (by decide : ¬ ((1 : Int32) = (0 : Int32)))).1) (XS.aload X150.here hx rfl (hb hby at_199) rfl rfl k))))))) ?_
            obtain ⟨cq151, kq151, q151a, q151b, q151c⟩ := isOf hZ hh150 (p146_0.keep K148)
            obtain ⟨_, _, ⟨T151, L151, k151, n151⟩, -, X151, ⟨Lc151, hQ151, l151, y151, z151⟩, st151⟩ := X150.virtualBack hx (y := (⟨"com/example/pland/pland/billing/Charge", "made", "()Z"⟩ : MethodName)) (z := (⟨"com/example/pland/pland/billing/Charge", "made", "()Z"⟩ : MethodName)) hown (mvT hZ (wd hw 31 rfl)) (mvT hZ (wd hw 32 rfl)) (notFace_of_selects (args := #[]) (mvT hZ (wd hw 34 rfl))) (mvT hZ (wd hw 34 rfl)) (mvT hZ (wd hw 33 rfl)) (by decide) (backOf (W := 0) (rm_made0 l Z a0 hw [] b142 T148.heap n0 Z149 (p146_2.keep K148 nin0)) hZ (wd hw 35 rfl) (wd hw 10 rfl) (by decide) (by decide)) q151a q151c (g := (mkF m 201 #[.val (.int p1), .val (.int p2), .val (.int p3), .val (.int 0), .val (.int hp83), .val (.int hc85), .val (.int v86), .val (.ref b87), .val (.ref b95), .val (.ref b133), .val .null, .val (.ref o141), .val .null, .val (.ref b142), .val (.int 1)] [(.ref b142)])) rfl (by rw [hml]; rfl) (Steps.refl _) (argsL := []) (rest := []) (lenOf pd_8 rfl) rfl (by show 2 * 0 + _ ≤ _; exact Nat.le_of_eq rfl) (hb hby at_201) (fun _ _ => ⟨rfl, hh150, Nat.le_of_ble_eq_true rfl, Nat.le_of_ble_eq_true rfl⟩)
            dsimp only [Pt.U, Pt.locs, Pt.cells, Pt.slots] at X151 l151 y151 z151 st151 hQ151
            subst l151 y151 z151
            obtain ⟨rfl, Nq151, hh151⟩ := hQ151
            have N151 := Fr.app N150 Nq151
            refine Go.by (B := (T151.setTop (mkF m 204 #[.val (.int p1), .val (.int p2), .val (.int p3), .val (.int 0), .val (.int hp83), .val (.int hc85), .val (.int v86), .val (.ref b87), .val (.ref b95), .val (.ref b133), .val .null, .val (.ref o141), .val .null, .val (.ref b142), .val (.int 1)] [(.int 0)]))) (fun _ k => st151.trans k) ?_
            refine Go.by (B := (T151.setTop (mkF m 213 #[.val (.int p1), .val (.int p2), .val (.int p3), .val (.int 0), .val (.int hp83), .val (.int hc85), .val (.int v86), .val (.ref b87), .val (.ref b95), .val (.ref b133), .val .null, .val (.ref o141), .val .null, .val (.ref b142), .val (.int 1)] [(.int 1)]))) (fun _ k => XS.iloadN X151.here hx rfl (hb hby at_204) rfl (XS.icmpNo X151.here hx rfl (hb hby at_205) rfl (teq (by decide : (0 : Int32) = (0 : Int32))).2 (XS.iconst X151.here hx rfl (hb hby at_208) (XS.goto X151.here hx rfl (pc0 := 209) (pc' := 213) rfl (hb hby at_209) (by decide) (by decide) k)))) ?_
            refine Go.ret X151 hx hlk (t := .boolean) hret rfl (Or.inl ⟨rfl, by simp, _, rfl⟩) (hb hby at_213) (by decide) (by decide) ?_
            exact ⟨rfl, N151⟩
          · skip
            refine Go.by (B := (T138.setTop (mkF m 122 #[.val (.int p1), .val (.int p2), .val (.int p3), .val (.int 0), .val (.int hp83), .val (.int hc85), .val (.int v86), .val (.ref b87), .val (.ref b95), .val (.ref b133), .unset, .unset, .unset, .unset, .unset] []))) (fun _ k => XS.ifNo X138.here hx rfl (hb hby at_119) rfl ((if0 _ _).trans (feq c140).1) k) ?_
            obtain ⟨T152, h152, X152, e152, E152, A152, D152, -, st152⟩ := newO X138 hx hZ hown (wd hw 47 rfl) (wd hw 48 rfl) (wd hw 49 rfl) rfl (g := (mkF m 122 #[.val (.int p1), .val (.int p2), .val (.int p3), .val (.int 0), .val (.int hp83), .val (.int hc85), .val (.int v86), .val (.ref b87), .val (.ref b95), .val (.ref b133), .unset, .unset, .unset, .unset, .unset] [])) rfl (hb hby at_122) (by decide) (by decide)
            obtain ⟨b152, g152⟩ : ∃ z, z = T138.heap.size := ⟨_, rfl⟩
            rw [← g152] at A152 D152 st152
            have sz_b152 : T138.heap.size ≤ b152 := Nat.le_of_eq g152.symm
            have O153 := O139.ext E152
            have Z153 : n0 ≤ h152.size := Nat.le_trans Z139 E152.1
            have F154 : Fld Z h152 b152 "java/lang/String" "coder" "B" (.int 0) := D152 (Or.inr (wd hw 71 rfl)) (ty := .byte) (by decide)
            have F155 : Fld Z h152 b152 "java/lang/String" "value" "[B" .null := D152 (Or.inr (wd hw 73 rfl)) (ty := (.array .byte)) (by decide)
            refine Go.by (B := (T152.setTop (mkF m 125 #[.val (.int p1), .val (.int p2), .val (.int p3), .val (.int 0), .val (.int hp83), .val (.int hc85), .val (.int v86), .val (.ref b87), .val (.ref b95), .val (.ref b133), .unset, .unset, .unset, .unset, .unset] [(.ref b152)]))) st152 ?_
            refine Go.by (B := (T152.setTop (mkF m 128 #[.val (.int p1), .val (.int p2), .val (.int p3), .val (.int 0), .val (.int hp83), .val (.int hc85), .val (.int v86), .val (.ref b87), .val (.ref b95), .val (.ref b133), .unset, .unset, .unset, .unset, .unset] [(.ref b95), (.ref b152), (.ref b152)]))) (fun _ k => XS.dup X152.here hx rfl (hb hby at_125) rfl rfl (XS.aload X152.here hx rfl (hb hby at_126) rfl rfl k)) ?_
            have f156 := (((V101.ext E133).keep K138 (ninS (Nat.ne_of_lt (Nat.lt_of_lt_of_le V101.lt sz_b133)) nin0)).ext E152)
            obtain ⟨_, _, ⟨T157, L157, k157, n157⟩, -, X157, ⟨Lc157, hQ157, l157, y157, z157⟩, st157⟩ := X152.specialBack hx (y := (⟨"java/lang/String", "<init>", "([C)V"⟩ : MethodName)) rfl hown (mvT hZ (wd hw 50 rfl)) (mvT hZ (wd hw 51 rfl)) (mvT hZ (wd hw 52 rfl)) (by decide) (backOf (W := 1) (rm_sC_2 l Z a0 hw [] b152 b95 k95 (nar .char ((p3 &&& (255 : Int32)).toUInt32.toUInt16.toUInt32.toInt32)) (nar .char ((((p3.toUInt32 >>> ((8 : Int32) &&& 31).toUInt32).toInt32) &&& (255 : Int32)).toUInt32.toUInt16.toUInt32.toInt32)) cs h152 n0 Z153 O153 pr1 hcs A152 F155 F154 (Nat.le_trans Z139 sz_b152) f156 (own_chn _) (own_chn _)) hZ (wd hw 52 rfl) (wd hw 49 rfl) (by decide) (by decide)) (g := (mkF m 128 #[.val (.int p1), .val (.int p2), .val (.int p3), .val (.int 0), .val (.int hp83), .val (.int hc85), .val (.int v86), .val (.ref b87), .val (.ref b95), .val (.ref b133), .unset, .unset, .unset, .unset, .unset] [(.ref b95), (.ref b152), (.ref b152)])) rfl (by rw [hml]; rfl) (Steps.refl _) (a := b152) (argsL := [(.ref b95)]) (rest := [(.ref b152)]) (lenOf pd_9 rfl) rfl (by show 2 * 0 + _ ≤ _; exact Nat.le_of_eq rfl) (hb hby at_128) (fun _ _ => ⟨rfl, e152, Nat.le_of_ble_eq_true rfl, Nat.le_of_ble_eq_true rfl⟩)
            dsimp only [Pt.U, Pt.locs, Pt.cells, Pt.slots] at X157 l157 y157 z157 st157 hQ157
            subst l157 y157 z157
            obtain ⟨t157, k157, rfl, Nq157, K157, p157_0, p157_1, p157_2, p157_3, p157_4⟩ := hQ157
            have N157 := Fr.app N138 Nq157
            have O158 := O153.keep K157 (allS (Nat.le_trans Z139 sz_b152) all0)
            have Z158 : n0 ≤ T157.heap.size := Nat.le_trans Z153 K157.1
            have sz_t157 : h152.size ≤ t157 := p157_4
            refine Go.by (B := (T157.setTop (mkF m 131 #[.val (.int p1), .val (.int p2), .val (.int p3), .val (.int 0), .val (.int hp83), .val (.int hc85), .val (.int v86), .val (.ref b87), .val (.ref b95), .val (.ref b133), .unset, .unset, .unset, .unset, .unset] [(.ref b152)]))) (fun _ k => st157.trans k) ?_
            refine Go.by (B := (T157.setTop (mkF m 139 #[.val (.int p1), .val (.int p2), .val (.int p3), .val (.int 0), .val (.int hp83), .val (.int hc85), .val (.int v86), .val (.ref b87), .val (.ref b95), .val (.ref b133), .val (.ref b152), .unset, .unset, .unset, .unset] [(.int v86)]))) (fun _ k => XS.goto X157.here hx rfl (pc0 := 131) (pc' := 135) rfl (hb hby at_131) (by decide) (by decide) (XS.astore X157.here hx rfl (hb hby at_135) rfl rfl (l' := #[.val (.int p1), .val (.int p2), .val (.int p3), .val (.int 0), .val (.int hp83), .val (.int hc85), .val (.int v86), .val (.ref b87), .val (.ref b95), .val (.ref b133), .val (.ref b152), .unset, .unset, .unset, .unset]) rfl (XS.iload X157.here hx rfl (hb hby at_137) rfl k))) ?_
            obtain ⟨_, _, ⟨T159, L159, k159, n159⟩, -, X159, ⟨Lc159, hQ159, l159, y159, z159⟩, st159⟩ := Jvm.LawKit.callS X157 hx (y := (⟨"com/example/pland/pland/billing/ChargeMadePinLaw", "status", "(I)Lcom/example/pland/pland/payment/ChargeResult$Status;"⟩ : MethodName)) hown (mvT hZ (wd hw 1 rfl)) (mvT hZ (wd hw 2 rfl)) (mvT hZ (wd hw 3 rfl)) (mvT hZ (wd hw 4 rfl)) (by decide) (backOf (W := 0) (rm_status l Z a0 hw [] v86 w0 w1 w2 w3 T157.heap n0 Z158 O158 pr3 pr4 pr5 pr6) hZ (wd hw 4 rfl) (wd hw 3 rfl) (by decide) (by decide)) (g := (mkF m 139 #[.val (.int p1), .val (.int p2), .val (.int p3), .val (.int 0), .val (.int hp83), .val (.int hc85), .val (.int v86), .val (.ref b87), .val (.ref b95), .val (.ref b133), .val (.ref b152), .unset, .unset, .unset, .unset] [(.int v86)])) rfl (by rw [hml]; rfl) (argsL := [(.int v86)]) (rest := []) (lenOf pd_6 rfl) rfl (by show 2 * 0 + _ ≤ _; exact Nat.le_of_eq rfl) (hb hby at_139) (fun _ _ => ⟨rfl, rfl, Nat.le_of_ble_eq_true rfl, Nat.le_of_ble_eq_true rfl⟩)
            dsimp only [Pt.U, Pt.locs, Pt.cells, Pt.slots] at X159 l159 y159 z159 st159 hQ159
            subst l159 y159 z159
            obtain ⟨o159, rfl, Nq159, hh159⟩ := hQ159
            have N159 := Fr.app N157 Nq159
            refine Go.by (B := (T159.setTop (mkF m 142 #[.val (.int p1), .val (.int p2), .val (.int p3), .val (.int 0), .val (.int hp83), .val (.int hc85), .val (.int v86), .val (.ref b87), .val (.ref b95), .val (.ref b133), .val (.ref b152), .unset, .unset, .unset, .unset] [(.ref o159)]))) (fun _ k => st159 _ k) ?_
            refine Go.by (B := (T159.setTop (mkF m 165 #[.val (.int p1), .val (.int p2), .val (.int p3), .val (.int 0), .val (.int hp83), .val (.int hc85), .val (.int v86), .val (.ref b87), .val (.ref b95), .val (.ref b133), .val (.ref b152), .val (.ref o159), .val .null, .unset, .unset] []))) (fun _ k => XS.astore X159.here hx rfl (hb hby at_142) rfl rfl (l' := #[.val (.int p1), .val (.int p2), .val (.int p3), .val (.int 0), .val (.int hp83), .val (.int hc85), .val (.int v86), .val (.ref b87), .val (.ref b95), .val (.ref b133), .val (.ref b152), .val (.ref o159), .unset, .unset, .unset]) rfl (XS.iloadN X159.here hx rfl (hb hby at_144) rfl (XS.ifYes X159.here hx rfl (pc0 := 145) (pc' := 162) rfl (hb hby at_145) rfl ((if0 _ _).trans (teq (by decide : (0 : Int32) = (0 : Int32))).1) (by decide) (by decide) (XS.aconstNull X159.here hx rfl (hb hby at_162) (XS.astore X159.here hx rfl (hb hby at_163) rfl rfl (l' := #[.val (.int p1), .val (.int p2), .val (.int p3), .val (.int 0), .val (.int hp83), .val (.int hc85), .val (.int v86), .val (.ref b87), .val (.ref b95), .val (.ref b133), .val (.ref b152), .val (.ref o159), .val .null, .unset, .unset]) rfl k))))) ?_
            obtain ⟨T160, h160, X160, e160, E160, A160, D160, -, st160⟩ := newO X159 hx hZ hown (wd hw 8 rfl) (wd hw 9 rfl) (wd hw 10 rfl) hh159 (g := (mkF m 165 #[.val (.int p1), .val (.int p2), .val (.int p3), .val (.int 0), .val (.int hp83), .val (.int hc85), .val (.int v86), .val (.ref b87), .val (.ref b95), .val (.ref b133), .val (.ref b152), .val (.ref o159), .val .null, .unset, .unset] [])) rfl (hb hby at_165) (by decide) (by decide)
            obtain ⟨b160, g160⟩ : ∃ z, z = T157.heap.size := ⟨_, rfl⟩
            rw [← g160] at A160 D160 st160
            have sz_b160 : T157.heap.size ≤ b160 := Nat.le_of_eq g160.symm
            have O161 := O158.ext E160
            have Z161 : n0 ≤ h160.size := Nat.le_trans Z158 E160.1
            have F162 : Fld Z h160 b160 "com/example/pland/pland/billing/Charge" "paymentMethod" "Ljava/lang/String;" .null := D160 (Or.inr (wd hw 23 rfl)) (ty := (.object "java/lang/String")) (by decide)
            have F163 : Fld Z h160 b160 "com/example/pland/pland/billing/Charge" "result" "Lcom/example/pland/pland/payment/ChargeResult;" .null := D160 (Or.inr (wd hw 25 rfl)) (ty := (.object "com/example/pland/pland/payment/ChargeResult")) (by decide)
            refine Go.by (B := (T160.setTop (mkF m 168 #[.val (.int p1), .val (.int p2), .val (.int p3), .val (.int 0), .val (.int hp83), .val (.int hc85), .val (.int v86), .val (.ref b87), .val (.ref b95), .val (.ref b133), .val (.ref b152), .val (.ref o159), .val .null, .unset, .unset] [(.ref b160)]))) st160 ?_
            refine Go.by (B := (T160.setTop (mkF m 173 #[.val (.int p1), .val (.int p2), .val (.int p3), .val (.int 0), .val (.int hp83), .val (.int hc85), .val (.int v86), .val (.ref b87), .val (.ref b95), .val (.ref b133), .val (.ref b152), .val (.ref o159), .val .null, .unset, .unset] [.null, (.ref b133), (.ref b160), (.ref b160)]))) (fun _ k => XS.dup X160.here hx rfl (hb hby at_168) rfl rfl (XS.aload X160.here hx rfl (hb hby at_169) rfl rfl (XS.aload X160.here hx rfl (hb hby at_171) rfl rfl k))) ?_
            obtain ⟨_, _, ⟨T164, L164, k164, n164⟩, -, X164, ⟨Lc164, hQ164, l164, y164, z164⟩, st164⟩ := X160.specialBack hx (y := (⟨"com/example/pland/pland/billing/Charge", "<init>", "(Ljava/lang/String;Lcom/example/pland/pland/payment/ChargeResult;)V"⟩ : MethodName)) rfl hown (mvT hZ (wd hw 11 rfl)) (mvT hZ (wd hw 12 rfl)) (mvT hZ (wd hw 13 rfl)) (by decide) (backOf (W := 1) (rm_ch1 l Z a0 hw [] b160 b133 h160 n0 Z161 O161 A160 F162 F163 (Nat.le_trans Z158 sz_b160)) hZ (wd hw 13 rfl) (wd hw 10 rfl) (by decide) (by decide)) (g := (mkF m 173 #[.val (.int p1), .val (.int p2), .val (.int p3), .val (.int 0), .val (.int hp83), .val (.int hc85), .val (.int v86), .val (.ref b87), .val (.ref b95), .val (.ref b133), .val (.ref b152), .val (.ref o159), .val .null, .unset, .unset] [.null, (.ref b133), (.ref b160), (.ref b160)])) rfl (by rw [hml]; rfl) (Steps.refl _) (a := b160) (argsL := [(.ref b133), .null]) (rest := [(.ref b160)]) (lenOf pd_5 rfl) rfl (by show 2 * 0 + _ ≤ _; exact Nat.le_of_eq rfl) (hb hby at_173) (fun _ _ => ⟨rfl, e160, Nat.le_of_ble_eq_true rfl, Nat.le_of_ble_eq_true rfl⟩)
            dsimp only [Pt.U, Pt.locs, Pt.cells, Pt.slots] at X164 l164 y164 z164 st164 hQ164
            subst l164 y164 z164
            obtain ⟨rfl, Nq164, K164, p164_0, p164_1, p164_2⟩ := hQ164
            have N164 := Fr.app N159 Nq164
            have O165 := O161.keep K164 (allS (Nat.le_trans Z158 sz_b160) all0)
            have Z165 : n0 ≤ T164.heap.size := Nat.le_trans Z161 K164.1
            refine Go.by (B := (T164.setTop (mkF m 176 #[.val (.int p1), .val (.int p2), .val (.int p3), .val (.int 0), .val (.int hp83), .val (.int hc85), .val (.int v86), .val (.ref b87), .val (.ref b95), .val (.ref b133), .val (.ref b152), .val (.ref o159), .val .null, .unset, .unset] [(.ref b160)]))) (fun _ k => st164.trans k) ?_
            refine Go.by (B := (T164.setTop (mkF m 178 #[.val (.int p1), .val (.int p2), .val (.int p3), .val (.int 0), .val (.int hp83), .val (.int hc85), .val (.int v86), .val (.ref b87), .val (.ref b95), .val (.ref b133), .val (.ref b152), .val (.ref o159), .val .null, .val (.ref b160), .unset] []))) (fun _ k => XS.astore X164.here hx rfl (hb hby at_176) rfl rfl (l' := #[.val (.int p1), .val (.int p2), .val (.int p3), .val (.int 0), .val (.int hp83), .val (.int hc85), .val (.int v86), .val (.ref b87), .val (.ref b95), .val (.ref b133), .val (.ref b152), .val (.ref o159), .val .null, .val (.ref b160), .unset]) rfl k) ?_
            obtain ⟨_, _, ⟨T166, L166, k166, n166⟩, -, X166, ⟨Lc166, hQ166, l166, y166, z166⟩, st166⟩ := Jvm.LawKit.callS X164 hx (y := (⟨"com/example/pland/pland/billing/Charge", "none", "()Lcom/example/pland/pland/billing/Charge;"⟩ : MethodName)) hown (mvT hZ (wd hw 26 rfl)) (mvT hZ (wd hw 27 rfl)) (mvT hZ (wd hw 10 rfl)) (mvT hZ (wd hw 28 rfl)) (by decide) (backOf (W := 0) (rm_none l Z a0 hw []  T164.heap n0 Z165 O165) hZ (wd hw 28 rfl) (wd hw 10 rfl) (by decide) (by decide)) (g := (mkF m 178 #[.val (.int p1), .val (.int p2), .val (.int p3), .val (.int 0), .val (.int hp83), .val (.int hc85), .val (.int v86), .val (.ref b87), .val (.ref b95), .val (.ref b133), .val (.ref b152), .val (.ref o159), .val .null, .val (.ref b160), .unset] [])) rfl (by rw [hml]; rfl) (argsL := []) (rest := []) (lenOf pd_7 rfl) rfl (by show 2 * 0 + _ ≤ _; exact Nat.le_of_eq rfl) (hb hby at_178) (fun _ _ => ⟨rfl, rfl, Nat.le_of_ble_eq_true rfl, Nat.le_of_ble_eq_true rfl⟩)
            dsimp only [Pt.U, Pt.locs, Pt.cells, Pt.slots] at X166 l166 y166 z166 st166 hQ166
            subst l166 y166 z166
            obtain ⟨b166, rfl, Nq166, K166, p166_0, p166_1, p166_2⟩ := hQ166
            have N166 := Fr.app N164 Nq166
            have O167 := O165.keep K166 all0
            have Z167 : n0 ≤ T166.heap.size := Nat.le_trans Z165 K166.1
            have sz_b166 : T164.heap.size ≤ b166 := p166_2
            refine Go.by (B := (T166.setTop (mkF m 181 #[.val (.int p1), .val (.int p2), .val (.int p3), .val (.int 0), .val (.int hp83), .val (.int hc85), .val (.int v86), .val (.ref b87), .val (.ref b95), .val (.ref b133), .val (.ref b152), .val (.ref o159), .val .null, .val (.ref b160), .unset] [(.ref b166)]))) (fun _ k => st166 _ k) ?_
            obtain ⟨cq168, kq168, q168a, q168b, q168c⟩ := isOf hZ rfl p166_0
            obtain ⟨_, _, ⟨T168, L168, k168, n168⟩, -, X168, ⟨Lc168, hQ168, l168, y168, z168⟩, st168⟩ := X166.virtualBack hx (y := (⟨"com/example/pland/pland/billing/Charge", "made", "()Z"⟩ : MethodName)) (z := (⟨"com/example/pland/pland/billing/Charge", "made", "()Z"⟩ : MethodName)) hown (mvT hZ (wd hw 31 rfl)) (mvT hZ (wd hw 32 rfl)) (notFace_of_selects (args := #[]) (mvT hZ (wd hw 34 rfl))) (mvT hZ (wd hw 34 rfl)) (mvT hZ (wd hw 33 rfl)) (by decide) (backOf (W := 0) (rm_made0 l Z a0 hw [] b166 T166.heap n0 Z167 p166_1) hZ (wd hw 35 rfl) (wd hw 10 rfl) (by decide) (by decide)) q168a q168c (g := (mkF m 181 #[.val (.int p1), .val (.int p2), .val (.int p3), .val (.int 0), .val (.int hp83), .val (.int hc85), .val (.int v86), .val (.ref b87), .val (.ref b95), .val (.ref b133), .val (.ref b152), .val (.ref o159), .val .null, .val (.ref b160), .unset] [(.ref b166)])) rfl (by rw [hml]; rfl) (Steps.refl _) (argsL := []) (rest := []) (lenOf pd_8 rfl) rfl (by show 2 * 0 + _ ≤ _; exact Nat.le_of_eq rfl) (hb hby at_181) (fun _ _ => ⟨rfl, rfl, Nat.le_of_ble_eq_true rfl, Nat.le_of_ble_eq_true rfl⟩)
            dsimp only [Pt.U, Pt.locs, Pt.cells, Pt.slots] at X168 l168 y168 z168 st168 hQ168
            subst l168 y168 z168
            obtain ⟨rfl, Nq168, hh168⟩ := hQ168
            have N168 := Fr.app N166 Nq168
            refine Go.by (B := (T168.setTop (mkF m 184 #[.val (.int p1), .val (.int p2), .val (.int p3), .val (.int 0), .val (.int hp83), .val (.int hc85), .val (.int v86), .val (.ref b87), .val (.ref b95), .val (.ref b133), .val (.ref b152), .val (.ref o159), .val .null, .val (.ref b160), .unset] [(.int 0)]))) (fun _ k => st168.trans k) ?_
            refine Go.by (B := (T168.setTop (mkF m 201 #[.val (.int p1), .val (.int p2), .val (.int p3), .val (.int 0), .val (.int hp83), .val (.int hc85), .val (.int v86), .val (.ref b87), .val (.ref b95), .val (.ref b133), .val (.ref b152), .val (.ref o159), .val .null, .val (.ref b160), .val (.int 1)] [(.ref b160)]))) (fun _ k => XS.ifNo X168.here hx rfl (hb hby at_184) rfl ((if0 _ _).trans (teq (by decide : (0 : Int32) = (0 : Int32))).2) (XS.iconst X168.here hx rfl (hb hby at_187) (XS.goto X168.here hx rfl (pc0 := 188) (pc' := 192) rfl (hb hby at_188) (by decide) (by decide) (XS.istore X168.here hx rfl (hb hby at_192) rfl (l' := #[.val (.int p1), .val (.int p2), .val (.int p3), .val (.int 0), .val (.int hp83), .val (.int hc85), .val (.int v86), .val (.ref b87), .val (.ref b95), .val (.ref b133), .val (.ref b152), .val (.ref o159), .val .null, .val (.ref b160), .val (.int 1)]) rfl (XS.iload X168.here hx rfl (hb hby at_194) rfl (XS.ifNo X168.here hx rfl (hb hby at_196) rfl ((if0 _ _).trans (feq (by decide : ¬ ((1 : Int32) = (0 : Int32)))).1) (XS.aload X168.here hx rfl (hb hby at_199) rfl rfl k))))))) ?_
            obtain ⟨cq169, kq169, q169a, q169b, q169c⟩ := isOf hZ hh168 (p164_0.keep K166)
            obtain ⟨_, _, ⟨T169, L169, k169, n169⟩, -, X169, ⟨Lc169, hQ169, l169, y169, z169⟩, st169⟩ := X168.virtualBack hx (y := (⟨"com/example/pland/pland/billing/Charge", "made", "()Z"⟩ : MethodName)) (z := (⟨"com/example/pland/pland/billing/Charge", "made", "()Z"⟩ : MethodName)) hown (mvT hZ (wd hw 31 rfl)) (mvT hZ (wd hw 32 rfl)) (notFace_of_selects (args := #[]) (mvT hZ (wd hw 34 rfl))) (mvT hZ (wd hw 34 rfl)) (mvT hZ (wd hw 33 rfl)) (by decide) (backOf (W := 0) (rm_made0 l Z a0 hw [] b160 T166.heap n0 Z167 (p164_2.keep K166 nin0)) hZ (wd hw 35 rfl) (wd hw 10 rfl) (by decide) (by decide)) q169a q169c (g := (mkF m 201 #[.val (.int p1), .val (.int p2), .val (.int p3), .val (.int 0), .val (.int hp83), .val (.int hc85), .val (.int v86), .val (.ref b87), .val (.ref b95), .val (.ref b133), .val (.ref b152), .val (.ref o159), .val .null, .val (.ref b160), .val (.int 1)] [(.ref b160)])) rfl (by rw [hml]; rfl) (Steps.refl _) (argsL := []) (rest := []) (lenOf pd_8 rfl) rfl (by show 2 * 0 + _ ≤ _; exact Nat.le_of_eq rfl) (hb hby at_201) (fun _ _ => ⟨rfl, hh168, Nat.le_of_ble_eq_true rfl, Nat.le_of_ble_eq_true rfl⟩)
            dsimp only [Pt.U, Pt.locs, Pt.cells, Pt.slots] at X169 l169 y169 z169 st169 hQ169
            subst l169 y169 z169
            obtain ⟨rfl, Nq169, hh169⟩ := hQ169
            have N169 := Fr.app N168 Nq169
            refine Go.by (B := (T169.setTop (mkF m 204 #[.val (.int p1), .val (.int p2), .val (.int p3), .val (.int 0), .val (.int hp83), .val (.int hc85), .val (.int v86), .val (.ref b87), .val (.ref b95), .val (.ref b133), .val (.ref b152), .val (.ref o159), .val .null, .val (.ref b160), .val (.int 1)] [(.int 0)]))) (fun _ k => st169.trans k) ?_
            refine Go.by (B := (T169.setTop (mkF m 213 #[.val (.int p1), .val (.int p2), .val (.int p3), .val (.int 0), .val (.int hp83), .val (.int hc85), .val (.int v86), .val (.ref b87), .val (.ref b95), .val (.ref b133), .val (.ref b152), .val (.ref o159), .val .null, .val (.ref b160), .val (.int 1)] [(.int 1)]))) (fun _ k => XS.iloadN X169.here hx rfl (hb hby at_204) rfl (XS.icmpNo X169.here hx rfl (hb hby at_205) rfl (teq (by decide : (0 : Int32) = (0 : Int32))).2 (XS.iconst X169.here hx rfl (hb hby at_208) (XS.goto X169.here hx rfl (pc0 := 209) (pc' := 213) rfl (hb hby at_209) (by decide) (by decide) k)))) ?_
            refine Go.ret X169 hx hlk (t := .boolean) hret rfl (Or.inl ⟨rfl, by simp, _, rfl⟩) (hb hby at_213) (by decide) (by decide) ?_
            exact ⟨rfl, N169⟩
      refine Go.by (B := (T83.setTop (mkF m 28 #[.val (.int p1), .val (.int p2), .val (.int p3), .val (.int 0), .val (.int hp83), .unset, .unset, .unset, .unset, .unset, .unset, .unset, .unset, .unset, .unset] [(.int (p1 &&& (4 : Int32)))]))) (fun _ k => XS.iloadN X84.here hx rfl (hb hby at_25) rfl (XS.iconst X84.here hx rfl (hb hby at_26) (XS.iand X84.here hx rfl (hb hby at_27) rfl k))) ?_
      by_cases c170 : (p1 &&& (4 : Int32)) = (0 : Int32)
      · skip
        refine Go.by (B := (T83.setTop (mkF m 36 #[.val (.int p1), .val (.int p2), .val (.int p3), .val (.int 0), .val (.int hp83), .unset, .unset, .unset, .unset, .unset, .unset, .unset, .unset, .unset, .unset] [(.int 0)]))) (fun _ k => XS.ifYes X84.here hx rfl (pc0 := 28) (pc' := 35) rfl (hb hby at_28) rfl ((if0 _ _).trans (teq c170).1) (by decide) (by decide) (XS.iconst X84.here hx rfl (hb hby at_35) k)) ?_
        exact J84 T83 X84 e84 (0 : Int32)
      · skip
        refine Go.by (B := (T83.setTop (mkF m 36 #[.val (.int p1), .val (.int p2), .val (.int p3), .val (.int 0), .val (.int hp83), .unset, .unset, .unset, .unset, .unset, .unset, .unset, .unset, .unset, .unset] [(.int 1)]))) (fun _ k => XS.ifNo X84.here hx rfl (hb hby at_28) rfl ((if0 _ _).trans (feq c170).1) (XS.iconst X84.here hx rfl (hb hby at_31) (XS.goto X84.here hx rfl (pc0 := 32) (pc' := 36) rfl (hb hby at_32) (by decide) (by decide) k))) ?_
        exact J84 T83 X84 e84 (1 : Int32)
    refine Go.by (B := (s₁.setTop (mkF m 15 #[.val (.int p1), .val (.int p2), .val (.int p3), .val (.int 0), .unset, .unset, .unset, .unset, .unset, .unset, .unset, .unset, .unset, .unset, .unset] [(.int (p1 &&& (2 : Int32)))]))) (fun _ k => XS.iloadN X82.here hx rfl (hb hby at_12) rfl (XS.iconst X82.here hx rfl (hb hby at_13) (XS.iand X82.here hx rfl (hb hby at_14) rfl k))) ?_
    by_cases c171 : (p1 &&& (2 : Int32)) = (0 : Int32)
    · skip
      refine Go.by (B := (s₁.setTop (mkF m 23 #[.val (.int p1), .val (.int p2), .val (.int p3), .val (.int 0), .unset, .unset, .unset, .unset, .unset, .unset, .unset, .unset, .unset, .unset, .unset] [(.int 0)]))) (fun _ k => XS.ifYes X82.here hx rfl (pc0 := 15) (pc' := 22) rfl (hb hby at_15) rfl ((if0 _ _).trans (teq c171).1) (by decide) (by decide) (XS.iconst X82.here hx rfl (hb hby at_22) k)) ?_
      exact J82 s₁ X82 e82 (0 : Int32)
    · skip
      refine Go.by (B := (s₁.setTop (mkF m 23 #[.val (.int p1), .val (.int p2), .val (.int p3), .val (.int 0), .unset, .unset, .unset, .unset, .unset, .unset, .unset, .unset, .unset, .unset, .unset] [(.int 1)]))) (fun _ k => XS.ifNo X82.here hx rfl (hb hby at_15) rfl ((if0 _ _).trans (feq c171).1) (XS.iconst X82.here hx rfl (hb hby at_18) (XS.goto X82.here hx rfl (pc0 := 19) (pc' := 23) rfl (hb hby at_19) (by decide) (by decide) k))) ?_
      exact J82 s₁ X82 e82 (1 : Int32)
  · skip
    refine Go.by (B := (s₁.setTop (mkF m 12 #[.val (.int p1), .val (.int p2), .val (.int p3), .val (.int 1), .unset, .unset, .unset, .unset, .unset, .unset, .unset, .unset, .unset, .unset, .unset] []))) (fun _ k => XS.ifNo X0.here hx rfl (hb hby at_3) rfl ((if0 _ _).trans (feq c81).1) (XS.iconst X0.here hx rfl (hb hby at_6) (XS.goto X0.here hx rfl (pc0 := 7) (pc' := 11) rfl (hb hby at_7) (by decide) (by decide) (XS.istoreN X0.here hx rfl (hb hby at_11) rfl (l' := #[.val (.int p1), .val (.int p2), .val (.int p3), .val (.int 1), .unset, .unset, .unset, .unset, .unset, .unset, .unset, .unset, .unset, .unset, .unset]) rfl k)))) ?_
    obtain ⟨lc172, X172, N172⟩ : ∃ lc, Stand p l e room_1 s m #[(.int p1), (.int p2), (.int p3)] below meth c s₁ lc 0 0 ∧ Fr n0 lc := ⟨_, X0, N0⟩
    have e172 : s₁.heap = h0 := e0
    have J172 : ∀ (T173 : State) (X173 : Stand p l e room_1 s m #[(.int p1), (.int p2), (.int p3)] below meth c T173 lc172 0 0) (e173 : T173.heap = h0) (hp173 : Int32), Go p e below (PostW s room_1.cells room_1.slots (Q_rm0 Z p1 p2 p3 cs w0 w1 w2 w3 h0 n0)) (T173.setTop (mkF m 23 #[.val (.int p1), .val (.int p2), .val (.int p3), .val (.int 1), .unset, .unset, .unset, .unset, .unset, .unset, .unset, .unset, .unset, .unset, .unset] [(.int hp173)])) := by
      intro T173 X173 e173 hp173
      refine Go.by (B := (T173.setTop (mkF m 25 #[.val (.int p1), .val (.int p2), .val (.int p3), .val (.int 1), .val (.int hp173), .unset, .unset, .unset, .unset, .unset, .unset, .unset, .unset, .unset, .unset] []))) (fun _ k => XS.istore X173.here hx rfl (hb hby at_23) rfl (l' := #[.val (.int p1), .val (.int p2), .val (.int p3), .val (.int 1), .val (.int hp173), .unset, .unset, .unset, .unset, .unset, .unset, .unset, .unset, .unset, .unset]) rfl k) ?_
      obtain ⟨lc174, X174, N174⟩ : ∃ lc, Stand p l e room_1 s m #[(.int p1), (.int p2), (.int p3)] below meth c T173 lc 0 0 ∧ Fr n0 lc := ⟨_, X173, N172⟩
      have e174 : T173.heap = h0 := e173
      have J174 : ∀ (T175 : State) (X175 : Stand p l e room_1 s m #[(.int p1), (.int p2), (.int p3)] below meth c T175 lc174 0 0) (e175 : T175.heap = h0) (hc175 : Int32), Go p e below (PostW s room_1.cells room_1.slots (Q_rm0 Z p1 p2 p3 cs w0 w1 w2 w3 h0 n0)) (T175.setTop (mkF m 36 #[.val (.int p1), .val (.int p2), .val (.int p3), .val (.int 1), .val (.int hp173), .unset, .unset, .unset, .unset, .unset, .unset, .unset, .unset, .unset, .unset] [(.int hc175)])) := by
        intro T175 X175 e175 hc175
        refine Go.by (B := (T175.setTop (mkF m 43 #[.val (.int p1), .val (.int p2), .val (.int p3), .val (.int 1), .val (.int hp173), .val (.int hc175), .unset, .unset, .unset, .unset, .unset, .unset, .unset, .unset, .unset] [(.int (((p1.toUInt32 >>> ((3 : Int32) &&& 31).toUInt32).toInt32) &&& (3 : Int32)))]))) (fun _ k => XS.istore X175.here hx rfl (hb hby at_36) rfl (l' := #[.val (.int p1), .val (.int p2), .val (.int p3), .val (.int 1), .val (.int hp173), .val (.int hc175), .unset, .unset, .unset, .unset, .unset, .unset, .unset, .unset, .unset]) rfl (XS.iloadN X175.here hx rfl (hb hby at_38) rfl (XS.iconst X175.here hx rfl (hb hby at_39) (XS.iushr X175.here hx rfl (hb hby at_40) rfl (XS.iconst X175.here hx rfl (hb hby at_41) (XS.iand X175.here hx rfl (hb hby at_42) rfl k)))))) ?_
        obtain ⟨v176, hv176⟩ : ∃ v, v = (((p1.toUInt32 >>> ((3 : Int32) &&& 31).toUInt32).toInt32) &&& (3 : Int32)) := ⟨_, rfl⟩
        refine Go.by (B := (T175.setTop (mkF m 46 #[.val (.int p1), .val (.int p2), .val (.int p3), .val (.int 1), .val (.int hp173), .val (.int hc175), .val (.int v176), .unset, .unset, .unset, .unset, .unset, .unset, .unset, .unset] [(.int 2)]))) (fun _ k => XS.istore (x := v176) (rest := []) X175.here hx rfl (hb hby at_43) (by rw [hv176]) (l' := #[.val (.int p1), .val (.int p2), .val (.int p3), .val (.int 1), .val (.int hp173), .val (.int hc175), .val (.int v176), .unset, .unset, .unset, .unset, .unset, .unset, .unset, .unset]) rfl (XS.iconst X175.here hx rfl (hb hby at_45) k)) ?_
        obtain ⟨T177, h177, k177, X177, e177, E177, A177, st177⟩ := newP X175 hx hZ (wd hw 0 rfl) e175 (g := (mkF m 46 #[.val (.int p1), .val (.int p2), .val (.int p3), .val (.int 1), .val (.int hp173), .val (.int hc175), .val (.int v176), .unset, .unset, .unset, .unset, .unset, .unset, .unset, .unset] [(.int 2)])) rfl (hb hby at_46) rfl (by decide) (cap := 2) (by decide) (by decide) (by decide) (by decide)
        obtain ⟨b177, g177⟩ : ∃ z, z = h0.size := ⟨_, rfl⟩
        rw [← g177] at A177 st177
        have sz_b177 : h0.size ≤ b177 := Nat.le_of_eq g177.symm
        have V177 : Arv Z h177 b177 k177 .char (2 : Int32) [(.int 0), (.int 0)] (.int 0) := (Arv.new A177 (by decide)).pad (pad_rep [] (.int 0) 2)
        have O178 := pr0.ext E177
        have Z178 : n0 ≤ h177.size := Nat.le_trans Z0 E177.1
        refine Go.by (B := (T177.setTop (mkF m 48 #[.val (.int p1), .val (.int p2), .val (.int p3), .val (.int 1), .val (.int hp173), .val (.int hc175), .val (.int v176), .unset, .unset, .unset, .unset, .unset, .unset, .unset, .unset] [(.ref b177)]))) st177 ?_
        refine Go.by (B := (T177.setTop (mkF m 56 #[.val (.int p1), .val (.int p2), .val (.int p3), .val (.int 1), .val (.int hp173), .val (.int hc175), .val (.int v176), .unset, .unset, .unset, .unset, .unset, .unset, .unset, .unset] [(.int ((p2 &&& (255 : Int32)).toUInt32.toUInt16.toUInt32.toInt32)), (.int 0), (.ref b177), (.ref b177)]))) (fun _ k => XS.dup X177.here hx rfl (hb hby at_48) rfl rfl (XS.iconst X177.here hx rfl (hb hby at_49) (XS.iloadN X177.here hx rfl (hb hby at_50) rfl (XS.sipush X177.here hx rfl (hb hby at_51) (XS.iand X177.here hx rfl (hb hby at_54) rfl (XS.i2c X177.here hx rfl (hb hby at_55) rfl k)))))) ?_
        obtain ⟨cl179, Ar179, q179, S179, N_179, Hs179, G179⟩ := id V177
        have hin180 : ¬ ((0 : Int32) < 0 ∨ cl179.slots.size ≤ ((0 : Int32)).toNatClampNeg) := inb_of S179 ⟨by decide, by decide⟩
        obtain ⟨T180, h180, X180, e180, W180, st180⟩ := stC X177 hx hZ e177 Ar179 (j := (0 : Int32)) hin180 (g := (mkF m 56 #[.val (.int p1), .val (.int p2), .val (.int p3), .val (.int 1), .val (.int hp173), .val (.int hc175), .val (.int v176), .unset, .unset, .unset, .unset, .unset, .unset, .unset, .unset] [(.int ((p2 &&& (255 : Int32)).toUInt32.toUInt16.toUInt32.toInt32)), (.int 0), (.ref b177), (.ref b177)])) rfl rfl (hb hby at_56)
        have O181 := O178.wr W180 (Nat.le_trans Z0 sz_b177)
        have Z181 : n0 ≤ h180.size := Nat.le_trans Z178 (Keep.of_wr W180).1
        have V180 : Arv Z h180 b177 k177 .char (2 : Int32) [(.int (nar .char ((p2 &&& (255 : Int32)).toUInt32.toUInt16.toUInt32.toInt32))), (.int 0)] (.int 0) := Arv.set Ar179 q179 S179 N_179 Hs179 G179 (fits_nar_char _) W180 0 rfl (Nat.le_of_ble_eq_true rfl)
        have N180 := Fr.snoc X180 N174 (Nat.le_trans Z0 sz_b177)
        refine Go.by (B := (T180.setTop (mkF m 57 #[.val (.int p1), .val (.int p2), .val (.int p3), .val (.int 1), .val (.int hp173), .val (.int hc175), .val (.int v176), .unset, .unset, .unset, .unset, .unset, .unset, .unset, .unset] [(.ref b177)]))) st180 ?_
        refine Go.by (B := (T180.setTop (mkF m 68 #[.val (.int p1), .val (.int p2), .val (.int p3), .val (.int 1), .val (.int hp173), .val (.int hc175), .val (.int v176), .unset, .unset, .unset, .unset, .unset, .unset, .unset, .unset] [(.int ((((p2.toUInt32 >>> ((8 : Int32) &&& 31).toUInt32).toInt32) &&& (255 : Int32)).toUInt32.toUInt16.toUInt32.toInt32)), (.int 1), (.ref b177), (.ref b177)]))) (fun _ k => XS.dup X180.here hx rfl (hb hby at_57) rfl rfl (XS.iconst X180.here hx rfl (hb hby at_58) (XS.iloadN X180.here hx rfl (hb hby at_59) rfl (XS.bipush X180.here hx rfl (hb hby at_60) (XS.iushr X180.here hx rfl (hb hby at_62) rfl (XS.sipush X180.here hx rfl (hb hby at_63) (XS.iand X180.here hx rfl (hb hby at_66) rfl (XS.i2c X180.here hx rfl (hb hby at_67) rfl k)))))))) ?_
        obtain ⟨cl182, Ar182, q182, S182, N_182, Hs182, G182⟩ := id V180
        have hin183 : ¬ ((1 : Int32) < 0 ∨ cl182.slots.size ≤ ((1 : Int32)).toNatClampNeg) := inb_of S182 ⟨by decide, by decide⟩
        obtain ⟨T183, h183, X183, e183, W183, st183⟩ := stC X180 hx hZ e180 Ar182 (j := (1 : Int32)) hin183 (g := (mkF m 68 #[.val (.int p1), .val (.int p2), .val (.int p3), .val (.int 1), .val (.int hp173), .val (.int hc175), .val (.int v176), .unset, .unset, .unset, .unset, .unset, .unset, .unset, .unset] [(.int ((((p2.toUInt32 >>> ((8 : Int32) &&& 31).toUInt32).toInt32) &&& (255 : Int32)).toUInt32.toUInt16.toUInt32.toInt32)), (.int 1), (.ref b177), (.ref b177)])) rfl rfl (hb hby at_68)
        have O184 := O181.wr W183 (Nat.le_trans Z0 sz_b177)
        have Z184 : n0 ≤ h183.size := Nat.le_trans Z181 (Keep.of_wr W183).1
        have V183 : Arv Z h183 b177 k177 .char (2 : Int32) [(.int (nar .char ((p2 &&& (255 : Int32)).toUInt32.toUInt16.toUInt32.toInt32))), (.int (nar .char ((((p2.toUInt32 >>> ((8 : Int32) &&& 31).toUInt32).toInt32) &&& (255 : Int32)).toUInt32.toUInt16.toUInt32.toInt32)))] (.int 0) := Arv.set Ar182 q182 S182 N_182 Hs182 G182 (fits_nar_char _) W183 1 rfl (Nat.le_of_ble_eq_true rfl)
        have N183 := Fr.snoc X183 N180 (Nat.le_trans Z0 sz_b177)
        refine Go.by (B := (T183.setTop (mkF m 69 #[.val (.int p1), .val (.int p2), .val (.int p3), .val (.int 1), .val (.int hp173), .val (.int hc175), .val (.int v176), .unset, .unset, .unset, .unset, .unset, .unset, .unset, .unset] [(.ref b177)]))) st183 ?_
        refine Go.by (B := (T183.setTop (mkF m 72 #[.val (.int p1), .val (.int p2), .val (.int p3), .val (.int 1), .val (.int hp173), .val (.int hc175), .val (.int v176), .val (.ref b177), .unset, .unset, .unset, .unset, .unset, .unset, .unset] [(.int 2)]))) (fun _ k => XS.astore X183.here hx rfl (hb hby at_69) rfl rfl (l' := #[.val (.int p1), .val (.int p2), .val (.int p3), .val (.int 1), .val (.int hp173), .val (.int hc175), .val (.int v176), .val (.ref b177), .unset, .unset, .unset, .unset, .unset, .unset, .unset]) rfl (XS.iconst X183.here hx rfl (hb hby at_71) k)) ?_
        obtain ⟨T185, h185, k185, X185, e185, E185, A185, st185⟩ := newP X183 hx hZ (wd hw 0 rfl) e183 (g := (mkF m 72 #[.val (.int p1), .val (.int p2), .val (.int p3), .val (.int 1), .val (.int hp173), .val (.int hc175), .val (.int v176), .val (.ref b177), .unset, .unset, .unset, .unset, .unset, .unset, .unset] [(.int 2)])) rfl (hb hby at_72) rfl (by decide) (cap := 2) (by decide) (by decide) (by decide) (by decide)
        obtain ⟨b185, g185⟩ : ∃ z, z = h183.size := ⟨_, rfl⟩
        rw [← g185] at A185 st185
        have sz_b185 : h183.size ≤ b185 := Nat.le_of_eq g185.symm
        have V185 : Arv Z h185 b185 k185 .char (2 : Int32) [(.int 0), (.int 0)] (.int 0) := (Arv.new A185 (by decide)).pad (pad_rep [] (.int 0) 2)
        have O186 := O184.ext E185
        have Z186 : n0 ≤ h185.size := Nat.le_trans Z184 E185.1
        refine Go.by (B := (T185.setTop (mkF m 74 #[.val (.int p1), .val (.int p2), .val (.int p3), .val (.int 1), .val (.int hp173), .val (.int hc175), .val (.int v176), .val (.ref b177), .unset, .unset, .unset, .unset, .unset, .unset, .unset] [(.ref b185)]))) st185 ?_
        refine Go.by (B := (T185.setTop (mkF m 82 #[.val (.int p1), .val (.int p2), .val (.int p3), .val (.int 1), .val (.int hp173), .val (.int hc175), .val (.int v176), .val (.ref b177), .unset, .unset, .unset, .unset, .unset, .unset, .unset] [(.int ((p3 &&& (255 : Int32)).toUInt32.toUInt16.toUInt32.toInt32)), (.int 0), (.ref b185), (.ref b185)]))) (fun _ k => XS.dup X185.here hx rfl (hb hby at_74) rfl rfl (XS.iconst X185.here hx rfl (hb hby at_75) (XS.iloadN X185.here hx rfl (hb hby at_76) rfl (XS.sipush X185.here hx rfl (hb hby at_77) (XS.iand X185.here hx rfl (hb hby at_80) rfl (XS.i2c X185.here hx rfl (hb hby at_81) rfl k)))))) ?_
        obtain ⟨cl187, Ar187, q187, S187, N_187, Hs187, G187⟩ := id V185
        have hin188 : ¬ ((0 : Int32) < 0 ∨ cl187.slots.size ≤ ((0 : Int32)).toNatClampNeg) := inb_of S187 ⟨by decide, by decide⟩
        obtain ⟨T188, h188, X188, e188, W188, st188⟩ := stC X185 hx hZ e185 Ar187 (j := (0 : Int32)) hin188 (g := (mkF m 82 #[.val (.int p1), .val (.int p2), .val (.int p3), .val (.int 1), .val (.int hp173), .val (.int hc175), .val (.int v176), .val (.ref b177), .unset, .unset, .unset, .unset, .unset, .unset, .unset] [(.int ((p3 &&& (255 : Int32)).toUInt32.toUInt16.toUInt32.toInt32)), (.int 0), (.ref b185), (.ref b185)])) rfl rfl (hb hby at_82)
        have O189 := O186.wr W188 (Nat.le_trans Z184 sz_b185)
        have Z189 : n0 ≤ h188.size := Nat.le_trans Z186 (Keep.of_wr W188).1
        have V188 : Arv Z h188 b185 k185 .char (2 : Int32) [(.int (nar .char ((p3 &&& (255 : Int32)).toUInt32.toUInt16.toUInt32.toInt32))), (.int 0)] (.int 0) := Arv.set Ar187 q187 S187 N_187 Hs187 G187 (fits_nar_char _) W188 0 rfl (Nat.le_of_ble_eq_true rfl)
        have N188 := Fr.snoc X188 N183 (Nat.le_trans Z184 sz_b185)
        refine Go.by (B := (T188.setTop (mkF m 83 #[.val (.int p1), .val (.int p2), .val (.int p3), .val (.int 1), .val (.int hp173), .val (.int hc175), .val (.int v176), .val (.ref b177), .unset, .unset, .unset, .unset, .unset, .unset, .unset] [(.ref b185)]))) st188 ?_
        refine Go.by (B := (T188.setTop (mkF m 94 #[.val (.int p1), .val (.int p2), .val (.int p3), .val (.int 1), .val (.int hp173), .val (.int hc175), .val (.int v176), .val (.ref b177), .unset, .unset, .unset, .unset, .unset, .unset, .unset] [(.int ((((p3.toUInt32 >>> ((8 : Int32) &&& 31).toUInt32).toInt32) &&& (255 : Int32)).toUInt32.toUInt16.toUInt32.toInt32)), (.int 1), (.ref b185), (.ref b185)]))) (fun _ k => XS.dup X188.here hx rfl (hb hby at_83) rfl rfl (XS.iconst X188.here hx rfl (hb hby at_84) (XS.iloadN X188.here hx rfl (hb hby at_85) rfl (XS.bipush X188.here hx rfl (hb hby at_86) (XS.iushr X188.here hx rfl (hb hby at_88) rfl (XS.sipush X188.here hx rfl (hb hby at_89) (XS.iand X188.here hx rfl (hb hby at_92) rfl (XS.i2c X188.here hx rfl (hb hby at_93) rfl k)))))))) ?_
        obtain ⟨cl190, Ar190, q190, S190, N_190, Hs190, G190⟩ := id V188
        have hin191 : ¬ ((1 : Int32) < 0 ∨ cl190.slots.size ≤ ((1 : Int32)).toNatClampNeg) := inb_of S190 ⟨by decide, by decide⟩
        obtain ⟨T191, h191, X191, e191, W191, st191⟩ := stC X188 hx hZ e188 Ar190 (j := (1 : Int32)) hin191 (g := (mkF m 94 #[.val (.int p1), .val (.int p2), .val (.int p3), .val (.int 1), .val (.int hp173), .val (.int hc175), .val (.int v176), .val (.ref b177), .unset, .unset, .unset, .unset, .unset, .unset, .unset] [(.int ((((p3.toUInt32 >>> ((8 : Int32) &&& 31).toUInt32).toInt32) &&& (255 : Int32)).toUInt32.toUInt16.toUInt32.toInt32)), (.int 1), (.ref b185), (.ref b185)])) rfl rfl (hb hby at_94)
        have O192 := O189.wr W191 (Nat.le_trans Z184 sz_b185)
        have Z192 : n0 ≤ h191.size := Nat.le_trans Z189 (Keep.of_wr W191).1
        have V191 : Arv Z h191 b185 k185 .char (2 : Int32) [(.int (nar .char ((p3 &&& (255 : Int32)).toUInt32.toUInt16.toUInt32.toInt32))), (.int (nar .char ((((p3.toUInt32 >>> ((8 : Int32) &&& 31).toUInt32).toInt32) &&& (255 : Int32)).toUInt32.toUInt16.toUInt32.toInt32)))] (.int 0) := Arv.set Ar190 q190 S190 N_190 Hs190 G190 (fits_nar_char _) W191 1 rfl (Nat.le_of_ble_eq_true rfl)
        have N191 := Fr.snoc X191 N188 (Nat.le_trans Z184 sz_b185)
        refine Go.by (B := (T191.setTop (mkF m 95 #[.val (.int p1), .val (.int p2), .val (.int p3), .val (.int 1), .val (.int hp173), .val (.int hc175), .val (.int v176), .val (.ref b177), .unset, .unset, .unset, .unset, .unset, .unset, .unset] [(.ref b185)]))) st191 ?_
        refine Go.by (B := (T191.setTop (mkF m 99 #[.val (.int p1), .val (.int p2), .val (.int p3), .val (.int 1), .val (.int hp173), .val (.int hc175), .val (.int v176), .val (.ref b177), .val (.ref b185), .unset, .unset, .unset, .unset, .unset, .unset] [(.int hp173)]))) (fun _ k => XS.astore X191.here hx rfl (hb hby at_95) rfl rfl (l' := #[.val (.int p1), .val (.int p2), .val (.int p3), .val (.int 1), .val (.int hp173), .val (.int hc175), .val (.int v176), .val (.ref b177), .val (.ref b185), .unset, .unset, .unset, .unset, .unset, .unset]) rfl (XS.iload X191.here hx rfl (hb hby at_97) rfl k)) ?_
        by_cases c193 : hp173 = (0 : Int32)
        · skip
          refine Go.by (B := (T191.setTop (mkF m 119 #[.val (.int p1), .val (.int p2), .val (.int p3), .val (.int 1), .val (.int hp173), .val (.int hc175), .val (.int v176), .val (.ref b177), .val (.ref b185), .val .null, .unset, .unset, .unset, .unset, .unset] [(.int hc175)]))) (fun _ k => XS.ifYes X191.here hx rfl (pc0 := 99) (pc' := 114) rfl (hb hby at_99) rfl ((if0 _ _).trans (teq c193).1) (by decide) (by decide) (XS.aconstNull X191.here hx rfl (hb hby at_114) (XS.astore X191.here hx rfl (hb hby at_115) rfl rfl (l' := #[.val (.int p1), .val (.int p2), .val (.int p3), .val (.int 1), .val (.int hp173), .val (.int hc175), .val (.int v176), .val (.ref b177), .val (.ref b185), .val .null, .unset, .unset, .unset, .unset, .unset]) rfl (XS.iload X191.here hx rfl (hb hby at_117) rfl k)))) ?_
          by_cases c194 : hc175 = (0 : Int32)
          · skip
            refine Go.by (B := (T191.setTop (mkF m 139 #[.val (.int p1), .val (.int p2), .val (.int p3), .val (.int 1), .val (.int hp173), .val (.int hc175), .val (.int v176), .val (.ref b177), .val (.ref b185), .val .null, .val .null, .unset, .unset, .unset, .unset] [(.int v176)]))) (fun _ k => XS.ifYes X191.here hx rfl (pc0 := 119) (pc' := 134) rfl (hb hby at_119) rfl ((if0 _ _).trans (teq c194).1) (by decide) (by decide) (XS.aconstNull X191.here hx rfl (hb hby at_134) (XS.astore X191.here hx rfl (hb hby at_135) rfl rfl (l' := #[.val (.int p1), .val (.int p2), .val (.int p3), .val (.int 1), .val (.int hp173), .val (.int hc175), .val (.int v176), .val (.ref b177), .val (.ref b185), .val .null, .val .null, .unset, .unset, .unset, .unset]) rfl (XS.iload X191.here hx rfl (hb hby at_137) rfl k)))) ?_
            obtain ⟨_, _, ⟨T195, L195, k195, n195⟩, -, X195, ⟨Lc195, hQ195, l195, y195, z195⟩, st195⟩ := Jvm.LawKit.callS X191 hx (y := (⟨"com/example/pland/pland/billing/ChargeMadePinLaw", "status", "(I)Lcom/example/pland/pland/payment/ChargeResult$Status;"⟩ : MethodName)) hown (mvT hZ (wd hw 1 rfl)) (mvT hZ (wd hw 2 rfl)) (mvT hZ (wd hw 3 rfl)) (mvT hZ (wd hw 4 rfl)) (by decide) (backOf (W := 0) (rm_status l Z a0 hw [] v176 w0 w1 w2 w3 h191 n0 Z192 O192 pr3 pr4 pr5 pr6) hZ (wd hw 4 rfl) (wd hw 3 rfl) (by decide) (by decide)) (g := (mkF m 139 #[.val (.int p1), .val (.int p2), .val (.int p3), .val (.int 1), .val (.int hp173), .val (.int hc175), .val (.int v176), .val (.ref b177), .val (.ref b185), .val .null, .val .null, .unset, .unset, .unset, .unset] [(.int v176)])) rfl (by rw [hml]; rfl) (argsL := [(.int v176)]) (rest := []) (lenOf pd_6 rfl) rfl (by show 2 * 0 + _ ≤ _; exact Nat.le_of_eq rfl) (hb hby at_139) (fun _ _ => ⟨rfl, e191, Nat.le_of_ble_eq_true rfl, Nat.le_of_ble_eq_true rfl⟩)
            dsimp only [Pt.U, Pt.locs, Pt.cells, Pt.slots] at X195 l195 y195 z195 st195 hQ195
            subst l195 y195 z195
            obtain ⟨o195, rfl, Nq195, hh195⟩ := hQ195
            have N195 := Fr.app N191 Nq195
            refine Go.by (B := (T195.setTop (mkF m 142 #[.val (.int p1), .val (.int p2), .val (.int p3), .val (.int 1), .val (.int hp173), .val (.int hc175), .val (.int v176), .val (.ref b177), .val (.ref b185), .val .null, .val .null, .unset, .unset, .unset, .unset] [(.ref o195)]))) (fun _ k => st195 _ k) ?_
            refine Go.by (B := (T195.setTop (mkF m 148 #[.val (.int p1), .val (.int p2), .val (.int p3), .val (.int 1), .val (.int hp173), .val (.int hc175), .val (.int v176), .val (.ref b177), .val (.ref b185), .val .null, .val .null, .val (.ref o195), .unset, .unset, .unset] []))) (fun _ k => XS.astore X195.here hx rfl (hb hby at_142) rfl rfl (l' := #[.val (.int p1), .val (.int p2), .val (.int p3), .val (.int 1), .val (.int hp173), .val (.int hc175), .val (.int v176), .val (.ref b177), .val (.ref b185), .val .null, .val .null, .val (.ref o195), .unset, .unset, .unset]) rfl (XS.iloadN X195.here hx rfl (hb hby at_144) rfl (XS.ifNo X195.here hx rfl (hb hby at_145) rfl ((if0 _ _).trans (feq (by decide : ¬ ((1 : Int32) = (0 : Int32)))).1) k))) ?_
            obtain ⟨T196, h196, X196, e196, E196, A196, D196, -, st196⟩ := newO X195 hx hZ hown (wd hw 36 rfl) (wd hw 37 rfl) (wd hw 38 rfl) hh195 (g := (mkF m 148 #[.val (.int p1), .val (.int p2), .val (.int p3), .val (.int 1), .val (.int hp173), .val (.int hc175), .val (.int v176), .val (.ref b177), .val (.ref b185), .val .null, .val .null, .val (.ref o195), .unset, .unset, .unset] [])) rfl (hb hby at_148) (by decide) (by decide)
            obtain ⟨b196, g196⟩ : ∃ z, z = h191.size := ⟨_, rfl⟩
            rw [← g196] at A196 D196 st196
            have sz_b196 : h191.size ≤ b196 := Nat.le_of_eq g196.symm
            have O197 := O192.ext E196
            have Z197 : n0 ≤ h196.size := Nat.le_trans Z192 E196.1
            have F198 : Fld Z h196 b196 "com/example/pland/pland/payment/ChargeResult" "status" "Lcom/example/pland/pland/payment/ChargeResult$Status;" .null := D196 (Or.inr (wd hw 44 rfl)) (ty := (.object "com/example/pland/pland/payment/ChargeResult$Status")) (by decide)
            have F199 : Fld Z h196 b196 "com/example/pland/pland/payment/ChargeResult" "declineCode" "Ljava/lang/String;" .null := D196 (Or.inr (wd hw 46 rfl)) (ty := (.object "java/lang/String")) (by decide)
            refine Go.by (B := (T196.setTop (mkF m 151 #[.val (.int p1), .val (.int p2), .val (.int p3), .val (.int 1), .val (.int hp173), .val (.int hc175), .val (.int v176), .val (.ref b177), .val (.ref b185), .val .null, .val .null, .val (.ref o195), .unset, .unset, .unset] [(.ref b196)]))) st196 ?_
            refine Go.by (B := (T196.setTop (mkF m 156 #[.val (.int p1), .val (.int p2), .val (.int p3), .val (.int 1), .val (.int hp173), .val (.int hc175), .val (.int v176), .val (.ref b177), .val (.ref b185), .val .null, .val .null, .val (.ref o195), .unset, .unset, .unset] [.null, (.ref o195), (.ref b196), (.ref b196)]))) (fun _ k => XS.dup X196.here hx rfl (hb hby at_151) rfl rfl (XS.aload X196.here hx rfl (hb hby at_152) rfl rfl (XS.aload X196.here hx rfl (hb hby at_154) rfl rfl k))) ?_
            obtain ⟨_, _, ⟨T200, L200, k200, n200⟩, -, X200, ⟨Lc200, hQ200, l200, y200, z200⟩, st200⟩ := X196.specialBack hx (y := (⟨"com/example/pland/pland/payment/ChargeResult", "<init>", "(Lcom/example/pland/pland/payment/ChargeResult$Status;Ljava/lang/String;)V"⟩ : MethodName)) rfl hown (mvT hZ (wd hw 39 rfl)) (mvT hZ (wd hw 40 rfl)) (mvT hZ (wd hw 41 rfl)) (by decide) (backOf (W := 1) (rm_cr1 l Z a0 hw [] b196 o195 h196 n0 Z197 O197 A196 F198 F199 (Nat.le_trans Z192 sz_b196)) hZ (wd hw 41 rfl) (wd hw 38 rfl) (by decide) (by decide)) (g := (mkF m 156 #[.val (.int p1), .val (.int p2), .val (.int p3), .val (.int 1), .val (.int hp173), .val (.int hc175), .val (.int v176), .val (.ref b177), .val (.ref b185), .val .null, .val .null, .val (.ref o195), .unset, .unset, .unset] [.null, (.ref o195), (.ref b196), (.ref b196)])) rfl (by rw [hml]; rfl) (Steps.refl _) (a := b196) (argsL := [(.ref o195), .null]) (rest := [(.ref b196)]) (lenOf pd_10 rfl) rfl (by show 2 * 0 + _ ≤ _; exact Nat.le_of_eq rfl) (hb hby at_156) (fun _ _ => ⟨rfl, e196, Nat.le_of_ble_eq_true rfl, Nat.le_of_ble_eq_true rfl⟩)
            dsimp only [Pt.U, Pt.locs, Pt.cells, Pt.slots] at X200 l200 y200 z200 st200 hQ200
            subst l200 y200 z200
            obtain ⟨rfl, Nq200, K200, p200_0, p200_1, p200_2⟩ := hQ200
            have N200 := Fr.app N195 Nq200
            have O201 := O197.keep K200 (allS (Nat.le_trans Z192 sz_b196) all0)
            have Z201 : n0 ≤ T200.heap.size := Nat.le_trans Z197 K200.1
            refine Go.by (B := (T200.setTop (mkF m 159 #[.val (.int p1), .val (.int p2), .val (.int p3), .val (.int 1), .val (.int hp173), .val (.int hc175), .val (.int v176), .val (.ref b177), .val (.ref b185), .val .null, .val .null, .val (.ref o195), .unset, .unset, .unset] [(.ref b196)]))) (fun _ k => st200.trans k) ?_
            refine Go.by (B := (T200.setTop (mkF m 165 #[.val (.int p1), .val (.int p2), .val (.int p3), .val (.int 1), .val (.int hp173), .val (.int hc175), .val (.int v176), .val (.ref b177), .val (.ref b185), .val .null, .val .null, .val (.ref o195), .val (.ref b196), .unset, .unset] []))) (fun _ k => XS.goto X200.here hx rfl (pc0 := 159) (pc' := 163) rfl (hb hby at_159) (by decide) (by decide) (XS.astore X200.here hx rfl (hb hby at_163) rfl rfl (l' := #[.val (.int p1), .val (.int p2), .val (.int p3), .val (.int 1), .val (.int hp173), .val (.int hc175), .val (.int v176), .val (.ref b177), .val (.ref b185), .val .null, .val .null, .val (.ref o195), .val (.ref b196), .unset, .unset]) rfl k)) ?_
            obtain ⟨T202, h202, X202, e202, E202, A202, D202, -, st202⟩ := newO X200 hx hZ hown (wd hw 8 rfl) (wd hw 9 rfl) (wd hw 10 rfl) rfl (g := (mkF m 165 #[.val (.int p1), .val (.int p2), .val (.int p3), .val (.int 1), .val (.int hp173), .val (.int hc175), .val (.int v176), .val (.ref b177), .val (.ref b185), .val .null, .val .null, .val (.ref o195), .val (.ref b196), .unset, .unset] [])) rfl (hb hby at_165) (by decide) (by decide)
            obtain ⟨b202, g202⟩ : ∃ z, z = T200.heap.size := ⟨_, rfl⟩
            rw [← g202] at A202 D202 st202
            have sz_b202 : T200.heap.size ≤ b202 := Nat.le_of_eq g202.symm
            have O203 := O201.ext E202
            have Z203 : n0 ≤ h202.size := Nat.le_trans Z201 E202.1
            have F204 : Fld Z h202 b202 "com/example/pland/pland/billing/Charge" "paymentMethod" "Ljava/lang/String;" .null := D202 (Or.inr (wd hw 23 rfl)) (ty := (.object "java/lang/String")) (by decide)
            have F205 : Fld Z h202 b202 "com/example/pland/pland/billing/Charge" "result" "Lcom/example/pland/pland/payment/ChargeResult;" .null := D202 (Or.inr (wd hw 25 rfl)) (ty := (.object "com/example/pland/pland/payment/ChargeResult")) (by decide)
            refine Go.by (B := (T202.setTop (mkF m 168 #[.val (.int p1), .val (.int p2), .val (.int p3), .val (.int 1), .val (.int hp173), .val (.int hc175), .val (.int v176), .val (.ref b177), .val (.ref b185), .val .null, .val .null, .val (.ref o195), .val (.ref b196), .unset, .unset] [(.ref b202)]))) st202 ?_
            refine Go.by (B := (T202.setTop (mkF m 173 #[.val (.int p1), .val (.int p2), .val (.int p3), .val (.int 1), .val (.int hp173), .val (.int hc175), .val (.int v176), .val (.ref b177), .val (.ref b185), .val .null, .val .null, .val (.ref o195), .val (.ref b196), .unset, .unset] [(.ref b196), .null, (.ref b202), (.ref b202)]))) (fun _ k => XS.dup X202.here hx rfl (hb hby at_168) rfl rfl (XS.aload X202.here hx rfl (hb hby at_169) rfl rfl (XS.aload X202.here hx rfl (hb hby at_171) rfl rfl k))) ?_
            obtain ⟨_, _, ⟨T206, L206, k206, n206⟩, -, X206, ⟨Lc206, hQ206, l206, y206, z206⟩, st206⟩ := X202.specialBack hx (y := (⟨"com/example/pland/pland/billing/Charge", "<init>", "(Ljava/lang/String;Lcom/example/pland/pland/payment/ChargeResult;)V"⟩ : MethodName)) rfl hown (mvT hZ (wd hw 11 rfl)) (mvT hZ (wd hw 12 rfl)) (mvT hZ (wd hw 13 rfl)) (by decide) (backOf (W := 1) (rm_ch2 l Z a0 hw [] b202 b196 h202 n0 Z203 O203 A202 F204 F205 (Nat.le_trans Z201 sz_b202)) hZ (wd hw 13 rfl) (wd hw 10 rfl) (by decide) (by decide)) (g := (mkF m 173 #[.val (.int p1), .val (.int p2), .val (.int p3), .val (.int 1), .val (.int hp173), .val (.int hc175), .val (.int v176), .val (.ref b177), .val (.ref b185), .val .null, .val .null, .val (.ref o195), .val (.ref b196), .unset, .unset] [(.ref b196), .null, (.ref b202), (.ref b202)])) rfl (by rw [hml]; rfl) (Steps.refl _) (a := b202) (argsL := [.null, (.ref b196)]) (rest := [(.ref b202)]) (lenOf pd_5 rfl) rfl (by show 2 * 0 + _ ≤ _; exact Nat.le_of_eq rfl) (hb hby at_173) (fun _ _ => ⟨rfl, e202, Nat.le_of_ble_eq_true rfl, Nat.le_of_ble_eq_true rfl⟩)
            dsimp only [Pt.U, Pt.locs, Pt.cells, Pt.slots] at X206 l206 y206 z206 st206 hQ206
            subst l206 y206 z206
            obtain ⟨rfl, Nq206, K206, p206_0, p206_1, p206_2⟩ := hQ206
            have N206 := Fr.app N200 Nq206
            have O207 := O203.keep K206 (allS (Nat.le_trans Z201 sz_b202) all0)
            have Z207 : n0 ≤ T206.heap.size := Nat.le_trans Z203 K206.1
            refine Go.by (B := (T206.setTop (mkF m 176 #[.val (.int p1), .val (.int p2), .val (.int p3), .val (.int 1), .val (.int hp173), .val (.int hc175), .val (.int v176), .val (.ref b177), .val (.ref b185), .val .null, .val .null, .val (.ref o195), .val (.ref b196), .unset, .unset] [(.ref b202)]))) (fun _ k => st206.trans k) ?_
            refine Go.by (B := (T206.setTop (mkF m 178 #[.val (.int p1), .val (.int p2), .val (.int p3), .val (.int 1), .val (.int hp173), .val (.int hc175), .val (.int v176), .val (.ref b177), .val (.ref b185), .val .null, .val .null, .val (.ref o195), .val (.ref b196), .val (.ref b202), .unset] []))) (fun _ k => XS.astore X206.here hx rfl (hb hby at_176) rfl rfl (l' := #[.val (.int p1), .val (.int p2), .val (.int p3), .val (.int 1), .val (.int hp173), .val (.int hc175), .val (.int v176), .val (.ref b177), .val (.ref b185), .val .null, .val .null, .val (.ref o195), .val (.ref b196), .val (.ref b202), .unset]) rfl k) ?_
            obtain ⟨_, _, ⟨T208, L208, k208, n208⟩, -, X208, ⟨Lc208, hQ208, l208, y208, z208⟩, st208⟩ := Jvm.LawKit.callS X206 hx (y := (⟨"com/example/pland/pland/billing/Charge", "none", "()Lcom/example/pland/pland/billing/Charge;"⟩ : MethodName)) hown (mvT hZ (wd hw 26 rfl)) (mvT hZ (wd hw 27 rfl)) (mvT hZ (wd hw 10 rfl)) (mvT hZ (wd hw 28 rfl)) (by decide) (backOf (W := 0) (rm_none l Z a0 hw []  T206.heap n0 Z207 O207) hZ (wd hw 28 rfl) (wd hw 10 rfl) (by decide) (by decide)) (g := (mkF m 178 #[.val (.int p1), .val (.int p2), .val (.int p3), .val (.int 1), .val (.int hp173), .val (.int hc175), .val (.int v176), .val (.ref b177), .val (.ref b185), .val .null, .val .null, .val (.ref o195), .val (.ref b196), .val (.ref b202), .unset] [])) rfl (by rw [hml]; rfl) (argsL := []) (rest := []) (lenOf pd_7 rfl) rfl (by show 2 * 0 + _ ≤ _; exact Nat.le_of_eq rfl) (hb hby at_178) (fun _ _ => ⟨rfl, rfl, Nat.le_of_ble_eq_true rfl, Nat.le_of_ble_eq_true rfl⟩)
            dsimp only [Pt.U, Pt.locs, Pt.cells, Pt.slots] at X208 l208 y208 z208 st208 hQ208
            subst l208 y208 z208
            obtain ⟨b208, rfl, Nq208, K208, p208_0, p208_1, p208_2⟩ := hQ208
            have N208 := Fr.app N206 Nq208
            have O209 := O207.keep K208 all0
            have Z209 : n0 ≤ T208.heap.size := Nat.le_trans Z207 K208.1
            have sz_b208 : T206.heap.size ≤ b208 := p208_2
            refine Go.by (B := (T208.setTop (mkF m 181 #[.val (.int p1), .val (.int p2), .val (.int p3), .val (.int 1), .val (.int hp173), .val (.int hc175), .val (.int v176), .val (.ref b177), .val (.ref b185), .val .null, .val .null, .val (.ref o195), .val (.ref b196), .val (.ref b202), .unset] [(.ref b208)]))) (fun _ k => st208 _ k) ?_
            obtain ⟨cq210, kq210, q210a, q210b, q210c⟩ := isOf hZ rfl p208_0
            obtain ⟨_, _, ⟨T210, L210, k210, n210⟩, -, X210, ⟨Lc210, hQ210, l210, y210, z210⟩, st210⟩ := X208.virtualBack hx (y := (⟨"com/example/pland/pland/billing/Charge", "made", "()Z"⟩ : MethodName)) (z := (⟨"com/example/pland/pland/billing/Charge", "made", "()Z"⟩ : MethodName)) hown (mvT hZ (wd hw 31 rfl)) (mvT hZ (wd hw 32 rfl)) (notFace_of_selects (args := #[]) (mvT hZ (wd hw 34 rfl))) (mvT hZ (wd hw 34 rfl)) (mvT hZ (wd hw 33 rfl)) (by decide) (backOf (W := 0) (rm_made0 l Z a0 hw [] b208 T208.heap n0 Z209 p208_1) hZ (wd hw 35 rfl) (wd hw 10 rfl) (by decide) (by decide)) q210a q210c (g := (mkF m 181 #[.val (.int p1), .val (.int p2), .val (.int p3), .val (.int 1), .val (.int hp173), .val (.int hc175), .val (.int v176), .val (.ref b177), .val (.ref b185), .val .null, .val .null, .val (.ref o195), .val (.ref b196), .val (.ref b202), .unset] [(.ref b208)])) rfl (by rw [hml]; rfl) (Steps.refl _) (argsL := []) (rest := []) (lenOf pd_8 rfl) rfl (by show 2 * 0 + _ ≤ _; exact Nat.le_of_eq rfl) (hb hby at_181) (fun _ _ => ⟨rfl, rfl, Nat.le_of_ble_eq_true rfl, Nat.le_of_ble_eq_true rfl⟩)
            dsimp only [Pt.U, Pt.locs, Pt.cells, Pt.slots] at X210 l210 y210 z210 st210 hQ210
            subst l210 y210 z210
            obtain ⟨rfl, Nq210, hh210⟩ := hQ210
            have N210 := Fr.app N208 Nq210
            refine Go.by (B := (T210.setTop (mkF m 184 #[.val (.int p1), .val (.int p2), .val (.int p3), .val (.int 1), .val (.int hp173), .val (.int hc175), .val (.int v176), .val (.ref b177), .val (.ref b185), .val .null, .val .null, .val (.ref o195), .val (.ref b196), .val (.ref b202), .unset] [(.int 0)]))) (fun _ k => st210.trans k) ?_
            refine Go.by (B := (T210.setTop (mkF m 201 #[.val (.int p1), .val (.int p2), .val (.int p3), .val (.int 1), .val (.int hp173), .val (.int hc175), .val (.int v176), .val (.ref b177), .val (.ref b185), .val .null, .val .null, .val (.ref o195), .val (.ref b196), .val (.ref b202), .val (.int 1)] [(.ref b202)]))) (fun _ k => XS.ifNo X210.here hx rfl (hb hby at_184) rfl ((if0 _ _).trans (teq (by decide : (0 : Int32) = (0 : Int32))).2) (XS.iconst X210.here hx rfl (hb hby at_187) (XS.goto X210.here hx rfl (pc0 := 188) (pc' := 192) rfl (hb hby at_188) (by decide) (by decide) (XS.istore X210.here hx rfl (hb hby at_192) rfl (l' := #[.val (.int p1), .val (.int p2), .val (.int p3), .val (.int 1), .val (.int hp173), .val (.int hc175), .val (.int v176), .val (.ref b177), .val (.ref b185), .val .null, .val .null, .val (.ref o195), .val (.ref b196), .val (.ref b202), .val (.int 1)]) rfl (XS.iload X210.here hx rfl (hb hby at_194) rfl (XS.ifNo X210.here hx rfl (hb hby at_196) rfl ((if0 _ _).trans (feq (by decide : ¬ ((1 : Int32) = (0 : Int32)))).1) (XS.aload X210.here hx rfl (hb hby at_199) rfl rfl k))))))) ?_
            obtain ⟨cq211, kq211, q211a, q211b, q211c⟩ := isOf hZ hh210 (p206_0.keep K208)
            obtain ⟨_, _, ⟨T211, L211, k211, n211⟩, -, X211, ⟨Lc211, hQ211, l211, y211, z211⟩, st211⟩ := X210.virtualBack hx (y := (⟨"com/example/pland/pland/billing/Charge", "made", "()Z"⟩ : MethodName)) (z := (⟨"com/example/pland/pland/billing/Charge", "made", "()Z"⟩ : MethodName)) hown (mvT hZ (wd hw 31 rfl)) (mvT hZ (wd hw 32 rfl)) (notFace_of_selects (args := #[]) (mvT hZ (wd hw 34 rfl))) (mvT hZ (wd hw 34 rfl)) (mvT hZ (wd hw 33 rfl)) (by decide) (backOf (W := 0) (rm_made1 l Z a0 hw [] b202 b196 T208.heap n0 Z209 (p206_2.keep K208 nin0)) hZ (wd hw 35 rfl) (wd hw 10 rfl) (by decide) (by decide)) q211a q211c (g := (mkF m 201 #[.val (.int p1), .val (.int p2), .val (.int p3), .val (.int 1), .val (.int hp173), .val (.int hc175), .val (.int v176), .val (.ref b177), .val (.ref b185), .val .null, .val .null, .val (.ref o195), .val (.ref b196), .val (.ref b202), .val (.int 1)] [(.ref b202)])) rfl (by rw [hml]; rfl) (Steps.refl _) (argsL := []) (rest := []) (lenOf pd_8 rfl) rfl (by show 2 * 0 + _ ≤ _; exact Nat.le_of_eq rfl) (hb hby at_201) (fun _ _ => ⟨rfl, hh210, Nat.le_of_ble_eq_true rfl, Nat.le_of_ble_eq_true rfl⟩)
            dsimp only [Pt.U, Pt.locs, Pt.cells, Pt.slots] at X211 l211 y211 z211 st211 hQ211
            subst l211 y211 z211
            obtain ⟨rfl, Nq211, hh211⟩ := hQ211
            have N211 := Fr.app N210 Nq211
            refine Go.by (B := (T211.setTop (mkF m 204 #[.val (.int p1), .val (.int p2), .val (.int p3), .val (.int 1), .val (.int hp173), .val (.int hc175), .val (.int v176), .val (.ref b177), .val (.ref b185), .val .null, .val .null, .val (.ref o195), .val (.ref b196), .val (.ref b202), .val (.int 1)] [(.int 1)]))) (fun _ k => st211.trans k) ?_
            refine Go.by (B := (T211.setTop (mkF m 213 #[.val (.int p1), .val (.int p2), .val (.int p3), .val (.int 1), .val (.int hp173), .val (.int hc175), .val (.int v176), .val (.ref b177), .val (.ref b185), .val .null, .val .null, .val (.ref o195), .val (.ref b196), .val (.ref b202), .val (.int 1)] [(.int 1)]))) (fun _ k => XS.iloadN X211.here hx rfl (hb hby at_204) rfl (XS.icmpNo X211.here hx rfl (hb hby at_205) rfl (teq (by decide : (1 : Int32) = (1 : Int32))).2 (XS.iconst X211.here hx rfl (hb hby at_208) (XS.goto X211.here hx rfl (pc0 := 209) (pc' := 213) rfl (hb hby at_209) (by decide) (by decide) k)))) ?_
            refine Go.ret X211 hx hlk (t := .boolean) hret rfl (Or.inl ⟨rfl, by simp, _, rfl⟩) (hb hby at_213) (by decide) (by decide) ?_
            exact ⟨rfl, N211⟩
          · skip
            refine Go.by (B := (T191.setTop (mkF m 122 #[.val (.int p1), .val (.int p2), .val (.int p3), .val (.int 1), .val (.int hp173), .val (.int hc175), .val (.int v176), .val (.ref b177), .val (.ref b185), .val .null, .unset, .unset, .unset, .unset, .unset] []))) (fun _ k => XS.ifNo X191.here hx rfl (hb hby at_119) rfl ((if0 _ _).trans (feq c194).1) k) ?_
            obtain ⟨T212, h212, X212, e212, E212, A212, D212, -, st212⟩ := newO X191 hx hZ hown (wd hw 47 rfl) (wd hw 48 rfl) (wd hw 49 rfl) e191 (g := (mkF m 122 #[.val (.int p1), .val (.int p2), .val (.int p3), .val (.int 1), .val (.int hp173), .val (.int hc175), .val (.int v176), .val (.ref b177), .val (.ref b185), .val .null, .unset, .unset, .unset, .unset, .unset] [])) rfl (hb hby at_122) (by decide) (by decide)
            obtain ⟨b212, g212⟩ : ∃ z, z = h191.size := ⟨_, rfl⟩
            rw [← g212] at A212 D212 st212
            have sz_b212 : h191.size ≤ b212 := Nat.le_of_eq g212.symm
            have O213 := O192.ext E212
            have Z213 : n0 ≤ h212.size := Nat.le_trans Z192 E212.1
            have F214 : Fld Z h212 b212 "java/lang/String" "coder" "B" (.int 0) := D212 (Or.inr (wd hw 71 rfl)) (ty := .byte) (by decide)
            have F215 : Fld Z h212 b212 "java/lang/String" "value" "[B" .null := D212 (Or.inr (wd hw 73 rfl)) (ty := (.array .byte)) (by decide)
            refine Go.by (B := (T212.setTop (mkF m 125 #[.val (.int p1), .val (.int p2), .val (.int p3), .val (.int 1), .val (.int hp173), .val (.int hc175), .val (.int v176), .val (.ref b177), .val (.ref b185), .val .null, .unset, .unset, .unset, .unset, .unset] [(.ref b212)]))) st212 ?_
            refine Go.by (B := (T212.setTop (mkF m 128 #[.val (.int p1), .val (.int p2), .val (.int p3), .val (.int 1), .val (.int hp173), .val (.int hc175), .val (.int v176), .val (.ref b177), .val (.ref b185), .val .null, .unset, .unset, .unset, .unset, .unset] [(.ref b185), (.ref b212), (.ref b212)]))) (fun _ k => XS.dup X212.here hx rfl (hb hby at_125) rfl rfl (XS.aload X212.here hx rfl (hb hby at_126) rfl rfl k)) ?_
            obtain ⟨_, _, ⟨T216, L216, k216, n216⟩, -, X216, ⟨Lc216, hQ216, l216, y216, z216⟩, st216⟩ := X212.specialBack hx (y := (⟨"java/lang/String", "<init>", "([C)V"⟩ : MethodName)) rfl hown (mvT hZ (wd hw 50 rfl)) (mvT hZ (wd hw 51 rfl)) (mvT hZ (wd hw 52 rfl)) (by decide) (backOf (W := 1) (rm_sC_2 l Z a0 hw [] b212 b185 k185 (nar .char ((p3 &&& (255 : Int32)).toUInt32.toUInt16.toUInt32.toInt32)) (nar .char ((((p3.toUInt32 >>> ((8 : Int32) &&& 31).toUInt32).toInt32) &&& (255 : Int32)).toUInt32.toUInt16.toUInt32.toInt32)) cs h212 n0 Z213 O213 pr1 hcs A212 F215 F214 (Nat.le_trans Z192 sz_b212) (V191.ext E212) (own_chn _) (own_chn _)) hZ (wd hw 52 rfl) (wd hw 49 rfl) (by decide) (by decide)) (g := (mkF m 128 #[.val (.int p1), .val (.int p2), .val (.int p3), .val (.int 1), .val (.int hp173), .val (.int hc175), .val (.int v176), .val (.ref b177), .val (.ref b185), .val .null, .unset, .unset, .unset, .unset, .unset] [(.ref b185), (.ref b212), (.ref b212)])) rfl (by rw [hml]; rfl) (Steps.refl _) (a := b212) (argsL := [(.ref b185)]) (rest := [(.ref b212)]) (lenOf pd_9 rfl) rfl (by show 2 * 0 + _ ≤ _; exact Nat.le_of_eq rfl) (hb hby at_128) (fun _ _ => ⟨rfl, e212, Nat.le_of_ble_eq_true rfl, Nat.le_of_ble_eq_true rfl⟩)
            dsimp only [Pt.U, Pt.locs, Pt.cells, Pt.slots] at X216 l216 y216 z216 st216 hQ216
            subst l216 y216 z216
            obtain ⟨t216, k216, rfl, Nq216, K216, p216_0, p216_1, p216_2, p216_3, p216_4⟩ := hQ216
            have N216 := Fr.app N191 Nq216
            have O217 := O213.keep K216 (allS (Nat.le_trans Z192 sz_b212) all0)
            have Z217 : n0 ≤ T216.heap.size := Nat.le_trans Z213 K216.1
            have sz_t216 : h212.size ≤ t216 := p216_4
            refine Go.by (B := (T216.setTop (mkF m 131 #[.val (.int p1), .val (.int p2), .val (.int p3), .val (.int 1), .val (.int hp173), .val (.int hc175), .val (.int v176), .val (.ref b177), .val (.ref b185), .val .null, .unset, .unset, .unset, .unset, .unset] [(.ref b212)]))) (fun _ k => st216.trans k) ?_
            refine Go.by (B := (T216.setTop (mkF m 139 #[.val (.int p1), .val (.int p2), .val (.int p3), .val (.int 1), .val (.int hp173), .val (.int hc175), .val (.int v176), .val (.ref b177), .val (.ref b185), .val .null, .val (.ref b212), .unset, .unset, .unset, .unset] [(.int v176)]))) (fun _ k => XS.goto X216.here hx rfl (pc0 := 131) (pc' := 135) rfl (hb hby at_131) (by decide) (by decide) (XS.astore X216.here hx rfl (hb hby at_135) rfl rfl (l' := #[.val (.int p1), .val (.int p2), .val (.int p3), .val (.int 1), .val (.int hp173), .val (.int hc175), .val (.int v176), .val (.ref b177), .val (.ref b185), .val .null, .val (.ref b212), .unset, .unset, .unset, .unset]) rfl (XS.iload X216.here hx rfl (hb hby at_137) rfl k))) ?_
            obtain ⟨_, _, ⟨T218, L218, k218, n218⟩, -, X218, ⟨Lc218, hQ218, l218, y218, z218⟩, st218⟩ := Jvm.LawKit.callS X216 hx (y := (⟨"com/example/pland/pland/billing/ChargeMadePinLaw", "status", "(I)Lcom/example/pland/pland/payment/ChargeResult$Status;"⟩ : MethodName)) hown (mvT hZ (wd hw 1 rfl)) (mvT hZ (wd hw 2 rfl)) (mvT hZ (wd hw 3 rfl)) (mvT hZ (wd hw 4 rfl)) (by decide) (backOf (W := 0) (rm_status l Z a0 hw [] v176 w0 w1 w2 w3 T216.heap n0 Z217 O217 pr3 pr4 pr5 pr6) hZ (wd hw 4 rfl) (wd hw 3 rfl) (by decide) (by decide)) (g := (mkF m 139 #[.val (.int p1), .val (.int p2), .val (.int p3), .val (.int 1), .val (.int hp173), .val (.int hc175), .val (.int v176), .val (.ref b177), .val (.ref b185), .val .null, .val (.ref b212), .unset, .unset, .unset, .unset] [(.int v176)])) rfl (by rw [hml]; rfl) (argsL := [(.int v176)]) (rest := []) (lenOf pd_6 rfl) rfl (by show 2 * 0 + _ ≤ _; exact Nat.le_of_eq rfl) (hb hby at_139) (fun _ _ => ⟨rfl, rfl, Nat.le_of_ble_eq_true rfl, Nat.le_of_ble_eq_true rfl⟩)
            dsimp only [Pt.U, Pt.locs, Pt.cells, Pt.slots] at X218 l218 y218 z218 st218 hQ218
            subst l218 y218 z218
            obtain ⟨o218, rfl, Nq218, hh218⟩ := hQ218
            have N218 := Fr.app N216 Nq218
            refine Go.by (B := (T218.setTop (mkF m 142 #[.val (.int p1), .val (.int p2), .val (.int p3), .val (.int 1), .val (.int hp173), .val (.int hc175), .val (.int v176), .val (.ref b177), .val (.ref b185), .val .null, .val (.ref b212), .unset, .unset, .unset, .unset] [(.ref o218)]))) (fun _ k => st218 _ k) ?_
            refine Go.by (B := (T218.setTop (mkF m 148 #[.val (.int p1), .val (.int p2), .val (.int p3), .val (.int 1), .val (.int hp173), .val (.int hc175), .val (.int v176), .val (.ref b177), .val (.ref b185), .val .null, .val (.ref b212), .val (.ref o218), .unset, .unset, .unset] []))) (fun _ k => XS.astore X218.here hx rfl (hb hby at_142) rfl rfl (l' := #[.val (.int p1), .val (.int p2), .val (.int p3), .val (.int 1), .val (.int hp173), .val (.int hc175), .val (.int v176), .val (.ref b177), .val (.ref b185), .val .null, .val (.ref b212), .val (.ref o218), .unset, .unset, .unset]) rfl (XS.iloadN X218.here hx rfl (hb hby at_144) rfl (XS.ifNo X218.here hx rfl (hb hby at_145) rfl ((if0 _ _).trans (feq (by decide : ¬ ((1 : Int32) = (0 : Int32)))).1) k))) ?_
            obtain ⟨T219, h219, X219, e219, E219, A219, D219, -, st219⟩ := newO X218 hx hZ hown (wd hw 36 rfl) (wd hw 37 rfl) (wd hw 38 rfl) hh218 (g := (mkF m 148 #[.val (.int p1), .val (.int p2), .val (.int p3), .val (.int 1), .val (.int hp173), .val (.int hc175), .val (.int v176), .val (.ref b177), .val (.ref b185), .val .null, .val (.ref b212), .val (.ref o218), .unset, .unset, .unset] [])) rfl (hb hby at_148) (by decide) (by decide)
            obtain ⟨b219, g219⟩ : ∃ z, z = T216.heap.size := ⟨_, rfl⟩
            rw [← g219] at A219 D219 st219
            have sz_b219 : T216.heap.size ≤ b219 := Nat.le_of_eq g219.symm
            have O220 := O217.ext E219
            have Z220 : n0 ≤ h219.size := Nat.le_trans Z217 E219.1
            have F221 : Fld Z h219 b219 "com/example/pland/pland/payment/ChargeResult" "status" "Lcom/example/pland/pland/payment/ChargeResult$Status;" .null := D219 (Or.inr (wd hw 44 rfl)) (ty := (.object "com/example/pland/pland/payment/ChargeResult$Status")) (by decide)
            have F222 : Fld Z h219 b219 "com/example/pland/pland/payment/ChargeResult" "declineCode" "Ljava/lang/String;" .null := D219 (Or.inr (wd hw 46 rfl)) (ty := (.object "java/lang/String")) (by decide)
            refine Go.by (B := (T219.setTop (mkF m 151 #[.val (.int p1), .val (.int p2), .val (.int p3), .val (.int 1), .val (.int hp173), .val (.int hc175), .val (.int v176), .val (.ref b177), .val (.ref b185), .val .null, .val (.ref b212), .val (.ref o218), .unset, .unset, .unset] [(.ref b219)]))) st219 ?_
            refine Go.by (B := (T219.setTop (mkF m 156 #[.val (.int p1), .val (.int p2), .val (.int p3), .val (.int 1), .val (.int hp173), .val (.int hc175), .val (.int v176), .val (.ref b177), .val (.ref b185), .val .null, .val (.ref b212), .val (.ref o218), .unset, .unset, .unset] [(.ref b212), (.ref o218), (.ref b219), (.ref b219)]))) (fun _ k => XS.dup X219.here hx rfl (hb hby at_151) rfl rfl (XS.aload X219.here hx rfl (hb hby at_152) rfl rfl (XS.aload X219.here hx rfl (hb hby at_154) rfl rfl k))) ?_
            obtain ⟨_, _, ⟨T223, L223, k223, n223⟩, -, X223, ⟨Lc223, hQ223, l223, y223, z223⟩, st223⟩ := X219.specialBack hx (y := (⟨"com/example/pland/pland/payment/ChargeResult", "<init>", "(Lcom/example/pland/pland/payment/ChargeResult$Status;Ljava/lang/String;)V"⟩ : MethodName)) rfl hown (mvT hZ (wd hw 39 rfl)) (mvT hZ (wd hw 40 rfl)) (mvT hZ (wd hw 41 rfl)) (by decide) (backOf (W := 1) (rm_cr0 l Z a0 hw [] b219 o218 b212 h219 n0 Z220 O220 A219 F221 F222 (Nat.le_trans Z217 sz_b219)) hZ (wd hw 41 rfl) (wd hw 38 rfl) (by decide) (by decide)) (g := (mkF m 156 #[.val (.int p1), .val (.int p2), .val (.int p3), .val (.int 1), .val (.int hp173), .val (.int hc175), .val (.int v176), .val (.ref b177), .val (.ref b185), .val .null, .val (.ref b212), .val (.ref o218), .unset, .unset, .unset] [(.ref b212), (.ref o218), (.ref b219), (.ref b219)])) rfl (by rw [hml]; rfl) (Steps.refl _) (a := b219) (argsL := [(.ref o218), (.ref b212)]) (rest := [(.ref b219)]) (lenOf pd_10 rfl) rfl (by show 2 * 0 + _ ≤ _; exact Nat.le_of_eq rfl) (hb hby at_156) (fun _ _ => ⟨rfl, e219, Nat.le_of_ble_eq_true rfl, Nat.le_of_ble_eq_true rfl⟩)
            dsimp only [Pt.U, Pt.locs, Pt.cells, Pt.slots] at X223 l223 y223 z223 st223 hQ223
            subst l223 y223 z223
            obtain ⟨rfl, Nq223, K223, p223_0, p223_1, p223_2⟩ := hQ223
            have N223 := Fr.app N218 Nq223
            have O224 := O220.keep K223 (allS (Nat.le_trans Z217 sz_b219) all0)
            have Z224 : n0 ≤ T223.heap.size := Nat.le_trans Z220 K223.1
            refine Go.by (B := (T223.setTop (mkF m 159 #[.val (.int p1), .val (.int p2), .val (.int p3), .val (.int 1), .val (.int hp173), .val (.int hc175), .val (.int v176), .val (.ref b177), .val (.ref b185), .val .null, .val (.ref b212), .val (.ref o218), .unset, .unset, .unset] [(.ref b219)]))) (fun _ k => st223.trans k) ?_
            refine Go.by (B := (T223.setTop (mkF m 165 #[.val (.int p1), .val (.int p2), .val (.int p3), .val (.int 1), .val (.int hp173), .val (.int hc175), .val (.int v176), .val (.ref b177), .val (.ref b185), .val .null, .val (.ref b212), .val (.ref o218), .val (.ref b219), .unset, .unset] []))) (fun _ k => XS.goto X223.here hx rfl (pc0 := 159) (pc' := 163) rfl (hb hby at_159) (by decide) (by decide) (XS.astore X223.here hx rfl (hb hby at_163) rfl rfl (l' := #[.val (.int p1), .val (.int p2), .val (.int p3), .val (.int 1), .val (.int hp173), .val (.int hc175), .val (.int v176), .val (.ref b177), .val (.ref b185), .val .null, .val (.ref b212), .val (.ref o218), .val (.ref b219), .unset, .unset]) rfl k)) ?_
            obtain ⟨T225, h225, X225, e225, E225, A225, D225, -, st225⟩ := newO X223 hx hZ hown (wd hw 8 rfl) (wd hw 9 rfl) (wd hw 10 rfl) rfl (g := (mkF m 165 #[.val (.int p1), .val (.int p2), .val (.int p3), .val (.int 1), .val (.int hp173), .val (.int hc175), .val (.int v176), .val (.ref b177), .val (.ref b185), .val .null, .val (.ref b212), .val (.ref o218), .val (.ref b219), .unset, .unset] [])) rfl (hb hby at_165) (by decide) (by decide)
            obtain ⟨b225, g225⟩ : ∃ z, z = T223.heap.size := ⟨_, rfl⟩
            rw [← g225] at A225 D225 st225
            have sz_b225 : T223.heap.size ≤ b225 := Nat.le_of_eq g225.symm
            have O226 := O224.ext E225
            have Z226 : n0 ≤ h225.size := Nat.le_trans Z224 E225.1
            have F227 : Fld Z h225 b225 "com/example/pland/pland/billing/Charge" "paymentMethod" "Ljava/lang/String;" .null := D225 (Or.inr (wd hw 23 rfl)) (ty := (.object "java/lang/String")) (by decide)
            have F228 : Fld Z h225 b225 "com/example/pland/pland/billing/Charge" "result" "Lcom/example/pland/pland/payment/ChargeResult;" .null := D225 (Or.inr (wd hw 25 rfl)) (ty := (.object "com/example/pland/pland/payment/ChargeResult")) (by decide)
            refine Go.by (B := (T225.setTop (mkF m 168 #[.val (.int p1), .val (.int p2), .val (.int p3), .val (.int 1), .val (.int hp173), .val (.int hc175), .val (.int v176), .val (.ref b177), .val (.ref b185), .val .null, .val (.ref b212), .val (.ref o218), .val (.ref b219), .unset, .unset] [(.ref b225)]))) st225 ?_
            refine Go.by (B := (T225.setTop (mkF m 173 #[.val (.int p1), .val (.int p2), .val (.int p3), .val (.int 1), .val (.int hp173), .val (.int hc175), .val (.int v176), .val (.ref b177), .val (.ref b185), .val .null, .val (.ref b212), .val (.ref o218), .val (.ref b219), .unset, .unset] [(.ref b219), .null, (.ref b225), (.ref b225)]))) (fun _ k => XS.dup X225.here hx rfl (hb hby at_168) rfl rfl (XS.aload X225.here hx rfl (hb hby at_169) rfl rfl (XS.aload X225.here hx rfl (hb hby at_171) rfl rfl k))) ?_
            obtain ⟨_, _, ⟨T229, L229, k229, n229⟩, -, X229, ⟨Lc229, hQ229, l229, y229, z229⟩, st229⟩ := X225.specialBack hx (y := (⟨"com/example/pland/pland/billing/Charge", "<init>", "(Ljava/lang/String;Lcom/example/pland/pland/payment/ChargeResult;)V"⟩ : MethodName)) rfl hown (mvT hZ (wd hw 11 rfl)) (mvT hZ (wd hw 12 rfl)) (mvT hZ (wd hw 13 rfl)) (by decide) (backOf (W := 1) (rm_ch2 l Z a0 hw [] b225 b219 h225 n0 Z226 O226 A225 F227 F228 (Nat.le_trans Z224 sz_b225)) hZ (wd hw 13 rfl) (wd hw 10 rfl) (by decide) (by decide)) (g := (mkF m 173 #[.val (.int p1), .val (.int p2), .val (.int p3), .val (.int 1), .val (.int hp173), .val (.int hc175), .val (.int v176), .val (.ref b177), .val (.ref b185), .val .null, .val (.ref b212), .val (.ref o218), .val (.ref b219), .unset, .unset] [(.ref b219), .null, (.ref b225), (.ref b225)])) rfl (by rw [hml]; rfl) (Steps.refl _) (a := b225) (argsL := [.null, (.ref b219)]) (rest := [(.ref b225)]) (lenOf pd_5 rfl) rfl (by show 2 * 0 + _ ≤ _; exact Nat.le_of_eq rfl) (hb hby at_173) (fun _ _ => ⟨rfl, e225, Nat.le_of_ble_eq_true rfl, Nat.le_of_ble_eq_true rfl⟩)
            dsimp only [Pt.U, Pt.locs, Pt.cells, Pt.slots] at X229 l229 y229 z229 st229 hQ229
            subst l229 y229 z229
            obtain ⟨rfl, Nq229, K229, p229_0, p229_1, p229_2⟩ := hQ229
            have N229 := Fr.app N223 Nq229
            have O230 := O226.keep K229 (allS (Nat.le_trans Z224 sz_b225) all0)
            have Z230 : n0 ≤ T229.heap.size := Nat.le_trans Z226 K229.1
            refine Go.by (B := (T229.setTop (mkF m 176 #[.val (.int p1), .val (.int p2), .val (.int p3), .val (.int 1), .val (.int hp173), .val (.int hc175), .val (.int v176), .val (.ref b177), .val (.ref b185), .val .null, .val (.ref b212), .val (.ref o218), .val (.ref b219), .unset, .unset] [(.ref b225)]))) (fun _ k => st229.trans k) ?_
            refine Go.by (B := (T229.setTop (mkF m 178 #[.val (.int p1), .val (.int p2), .val (.int p3), .val (.int 1), .val (.int hp173), .val (.int hc175), .val (.int v176), .val (.ref b177), .val (.ref b185), .val .null, .val (.ref b212), .val (.ref o218), .val (.ref b219), .val (.ref b225), .unset] []))) (fun _ k => XS.astore X229.here hx rfl (hb hby at_176) rfl rfl (l' := #[.val (.int p1), .val (.int p2), .val (.int p3), .val (.int 1), .val (.int hp173), .val (.int hc175), .val (.int v176), .val (.ref b177), .val (.ref b185), .val .null, .val (.ref b212), .val (.ref o218), .val (.ref b219), .val (.ref b225), .unset]) rfl k) ?_
            obtain ⟨_, _, ⟨T231, L231, k231, n231⟩, -, X231, ⟨Lc231, hQ231, l231, y231, z231⟩, st231⟩ := Jvm.LawKit.callS X229 hx (y := (⟨"com/example/pland/pland/billing/Charge", "none", "()Lcom/example/pland/pland/billing/Charge;"⟩ : MethodName)) hown (mvT hZ (wd hw 26 rfl)) (mvT hZ (wd hw 27 rfl)) (mvT hZ (wd hw 10 rfl)) (mvT hZ (wd hw 28 rfl)) (by decide) (backOf (W := 0) (rm_none l Z a0 hw []  T229.heap n0 Z230 O230) hZ (wd hw 28 rfl) (wd hw 10 rfl) (by decide) (by decide)) (g := (mkF m 178 #[.val (.int p1), .val (.int p2), .val (.int p3), .val (.int 1), .val (.int hp173), .val (.int hc175), .val (.int v176), .val (.ref b177), .val (.ref b185), .val .null, .val (.ref b212), .val (.ref o218), .val (.ref b219), .val (.ref b225), .unset] [])) rfl (by rw [hml]; rfl) (argsL := []) (rest := []) (lenOf pd_7 rfl) rfl (by show 2 * 0 + _ ≤ _; exact Nat.le_of_eq rfl) (hb hby at_178) (fun _ _ => ⟨rfl, rfl, Nat.le_of_ble_eq_true rfl, Nat.le_of_ble_eq_true rfl⟩)
            dsimp only [Pt.U, Pt.locs, Pt.cells, Pt.slots] at X231 l231 y231 z231 st231 hQ231
            subst l231 y231 z231
            obtain ⟨b231, rfl, Nq231, K231, p231_0, p231_1, p231_2⟩ := hQ231
            have N231 := Fr.app N229 Nq231
            have O232 := O230.keep K231 all0
            have Z232 : n0 ≤ T231.heap.size := Nat.le_trans Z230 K231.1
            have sz_b231 : T229.heap.size ≤ b231 := p231_2
            refine Go.by (B := (T231.setTop (mkF m 181 #[.val (.int p1), .val (.int p2), .val (.int p3), .val (.int 1), .val (.int hp173), .val (.int hc175), .val (.int v176), .val (.ref b177), .val (.ref b185), .val .null, .val (.ref b212), .val (.ref o218), .val (.ref b219), .val (.ref b225), .unset] [(.ref b231)]))) (fun _ k => st231 _ k) ?_
            obtain ⟨cq233, kq233, q233a, q233b, q233c⟩ := isOf hZ rfl p231_0
            obtain ⟨_, _, ⟨T233, L233, k233, n233⟩, -, X233, ⟨Lc233, hQ233, l233, y233, z233⟩, st233⟩ := X231.virtualBack hx (y := (⟨"com/example/pland/pland/billing/Charge", "made", "()Z"⟩ : MethodName)) (z := (⟨"com/example/pland/pland/billing/Charge", "made", "()Z"⟩ : MethodName)) hown (mvT hZ (wd hw 31 rfl)) (mvT hZ (wd hw 32 rfl)) (notFace_of_selects (args := #[]) (mvT hZ (wd hw 34 rfl))) (mvT hZ (wd hw 34 rfl)) (mvT hZ (wd hw 33 rfl)) (by decide) (backOf (W := 0) (rm_made0 l Z a0 hw [] b231 T231.heap n0 Z232 p231_1) hZ (wd hw 35 rfl) (wd hw 10 rfl) (by decide) (by decide)) q233a q233c (g := (mkF m 181 #[.val (.int p1), .val (.int p2), .val (.int p3), .val (.int 1), .val (.int hp173), .val (.int hc175), .val (.int v176), .val (.ref b177), .val (.ref b185), .val .null, .val (.ref b212), .val (.ref o218), .val (.ref b219), .val (.ref b225), .unset] [(.ref b231)])) rfl (by rw [hml]; rfl) (Steps.refl _) (argsL := []) (rest := []) (lenOf pd_8 rfl) rfl (by show 2 * 0 + _ ≤ _; exact Nat.le_of_eq rfl) (hb hby at_181) (fun _ _ => ⟨rfl, rfl, Nat.le_of_ble_eq_true rfl, Nat.le_of_ble_eq_true rfl⟩)
            dsimp only [Pt.U, Pt.locs, Pt.cells, Pt.slots] at X233 l233 y233 z233 st233 hQ233
            subst l233 y233 z233
            obtain ⟨rfl, Nq233, hh233⟩ := hQ233
            have N233 := Fr.app N231 Nq233
            refine Go.by (B := (T233.setTop (mkF m 184 #[.val (.int p1), .val (.int p2), .val (.int p3), .val (.int 1), .val (.int hp173), .val (.int hc175), .val (.int v176), .val (.ref b177), .val (.ref b185), .val .null, .val (.ref b212), .val (.ref o218), .val (.ref b219), .val (.ref b225), .unset] [(.int 0)]))) (fun _ k => st233.trans k) ?_
            refine Go.by (B := (T233.setTop (mkF m 201 #[.val (.int p1), .val (.int p2), .val (.int p3), .val (.int 1), .val (.int hp173), .val (.int hc175), .val (.int v176), .val (.ref b177), .val (.ref b185), .val .null, .val (.ref b212), .val (.ref o218), .val (.ref b219), .val (.ref b225), .val (.int 1)] [(.ref b225)]))) (fun _ k => XS.ifNo X233.here hx rfl (hb hby at_184) rfl ((if0 _ _).trans (teq (by decide : (0 : Int32) = (0 : Int32))).2) (XS.iconst X233.here hx rfl (hb hby at_187) (XS.goto X233.here hx rfl (pc0 := 188) (pc' := 192) rfl (hb hby at_188) (by decide) (by decide) (XS.istore X233.here hx rfl (hb hby at_192) rfl (l' := #[.val (.int p1), .val (.int p2), .val (.int p3), .val (.int 1), .val (.int hp173), .val (.int hc175), .val (.int v176), .val (.ref b177), .val (.ref b185), .val .null, .val (.ref b212), .val (.ref o218), .val (.ref b219), .val (.ref b225), .val (.int 1)]) rfl (XS.iload X233.here hx rfl (hb hby at_194) rfl (XS.ifNo X233.here hx rfl (hb hby at_196) rfl ((if0 _ _).trans (feq (by decide : ¬ ((1 : Int32) = (0 : Int32)))).1) (XS.aload X233.here hx rfl (hb hby at_199) rfl rfl k))))))) ?_
            obtain ⟨cq234, kq234, q234a, q234b, q234c⟩ := isOf hZ hh233 (p229_0.keep K231)
            obtain ⟨_, _, ⟨T234, L234, k234, n234⟩, -, X234, ⟨Lc234, hQ234, l234, y234, z234⟩, st234⟩ := X233.virtualBack hx (y := (⟨"com/example/pland/pland/billing/Charge", "made", "()Z"⟩ : MethodName)) (z := (⟨"com/example/pland/pland/billing/Charge", "made", "()Z"⟩ : MethodName)) hown (mvT hZ (wd hw 31 rfl)) (mvT hZ (wd hw 32 rfl)) (notFace_of_selects (args := #[]) (mvT hZ (wd hw 34 rfl))) (mvT hZ (wd hw 34 rfl)) (mvT hZ (wd hw 33 rfl)) (by decide) (backOf (W := 0) (rm_made1 l Z a0 hw [] b225 b219 T231.heap n0 Z232 (p229_2.keep K231 nin0)) hZ (wd hw 35 rfl) (wd hw 10 rfl) (by decide) (by decide)) q234a q234c (g := (mkF m 201 #[.val (.int p1), .val (.int p2), .val (.int p3), .val (.int 1), .val (.int hp173), .val (.int hc175), .val (.int v176), .val (.ref b177), .val (.ref b185), .val .null, .val (.ref b212), .val (.ref o218), .val (.ref b219), .val (.ref b225), .val (.int 1)] [(.ref b225)])) rfl (by rw [hml]; rfl) (Steps.refl _) (argsL := []) (rest := []) (lenOf pd_8 rfl) rfl (by show 2 * 0 + _ ≤ _; exact Nat.le_of_eq rfl) (hb hby at_201) (fun _ _ => ⟨rfl, hh233, Nat.le_of_ble_eq_true rfl, Nat.le_of_ble_eq_true rfl⟩)
            dsimp only [Pt.U, Pt.locs, Pt.cells, Pt.slots] at X234 l234 y234 z234 st234 hQ234
            subst l234 y234 z234
            obtain ⟨rfl, Nq234, hh234⟩ := hQ234
            have N234 := Fr.app N233 Nq234
            refine Go.by (B := (T234.setTop (mkF m 204 #[.val (.int p1), .val (.int p2), .val (.int p3), .val (.int 1), .val (.int hp173), .val (.int hc175), .val (.int v176), .val (.ref b177), .val (.ref b185), .val .null, .val (.ref b212), .val (.ref o218), .val (.ref b219), .val (.ref b225), .val (.int 1)] [(.int 1)]))) (fun _ k => st234.trans k) ?_
            refine Go.by (B := (T234.setTop (mkF m 213 #[.val (.int p1), .val (.int p2), .val (.int p3), .val (.int 1), .val (.int hp173), .val (.int hc175), .val (.int v176), .val (.ref b177), .val (.ref b185), .val .null, .val (.ref b212), .val (.ref o218), .val (.ref b219), .val (.ref b225), .val (.int 1)] [(.int 1)]))) (fun _ k => XS.iloadN X234.here hx rfl (hb hby at_204) rfl (XS.icmpNo X234.here hx rfl (hb hby at_205) rfl (teq (by decide : (1 : Int32) = (1 : Int32))).2 (XS.iconst X234.here hx rfl (hb hby at_208) (XS.goto X234.here hx rfl (pc0 := 209) (pc' := 213) rfl (hb hby at_209) (by decide) (by decide) k)))) ?_
            refine Go.ret X234 hx hlk (t := .boolean) hret rfl (Or.inl ⟨rfl, by simp, _, rfl⟩) (hb hby at_213) (by decide) (by decide) ?_
            exact ⟨rfl, N234⟩
        · skip
          refine Go.by (B := (T191.setTop (mkF m 102 #[.val (.int p1), .val (.int p2), .val (.int p3), .val (.int 1), .val (.int hp173), .val (.int hc175), .val (.int v176), .val (.ref b177), .val (.ref b185), .unset, .unset, .unset, .unset, .unset, .unset] []))) (fun _ k => XS.ifNo X191.here hx rfl (hb hby at_99) rfl ((if0 _ _).trans (feq c193).1) k) ?_
          obtain ⟨T235, h235, X235, e235, E235, A235, D235, -, st235⟩ := newO X191 hx hZ hown (wd hw 47 rfl) (wd hw 48 rfl) (wd hw 49 rfl) e191 (g := (mkF m 102 #[.val (.int p1), .val (.int p2), .val (.int p3), .val (.int 1), .val (.int hp173), .val (.int hc175), .val (.int v176), .val (.ref b177), .val (.ref b185), .unset, .unset, .unset, .unset, .unset, .unset] [])) rfl (hb hby at_102) (by decide) (by decide)
          obtain ⟨b235, g235⟩ : ∃ z, z = h191.size := ⟨_, rfl⟩
          rw [← g235] at A235 D235 st235
          have sz_b235 : h191.size ≤ b235 := Nat.le_of_eq g235.symm
          have O236 := O192.ext E235
          have Z236 : n0 ≤ h235.size := Nat.le_trans Z192 E235.1
          have F237 : Fld Z h235 b235 "java/lang/String" "coder" "B" (.int 0) := D235 (Or.inr (wd hw 71 rfl)) (ty := .byte) (by decide)
          have F238 : Fld Z h235 b235 "java/lang/String" "value" "[B" .null := D235 (Or.inr (wd hw 73 rfl)) (ty := (.array .byte)) (by decide)
          refine Go.by (B := (T235.setTop (mkF m 105 #[.val (.int p1), .val (.int p2), .val (.int p3), .val (.int 1), .val (.int hp173), .val (.int hc175), .val (.int v176), .val (.ref b177), .val (.ref b185), .unset, .unset, .unset, .unset, .unset, .unset] [(.ref b235)]))) st235 ?_
          refine Go.by (B := (T235.setTop (mkF m 108 #[.val (.int p1), .val (.int p2), .val (.int p3), .val (.int 1), .val (.int hp173), .val (.int hc175), .val (.int v176), .val (.ref b177), .val (.ref b185), .unset, .unset, .unset, .unset, .unset, .unset] [(.ref b177), (.ref b235), (.ref b235)]))) (fun _ k => XS.dup X235.here hx rfl (hb hby at_105) rfl rfl (XS.aload X235.here hx rfl (hb hby at_106) rfl rfl k)) ?_
          have f239 := ((((V183.ext E185).other W188 (Nat.ne_of_lt (Nat.lt_of_lt_of_le V183.lt sz_b185))).other W191 (Nat.ne_of_lt (Nat.lt_of_lt_of_le V183.lt sz_b185))).ext E235)
          obtain ⟨_, _, ⟨T240, L240, k240, n240⟩, -, X240, ⟨Lc240, hQ240, l240, y240, z240⟩, st240⟩ := X235.specialBack hx (y := (⟨"java/lang/String", "<init>", "([C)V"⟩ : MethodName)) rfl hown (mvT hZ (wd hw 50 rfl)) (mvT hZ (wd hw 51 rfl)) (mvT hZ (wd hw 52 rfl)) (by decide) (backOf (W := 1) (rm_sC_2 l Z a0 hw [] b235 b177 k177 (nar .char ((p2 &&& (255 : Int32)).toUInt32.toUInt16.toUInt32.toInt32)) (nar .char ((((p2.toUInt32 >>> ((8 : Int32) &&& 31).toUInt32).toInt32) &&& (255 : Int32)).toUInt32.toUInt16.toUInt32.toInt32)) cs h235 n0 Z236 O236 pr1 hcs A235 F238 F237 (Nat.le_trans Z192 sz_b235) f239 (own_chn _) (own_chn _)) hZ (wd hw 52 rfl) (wd hw 49 rfl) (by decide) (by decide)) (g := (mkF m 108 #[.val (.int p1), .val (.int p2), .val (.int p3), .val (.int 1), .val (.int hp173), .val (.int hc175), .val (.int v176), .val (.ref b177), .val (.ref b185), .unset, .unset, .unset, .unset, .unset, .unset] [(.ref b177), (.ref b235), (.ref b235)])) rfl (by rw [hml]; rfl) (Steps.refl _) (a := b235) (argsL := [(.ref b177)]) (rest := [(.ref b235)]) (lenOf pd_9 rfl) rfl (by show 2 * 0 + _ ≤ _; exact Nat.le_of_eq rfl) (hb hby at_108) (fun _ _ => ⟨rfl, e235, Nat.le_of_ble_eq_true rfl, Nat.le_of_ble_eq_true rfl⟩)
          dsimp only [Pt.U, Pt.locs, Pt.cells, Pt.slots] at X240 l240 y240 z240 st240 hQ240
          subst l240 y240 z240
          obtain ⟨t240, k240, rfl, Nq240, K240, p240_0, p240_1, p240_2, p240_3, p240_4⟩ := hQ240
          have N240 := Fr.app N191 Nq240
          have O241 := O236.keep K240 (allS (Nat.le_trans Z192 sz_b235) all0)
          have Z241 : n0 ≤ T240.heap.size := Nat.le_trans Z236 K240.1
          have sz_t240 : h235.size ≤ t240 := p240_4
          refine Go.by (B := (T240.setTop (mkF m 111 #[.val (.int p1), .val (.int p2), .val (.int p3), .val (.int 1), .val (.int hp173), .val (.int hc175), .val (.int v176), .val (.ref b177), .val (.ref b185), .unset, .unset, .unset, .unset, .unset, .unset] [(.ref b235)]))) (fun _ k => st240.trans k) ?_
          refine Go.by (B := (T240.setTop (mkF m 119 #[.val (.int p1), .val (.int p2), .val (.int p3), .val (.int 1), .val (.int hp173), .val (.int hc175), .val (.int v176), .val (.ref b177), .val (.ref b185), .val (.ref b235), .unset, .unset, .unset, .unset, .unset] [(.int hc175)]))) (fun _ k => XS.goto X240.here hx rfl (pc0 := 111) (pc' := 115) rfl (hb hby at_111) (by decide) (by decide) (XS.astore X240.here hx rfl (hb hby at_115) rfl rfl (l' := #[.val (.int p1), .val (.int p2), .val (.int p3), .val (.int 1), .val (.int hp173), .val (.int hc175), .val (.int v176), .val (.ref b177), .val (.ref b185), .val (.ref b235), .unset, .unset, .unset, .unset, .unset]) rfl (XS.iload X240.here hx rfl (hb hby at_117) rfl k))) ?_
          by_cases c242 : hc175 = (0 : Int32)
          · skip
            refine Go.by (B := (T240.setTop (mkF m 139 #[.val (.int p1), .val (.int p2), .val (.int p3), .val (.int 1), .val (.int hp173), .val (.int hc175), .val (.int v176), .val (.ref b177), .val (.ref b185), .val (.ref b235), .val .null, .unset, .unset, .unset, .unset] [(.int v176)]))) (fun _ k => XS.ifYes X240.here hx rfl (pc0 := 119) (pc' := 134) rfl (hb hby at_119) rfl ((if0 _ _).trans (teq c242).1) (by decide) (by decide) (XS.aconstNull X240.here hx rfl (hb hby at_134) (XS.astore X240.here hx rfl (hb hby at_135) rfl rfl (l' := #[.val (.int p1), .val (.int p2), .val (.int p3), .val (.int 1), .val (.int hp173), .val (.int hc175), .val (.int v176), .val (.ref b177), .val (.ref b185), .val (.ref b235), .val .null, .unset, .unset, .unset, .unset]) rfl (XS.iload X240.here hx rfl (hb hby at_137) rfl k)))) ?_
            obtain ⟨_, _, ⟨T243, L243, k243, n243⟩, -, X243, ⟨Lc243, hQ243, l243, y243, z243⟩, st243⟩ := Jvm.LawKit.callS X240 hx (y := (⟨"com/example/pland/pland/billing/ChargeMadePinLaw", "status", "(I)Lcom/example/pland/pland/payment/ChargeResult$Status;"⟩ : MethodName)) hown (mvT hZ (wd hw 1 rfl)) (mvT hZ (wd hw 2 rfl)) (mvT hZ (wd hw 3 rfl)) (mvT hZ (wd hw 4 rfl)) (by decide) (backOf (W := 0) (rm_status l Z a0 hw [] v176 w0 w1 w2 w3 T240.heap n0 Z241 O241 pr3 pr4 pr5 pr6) hZ (wd hw 4 rfl) (wd hw 3 rfl) (by decide) (by decide)) (g := (mkF m 139 #[.val (.int p1), .val (.int p2), .val (.int p3), .val (.int 1), .val (.int hp173), .val (.int hc175), .val (.int v176), .val (.ref b177), .val (.ref b185), .val (.ref b235), .val .null, .unset, .unset, .unset, .unset] [(.int v176)])) rfl (by rw [hml]; rfl) (argsL := [(.int v176)]) (rest := []) (lenOf pd_6 rfl) rfl (by show 2 * 0 + _ ≤ _; exact Nat.le_of_eq rfl) (hb hby at_139) (fun _ _ => ⟨rfl, rfl, Nat.le_of_ble_eq_true rfl, Nat.le_of_ble_eq_true rfl⟩)
            dsimp only [Pt.U, Pt.locs, Pt.cells, Pt.slots] at X243 l243 y243 z243 st243 hQ243
            subst l243 y243 z243
            obtain ⟨o243, rfl, Nq243, hh243⟩ := hQ243
            have N243 := Fr.app N240 Nq243
            refine Go.by (B := (T243.setTop (mkF m 142 #[.val (.int p1), .val (.int p2), .val (.int p3), .val (.int 1), .val (.int hp173), .val (.int hc175), .val (.int v176), .val (.ref b177), .val (.ref b185), .val (.ref b235), .val .null, .unset, .unset, .unset, .unset] [(.ref o243)]))) (fun _ k => st243 _ k) ?_
            refine Go.by (B := (T243.setTop (mkF m 148 #[.val (.int p1), .val (.int p2), .val (.int p3), .val (.int 1), .val (.int hp173), .val (.int hc175), .val (.int v176), .val (.ref b177), .val (.ref b185), .val (.ref b235), .val .null, .val (.ref o243), .unset, .unset, .unset] []))) (fun _ k => XS.astore X243.here hx rfl (hb hby at_142) rfl rfl (l' := #[.val (.int p1), .val (.int p2), .val (.int p3), .val (.int 1), .val (.int hp173), .val (.int hc175), .val (.int v176), .val (.ref b177), .val (.ref b185), .val (.ref b235), .val .null, .val (.ref o243), .unset, .unset, .unset]) rfl (XS.iloadN X243.here hx rfl (hb hby at_144) rfl (XS.ifNo X243.here hx rfl (hb hby at_145) rfl ((if0 _ _).trans (feq (by decide : ¬ ((1 : Int32) = (0 : Int32)))).1) k))) ?_
            obtain ⟨T244, h244, X244, e244, E244, A244, D244, -, st244⟩ := newO X243 hx hZ hown (wd hw 36 rfl) (wd hw 37 rfl) (wd hw 38 rfl) hh243 (g := (mkF m 148 #[.val (.int p1), .val (.int p2), .val (.int p3), .val (.int 1), .val (.int hp173), .val (.int hc175), .val (.int v176), .val (.ref b177), .val (.ref b185), .val (.ref b235), .val .null, .val (.ref o243), .unset, .unset, .unset] [])) rfl (hb hby at_148) (by decide) (by decide)
            obtain ⟨b244, g244⟩ : ∃ z, z = T240.heap.size := ⟨_, rfl⟩
            rw [← g244] at A244 D244 st244
            have sz_b244 : T240.heap.size ≤ b244 := Nat.le_of_eq g244.symm
            have O245 := O241.ext E244
            have Z245 : n0 ≤ h244.size := Nat.le_trans Z241 E244.1
            have F246 : Fld Z h244 b244 "com/example/pland/pland/payment/ChargeResult" "status" "Lcom/example/pland/pland/payment/ChargeResult$Status;" .null := D244 (Or.inr (wd hw 44 rfl)) (ty := (.object "com/example/pland/pland/payment/ChargeResult$Status")) (by decide)
            have F247 : Fld Z h244 b244 "com/example/pland/pland/payment/ChargeResult" "declineCode" "Ljava/lang/String;" .null := D244 (Or.inr (wd hw 46 rfl)) (ty := (.object "java/lang/String")) (by decide)
            refine Go.by (B := (T244.setTop (mkF m 151 #[.val (.int p1), .val (.int p2), .val (.int p3), .val (.int 1), .val (.int hp173), .val (.int hc175), .val (.int v176), .val (.ref b177), .val (.ref b185), .val (.ref b235), .val .null, .val (.ref o243), .unset, .unset, .unset] [(.ref b244)]))) st244 ?_
            refine Go.by (B := (T244.setTop (mkF m 156 #[.val (.int p1), .val (.int p2), .val (.int p3), .val (.int 1), .val (.int hp173), .val (.int hc175), .val (.int v176), .val (.ref b177), .val (.ref b185), .val (.ref b235), .val .null, .val (.ref o243), .unset, .unset, .unset] [.null, (.ref o243), (.ref b244), (.ref b244)]))) (fun _ k => XS.dup X244.here hx rfl (hb hby at_151) rfl rfl (XS.aload X244.here hx rfl (hb hby at_152) rfl rfl (XS.aload X244.here hx rfl (hb hby at_154) rfl rfl k))) ?_
            obtain ⟨_, _, ⟨T248, L248, k248, n248⟩, -, X248, ⟨Lc248, hQ248, l248, y248, z248⟩, st248⟩ := X244.specialBack hx (y := (⟨"com/example/pland/pland/payment/ChargeResult", "<init>", "(Lcom/example/pland/pland/payment/ChargeResult$Status;Ljava/lang/String;)V"⟩ : MethodName)) rfl hown (mvT hZ (wd hw 39 rfl)) (mvT hZ (wd hw 40 rfl)) (mvT hZ (wd hw 41 rfl)) (by decide) (backOf (W := 1) (rm_cr1 l Z a0 hw [] b244 o243 h244 n0 Z245 O245 A244 F246 F247 (Nat.le_trans Z241 sz_b244)) hZ (wd hw 41 rfl) (wd hw 38 rfl) (by decide) (by decide)) (g := (mkF m 156 #[.val (.int p1), .val (.int p2), .val (.int p3), .val (.int 1), .val (.int hp173), .val (.int hc175), .val (.int v176), .val (.ref b177), .val (.ref b185), .val (.ref b235), .val .null, .val (.ref o243), .unset, .unset, .unset] [.null, (.ref o243), (.ref b244), (.ref b244)])) rfl (by rw [hml]; rfl) (Steps.refl _) (a := b244) (argsL := [(.ref o243), .null]) (rest := [(.ref b244)]) (lenOf pd_10 rfl) rfl (by show 2 * 0 + _ ≤ _; exact Nat.le_of_eq rfl) (hb hby at_156) (fun _ _ => ⟨rfl, e244, Nat.le_of_ble_eq_true rfl, Nat.le_of_ble_eq_true rfl⟩)
            dsimp only [Pt.U, Pt.locs, Pt.cells, Pt.slots] at X248 l248 y248 z248 st248 hQ248
            subst l248 y248 z248
            obtain ⟨rfl, Nq248, K248, p248_0, p248_1, p248_2⟩ := hQ248
            have N248 := Fr.app N243 Nq248
            have O249 := O245.keep K248 (allS (Nat.le_trans Z241 sz_b244) all0)
            have Z249 : n0 ≤ T248.heap.size := Nat.le_trans Z245 K248.1
            refine Go.by (B := (T248.setTop (mkF m 159 #[.val (.int p1), .val (.int p2), .val (.int p3), .val (.int 1), .val (.int hp173), .val (.int hc175), .val (.int v176), .val (.ref b177), .val (.ref b185), .val (.ref b235), .val .null, .val (.ref o243), .unset, .unset, .unset] [(.ref b244)]))) (fun _ k => st248.trans k) ?_
            refine Go.by (B := (T248.setTop (mkF m 165 #[.val (.int p1), .val (.int p2), .val (.int p3), .val (.int 1), .val (.int hp173), .val (.int hc175), .val (.int v176), .val (.ref b177), .val (.ref b185), .val (.ref b235), .val .null, .val (.ref o243), .val (.ref b244), .unset, .unset] []))) (fun _ k => XS.goto X248.here hx rfl (pc0 := 159) (pc' := 163) rfl (hb hby at_159) (by decide) (by decide) (XS.astore X248.here hx rfl (hb hby at_163) rfl rfl (l' := #[.val (.int p1), .val (.int p2), .val (.int p3), .val (.int 1), .val (.int hp173), .val (.int hc175), .val (.int v176), .val (.ref b177), .val (.ref b185), .val (.ref b235), .val .null, .val (.ref o243), .val (.ref b244), .unset, .unset]) rfl k)) ?_
            obtain ⟨T250, h250, X250, e250, E250, A250, D250, -, st250⟩ := newO X248 hx hZ hown (wd hw 8 rfl) (wd hw 9 rfl) (wd hw 10 rfl) rfl (g := (mkF m 165 #[.val (.int p1), .val (.int p2), .val (.int p3), .val (.int 1), .val (.int hp173), .val (.int hc175), .val (.int v176), .val (.ref b177), .val (.ref b185), .val (.ref b235), .val .null, .val (.ref o243), .val (.ref b244), .unset, .unset] [])) rfl (hb hby at_165) (by decide) (by decide)
            obtain ⟨b250, g250⟩ : ∃ z, z = T248.heap.size := ⟨_, rfl⟩
            rw [← g250] at A250 D250 st250
            have sz_b250 : T248.heap.size ≤ b250 := Nat.le_of_eq g250.symm
            have O251 := O249.ext E250
            have Z251 : n0 ≤ h250.size := Nat.le_trans Z249 E250.1
            have F252 : Fld Z h250 b250 "com/example/pland/pland/billing/Charge" "paymentMethod" "Ljava/lang/String;" .null := D250 (Or.inr (wd hw 23 rfl)) (ty := (.object "java/lang/String")) (by decide)
            have F253 : Fld Z h250 b250 "com/example/pland/pland/billing/Charge" "result" "Lcom/example/pland/pland/payment/ChargeResult;" .null := D250 (Or.inr (wd hw 25 rfl)) (ty := (.object "com/example/pland/pland/payment/ChargeResult")) (by decide)
            refine Go.by (B := (T250.setTop (mkF m 168 #[.val (.int p1), .val (.int p2), .val (.int p3), .val (.int 1), .val (.int hp173), .val (.int hc175), .val (.int v176), .val (.ref b177), .val (.ref b185), .val (.ref b235), .val .null, .val (.ref o243), .val (.ref b244), .unset, .unset] [(.ref b250)]))) st250 ?_
            refine Go.by (B := (T250.setTop (mkF m 173 #[.val (.int p1), .val (.int p2), .val (.int p3), .val (.int 1), .val (.int hp173), .val (.int hc175), .val (.int v176), .val (.ref b177), .val (.ref b185), .val (.ref b235), .val .null, .val (.ref o243), .val (.ref b244), .unset, .unset] [(.ref b244), (.ref b235), (.ref b250), (.ref b250)]))) (fun _ k => XS.dup X250.here hx rfl (hb hby at_168) rfl rfl (XS.aload X250.here hx rfl (hb hby at_169) rfl rfl (XS.aload X250.here hx rfl (hb hby at_171) rfl rfl k))) ?_
            obtain ⟨_, _, ⟨T254, L254, k254, n254⟩, -, X254, ⟨Lc254, hQ254, l254, y254, z254⟩, st254⟩ := X250.specialBack hx (y := (⟨"com/example/pland/pland/billing/Charge", "<init>", "(Ljava/lang/String;Lcom/example/pland/pland/payment/ChargeResult;)V"⟩ : MethodName)) rfl hown (mvT hZ (wd hw 11 rfl)) (mvT hZ (wd hw 12 rfl)) (mvT hZ (wd hw 13 rfl)) (by decide) (backOf (W := 1) (rm_ch0 l Z a0 hw [] b250 b235 b244 h250 n0 Z251 O251 A250 F252 F253 (Nat.le_trans Z249 sz_b250)) hZ (wd hw 13 rfl) (wd hw 10 rfl) (by decide) (by decide)) (g := (mkF m 173 #[.val (.int p1), .val (.int p2), .val (.int p3), .val (.int 1), .val (.int hp173), .val (.int hc175), .val (.int v176), .val (.ref b177), .val (.ref b185), .val (.ref b235), .val .null, .val (.ref o243), .val (.ref b244), .unset, .unset] [(.ref b244), (.ref b235), (.ref b250), (.ref b250)])) rfl (by rw [hml]; rfl) (Steps.refl _) (a := b250) (argsL := [(.ref b235), (.ref b244)]) (rest := [(.ref b250)]) (lenOf pd_5 rfl) rfl (by show 2 * 0 + _ ≤ _; exact Nat.le_of_eq rfl) (hb hby at_173) (fun _ _ => ⟨rfl, e250, Nat.le_of_ble_eq_true rfl, Nat.le_of_ble_eq_true rfl⟩)
            dsimp only [Pt.U, Pt.locs, Pt.cells, Pt.slots] at X254 l254 y254 z254 st254 hQ254
            subst l254 y254 z254
            obtain ⟨rfl, Nq254, K254, p254_0, p254_1, p254_2⟩ := hQ254
            have N254 := Fr.app N248 Nq254
            have O255 := O251.keep K254 (allS (Nat.le_trans Z249 sz_b250) all0)
            have Z255 : n0 ≤ T254.heap.size := Nat.le_trans Z251 K254.1
            refine Go.by (B := (T254.setTop (mkF m 176 #[.val (.int p1), .val (.int p2), .val (.int p3), .val (.int 1), .val (.int hp173), .val (.int hc175), .val (.int v176), .val (.ref b177), .val (.ref b185), .val (.ref b235), .val .null, .val (.ref o243), .val (.ref b244), .unset, .unset] [(.ref b250)]))) (fun _ k => st254.trans k) ?_
            refine Go.by (B := (T254.setTop (mkF m 178 #[.val (.int p1), .val (.int p2), .val (.int p3), .val (.int 1), .val (.int hp173), .val (.int hc175), .val (.int v176), .val (.ref b177), .val (.ref b185), .val (.ref b235), .val .null, .val (.ref o243), .val (.ref b244), .val (.ref b250), .unset] []))) (fun _ k => XS.astore X254.here hx rfl (hb hby at_176) rfl rfl (l' := #[.val (.int p1), .val (.int p2), .val (.int p3), .val (.int 1), .val (.int hp173), .val (.int hc175), .val (.int v176), .val (.ref b177), .val (.ref b185), .val (.ref b235), .val .null, .val (.ref o243), .val (.ref b244), .val (.ref b250), .unset]) rfl k) ?_
            obtain ⟨_, _, ⟨T256, L256, k256, n256⟩, -, X256, ⟨Lc256, hQ256, l256, y256, z256⟩, st256⟩ := Jvm.LawKit.callS X254 hx (y := (⟨"com/example/pland/pland/billing/Charge", "none", "()Lcom/example/pland/pland/billing/Charge;"⟩ : MethodName)) hown (mvT hZ (wd hw 26 rfl)) (mvT hZ (wd hw 27 rfl)) (mvT hZ (wd hw 10 rfl)) (mvT hZ (wd hw 28 rfl)) (by decide) (backOf (W := 0) (rm_none l Z a0 hw []  T254.heap n0 Z255 O255) hZ (wd hw 28 rfl) (wd hw 10 rfl) (by decide) (by decide)) (g := (mkF m 178 #[.val (.int p1), .val (.int p2), .val (.int p3), .val (.int 1), .val (.int hp173), .val (.int hc175), .val (.int v176), .val (.ref b177), .val (.ref b185), .val (.ref b235), .val .null, .val (.ref o243), .val (.ref b244), .val (.ref b250), .unset] [])) rfl (by rw [hml]; rfl) (argsL := []) (rest := []) (lenOf pd_7 rfl) rfl (by show 2 * 0 + _ ≤ _; exact Nat.le_of_eq rfl) (hb hby at_178) (fun _ _ => ⟨rfl, rfl, Nat.le_of_ble_eq_true rfl, Nat.le_of_ble_eq_true rfl⟩)
            dsimp only [Pt.U, Pt.locs, Pt.cells, Pt.slots] at X256 l256 y256 z256 st256 hQ256
            subst l256 y256 z256
            obtain ⟨b256, rfl, Nq256, K256, p256_0, p256_1, p256_2⟩ := hQ256
            have N256 := Fr.app N254 Nq256
            have O257 := O255.keep K256 all0
            have Z257 : n0 ≤ T256.heap.size := Nat.le_trans Z255 K256.1
            have sz_b256 : T254.heap.size ≤ b256 := p256_2
            refine Go.by (B := (T256.setTop (mkF m 181 #[.val (.int p1), .val (.int p2), .val (.int p3), .val (.int 1), .val (.int hp173), .val (.int hc175), .val (.int v176), .val (.ref b177), .val (.ref b185), .val (.ref b235), .val .null, .val (.ref o243), .val (.ref b244), .val (.ref b250), .unset] [(.ref b256)]))) (fun _ k => st256 _ k) ?_
            obtain ⟨cq258, kq258, q258a, q258b, q258c⟩ := isOf hZ rfl p256_0
            obtain ⟨_, _, ⟨T258, L258, k258, n258⟩, -, X258, ⟨Lc258, hQ258, l258, y258, z258⟩, st258⟩ := X256.virtualBack hx (y := (⟨"com/example/pland/pland/billing/Charge", "made", "()Z"⟩ : MethodName)) (z := (⟨"com/example/pland/pland/billing/Charge", "made", "()Z"⟩ : MethodName)) hown (mvT hZ (wd hw 31 rfl)) (mvT hZ (wd hw 32 rfl)) (notFace_of_selects (args := #[]) (mvT hZ (wd hw 34 rfl))) (mvT hZ (wd hw 34 rfl)) (mvT hZ (wd hw 33 rfl)) (by decide) (backOf (W := 0) (rm_made0 l Z a0 hw [] b256 T256.heap n0 Z257 p256_1) hZ (wd hw 35 rfl) (wd hw 10 rfl) (by decide) (by decide)) q258a q258c (g := (mkF m 181 #[.val (.int p1), .val (.int p2), .val (.int p3), .val (.int 1), .val (.int hp173), .val (.int hc175), .val (.int v176), .val (.ref b177), .val (.ref b185), .val (.ref b235), .val .null, .val (.ref o243), .val (.ref b244), .val (.ref b250), .unset] [(.ref b256)])) rfl (by rw [hml]; rfl) (Steps.refl _) (argsL := []) (rest := []) (lenOf pd_8 rfl) rfl (by show 2 * 0 + _ ≤ _; exact Nat.le_of_eq rfl) (hb hby at_181) (fun _ _ => ⟨rfl, rfl, Nat.le_of_ble_eq_true rfl, Nat.le_of_ble_eq_true rfl⟩)
            dsimp only [Pt.U, Pt.locs, Pt.cells, Pt.slots] at X258 l258 y258 z258 st258 hQ258
            subst l258 y258 z258
            obtain ⟨rfl, Nq258, hh258⟩ := hQ258
            have N258 := Fr.app N256 Nq258
            refine Go.by (B := (T258.setTop (mkF m 184 #[.val (.int p1), .val (.int p2), .val (.int p3), .val (.int 1), .val (.int hp173), .val (.int hc175), .val (.int v176), .val (.ref b177), .val (.ref b185), .val (.ref b235), .val .null, .val (.ref o243), .val (.ref b244), .val (.ref b250), .unset] [(.int 0)]))) (fun _ k => st258.trans k) ?_
            refine Go.by (B := (T258.setTop (mkF m 201 #[.val (.int p1), .val (.int p2), .val (.int p3), .val (.int 1), .val (.int hp173), .val (.int hc175), .val (.int v176), .val (.ref b177), .val (.ref b185), .val (.ref b235), .val .null, .val (.ref o243), .val (.ref b244), .val (.ref b250), .val (.int 1)] [(.ref b250)]))) (fun _ k => XS.ifNo X258.here hx rfl (hb hby at_184) rfl ((if0 _ _).trans (teq (by decide : (0 : Int32) = (0 : Int32))).2) (XS.iconst X258.here hx rfl (hb hby at_187) (XS.goto X258.here hx rfl (pc0 := 188) (pc' := 192) rfl (hb hby at_188) (by decide) (by decide) (XS.istore X258.here hx rfl (hb hby at_192) rfl (l' := #[.val (.int p1), .val (.int p2), .val (.int p3), .val (.int 1), .val (.int hp173), .val (.int hc175), .val (.int v176), .val (.ref b177), .val (.ref b185), .val (.ref b235), .val .null, .val (.ref o243), .val (.ref b244), .val (.ref b250), .val (.int 1)]) rfl (XS.iload X258.here hx rfl (hb hby at_194) rfl (XS.ifNo X258.here hx rfl (hb hby at_196) rfl ((if0 _ _).trans (feq (by decide : ¬ ((1 : Int32) = (0 : Int32)))).1) (XS.aload X258.here hx rfl (hb hby at_199) rfl rfl k))))))) ?_
            obtain ⟨cq259, kq259, q259a, q259b, q259c⟩ := isOf hZ hh258 (p254_0.keep K256)
            obtain ⟨_, _, ⟨T259, L259, k259, n259⟩, -, X259, ⟨Lc259, hQ259, l259, y259, z259⟩, st259⟩ := X258.virtualBack hx (y := (⟨"com/example/pland/pland/billing/Charge", "made", "()Z"⟩ : MethodName)) (z := (⟨"com/example/pland/pland/billing/Charge", "made", "()Z"⟩ : MethodName)) hown (mvT hZ (wd hw 31 rfl)) (mvT hZ (wd hw 32 rfl)) (notFace_of_selects (args := #[]) (mvT hZ (wd hw 34 rfl))) (mvT hZ (wd hw 34 rfl)) (mvT hZ (wd hw 33 rfl)) (by decide) (backOf (W := 0) (rm_made1 l Z a0 hw [] b250 b244 T256.heap n0 Z257 (p254_2.keep K256 nin0)) hZ (wd hw 35 rfl) (wd hw 10 rfl) (by decide) (by decide)) q259a q259c (g := (mkF m 201 #[.val (.int p1), .val (.int p2), .val (.int p3), .val (.int 1), .val (.int hp173), .val (.int hc175), .val (.int v176), .val (.ref b177), .val (.ref b185), .val (.ref b235), .val .null, .val (.ref o243), .val (.ref b244), .val (.ref b250), .val (.int 1)] [(.ref b250)])) rfl (by rw [hml]; rfl) (Steps.refl _) (argsL := []) (rest := []) (lenOf pd_8 rfl) rfl (by show 2 * 0 + _ ≤ _; exact Nat.le_of_eq rfl) (hb hby at_201) (fun _ _ => ⟨rfl, hh258, Nat.le_of_ble_eq_true rfl, Nat.le_of_ble_eq_true rfl⟩)
            dsimp only [Pt.U, Pt.locs, Pt.cells, Pt.slots] at X259 l259 y259 z259 st259 hQ259
            subst l259 y259 z259
            obtain ⟨rfl, Nq259, hh259⟩ := hQ259
            have N259 := Fr.app N258 Nq259
            refine Go.by (B := (T259.setTop (mkF m 204 #[.val (.int p1), .val (.int p2), .val (.int p3), .val (.int 1), .val (.int hp173), .val (.int hc175), .val (.int v176), .val (.ref b177), .val (.ref b185), .val (.ref b235), .val .null, .val (.ref o243), .val (.ref b244), .val (.ref b250), .val (.int 1)] [(.int 1)]))) (fun _ k => st259.trans k) ?_
            refine Go.by (B := (T259.setTop (mkF m 213 #[.val (.int p1), .val (.int p2), .val (.int p3), .val (.int 1), .val (.int hp173), .val (.int hc175), .val (.int v176), .val (.ref b177), .val (.ref b185), .val (.ref b235), .val .null, .val (.ref o243), .val (.ref b244), .val (.ref b250), .val (.int 1)] [(.int 1)]))) (fun _ k => XS.iloadN X259.here hx rfl (hb hby at_204) rfl (XS.icmpNo X259.here hx rfl (hb hby at_205) rfl (teq (by decide : (1 : Int32) = (1 : Int32))).2 (XS.iconst X259.here hx rfl (hb hby at_208) (XS.goto X259.here hx rfl (pc0 := 209) (pc' := 213) rfl (hb hby at_209) (by decide) (by decide) k)))) ?_
            refine Go.ret X259 hx hlk (t := .boolean) hret rfl (Or.inl ⟨rfl, by simp, _, rfl⟩) (hb hby at_213) (by decide) (by decide) ?_
            exact ⟨rfl, N259⟩
          · skip
            refine Go.by (B := (T240.setTop (mkF m 122 #[.val (.int p1), .val (.int p2), .val (.int p3), .val (.int 1), .val (.int hp173), .val (.int hc175), .val (.int v176), .val (.ref b177), .val (.ref b185), .val (.ref b235), .unset, .unset, .unset, .unset, .unset] []))) (fun _ k => XS.ifNo X240.here hx rfl (hb hby at_119) rfl ((if0 _ _).trans (feq c242).1) k) ?_
            obtain ⟨T260, h260, X260, e260, E260, A260, D260, -, st260⟩ := newO X240 hx hZ hown (wd hw 47 rfl) (wd hw 48 rfl) (wd hw 49 rfl) rfl (g := (mkF m 122 #[.val (.int p1), .val (.int p2), .val (.int p3), .val (.int 1), .val (.int hp173), .val (.int hc175), .val (.int v176), .val (.ref b177), .val (.ref b185), .val (.ref b235), .unset, .unset, .unset, .unset, .unset] [])) rfl (hb hby at_122) (by decide) (by decide)
            obtain ⟨b260, g260⟩ : ∃ z, z = T240.heap.size := ⟨_, rfl⟩
            rw [← g260] at A260 D260 st260
            have sz_b260 : T240.heap.size ≤ b260 := Nat.le_of_eq g260.symm
            have O261 := O241.ext E260
            have Z261 : n0 ≤ h260.size := Nat.le_trans Z241 E260.1
            have F262 : Fld Z h260 b260 "java/lang/String" "coder" "B" (.int 0) := D260 (Or.inr (wd hw 71 rfl)) (ty := .byte) (by decide)
            have F263 : Fld Z h260 b260 "java/lang/String" "value" "[B" .null := D260 (Or.inr (wd hw 73 rfl)) (ty := (.array .byte)) (by decide)
            refine Go.by (B := (T260.setTop (mkF m 125 #[.val (.int p1), .val (.int p2), .val (.int p3), .val (.int 1), .val (.int hp173), .val (.int hc175), .val (.int v176), .val (.ref b177), .val (.ref b185), .val (.ref b235), .unset, .unset, .unset, .unset, .unset] [(.ref b260)]))) st260 ?_
            refine Go.by (B := (T260.setTop (mkF m 128 #[.val (.int p1), .val (.int p2), .val (.int p3), .val (.int 1), .val (.int hp173), .val (.int hc175), .val (.int v176), .val (.ref b177), .val (.ref b185), .val (.ref b235), .unset, .unset, .unset, .unset, .unset] [(.ref b185), (.ref b260), (.ref b260)]))) (fun _ k => XS.dup X260.here hx rfl (hb hby at_125) rfl rfl (XS.aload X260.here hx rfl (hb hby at_126) rfl rfl k)) ?_
            have f264 := (((V191.ext E235).keep K240 (ninS (Nat.ne_of_lt (Nat.lt_of_lt_of_le V191.lt sz_b235)) nin0)).ext E260)
            obtain ⟨_, _, ⟨T265, L265, k265, n265⟩, -, X265, ⟨Lc265, hQ265, l265, y265, z265⟩, st265⟩ := X260.specialBack hx (y := (⟨"java/lang/String", "<init>", "([C)V"⟩ : MethodName)) rfl hown (mvT hZ (wd hw 50 rfl)) (mvT hZ (wd hw 51 rfl)) (mvT hZ (wd hw 52 rfl)) (by decide) (backOf (W := 1) (rm_sC_2 l Z a0 hw [] b260 b185 k185 (nar .char ((p3 &&& (255 : Int32)).toUInt32.toUInt16.toUInt32.toInt32)) (nar .char ((((p3.toUInt32 >>> ((8 : Int32) &&& 31).toUInt32).toInt32) &&& (255 : Int32)).toUInt32.toUInt16.toUInt32.toInt32)) cs h260 n0 Z261 O261 pr1 hcs A260 F263 F262 (Nat.le_trans Z241 sz_b260) f264 (own_chn _) (own_chn _)) hZ (wd hw 52 rfl) (wd hw 49 rfl) (by decide) (by decide)) (g := (mkF m 128 #[.val (.int p1), .val (.int p2), .val (.int p3), .val (.int 1), .val (.int hp173), .val (.int hc175), .val (.int v176), .val (.ref b177), .val (.ref b185), .val (.ref b235), .unset, .unset, .unset, .unset, .unset] [(.ref b185), (.ref b260), (.ref b260)])) rfl (by rw [hml]; rfl) (Steps.refl _) (a := b260) (argsL := [(.ref b185)]) (rest := [(.ref b260)]) (lenOf pd_9 rfl) rfl (by show 2 * 0 + _ ≤ _; exact Nat.le_of_eq rfl) (hb hby at_128) (fun _ _ => ⟨rfl, e260, Nat.le_of_ble_eq_true rfl, Nat.le_of_ble_eq_true rfl⟩)
            dsimp only [Pt.U, Pt.locs, Pt.cells, Pt.slots] at X265 l265 y265 z265 st265 hQ265
            subst l265 y265 z265
            obtain ⟨t265, k265, rfl, Nq265, K265, p265_0, p265_1, p265_2, p265_3, p265_4⟩ := hQ265
            have N265 := Fr.app N240 Nq265
            have O266 := O261.keep K265 (allS (Nat.le_trans Z241 sz_b260) all0)
            have Z266 : n0 ≤ T265.heap.size := Nat.le_trans Z261 K265.1
            have sz_t265 : h260.size ≤ t265 := p265_4
            refine Go.by (B := (T265.setTop (mkF m 131 #[.val (.int p1), .val (.int p2), .val (.int p3), .val (.int 1), .val (.int hp173), .val (.int hc175), .val (.int v176), .val (.ref b177), .val (.ref b185), .val (.ref b235), .unset, .unset, .unset, .unset, .unset] [(.ref b260)]))) (fun _ k => st265.trans k) ?_
            refine Go.by (B := (T265.setTop (mkF m 139 #[.val (.int p1), .val (.int p2), .val (.int p3), .val (.int 1), .val (.int hp173), .val (.int hc175), .val (.int v176), .val (.ref b177), .val (.ref b185), .val (.ref b235), .val (.ref b260), .unset, .unset, .unset, .unset] [(.int v176)]))) (fun _ k => XS.goto X265.here hx rfl (pc0 := 131) (pc' := 135) rfl (hb hby at_131) (by decide) (by decide) (XS.astore X265.here hx rfl (hb hby at_135) rfl rfl (l' := #[.val (.int p1), .val (.int p2), .val (.int p3), .val (.int 1), .val (.int hp173), .val (.int hc175), .val (.int v176), .val (.ref b177), .val (.ref b185), .val (.ref b235), .val (.ref b260), .unset, .unset, .unset, .unset]) rfl (XS.iload X265.here hx rfl (hb hby at_137) rfl k))) ?_
            obtain ⟨_, _, ⟨T267, L267, k267, n267⟩, -, X267, ⟨Lc267, hQ267, l267, y267, z267⟩, st267⟩ := Jvm.LawKit.callS X265 hx (y := (⟨"com/example/pland/pland/billing/ChargeMadePinLaw", "status", "(I)Lcom/example/pland/pland/payment/ChargeResult$Status;"⟩ : MethodName)) hown (mvT hZ (wd hw 1 rfl)) (mvT hZ (wd hw 2 rfl)) (mvT hZ (wd hw 3 rfl)) (mvT hZ (wd hw 4 rfl)) (by decide) (backOf (W := 0) (rm_status l Z a0 hw [] v176 w0 w1 w2 w3 T265.heap n0 Z266 O266 pr3 pr4 pr5 pr6) hZ (wd hw 4 rfl) (wd hw 3 rfl) (by decide) (by decide)) (g := (mkF m 139 #[.val (.int p1), .val (.int p2), .val (.int p3), .val (.int 1), .val (.int hp173), .val (.int hc175), .val (.int v176), .val (.ref b177), .val (.ref b185), .val (.ref b235), .val (.ref b260), .unset, .unset, .unset, .unset] [(.int v176)])) rfl (by rw [hml]; rfl) (argsL := [(.int v176)]) (rest := []) (lenOf pd_6 rfl) rfl (by show 2 * 0 + _ ≤ _; exact Nat.le_of_eq rfl) (hb hby at_139) (fun _ _ => ⟨rfl, rfl, Nat.le_of_ble_eq_true rfl, Nat.le_of_ble_eq_true rfl⟩)
            dsimp only [Pt.U, Pt.locs, Pt.cells, Pt.slots] at X267 l267 y267 z267 st267 hQ267
            subst l267 y267 z267
            obtain ⟨o267, rfl, Nq267, hh267⟩ := hQ267
            have N267 := Fr.app N265 Nq267
            refine Go.by (B := (T267.setTop (mkF m 142 #[.val (.int p1), .val (.int p2), .val (.int p3), .val (.int 1), .val (.int hp173), .val (.int hc175), .val (.int v176), .val (.ref b177), .val (.ref b185), .val (.ref b235), .val (.ref b260), .unset, .unset, .unset, .unset] [(.ref o267)]))) (fun _ k => st267 _ k) ?_
            refine Go.by (B := (T267.setTop (mkF m 148 #[.val (.int p1), .val (.int p2), .val (.int p3), .val (.int 1), .val (.int hp173), .val (.int hc175), .val (.int v176), .val (.ref b177), .val (.ref b185), .val (.ref b235), .val (.ref b260), .val (.ref o267), .unset, .unset, .unset] []))) (fun _ k => XS.astore X267.here hx rfl (hb hby at_142) rfl rfl (l' := #[.val (.int p1), .val (.int p2), .val (.int p3), .val (.int 1), .val (.int hp173), .val (.int hc175), .val (.int v176), .val (.ref b177), .val (.ref b185), .val (.ref b235), .val (.ref b260), .val (.ref o267), .unset, .unset, .unset]) rfl (XS.iloadN X267.here hx rfl (hb hby at_144) rfl (XS.ifNo X267.here hx rfl (hb hby at_145) rfl ((if0 _ _).trans (feq (by decide : ¬ ((1 : Int32) = (0 : Int32)))).1) k))) ?_
            obtain ⟨T268, h268, X268, e268, E268, A268, D268, -, st268⟩ := newO X267 hx hZ hown (wd hw 36 rfl) (wd hw 37 rfl) (wd hw 38 rfl) hh267 (g := (mkF m 148 #[.val (.int p1), .val (.int p2), .val (.int p3), .val (.int 1), .val (.int hp173), .val (.int hc175), .val (.int v176), .val (.ref b177), .val (.ref b185), .val (.ref b235), .val (.ref b260), .val (.ref o267), .unset, .unset, .unset] [])) rfl (hb hby at_148) (by decide) (by decide)
            obtain ⟨b268, g268⟩ : ∃ z, z = T265.heap.size := ⟨_, rfl⟩
            rw [← g268] at A268 D268 st268
            have sz_b268 : T265.heap.size ≤ b268 := Nat.le_of_eq g268.symm
            have O269 := O266.ext E268
            have Z269 : n0 ≤ h268.size := Nat.le_trans Z266 E268.1
            have F270 : Fld Z h268 b268 "com/example/pland/pland/payment/ChargeResult" "status" "Lcom/example/pland/pland/payment/ChargeResult$Status;" .null := D268 (Or.inr (wd hw 44 rfl)) (ty := (.object "com/example/pland/pland/payment/ChargeResult$Status")) (by decide)
            have F271 : Fld Z h268 b268 "com/example/pland/pland/payment/ChargeResult" "declineCode" "Ljava/lang/String;" .null := D268 (Or.inr (wd hw 46 rfl)) (ty := (.object "java/lang/String")) (by decide)
            refine Go.by (B := (T268.setTop (mkF m 151 #[.val (.int p1), .val (.int p2), .val (.int p3), .val (.int 1), .val (.int hp173), .val (.int hc175), .val (.int v176), .val (.ref b177), .val (.ref b185), .val (.ref b235), .val (.ref b260), .val (.ref o267), .unset, .unset, .unset] [(.ref b268)]))) st268 ?_
            refine Go.by (B := (T268.setTop (mkF m 156 #[.val (.int p1), .val (.int p2), .val (.int p3), .val (.int 1), .val (.int hp173), .val (.int hc175), .val (.int v176), .val (.ref b177), .val (.ref b185), .val (.ref b235), .val (.ref b260), .val (.ref o267), .unset, .unset, .unset] [(.ref b260), (.ref o267), (.ref b268), (.ref b268)]))) (fun _ k => XS.dup X268.here hx rfl (hb hby at_151) rfl rfl (XS.aload X268.here hx rfl (hb hby at_152) rfl rfl (XS.aload X268.here hx rfl (hb hby at_154) rfl rfl k))) ?_
            obtain ⟨_, _, ⟨T272, L272, k272, n272⟩, -, X272, ⟨Lc272, hQ272, l272, y272, z272⟩, st272⟩ := X268.specialBack hx (y := (⟨"com/example/pland/pland/payment/ChargeResult", "<init>", "(Lcom/example/pland/pland/payment/ChargeResult$Status;Ljava/lang/String;)V"⟩ : MethodName)) rfl hown (mvT hZ (wd hw 39 rfl)) (mvT hZ (wd hw 40 rfl)) (mvT hZ (wd hw 41 rfl)) (by decide) (backOf (W := 1) (rm_cr0 l Z a0 hw [] b268 o267 b260 h268 n0 Z269 O269 A268 F270 F271 (Nat.le_trans Z266 sz_b268)) hZ (wd hw 41 rfl) (wd hw 38 rfl) (by decide) (by decide)) (g := (mkF m 156 #[.val (.int p1), .val (.int p2), .val (.int p3), .val (.int 1), .val (.int hp173), .val (.int hc175), .val (.int v176), .val (.ref b177), .val (.ref b185), .val (.ref b235), .val (.ref b260), .val (.ref o267), .unset, .unset, .unset] [(.ref b260), (.ref o267), (.ref b268), (.ref b268)])) rfl (by rw [hml]; rfl) (Steps.refl _) (a := b268) (argsL := [(.ref o267), (.ref b260)]) (rest := [(.ref b268)]) (lenOf pd_10 rfl) rfl (by show 2 * 0 + _ ≤ _; exact Nat.le_of_eq rfl) (hb hby at_156) (fun _ _ => ⟨rfl, e268, Nat.le_of_ble_eq_true rfl, Nat.le_of_ble_eq_true rfl⟩)
            dsimp only [Pt.U, Pt.locs, Pt.cells, Pt.slots] at X272 l272 y272 z272 st272 hQ272
            subst l272 y272 z272
            obtain ⟨rfl, Nq272, K272, p272_0, p272_1, p272_2⟩ := hQ272
            have N272 := Fr.app N267 Nq272
            have O273 := O269.keep K272 (allS (Nat.le_trans Z266 sz_b268) all0)
            have Z273 : n0 ≤ T272.heap.size := Nat.le_trans Z269 K272.1
            refine Go.by (B := (T272.setTop (mkF m 159 #[.val (.int p1), .val (.int p2), .val (.int p3), .val (.int 1), .val (.int hp173), .val (.int hc175), .val (.int v176), .val (.ref b177), .val (.ref b185), .val (.ref b235), .val (.ref b260), .val (.ref o267), .unset, .unset, .unset] [(.ref b268)]))) (fun _ k => st272.trans k) ?_
            refine Go.by (B := (T272.setTop (mkF m 165 #[.val (.int p1), .val (.int p2), .val (.int p3), .val (.int 1), .val (.int hp173), .val (.int hc175), .val (.int v176), .val (.ref b177), .val (.ref b185), .val (.ref b235), .val (.ref b260), .val (.ref o267), .val (.ref b268), .unset, .unset] []))) (fun _ k => XS.goto X272.here hx rfl (pc0 := 159) (pc' := 163) rfl (hb hby at_159) (by decide) (by decide) (XS.astore X272.here hx rfl (hb hby at_163) rfl rfl (l' := #[.val (.int p1), .val (.int p2), .val (.int p3), .val (.int 1), .val (.int hp173), .val (.int hc175), .val (.int v176), .val (.ref b177), .val (.ref b185), .val (.ref b235), .val (.ref b260), .val (.ref o267), .val (.ref b268), .unset, .unset]) rfl k)) ?_
            obtain ⟨T274, h274, X274, e274, E274, A274, D274, -, st274⟩ := newO X272 hx hZ hown (wd hw 8 rfl) (wd hw 9 rfl) (wd hw 10 rfl) rfl (g := (mkF m 165 #[.val (.int p1), .val (.int p2), .val (.int p3), .val (.int 1), .val (.int hp173), .val (.int hc175), .val (.int v176), .val (.ref b177), .val (.ref b185), .val (.ref b235), .val (.ref b260), .val (.ref o267), .val (.ref b268), .unset, .unset] [])) rfl (hb hby at_165) (by decide) (by decide)
            obtain ⟨b274, g274⟩ : ∃ z, z = T272.heap.size := ⟨_, rfl⟩
            rw [← g274] at A274 D274 st274
            have sz_b274 : T272.heap.size ≤ b274 := Nat.le_of_eq g274.symm
            have O275 := O273.ext E274
            have Z275 : n0 ≤ h274.size := Nat.le_trans Z273 E274.1
            have F276 : Fld Z h274 b274 "com/example/pland/pland/billing/Charge" "paymentMethod" "Ljava/lang/String;" .null := D274 (Or.inr (wd hw 23 rfl)) (ty := (.object "java/lang/String")) (by decide)
            have F277 : Fld Z h274 b274 "com/example/pland/pland/billing/Charge" "result" "Lcom/example/pland/pland/payment/ChargeResult;" .null := D274 (Or.inr (wd hw 25 rfl)) (ty := (.object "com/example/pland/pland/payment/ChargeResult")) (by decide)
            refine Go.by (B := (T274.setTop (mkF m 168 #[.val (.int p1), .val (.int p2), .val (.int p3), .val (.int 1), .val (.int hp173), .val (.int hc175), .val (.int v176), .val (.ref b177), .val (.ref b185), .val (.ref b235), .val (.ref b260), .val (.ref o267), .val (.ref b268), .unset, .unset] [(.ref b274)]))) st274 ?_
            refine Go.by (B := (T274.setTop (mkF m 173 #[.val (.int p1), .val (.int p2), .val (.int p3), .val (.int 1), .val (.int hp173), .val (.int hc175), .val (.int v176), .val (.ref b177), .val (.ref b185), .val (.ref b235), .val (.ref b260), .val (.ref o267), .val (.ref b268), .unset, .unset] [(.ref b268), (.ref b235), (.ref b274), (.ref b274)]))) (fun _ k => XS.dup X274.here hx rfl (hb hby at_168) rfl rfl (XS.aload X274.here hx rfl (hb hby at_169) rfl rfl (XS.aload X274.here hx rfl (hb hby at_171) rfl rfl k))) ?_
            obtain ⟨_, _, ⟨T278, L278, k278, n278⟩, -, X278, ⟨Lc278, hQ278, l278, y278, z278⟩, st278⟩ := X274.specialBack hx (y := (⟨"com/example/pland/pland/billing/Charge", "<init>", "(Ljava/lang/String;Lcom/example/pland/pland/payment/ChargeResult;)V"⟩ : MethodName)) rfl hown (mvT hZ (wd hw 11 rfl)) (mvT hZ (wd hw 12 rfl)) (mvT hZ (wd hw 13 rfl)) (by decide) (backOf (W := 1) (rm_ch0 l Z a0 hw [] b274 b235 b268 h274 n0 Z275 O275 A274 F276 F277 (Nat.le_trans Z273 sz_b274)) hZ (wd hw 13 rfl) (wd hw 10 rfl) (by decide) (by decide)) (g := (mkF m 173 #[.val (.int p1), .val (.int p2), .val (.int p3), .val (.int 1), .val (.int hp173), .val (.int hc175), .val (.int v176), .val (.ref b177), .val (.ref b185), .val (.ref b235), .val (.ref b260), .val (.ref o267), .val (.ref b268), .unset, .unset] [(.ref b268), (.ref b235), (.ref b274), (.ref b274)])) rfl (by rw [hml]; rfl) (Steps.refl _) (a := b274) (argsL := [(.ref b235), (.ref b268)]) (rest := [(.ref b274)]) (lenOf pd_5 rfl) rfl (by show 2 * 0 + _ ≤ _; exact Nat.le_of_eq rfl) (hb hby at_173) (fun _ _ => ⟨rfl, e274, Nat.le_of_ble_eq_true rfl, Nat.le_of_ble_eq_true rfl⟩)
            dsimp only [Pt.U, Pt.locs, Pt.cells, Pt.slots] at X278 l278 y278 z278 st278 hQ278
            subst l278 y278 z278
            obtain ⟨rfl, Nq278, K278, p278_0, p278_1, p278_2⟩ := hQ278
            have N278 := Fr.app N272 Nq278
            have O279 := O275.keep K278 (allS (Nat.le_trans Z273 sz_b274) all0)
            have Z279 : n0 ≤ T278.heap.size := Nat.le_trans Z275 K278.1
            refine Go.by (B := (T278.setTop (mkF m 176 #[.val (.int p1), .val (.int p2), .val (.int p3), .val (.int 1), .val (.int hp173), .val (.int hc175), .val (.int v176), .val (.ref b177), .val (.ref b185), .val (.ref b235), .val (.ref b260), .val (.ref o267), .val (.ref b268), .unset, .unset] [(.ref b274)]))) (fun _ k => st278.trans k) ?_
            refine Go.by (B := (T278.setTop (mkF m 178 #[.val (.int p1), .val (.int p2), .val (.int p3), .val (.int 1), .val (.int hp173), .val (.int hc175), .val (.int v176), .val (.ref b177), .val (.ref b185), .val (.ref b235), .val (.ref b260), .val (.ref o267), .val (.ref b268), .val (.ref b274), .unset] []))) (fun _ k => XS.astore X278.here hx rfl (hb hby at_176) rfl rfl (l' := #[.val (.int p1), .val (.int p2), .val (.int p3), .val (.int 1), .val (.int hp173), .val (.int hc175), .val (.int v176), .val (.ref b177), .val (.ref b185), .val (.ref b235), .val (.ref b260), .val (.ref o267), .val (.ref b268), .val (.ref b274), .unset]) rfl k) ?_
            obtain ⟨_, _, ⟨T280, L280, k280, n280⟩, -, X280, ⟨Lc280, hQ280, l280, y280, z280⟩, st280⟩ := Jvm.LawKit.callS X278 hx (y := (⟨"com/example/pland/pland/billing/Charge", "none", "()Lcom/example/pland/pland/billing/Charge;"⟩ : MethodName)) hown (mvT hZ (wd hw 26 rfl)) (mvT hZ (wd hw 27 rfl)) (mvT hZ (wd hw 10 rfl)) (mvT hZ (wd hw 28 rfl)) (by decide) (backOf (W := 0) (rm_none l Z a0 hw []  T278.heap n0 Z279 O279) hZ (wd hw 28 rfl) (wd hw 10 rfl) (by decide) (by decide)) (g := (mkF m 178 #[.val (.int p1), .val (.int p2), .val (.int p3), .val (.int 1), .val (.int hp173), .val (.int hc175), .val (.int v176), .val (.ref b177), .val (.ref b185), .val (.ref b235), .val (.ref b260), .val (.ref o267), .val (.ref b268), .val (.ref b274), .unset] [])) rfl (by rw [hml]; rfl) (argsL := []) (rest := []) (lenOf pd_7 rfl) rfl (by show 2 * 0 + _ ≤ _; exact Nat.le_of_eq rfl) (hb hby at_178) (fun _ _ => ⟨rfl, rfl, Nat.le_of_ble_eq_true rfl, Nat.le_of_ble_eq_true rfl⟩)
            dsimp only [Pt.U, Pt.locs, Pt.cells, Pt.slots] at X280 l280 y280 z280 st280 hQ280
            subst l280 y280 z280
            obtain ⟨b280, rfl, Nq280, K280, p280_0, p280_1, p280_2⟩ := hQ280
            have N280 := Fr.app N278 Nq280
            have O281 := O279.keep K280 all0
            have Z281 : n0 ≤ T280.heap.size := Nat.le_trans Z279 K280.1
            have sz_b280 : T278.heap.size ≤ b280 := p280_2
            refine Go.by (B := (T280.setTop (mkF m 181 #[.val (.int p1), .val (.int p2), .val (.int p3), .val (.int 1), .val (.int hp173), .val (.int hc175), .val (.int v176), .val (.ref b177), .val (.ref b185), .val (.ref b235), .val (.ref b260), .val (.ref o267), .val (.ref b268), .val (.ref b274), .unset] [(.ref b280)]))) (fun _ k => st280 _ k) ?_
            obtain ⟨cq282, kq282, q282a, q282b, q282c⟩ := isOf hZ rfl p280_0
            obtain ⟨_, _, ⟨T282, L282, k282, n282⟩, -, X282, ⟨Lc282, hQ282, l282, y282, z282⟩, st282⟩ := X280.virtualBack hx (y := (⟨"com/example/pland/pland/billing/Charge", "made", "()Z"⟩ : MethodName)) (z := (⟨"com/example/pland/pland/billing/Charge", "made", "()Z"⟩ : MethodName)) hown (mvT hZ (wd hw 31 rfl)) (mvT hZ (wd hw 32 rfl)) (notFace_of_selects (args := #[]) (mvT hZ (wd hw 34 rfl))) (mvT hZ (wd hw 34 rfl)) (mvT hZ (wd hw 33 rfl)) (by decide) (backOf (W := 0) (rm_made0 l Z a0 hw [] b280 T280.heap n0 Z281 p280_1) hZ (wd hw 35 rfl) (wd hw 10 rfl) (by decide) (by decide)) q282a q282c (g := (mkF m 181 #[.val (.int p1), .val (.int p2), .val (.int p3), .val (.int 1), .val (.int hp173), .val (.int hc175), .val (.int v176), .val (.ref b177), .val (.ref b185), .val (.ref b235), .val (.ref b260), .val (.ref o267), .val (.ref b268), .val (.ref b274), .unset] [(.ref b280)])) rfl (by rw [hml]; rfl) (Steps.refl _) (argsL := []) (rest := []) (lenOf pd_8 rfl) rfl (by show 2 * 0 + _ ≤ _; exact Nat.le_of_eq rfl) (hb hby at_181) (fun _ _ => ⟨rfl, rfl, Nat.le_of_ble_eq_true rfl, Nat.le_of_ble_eq_true rfl⟩)
            dsimp only [Pt.U, Pt.locs, Pt.cells, Pt.slots] at X282 l282 y282 z282 st282 hQ282
            subst l282 y282 z282
            obtain ⟨rfl, Nq282, hh282⟩ := hQ282
            have N282 := Fr.app N280 Nq282
            refine Go.by (B := (T282.setTop (mkF m 184 #[.val (.int p1), .val (.int p2), .val (.int p3), .val (.int 1), .val (.int hp173), .val (.int hc175), .val (.int v176), .val (.ref b177), .val (.ref b185), .val (.ref b235), .val (.ref b260), .val (.ref o267), .val (.ref b268), .val (.ref b274), .unset] [(.int 0)]))) (fun _ k => st282.trans k) ?_
            refine Go.by (B := (T282.setTop (mkF m 201 #[.val (.int p1), .val (.int p2), .val (.int p3), .val (.int 1), .val (.int hp173), .val (.int hc175), .val (.int v176), .val (.ref b177), .val (.ref b185), .val (.ref b235), .val (.ref b260), .val (.ref o267), .val (.ref b268), .val (.ref b274), .val (.int 1)] [(.ref b274)]))) (fun _ k => XS.ifNo X282.here hx rfl (hb hby at_184) rfl ((if0 _ _).trans (teq (by decide : (0 : Int32) = (0 : Int32))).2) (XS.iconst X282.here hx rfl (hb hby at_187) (XS.goto X282.here hx rfl (pc0 := 188) (pc' := 192) rfl (hb hby at_188) (by decide) (by decide) (XS.istore X282.here hx rfl (hb hby at_192) rfl (l' := #[.val (.int p1), .val (.int p2), .val (.int p3), .val (.int 1), .val (.int hp173), .val (.int hc175), .val (.int v176), .val (.ref b177), .val (.ref b185), .val (.ref b235), .val (.ref b260), .val (.ref o267), .val (.ref b268), .val (.ref b274), .val (.int 1)]) rfl (XS.iload X282.here hx rfl (hb hby at_194) rfl (XS.ifNo X282.here hx rfl (hb hby at_196) rfl ((if0 _ _).trans (feq (by decide : ¬ ((1 : Int32) = (0 : Int32)))).1) (XS.aload X282.here hx rfl (hb hby at_199) rfl rfl k))))))) ?_
            obtain ⟨cq283, kq283, q283a, q283b, q283c⟩ := isOf hZ hh282 (p278_0.keep K280)
            obtain ⟨_, _, ⟨T283, L283, k283, n283⟩, -, X283, ⟨Lc283, hQ283, l283, y283, z283⟩, st283⟩ := X282.virtualBack hx (y := (⟨"com/example/pland/pland/billing/Charge", "made", "()Z"⟩ : MethodName)) (z := (⟨"com/example/pland/pland/billing/Charge", "made", "()Z"⟩ : MethodName)) hown (mvT hZ (wd hw 31 rfl)) (mvT hZ (wd hw 32 rfl)) (notFace_of_selects (args := #[]) (mvT hZ (wd hw 34 rfl))) (mvT hZ (wd hw 34 rfl)) (mvT hZ (wd hw 33 rfl)) (by decide) (backOf (W := 0) (rm_made1 l Z a0 hw [] b274 b268 T280.heap n0 Z281 (p278_2.keep K280 nin0)) hZ (wd hw 35 rfl) (wd hw 10 rfl) (by decide) (by decide)) q283a q283c (g := (mkF m 201 #[.val (.int p1), .val (.int p2), .val (.int p3), .val (.int 1), .val (.int hp173), .val (.int hc175), .val (.int v176), .val (.ref b177), .val (.ref b185), .val (.ref b235), .val (.ref b260), .val (.ref o267), .val (.ref b268), .val (.ref b274), .val (.int 1)] [(.ref b274)])) rfl (by rw [hml]; rfl) (Steps.refl _) (argsL := []) (rest := []) (lenOf pd_8 rfl) rfl (by show 2 * 0 + _ ≤ _; exact Nat.le_of_eq rfl) (hb hby at_201) (fun _ _ => ⟨rfl, hh282, Nat.le_of_ble_eq_true rfl, Nat.le_of_ble_eq_true rfl⟩)
            dsimp only [Pt.U, Pt.locs, Pt.cells, Pt.slots] at X283 l283 y283 z283 st283 hQ283
            subst l283 y283 z283
            obtain ⟨rfl, Nq283, hh283⟩ := hQ283
            have N283 := Fr.app N282 Nq283
            refine Go.by (B := (T283.setTop (mkF m 204 #[.val (.int p1), .val (.int p2), .val (.int p3), .val (.int 1), .val (.int hp173), .val (.int hc175), .val (.int v176), .val (.ref b177), .val (.ref b185), .val (.ref b235), .val (.ref b260), .val (.ref o267), .val (.ref b268), .val (.ref b274), .val (.int 1)] [(.int 1)]))) (fun _ k => st283.trans k) ?_
            refine Go.by (B := (T283.setTop (mkF m 213 #[.val (.int p1), .val (.int p2), .val (.int p3), .val (.int 1), .val (.int hp173), .val (.int hc175), .val (.int v176), .val (.ref b177), .val (.ref b185), .val (.ref b235), .val (.ref b260), .val (.ref o267), .val (.ref b268), .val (.ref b274), .val (.int 1)] [(.int 1)]))) (fun _ k => XS.iloadN X283.here hx rfl (hb hby at_204) rfl (XS.icmpNo X283.here hx rfl (hb hby at_205) rfl (teq (by decide : (1 : Int32) = (1 : Int32))).2 (XS.iconst X283.here hx rfl (hb hby at_208) (XS.goto X283.here hx rfl (pc0 := 209) (pc' := 213) rfl (hb hby at_209) (by decide) (by decide) k)))) ?_
            refine Go.ret X283 hx hlk (t := .boolean) hret rfl (Or.inl ⟨rfl, by simp, _, rfl⟩) (hb hby at_213) (by decide) (by decide) ?_
            exact ⟨rfl, N283⟩
      refine Go.by (B := (T173.setTop (mkF m 28 #[.val (.int p1), .val (.int p2), .val (.int p3), .val (.int 1), .val (.int hp173), .unset, .unset, .unset, .unset, .unset, .unset, .unset, .unset, .unset, .unset] [(.int (p1 &&& (4 : Int32)))]))) (fun _ k => XS.iloadN X174.here hx rfl (hb hby at_25) rfl (XS.iconst X174.here hx rfl (hb hby at_26) (XS.iand X174.here hx rfl (hb hby at_27) rfl k))) ?_
      by_cases c284 : (p1 &&& (4 : Int32)) = (0 : Int32)
      · skip
        refine Go.by (B := (T173.setTop (mkF m 36 #[.val (.int p1), .val (.int p2), .val (.int p3), .val (.int 1), .val (.int hp173), .unset, .unset, .unset, .unset, .unset, .unset, .unset, .unset, .unset, .unset] [(.int 0)]))) (fun _ k => XS.ifYes X174.here hx rfl (pc0 := 28) (pc' := 35) rfl (hb hby at_28) rfl ((if0 _ _).trans (teq c284).1) (by decide) (by decide) (XS.iconst X174.here hx rfl (hb hby at_35) k)) ?_
        exact J174 T173 X174 e174 (0 : Int32)
      · skip
        refine Go.by (B := (T173.setTop (mkF m 36 #[.val (.int p1), .val (.int p2), .val (.int p3), .val (.int 1), .val (.int hp173), .unset, .unset, .unset, .unset, .unset, .unset, .unset, .unset, .unset, .unset] [(.int 1)]))) (fun _ k => XS.ifNo X174.here hx rfl (hb hby at_28) rfl ((if0 _ _).trans (feq c284).1) (XS.iconst X174.here hx rfl (hb hby at_31) (XS.goto X174.here hx rfl (pc0 := 32) (pc' := 36) rfl (hb hby at_32) (by decide) (by decide) k))) ?_
        exact J174 T173 X174 e174 (1 : Int32)
    refine Go.by (B := (s₁.setTop (mkF m 15 #[.val (.int p1), .val (.int p2), .val (.int p3), .val (.int 1), .unset, .unset, .unset, .unset, .unset, .unset, .unset, .unset, .unset, .unset, .unset] [(.int (p1 &&& (2 : Int32)))]))) (fun _ k => XS.iloadN X172.here hx rfl (hb hby at_12) rfl (XS.iconst X172.here hx rfl (hb hby at_13) (XS.iand X172.here hx rfl (hb hby at_14) rfl k))) ?_
    by_cases c285 : (p1 &&& (2 : Int32)) = (0 : Int32)
    · skip
      refine Go.by (B := (s₁.setTop (mkF m 23 #[.val (.int p1), .val (.int p2), .val (.int p3), .val (.int 1), .unset, .unset, .unset, .unset, .unset, .unset, .unset, .unset, .unset, .unset, .unset] [(.int 0)]))) (fun _ k => XS.ifYes X172.here hx rfl (pc0 := 15) (pc' := 22) rfl (hb hby at_15) rfl ((if0 _ _).trans (teq c285).1) (by decide) (by decide) (XS.iconst X172.here hx rfl (hb hby at_22) k)) ?_
      exact J172 s₁ X172 e172 (0 : Int32)
    · skip
      refine Go.by (B := (s₁.setTop (mkF m 23 #[.val (.int p1), .val (.int p2), .val (.int p3), .val (.int 1), .unset, .unset, .unset, .unset, .unset, .unset, .unset, .unset, .unset, .unset, .unset] [(.int 1)]))) (fun _ k => XS.ifNo X172.here hx rfl (hb hby at_15) rfl ((if0 _ _).trans (feq c285).1) (XS.iconst X172.here hx rfl (hb hby at_18) (XS.goto X172.here hx rfl (pc0 := 19) (pc' := 23) rfl (hb hby at_19) (by decide) (by decide) k))) ?_
      exact J172 s₁ X172 e172 (1 : Int32)
set_option maxRecDepth 65536 in
set_option maxHeartbeats 40000000 in
theorem comes_1 {Post : Tables → Env → Array Value → State → Outcome → State → Prop} (hpost : ∀ tb e args s v u, (limb_1_1.after args s (.returned v) u = true ∧ limb_1_2.after args s (.returned v) u = true ∧ True) → FrameEnd s (.returned v) u (Jvm.fieldLocs frame_1_writes args s ++ Jvm.arrayLocs frame_1_arrays args s ++ Jvm.staticLocs frame_1_statics s) 32 128 → Post tb e args s (.returned v) u) :
    ArmFor flags0 classFile x code maxLocals ret World_1 tables_1 room_1 Calls_1 rest_1 Pre_1 Post := by
  intro l hfl _ _ p e ha hc hk s m args below hf hA hF happ hP
  obtain ⟨hcalls, hrest, hpre⟩ := hP
  obtain ⟨-, -, -, hnamed, -, -, -, hat⟩ := (Spec.applies_iff hf).mp happ
  obtain ⟨hg, hn⟩ := and_e (Cond.before_iff.mp (show (Jvm.Cond.and given_1 narrow_1).before args s = true from hpre))
  obtain ⟨hg0, hgr0⟩ := and_e hg
  obtain ⟨ga0, hgr1⟩ := and_e hgr0
  obtain ⟨ga1, hgr2⟩ := and_e hgr1
  obtain ⟨w0, w1, w2, rfl⟩ : ∃ w0 w1 w2 : Value, args = #[w0, w1, w2] := by
    have hs : args.size = 3 := by simpa [Cond.value, given_1] using hg0
    obtain ⟨L⟩ := args
    match L, hs with
    | [w0, w1, w2], _ => exact ⟨w0, w1, w2, rfl⟩
  have hw := fun d (hd : d ∈ tables_1) => atoms_spec (ws := Jvm.Cond.code x code maxLocals ret :: tables_1) hat d (List.mem_cons_of_mem _ hd)
  have hfit : Fit s := fun {y c} hc i hi => by
    obtain ⟨ha, rfl⟩ := Array.getElem?_eq_some_iff.mp hc
    have q := List.all_eq_true.mp ((Array.all_eq_true_iff_forall_mem.mp hF) _ (Array.getElem_mem ha)) i (List.mem_range.mpr hi)
    simpa [Array.getElem?_eq_getElem hi] using q
  obtain ⟨hsets, hown0⟩ := atoms_of _ (rest_1_c_eq ▸ (show rest_1_c.before _ s = true from hrest))
  have hr0 := Cond.before_iff.mp hown0
  obtain ⟨i0, ei0⟩ := is_v ga0
  obtain rfl : w0 = (.int i0) := Option.some.inj ei0
  obtain ⟨i1, ei1⟩ := is_v ga1
  obtain rfl : w1 = (.int i1) := Option.some.inj ei1
  obtain ⟨i2, ei2⟩ := is_v hgr2
  obtain rfl : w2 = (.int i2) := Option.some.inj ei2
  obtain ⟨hn286, hn287⟩ := and_e hn
  obtain ⟨hn288, hn289⟩ := and_e hn287
  obtain ⟨hn290, hn291⟩ := and_e hn289
  obtain ⟨w_SUCCEEDED, ev_w_SUCCEEDED⟩ := exa_v hn286
  have S_w_SUCCEEDED : Sta s s.heap "com/example/pland/pland/payment/ChargeResult$Status" "SUCCEEDED" "Lcom/example/pland/pland/payment/ChargeResult$Status;" (.ref w_SUCCEEDED) := Sta.start ev_w_SUCCEEDED (Or.inr ⟨(wd hw 6 rfl), (wd hw 7 rfl)⟩)
  have E_w_SUCCEEDED := Exa.start ev_w_SUCCEEDED hn286
  obtain ⟨w_DECLINED, ev_w_DECLINED⟩ := exa_v hn288
  have S_w_DECLINED : Sta s s.heap "com/example/pland/pland/payment/ChargeResult$Status" "DECLINED" "Lcom/example/pland/pland/payment/ChargeResult$Status;" (.ref w_DECLINED) := Sta.start ev_w_DECLINED (Or.inr ⟨(wd hw 6 rfl), (wd hw 75 rfl)⟩)
  have E_w_DECLINED := Exa.start ev_w_DECLINED hn288
  obtain ⟨w_REQUIRES_AUTHENTICATION, ev_w_REQUIRES_AUTHENTICATION⟩ := exa_v hn290
  have S_w_REQUIRES_AUTHENTICATION : Sta s s.heap "com/example/pland/pland/payment/ChargeResult$Status" "REQUIRES_AUTHENTICATION" "Lcom/example/pland/pland/payment/ChargeResult$Status;" (.ref w_REQUIRES_AUTHENTICATION) := Sta.start ev_w_REQUIRES_AUTHENTICATION (Or.inr ⟨(wd hw 6 rfl), (wd hw 77 rfl)⟩)
  have E_w_REQUIRES_AUTHENTICATION := Exa.start ev_w_REQUIRES_AUTHENTICATION hn290
  obtain ⟨w_FAILED, ev_w_FAILED⟩ := exa_v hn291
  have S_w_FAILED : Sta s s.heap "com/example/pland/pland/payment/ChargeResult$Status" "FAILED" "Lcom/example/pland/pland/payment/ChargeResult$Status;" (.ref w_FAILED) := Sta.start ev_w_FAILED (Or.inr ⟨(wd hw 6 rfl), (wd hw 79 rfl)⟩)
  have E_w_FAILED := Exa.start ev_w_FAILED hn291
  have ncs := not_v (Cond.before_iff.mp (hsets _ (List.mem_of_getElem? (i := 2) rfl)))
  obtain ⟨cs, ecs⟩ := is_v (Cond.before_iff.mp (hsets _ (List.mem_of_getElem? (i := 1) rfl)))
  have Scs : Sta s s.heap "java/lang/String" "COMPACT_STRINGS" "Z" (.int cs) := Sta.start ecs (Or.inl (hsets _ (List.mem_of_getElem? (i := 0) rfl)))
  have hcs : ¬ (cs = (0 : Int32)) := gotF (Cond.eq_ints ecs (Term.int_eval (0))) ncs
  obtain ⟨n, o, h1, h2, h3, _, L, rfl, ⟨rfl, N⟩, hq⟩ := rm0 l s _ hw tables_1 i0 i1 i2 cs w_SUCCEEDED w_DECLINED w_REQUIRES_AUTHENTICATION w_FAILED s.heap s.heap.size (Nat.le_refl _) (Old.start s) Scs hcs S_w_SUCCEEDED S_w_DECLINED S_w_REQUIRES_AUTHENTICATION S_w_FAILED p e ha hc hk s m _ below hf ((Spec.applies_iff_loose hf).mp happ).1 ⟨rfl, State.Warmed39.refl s, rfl⟩ trivial
  refine ⟨n, _, h1, h2, h3, hpost _ _ _ _ _ _ ⟨Cond.after_iff.mpr rfl, Cond.after_iff.mpr (eq_i res_at (Term.int_eval (1)) rfl), trivial⟩ ⟨hq.1, hq.2.1, (hq.2.2.sift fun y hy => Or.inr (N y hy)).mono (by decide) (by decide)⟩⟩
theorem main_1_1 : Claimed_1_1 := comes_1 fun _ _ _ _ _ _ h hF => ⟨h.1, hF⟩
theorem main_1_2 : Claimed_1_2 := comes_1 fun _ _ _ _ _ _ h hF => ⟨h.2.1, hF⟩
end Jvm.Pilot.@@N@@
namespace Jvm.Pilot.@@N@@
open Jvm Jvm.ClassFile Sem Op Lib Jvm.Free Jvm.Stand Jvm.Pilot.@@N@@.Jvm.D
/-! MADE BY PROGRAM (witnessworld.py) out of the Statement's table words and the real class files: 24 classes; the members and pool entries that the words name. The judged class is class 1, her method 1. -/
namespace start1
open Jvm.ClassFile
def u (s : String) : CpInfo := .utf8 (stringToUtf16 s)
/-- a pool by its gaps: so many unusable entries, then the entry; so many at the end -/
def gap : Nat → List CpInfo → List CpInfo
  | 0, r => r
  | n + 1, r => .unusable :: gap n r
def poolList (es : List (Nat × CpInfo)) (last : Nat) : List CpInfo := es.foldr (fun e r => gap e.1 (e.2 :: r)) (gap last [])
def pool (es : List (Nat × CpInfo)) (last : Nat) : Array CpInfo := ⟨poolList es last⟩
def fileOf (pool : Array CpInfo) (this : Nat) (attrs : Array Attribute := #[]) (ms : Array MethodInfo := #[]) (fl : Nat := 33) (sup : Nat := 0) (ifs : Array Nat := #[]) (fds : Array FieldInfo := #[]) : ClassFile where
  minorVersion := 0
  majorVersion := 65
  constantPool := pool
  accessFlags := fl
  thisClass := this
  superClass := sup
  interfaces := ifs
  fields := fds
  methods := ms
  attributes := attrs
def plain (name : String) (sup : Option ClassId) : Class where
  name := name
  kind := .ordinary
  loader := none
  accessFlags := 33
  super := sup
  interfaces := #[]
  cf := none
  fields := #[]
  methods := #[]
  instanceTypes := #[]
  staticTypes := #[]
  resolved := #[]
  callSites := []
  init := .initialized
  statics := none
  mirror := none

def pool0 : Array CpInfo := pool [(5, u "<init>"), (0, u "()V"), (1, .class_ 10), (1, u "java/lang/Object")] 113

def k0c0 : Code := { maxStack := 0, maxLocals := 1, code := object_method_1_code, exceptionTable := #[], attributes := #[] }
def k0m0 : Method := { name := "<init>", desc := "()V", sig := { parameters := [], returnType := none }, accessFlags := 1, code := some k0c0 }
/-- java/lang/Object -/
def k0 : Class := { plain "java/lang/Object" none with
  accessFlags := 33
  interfaces := #[]
  cf := some (fileOf pool0 8 #[] #[{ accessFlags := 1, nameIndex := 5, descriptorIndex := 6, attributes := #[] }] 33 0 #[] #[])
  fields := #[]
  methods := #[k0m0]
  instanceTypes := #[]
  staticTypes := #[]
  resolved := Array.replicate 124 none
  statics := none }

def pool1 : Array CpInfo := pool [(2, .class_ 4), (1, u "java/lang/Object"), (0, u "<init>"), (0, u "()V"), (0, .class_ 8), (0, u "java/lang/String"), (0, .methodref 7 10), (0, .nameAndType 5 11), (0, u "([C)V"), (0, .methodref 13 14), (0, .class_ 15), (0, .nameAndType 16 17), (0, u "com/example/pland/pland/billing/ChargeMadePinLaw"), (0, u "status"), (0, u "(I)Lcom/example/pland/pland/payment/ChargeResult$Status;"), (0, .class_ 19), (0, u "com/example/pland/pland/payment/ChargeResult"), (0, .methodref 18 21), (0, .nameAndType 5 22), (0, u "(Lcom/example/pland/pland/payment/ChargeResult$Status;Ljava/lang/String;)V"), (0, .class_ 24), (0, u "com/example/pland/pland/billing/Charge"), (0, .methodref 23 26), (0, .nameAndType 5 27), (0, u "(Ljava/lang/String;Lcom/example/pland/pland/payment/ChargeResult;)V"), (0, .methodref 23 29), (0, .nameAndType 30 31), (0, u "none"), (0, u "()Lcom/example/pland/pland/billing/Charge;"), (0, .methodref 23 33), (0, .nameAndType 34 35), (0, u "made"), (0, u "()Z"), (0, .fieldref 37 38), (0, .class_ 39), (0, .nameAndType 40 41), (0, u "com/example/pland/pland/payment/ChargeResult$Status"), (0, u "SUCCEEDED"), (0, u "Lcom/example/pland/pland/payment/ChargeResult$Status;"), (0, .fieldref 37 43), (0, .nameAndType 44 41), (0, u "DECLINED"), (0, .fieldref 37 46), (0, .nameAndType 47 41), (0, u "REQUIRES_AUTHENTICATION"), (0, .fieldref 37 49), (0, .nameAndType 50 41), (0, u "FAILED"), (2, u "law"), (0, u "(III)Z")] 7

def k1m0 : Method := { name := "<init>", desc := "()V", sig := { parameters := [], returnType := none }, accessFlags := 1, code := none }
def k1c1 : Code := { maxStack := 5, maxLocals := 15, code := code, exceptionTable := #[], attributes := #[] }
def k1m1 : Method := { name := "law", desc := "(III)Z", sig := { parameters := [.int, .int, .int], returnType := some .boolean }, accessFlags := 9, code := some k1c1 }
def k1c2 : Code := { maxStack := 2, maxLocals := 1, code := method_3_code, exceptionTable := #[], attributes := #[] }
def k1m2 : Method := { name := "status", desc := "(I)Lcom/example/pland/pland/payment/ChargeResult$Status;", sig := { parameters := [.int], returnType := some (.object "com/example/pland/pland/payment/ChargeResult$Status") }, accessFlags := 10, code := some k1c2 }
/-- com/example/pland/pland/billing/ChargeMadePinLaw -/
def k1 : Class := { plain "com/example/pland/pland/billing/ChargeMadePinLaw" (some 0) with
  accessFlags := 49
  interfaces := #[]
  cf := some (fileOf pool1 13 #[] #[{ accessFlags := 1, nameIndex := 5, descriptorIndex := 6, attributes := #[] }, { accessFlags := 9, nameIndex := 53, descriptorIndex := 54, attributes := #[] }, { accessFlags := 10, nameIndex := 16, descriptorIndex := 17, attributes := #[] }] 49 2 #[] #[])
  fields := #[]
  methods := #[k1m0, k1m1, k1m2]
  instanceTypes := #[]
  staticTypes := #[]
  resolved := Array.replicate 62 none
  statics := none }

def pool2 : Array CpInfo := pool [(1, .class_ 2), (0, u "java/lang/constant/Constable"), (0, .class_ 4), (0, u "java/lang/Object")] 6

/-- java/lang/constant/Constable -/
def k2 : Class := { plain "java/lang/constant/Constable" (some 0) with
  accessFlags := 1537
  interfaces := #[]
  cf := some (fileOf pool2 1 #[] #[] 1537 3 #[] #[])
  fields := #[]
  methods := #[]
  instanceTypes := #[]
  staticTypes := #[]
  resolved := Array.replicate 11 none
  statics := none }

def pool3 : Array CpInfo := pool [(1, .class_ 2), (0, u "java/lang/Comparable"), (0, .class_ 4), (0, u "java/lang/Object")] 7

/-- java/lang/Comparable -/
def k3 : Class := { plain "java/lang/Comparable" (some 0) with
  accessFlags := 1537
  interfaces := #[]
  cf := some (fileOf pool3 1 #[] #[] 1537 3 #[] #[])
  fields := #[]
  methods := #[]
  instanceTypes := #[]
  staticTypes := #[]
  resolved := Array.replicate 12 none
  statics := none }

def pool4 : Array CpInfo := pool [(1, .class_ 2), (0, u "java/io/Serializable"), (0, .class_ 4), (0, u "java/lang/Object")] 2

/-- java/io/Serializable -/
def k4 : Class := { plain "java/io/Serializable" (some 0) with
  accessFlags := 1537
  interfaces := #[]
  cf := some (fileOf pool4 1 #[] #[] 1537 3 #[] #[])
  fields := #[]
  methods := #[]
  instanceTypes := #[]
  staticTypes := #[]
  resolved := Array.replicate 7 none
  statics := none }

def pool5 : Array CpInfo := pool [(2, .class_ 4), (1, u "java/lang/Enum"), (0, u "name"), (0, u "Ljava/lang/String;"), (2, u "ordinal"), (0, u "I"), (1, .class_ 14), (1, u "java/lang/Object"), (4, u "hash"), (86, .class_ 108), (1, u "java/lang/Enum$EnumDesc"), (2, .class_ 112), (0, u "java/lang/constant/Constable"), (0, .class_ 114), (0, u "java/lang/Comparable"), (0, .class_ 116), (0, u "java/io/Serializable")] 87

/-- java/lang/Enum -/
def k5 : Class := { plain "java/lang/Enum" (some 0) with
  accessFlags := 1057
  interfaces := #[2, 3, 4]
  cf := some (fileOf pool5 2 #[.nestMembers #[106]] #[] 1057 12 #[111, 113, 115] #[{ accessFlags := 18, nameIndex := 5, descriptorIndex := 6, attributes := #[] }, { accessFlags := 18, nameIndex := 9, descriptorIndex := 10, attributes := #[] }, { accessFlags := 2, nameIndex := 19, descriptorIndex := 10, attributes := #[] }])
  fields := #[{ name := "name", type := (.object "java/lang/String"), accessFlags := 18, slot := 0, constantValue := 0 }, { name := "ordinal", type := .int, accessFlags := 18, slot := 1, constantValue := 0 }, { name := "hash", type := .int, accessFlags := 2, slot := 2, constantValue := 0 }]
  methods := #[]
  instanceTypes := #[(.object "java/lang/String"), .int, .int]
  staticTypes := #[]
  resolved := Array.replicate 204 none
  statics := none }

def pool6 : Array CpInfo := pool [(1, .class_ 2), (0, u "com/example/pland/pland/payment/ChargeResult$Status"), (2, u "SUCCEEDED"), (0, u "Lcom/example/pland/pland/payment/ChargeResult$Status;"), (2, u "DECLINED"), (2, u "REQUIRES_AUTHENTICATION"), (2, u "FAILED"), (2, u "$VALUES"), (0, u "[Lcom/example/pland/pland/payment/ChargeResult$Status;"), (6, .class_ 28), (1, u "java/lang/Enum"), (27, .class_ 57), (0, u "com/example/pland/pland/payment/ChargeResult")] 2

/-- com/example/pland/pland/payment/ChargeResult$Status -/
def k6 : Class := { plain "com/example/pland/pland/payment/ChargeResult$Status" (some 5) with
  accessFlags := 16433
  interfaces := #[]
  cf := some (fileOf pool6 1 #[.nestHost 56] #[] 16433 26 #[] #[{ accessFlags := 16409, nameIndex := 5, descriptorIndex := 6, attributes := #[] }, { accessFlags := 16409, nameIndex := 9, descriptorIndex := 6, attributes := #[] }, { accessFlags := 16409, nameIndex := 12, descriptorIndex := 6, attributes := #[] }, { accessFlags := 16409, nameIndex := 15, descriptorIndex := 6, attributes := #[] }, { accessFlags := 4122, nameIndex := 18, descriptorIndex := 19, attributes := #[] }])
  fields := #[{ name := "SUCCEEDED", type := (.object "com/example/pland/pland/payment/ChargeResult$Status"), accessFlags := 16409, slot := 0, constantValue := 0 }, { name := "DECLINED", type := (.object "com/example/pland/pland/payment/ChargeResult$Status"), accessFlags := 16409, slot := 1, constantValue := 0 }, { name := "REQUIRES_AUTHENTICATION", type := (.object "com/example/pland/pland/payment/ChargeResult$Status"), accessFlags := 16409, slot := 2, constantValue := 0 }, { name := "FAILED", type := (.object "com/example/pland/pland/payment/ChargeResult$Status"), accessFlags := 16409, slot := 3, constantValue := 0 }, { name := "$VALUES", type := (.array (.object "com/example/pland/pland/payment/ChargeResult$Status")), accessFlags := 4122, slot := 4, constantValue := 0 }]
  methods := #[]
  instanceTypes := #[(.object "java/lang/String"), .int, .int]
  staticTypes := #[(.object "com/example/pland/pland/payment/ChargeResult$Status"), (.object "com/example/pland/pland/payment/ChargeResult$Status"), (.object "com/example/pland/pland/payment/ChargeResult$Status"), (.object "com/example/pland/pland/payment/ChargeResult$Status"), (.array (.object "com/example/pland/pland/payment/ChargeResult$Status"))]
  resolved := Array.replicate 60 none
  statics := some 0 }

def pool7 : Array CpInfo := pool [(1, .methodref 2 3), (0, .class_ 4), (0, .nameAndType 5 6), (0, u "java/lang/Object"), (0, u "<init>"), (0, u "()V"), (0, .class_ 8), (0, u "java/lang/Record")] 13

def k7c0 : Code := { maxStack := 1, maxLocals := 1, code := jdk_30_method_1_code, exceptionTable := #[], attributes := #[] }
def k7m0 : Method := { name := "<init>", desc := "()V", sig := { parameters := [], returnType := none }, accessFlags := 4, code := some k7c0 }
/-- java/lang/Record -/
def k7 : Class := { plain "java/lang/Record" (some 0) with
  accessFlags := 1057
  interfaces := #[]
  cf := some (fileOf pool7 7 #[] #[{ accessFlags := 4, nameIndex := 5, descriptorIndex := 6, attributes := #[] }] 1057 2 #[] #[])
  fields := #[]
  methods := #[k7m0]
  instanceTypes := #[]
  staticTypes := #[]
  resolved := Array.replicate 22 none
  statics := none }

def pool8 : Array CpInfo := pool [(1, .methodref 2 3), (0, .class_ 4), (0, .nameAndType 5 6), (0, u "java/lang/Record"), (0, u "<init>"), (0, u "()V"), (0, .fieldref 8 9), (0, .class_ 10), (0, .nameAndType 11 12), (0, u "com/example/pland/pland/billing/Charge"), (0, u "paymentMethod"), (0, u "Ljava/lang/String;"), (0, .fieldref 8 14), (0, .nameAndType 15 16), (0, u "result"), (0, u "Lcom/example/pland/pland/payment/ChargeResult;"), (0, .methodref 8 18), (0, .nameAndType 5 19), (0, u "(Ljava/lang/String;Lcom/example/pland/pland/payment/ChargeResult;)V"), (2, u "made"), (0, u "()Z"), (30, u "PAYMENT_METHOD_REQUIRED"), (4, u "none"), (0, u "()Lcom/example/pland/pland/billing/Charge;")] 28

def k8c0 : Code := { maxStack := 2, maxLocals := 3, code := prog_6_method_1_code, exceptionTable := #[], attributes := #[] }
def k8m0 : Method := { name := "<init>", desc := "(Ljava/lang/String;Lcom/example/pland/pland/payment/ChargeResult;)V", sig := { parameters := [(.object "java/lang/String"), (.object "com/example/pland/pland/payment/ChargeResult")], returnType := none }, accessFlags := 0, code := some k8c0 }
def k8c1 : Code := { maxStack := 4, maxLocals := 0, code := prog_6_method_2_code, exceptionTable := #[], attributes := #[] }
def k8m1 : Method := { name := "none", desc := "()Lcom/example/pland/pland/billing/Charge;", sig := { parameters := [], returnType := some (.object "com/example/pland/pland/billing/Charge") }, accessFlags := 8, code := some k8c1 }
def k8c2 : Code := { maxStack := 1, maxLocals := 1, code := prog_6_method_3_code, exceptionTable := #[], attributes := #[] }
def k8m2 : Method := { name := "made", desc := "()Z", sig := { parameters := [], returnType := some .boolean }, accessFlags := 0, code := some k8c2 }
/-- com/example/pland/pland/billing/Charge -/
def k8 : Class := { plain "com/example/pland/pland/billing/Charge" (some 7) with
  accessFlags := 48
  interfaces := #[]
  cf := some (fileOf pool8 8 #[] #[{ accessFlags := 0, nameIndex := 5, descriptorIndex := 19, attributes := #[] }, { accessFlags := 8, nameIndex := 59, descriptorIndex := 60, attributes := #[] }, { accessFlags := 0, nameIndex := 22, descriptorIndex := 23, attributes := #[] }] 48 2 #[] #[{ accessFlags := 18, nameIndex := 11, descriptorIndex := 12, attributes := #[] }, { accessFlags := 18, nameIndex := 15, descriptorIndex := 16, attributes := #[] }, { accessFlags := 24, nameIndex := 54, descriptorIndex := 12, attributes := #[] }])
  fields := #[{ name := "paymentMethod", type := (.object "java/lang/String"), accessFlags := 18, slot := 0, constantValue := 0 }, { name := "result", type := (.object "com/example/pland/pland/payment/ChargeResult"), accessFlags := 18, slot := 1, constantValue := 0 }, { name := "PAYMENT_METHOD_REQUIRED", type := (.object "java/lang/String"), accessFlags := 24, slot := 0, constantValue := 0 }]
  methods := #[k8m0, k8m1, k8m2]
  instanceTypes := #[(.object "java/lang/String"), (.object "com/example/pland/pland/payment/ChargeResult")]
  staticTypes := #[(.object "java/lang/String")]
  resolved := Array.replicate 89 none
  statics := none }

def pool9 : Array CpInfo := pool [(1, .methodref 2 3), (0, .class_ 4), (0, .nameAndType 5 6), (0, u "java/lang/Record"), (0, u "<init>"), (0, u "()V"), (0, .fieldref 8 9), (0, .class_ 10), (0, .nameAndType 11 12), (0, u "com/example/pland/pland/payment/ChargeResult"), (0, u "status"), (0, u "Lcom/example/pland/pland/payment/ChargeResult$Status;"), (0, .fieldref 8 14), (0, .nameAndType 15 16), (0, u "declineCode"), (0, u "Ljava/lang/String;"), (12, u "(Lcom/example/pland/pland/payment/ChargeResult$Status;Ljava/lang/String;)V"), (10, .class_ 41), (0, u "com/example/pland/pland/payment/ChargeResult$Status")] 20

def k9c0 : Code := { maxStack := 2, maxLocals := 3, code := prog_37_method_1_code, exceptionTable := #[], attributes := #[] }
def k9m0 : Method := { name := "<init>", desc := "(Lcom/example/pland/pland/payment/ChargeResult$Status;Ljava/lang/String;)V", sig := { parameters := [(.object "com/example/pland/pland/payment/ChargeResult$Status"), (.object "java/lang/String")], returnType := none }, accessFlags := 1, code := some k9c0 }
/-- com/example/pland/pland/payment/ChargeResult -/
def k9 : Class := { plain "com/example/pland/pland/payment/ChargeResult" (some 7) with
  accessFlags := 49
  interfaces := #[]
  cf := some (fileOf pool9 8 #[.nestMembers #[40]] #[{ accessFlags := 1, nameIndex := 5, descriptorIndex := 29, attributes := #[] }] 49 2 #[] #[{ accessFlags := 18, nameIndex := 11, descriptorIndex := 12, attributes := #[] }, { accessFlags := 18, nameIndex := 15, descriptorIndex := 16, attributes := #[] }])
  fields := #[{ name := "status", type := (.object "com/example/pland/pland/payment/ChargeResult$Status"), accessFlags := 18, slot := 0, constantValue := 0 }, { name := "declineCode", type := (.object "java/lang/String"), accessFlags := 18, slot := 1, constantValue := 0 }]
  methods := #[k9m0]
  instanceTypes := #[(.object "com/example/pland/pland/payment/ChargeResult$Status"), (.object "java/lang/String")]
  staticTypes := #[]
  resolved := Array.replicate 62 none
  statics := none }

def pool10 : Array CpInfo := pool [(2, .class_ 4), (1, u "java/lang/CharSequence"), (42, .class_ 48), (0, u "java/lang/CharSequence$1CodePointIterator"), (10, .class_ 60), (0, u "java/lang/CharSequence$1CharIterator"), (5, .class_ 67), (0, u "java/lang/Object")] 63

/-- java/lang/CharSequence -/
def k10 : Class := { plain "java/lang/CharSequence" (some 0) with
  accessFlags := 1537
  interfaces := #[]
  cf := some (fileOf pool10 2 #[.nestMembers #[47, 59]] #[] 1537 66 #[] #[])
  fields := #[]
  methods := #[]
  instanceTypes := #[]
  staticTypes := #[]
  resolved := Array.replicate 131 none
  statics := none }

def pool11 : Array CpInfo := pool [(1, .class_ 2), (0, u "java/lang/constant/ConstantDesc"), (0, .class_ 4), (0, u "java/lang/Object")] 32

/-- java/lang/constant/ConstantDesc -/
def k11 : Class := { plain "java/lang/constant/ConstantDesc" (some 0) with
  accessFlags := 1537
  interfaces := #[]
  cf := some (fileOf pool11 1 #[] #[] 1537 3 #[] #[])
  fields := #[]
  methods := #[]
  instanceTypes := #[]
  staticTypes := #[]
  resolved := Array.replicate 37 none
  statics := none }

def pool12 : Array CpInfo := pool [(1, .methodref 2 3), (0, .class_ 4), (0, .nameAndType 5 6), (0, u "java/lang/Object"), (0, u "<init>"), (0, u "()V"), (2, .fieldref 10 11), (0, .class_ 12), (0, .nameAndType 13 14), (0, u "java/lang/String"), (0, u "value"), (0, u "[B"), (0, .fieldref 10 16), (0, .nameAndType 17 18), (0, u "coder"), (0, u "B"), (2, u "hash"), (0, u "I"), (2, u "hashIsZero"), (0, u "Z"), (0, .methodref 10 28), (0, .nameAndType 5 29), (0, u "([CIILjava/lang/Void;)V"), (8, .fieldref 10 39), (0, .nameAndType 40 26), (0, u "COMPACT_STRINGS"), (1, .class_ 44), (1, u "java/lang/StringUTF16"), (0, u "compress"), (1, .methodref 42 48), (0, .nameAndType 49 50), (0, u "coderFromArrayLen"), (0, u "([BI)B"), (126, .methodref 42 178), (0, .nameAndType 45 179), (0, u "([CII)[B"), (395, .class_ 576), (0, u "java/lang/CharSequence"), (22, u "CASE_INSENSITIVE_ORDER"), (0, u "Ljava/util/Comparator;"), (409, u "([C)V"), (90, u "serialPersistentFields"), (0, u "[Ljava/io/ObjectStreamField;"), (0, .class_ 1104), (0, u "java/lang/String$CaseInsensitiveComparator"), (1, .class_ 1107), (0, u "java/io/Serializable"), (0, .class_ 1109), (0, u "java/lang/Comparable"), (0, .class_ 1111), (0, u "java/lang/constant/Constable"), (0, .class_ 1113), (0, u "java/lang/constant/ConstantDesc"), (2, u "serialVersionUID"), (0, u "J"), (3, u "REPL"), (0, u "C"), (2, u "LATIN1"), (1, u "UTF16")] 323

def k12m0 : Method := { name := "<init>", desc := "()V", sig := { parameters := [], returnType := none }, accessFlags := 1, code := none }
def k12c1 : Code := { maxStack := 5, maxLocals := 2, code := jdk_42_method_3_code, exceptionTable := #[], attributes := #[] }
def k12m1 : Method := { name := "<init>", desc := "([C)V", sig := { parameters := [(.array .char)], returnType := none }, accessFlags := 1, code := some k12c1 }
def k12c2 : Code := { maxStack := 4, maxLocals := 6, code := jdk_42_method_149_code, exceptionTable := #[], attributes := #[] }
def k12m2 : Method := { name := "<init>", desc := "([CIILjava/lang/Void;)V", sig := { parameters := [(.array .char), .int, .int, (.object "java/lang/Void")], returnType := none }, accessFlags := 2, code := some k12c2 }
/-- java/lang/String -/
def k12 : Class := { plain "java/lang/String" (some 0) with
  accessFlags := 49
  interfaces := #[4, 3, 10, 2, 11]
  cf := some (fileOf pool12 10 #[.nestMembers #[1103]] #[{ accessFlags := 1, nameIndex := 5, descriptorIndex := 6, attributes := #[] }, { accessFlags := 1, nameIndex := 5, descriptorIndex := 1010, attributes := #[] }, { accessFlags := 2, nameIndex := 5, descriptorIndex := 29, attributes := #[] }] 49 2 #[1106, 1108, 575, 1110, 1112] #[{ accessFlags := 18, nameIndex := 13, descriptorIndex := 14, attributes := #[] }, { accessFlags := 18, nameIndex := 17, descriptorIndex := 18, attributes := #[] }, { accessFlags := 2, nameIndex := 21, descriptorIndex := 22, attributes := #[] }, { accessFlags := 2, nameIndex := 25, descriptorIndex := 26, attributes := #[] }, { accessFlags := 26, nameIndex := 1116, descriptorIndex := 1117, attributes := #[] }, { accessFlags := 24, nameIndex := 40, descriptorIndex := 26, attributes := #[] }, { accessFlags := 26, nameIndex := 1101, descriptorIndex := 1102, attributes := #[] }, { accessFlags := 26, nameIndex := 1121, descriptorIndex := 1122, attributes := #[] }, { accessFlags := 25, nameIndex := 599, descriptorIndex := 600, attributes := #[] }, { accessFlags := 24, nameIndex := 1125, descriptorIndex := 18, attributes := #[] }, { accessFlags := 24, nameIndex := 1127, descriptorIndex := 18, attributes := #[] }])
  fields := #[{ name := "value", type := (.array .byte), accessFlags := 18, slot := 0, constantValue := 0 }, { name := "coder", type := .byte, accessFlags := 18, slot := 1, constantValue := 0 }, { name := "hash", type := .int, accessFlags := 2, slot := 2, constantValue := 0 }, { name := "hashIsZero", type := .boolean, accessFlags := 2, slot := 3, constantValue := 0 }, { name := "serialVersionUID", type := .long, accessFlags := 26, slot := 0, constantValue := 0 }, { name := "COMPACT_STRINGS", type := .boolean, accessFlags := 24, slot := 1, constantValue := 0 }, { name := "serialPersistentFields", type := (.array (.object "java/io/ObjectStreamField")), accessFlags := 26, slot := 2, constantValue := 0 }, { name := "REPL", type := .char, accessFlags := 26, slot := 3, constantValue := 0 }, { name := "CASE_INSENSITIVE_ORDER", type := (.object "java/util/Comparator"), accessFlags := 25, slot := 4, constantValue := 0 }, { name := "LATIN1", type := .byte, accessFlags := 24, slot := 5, constantValue := 0 }, { name := "UTF16", type := .byte, accessFlags := 24, slot := 6, constantValue := 0 }]
  methods := #[k12m0, k12m1, k12m2]
  instanceTypes := #[(.array .byte), .byte, .int, .boolean]
  staticTypes := #[.long, .boolean, (.array (.object "java/io/ObjectStreamField")), .char, (.object "java/util/Comparator"), .byte, .byte]
  resolved := Array.replicate 1451 none
  statics := some 1 }

def pool13 : Array CpInfo := pool [(6, .class_ 8), (1, u "java/lang/Object"), (0, u "<init>"), (0, u "()V"), (1, .class_ 14), (1, u "java/lang/StringUTF16"), (31, u "$assertionsDisabled"), (0, u "Z"), (13, u "HI_BYTE_SHIFT"), (0, u "I"), (2, u "LO_BYTE_SHIFT"), (49, .methodref 12 116), (0, .nameAndType 117 118), (0, u "compress"), (0, u "([CI[BII)I"), (3, u "([CII)[B"), (138, u "coderFromArrayLen"), (0, u "([BI)B"), (106, .class_ 371), (1, u "java/lang/StringUTF16$LinesSpliterator"), (58, u "MAX_LENGTH"), (196, .class_ 628), (0, u "java/lang/StringUTF16$CodePointsSpliterator"), (0, .class_ 630), (0, u "java/lang/StringUTF16$CharsSpliterator")] 4

def k13m0 : Method := { name := "<init>", desc := "()V", sig := { parameters := [], returnType := none }, accessFlags := 0, code := none }
def k13c1 : Code := { maxStack := 2, maxLocals := 2, code := jdk_52_method_15_code, exceptionTable := #[], attributes := #[] }
def k13m1 : Method := { name := "coderFromArrayLen", desc := "([BI)B", sig := { parameters := [(.array .byte), .int], returnType := some .byte }, accessFlags := 8, code := some k13c1 }
def k13c2 : Code := { maxStack := 5, maxLocals := 6, code := jdk_52_method_16_code, exceptionTable := #[], attributes := #[] }
def k13m2 : Method := { name := "compress", desc := "([CII)[B", sig := { parameters := [(.array .char), .int, .int], returnType := some (.array .byte) }, accessFlags := 9, code := some k13c2 }
def k13c3 : Code := { maxStack := 3, maxLocals := 7, code := jdk_52_method_21_code, exceptionTable := #[], attributes := #[] }
def k13m3 : Method := { name := "compress", desc := "([CI[BII)I", sig := { parameters := [(.array .char), .int, (.array .byte), .int, .int], returnType := some .int }, accessFlags := 9, code := some k13c3 }
/-- java/lang/StringUTF16 -/
def k13 : Class := { plain "java/lang/StringUTF16" (some 0) with
  accessFlags := 48
  interfaces := #[]
  cf := some (fileOf pool13 12 #[.nestMembers #[627, 629, 369]] #[{ accessFlags := 0, nameIndex := 9, descriptorIndex := 10, attributes := #[] }, { accessFlags := 8, nameIndex := 261, descriptorIndex := 262, attributes := #[] }, { accessFlags := 9, nameIndex := 117, descriptorIndex := 122, attributes := #[] }, { accessFlags := 9, nameIndex := 117, descriptorIndex := 118, attributes := #[] }] 48 6 #[] #[{ accessFlags := 26, nameIndex := 61, descriptorIndex := 62, attributes := #[] }, { accessFlags := 26, nameIndex := 65, descriptorIndex := 62, attributes := #[] }, { accessFlags := 24, nameIndex := 430, descriptorIndex := 62, attributes := #[] }, { accessFlags := 4120, nameIndex := 46, descriptorIndex := 47, attributes := #[] }])
  fields := #[{ name := "HI_BYTE_SHIFT", type := .int, accessFlags := 26, slot := 0, constantValue := 0 }, { name := "LO_BYTE_SHIFT", type := .int, accessFlags := 26, slot := 1, constantValue := 0 }, { name := "MAX_LENGTH", type := .int, accessFlags := 24, slot := 2, constantValue := 0 }, { name := "$assertionsDisabled", type := .boolean, accessFlags := 4120, slot := 3, constantValue := 0 }]
  methods := #[k13m0, k13m1, k13m2, k13m3]
  instanceTypes := #[]
  staticTypes := #[.int, .int, .int, .boolean]
  resolved := Array.replicate 635 none
  statics := none }

def pool14 : Array CpInfo := pool [(4, .class_ 6), (1, u "java/lang/Object"), (0, u "<init>"), (0, u "()V"), (5, .class_ 16), (1, u "java/lang/StringLatin1"), (104, u "$assertionsDisabled"), (0, u "Z"), (98, .class_ 223), (1, u "java/lang/StringLatin1$LinesSpliterator"), (166, .class_ 391), (0, u "java/lang/StringLatin1$CharsSpliterator")] 3

def k14m0 : Method := { name := "<init>", desc := "()V", sig := { parameters := [], returnType := none }, accessFlags := 0, code := none }
/-- java/lang/StringLatin1 -/
def k14 : Class := { plain "java/lang/StringLatin1" (some 0) with
  accessFlags := 48
  interfaces := #[]
  cf := some (fileOf pool14 14 #[.nestMembers #[390, 221]] #[{ accessFlags := 0, nameIndex := 7, descriptorIndex := 8, attributes := #[] }] 48 4 #[] #[{ accessFlags := 4120, nameIndex := 121, descriptorIndex := 122, attributes := #[] }])
  fields := #[{ name := "$assertionsDisabled", type := .boolean, accessFlags := 4120, slot := 0, constantValue := 0 }]
  methods := #[k14m0]
  instanceTypes := #[]
  staticTypes := #[.boolean]
  resolved := Array.replicate 395 none
  statics := none }

def pool15 : Array CpInfo := pool [(2, .class_ 4), (1, u "java/lang/Object"), (0, u "<init>"), (0, u "()V"), (17, .class_ 26), (1, u "jdk/internal/util/Preconditions"), (28, .class_ 56), (0, u "jdk/internal/util/Preconditions$4"), (57, .class_ 115), (0, u "jdk/internal/util/Preconditions$1"), (7, u "SIOOBE_FORMATTER"), (0, u "Ljava/util/function/BiFunction;"), (0, .class_ 126), (0, u "jdk/internal/util/Preconditions$2"), (3, u "AIOOBE_FORMATTER"), (0, .class_ 132), (0, u "jdk/internal/util/Preconditions$3"), (3, u "IOOBE_FORMATTER")] 57

def k15m0 : Method := { name := "<init>", desc := "()V", sig := { parameters := [], returnType := none }, accessFlags := 1, code := none }
/-- jdk/internal/util/Preconditions -/
def k15 : Class := { plain "jdk/internal/util/Preconditions" (some 0) with
  accessFlags := 33
  interfaces := #[]
  cf := some (fileOf pool15 24 #[.nestMembers #[55, 131, 125, 114]] #[{ accessFlags := 1, nameIndex := 5, descriptorIndex := 6, attributes := #[] }] 33 2 #[] #[{ accessFlags := 25, nameIndex := 123, descriptorIndex := 124, attributes := #[] }, { accessFlags := 25, nameIndex := 130, descriptorIndex := 124, attributes := #[] }, { accessFlags := 25, nameIndex := 136, descriptorIndex := 124, attributes := #[] }])
  fields := #[{ name := "SIOOBE_FORMATTER", type := (.object "java/util/function/BiFunction"), accessFlags := 25, slot := 0, constantValue := 0 }, { name := "AIOOBE_FORMATTER", type := (.object "java/util/function/BiFunction"), accessFlags := 25, slot := 1, constantValue := 0 }, { name := "IOOBE_FORMATTER", type := (.object "java/util/function/BiFunction"), accessFlags := 25, slot := 2, constantValue := 0 }]
  methods := #[k15m0]
  instanceTypes := #[]
  staticTypes := #[(.object "java/util/function/BiFunction"), (.object "java/util/function/BiFunction"), (.object "java/util/function/BiFunction")]
  resolved := Array.replicate 194 none
  statics := some 2 }

def pool16 : Array CpInfo := pool [(9, u "<init>"), (6, .class_ 18), (1, u "java/lang/Object"), (0, u "()V"), (1, .class_ 23), (1, u "jdk/internal/util/ArraysSupport"), (0, u "LOG2_ARRAY_LONG_INDEX_SCALE"), (0, u "I"), (2, u "U"), (0, u "Ljdk/internal/misc/Unsafe;"), (8, u "BIG_ENDIAN"), (0, u "Z"), (8, u "LOG2_BYTE_BIT_SIZE"), (4, u "LOG2_ARRAY_INT_INDEX_SCALE"), (54, u "JLA"), (0, u "Ljdk/internal/access/JavaLangAccess;"), (11, u "LOG2_ARRAY_BOOLEAN_INDEX_SCALE"), (9, u "LOG2_ARRAY_BYTE_INDEX_SCALE"), (5, u "LOG2_ARRAY_CHAR_INDEX_SCALE"), (5, u "LOG2_ARRAY_SHORT_INDEX_SCALE"), (18, u "LOG2_ARRAY_FLOAT_INDEX_SCALE"), (24, u "LOG2_ARRAY_DOUBLE_INDEX_SCALE"), (89, u "T_BOOLEAN"), (2, u "T_CHAR"), (1, u "T_FLOAT"), (1, u "T_DOUBLE"), (1, u "T_BYTE"), (1, u "T_SHORT"), (1, u "T_INT"), (1, u "T_LONG"), (1, u "SOFT_MAX_ARRAY_LENGTH")] 83

def k16m0 : Method := { name := "<init>", desc := "()V", sig := { parameters := [], returnType := none }, accessFlags := 2, code := none }
/-- jdk/internal/util/ArraysSupport -/
def k16 : Class := { plain "jdk/internal/util/ArraysSupport" (some 0) with
  accessFlags := 33
  interfaces := #[]
  cf := some (fileOf pool16 21 #[] #[{ accessFlags := 2, nameIndex := 9, descriptorIndex := 19, attributes := #[] }] 33 16 #[] #[{ accessFlags := 24, nameIndex := 28, descriptorIndex := 29, attributes := #[] }, { accessFlags := 26, nameIndex := 38, descriptorIndex := 39, attributes := #[] }, { accessFlags := 25, nameIndex := 121, descriptorIndex := 25, attributes := #[] }, { accessFlags := 25, nameIndex := 131, descriptorIndex := 25, attributes := #[] }, { accessFlags := 25, nameIndex := 137, descriptorIndex := 25, attributes := #[] }, { accessFlags := 25, nameIndex := 143, descriptorIndex := 25, attributes := #[] }, { accessFlags := 25, nameIndex := 53, descriptorIndex := 25, attributes := #[] }, { accessFlags := 25, nameIndex := 24, descriptorIndex := 25, attributes := #[] }, { accessFlags := 25, nameIndex := 162, descriptorIndex := 25, attributes := #[] }, { accessFlags := 25, nameIndex := 187, descriptorIndex := 25, attributes := #[] }, { accessFlags := 26, nameIndex := 48, descriptorIndex := 25, attributes := #[] }, { accessFlags := 25, nameIndex := 277, descriptorIndex := 25, attributes := #[] }, { accessFlags := 25, nameIndex := 280, descriptorIndex := 25, attributes := #[] }, { accessFlags := 25, nameIndex := 282, descriptorIndex := 25, attributes := #[] }, { accessFlags := 25, nameIndex := 284, descriptorIndex := 25, attributes := #[] }, { accessFlags := 25, nameIndex := 286, descriptorIndex := 25, attributes := #[] }, { accessFlags := 25, nameIndex := 288, descriptorIndex := 25, attributes := #[] }, { accessFlags := 25, nameIndex := 290, descriptorIndex := 25, attributes := #[] }, { accessFlags := 25, nameIndex := 292, descriptorIndex := 25, attributes := #[] }, { accessFlags := 26, nameIndex := 108, descriptorIndex := 109, attributes := #[] }, { accessFlags := 25, nameIndex := 294, descriptorIndex := 25, attributes := #[] }])
  fields := #[{ name := "U", type := (.object "jdk/internal/misc/Unsafe"), accessFlags := 24, slot := 0, constantValue := 0 }, { name := "BIG_ENDIAN", type := .boolean, accessFlags := 26, slot := 1, constantValue := 0 }, { name := "LOG2_ARRAY_BOOLEAN_INDEX_SCALE", type := .int, accessFlags := 25, slot := 2, constantValue := 0 }, { name := "LOG2_ARRAY_BYTE_INDEX_SCALE", type := .int, accessFlags := 25, slot := 3, constantValue := 0 }, { name := "LOG2_ARRAY_CHAR_INDEX_SCALE", type := .int, accessFlags := 25, slot := 4, constantValue := 0 }, { name := "LOG2_ARRAY_SHORT_INDEX_SCALE", type := .int, accessFlags := 25, slot := 5, constantValue := 0 }, { name := "LOG2_ARRAY_INT_INDEX_SCALE", type := .int, accessFlags := 25, slot := 6, constantValue := 0 }, { name := "LOG2_ARRAY_LONG_INDEX_SCALE", type := .int, accessFlags := 25, slot := 7, constantValue := 0 }, { name := "LOG2_ARRAY_FLOAT_INDEX_SCALE", type := .int, accessFlags := 25, slot := 8, constantValue := 0 }, { name := "LOG2_ARRAY_DOUBLE_INDEX_SCALE", type := .int, accessFlags := 25, slot := 9, constantValue := 0 }, { name := "LOG2_BYTE_BIT_SIZE", type := .int, accessFlags := 26, slot := 10, constantValue := 0 }, { name := "T_BOOLEAN", type := .int, accessFlags := 25, slot := 11, constantValue := 0 }, { name := "T_CHAR", type := .int, accessFlags := 25, slot := 12, constantValue := 0 }, { name := "T_FLOAT", type := .int, accessFlags := 25, slot := 13, constantValue := 0 }, { name := "T_DOUBLE", type := .int, accessFlags := 25, slot := 14, constantValue := 0 }, { name := "T_BYTE", type := .int, accessFlags := 25, slot := 15, constantValue := 0 }, { name := "T_SHORT", type := .int, accessFlags := 25, slot := 16, constantValue := 0 }, { name := "T_INT", type := .int, accessFlags := 25, slot := 17, constantValue := 0 }, { name := "T_LONG", type := .int, accessFlags := 25, slot := 18, constantValue := 0 }, { name := "JLA", type := (.object "jdk/internal/access/JavaLangAccess"), accessFlags := 26, slot := 19, constantValue := 0 }, { name := "SOFT_MAX_ARRAY_LENGTH", type := .int, accessFlags := 25, slot := 20, constantValue := 0 }]
  methods := #[k16m0]
  instanceTypes := #[]
  staticTypes := #[(.object "jdk/internal/misc/Unsafe"), .boolean, .int, .int, .int, .int, .int, .int, .int, .int, .int, .int, .int, .int, .int, .int, .int, .int, .int, (.object "jdk/internal/access/JavaLangAccess"), .int]
  resolved := Array.replicate 378 none
  statics := none }

def pool17 : Array CpInfo := pool [(1, u "java/lang/Cloneable"), (0, .class_ 1), (0, u "java/lang/Object"), (0, .class_ 3)] 3

/-- java/lang/Cloneable -/
def k17 : Class := { plain "java/lang/Cloneable" (some 0) with
  accessFlags := 1537
  interfaces := #[]
  cf := some (fileOf pool17 2 #[] #[] 1537 4 #[] #[])
  fields := #[]
  methods := #[]
  instanceTypes := #[]
  staticTypes := #[]
  resolved := Array.replicate 8 none
  statics := none }

/-- the primitive byte -/
def k18 : Class := { plain "byte" none with kind := .primitive 'B', accessFlags := 0x411 }
/-- [B -/
def k19 : Class := { plain "[B" (some 0) with kind := .array 18 .byte, interfaces := #[17, 4], accessFlags := 1041 }

/-- the primitive char -/
def k20 : Class := { plain "char" none with kind := .primitive 'C', accessFlags := 0x411 }
/-- [C -/
def k21 : Class := { plain "[C" (some 0) with kind := .array 20 .char, interfaces := #[17, 4], accessFlags := 1041 }

/-- the primitive int -/
def k22 : Class := { plain "int" none with kind := .primitive 'I', accessFlags := 0x411 }
/-- [I -/
def k23 : Class := { plain "[I" (some 0) with kind := .array 22 .int, interfaces := #[17, 4], accessFlags := 1041 }

def heap : Heap := #[{ cls := 6, slots := #[.ref 3, .ref 4, .ref 5, .ref 6, .null], vm := .statics 6 },
  { cls := 12, slots := #[.long 0, .int 1, .null, .int 0, .null, .int 0, .int 0], vm := .statics 12 },
  { cls := 15, slots := #[.null, .null, .null], vm := .statics 15 },
  { cls := 6, slots := #[.null, .int 0, .int 0], vm := .none },
  { cls := 6, slots := #[.null, .int 0, .int 0], vm := .none },
  { cls := 6, slots := #[.null, .int 0, .int 0], vm := .none },
  { cls := 6, slots := #[.null, .int 0, .int 0], vm := .none }]
def classes : Array Class := #[k0, k1, k2, k3, k4, k5, k6, k7, k8, k9, k10, k11, k12, k13, k14, k15, k16, k17, k18, k19, k20, k21, k22, k23]
def interned : List (Array UInt16 × Addr) := []
def slotsUsed : Nat := 27
def theMethod : MethodId := ⟨1, 1⟩
def args0 : Array Value := #[.int 5, .int 6, .int 7]
def aboutOver (below : List Frame) : State where
  vm := { classes := classes, interned := interned.toArray }
  heap := heap
  slotsUsed := slotsUsed
  threads := #[{ frames := .invoking theMethod args0 :: below }]
def below0 : List Frame := [.native { method := ⟨0, 0⟩, args := #[] }]
def about1 : State := aboutOver below0
def p0 : Program := .bare "" "" ""
def e0 : Env := launch0.env 0 0 0
theorem w_frames : about1.frames = Frame.invoking theMethod args0 :: below0 := rfl
set_option maxRecDepth 65536 in
theorem w_args : argsFit about1.vm theMethod args0 = true := by decide +kernel
set_option maxRecDepth 65536 in
theorem w_heap : heapFits about1 = true := by decide +kernel
set_option maxRecDepth 65536 in
theorem w_runnable : about1.curStatus? = some .runnable := by decide +kernel
set_option maxRecDepth 65536 in
theorem w_alone : about1.alone = true := by decide +kernel
set_option maxRecDepth 65536 in
theorem w_named : about1.methodNamed? x = some theMethod := by decide +kernel
set_option maxRecDepth 65536 in
theorem w_hears : about1.hears theMethod below0 = true := by decide +kernel
set_option maxRecDepth 65536 in
theorem w_ripe : about1.ripe theMethod args0 below0 = true := by decide +kernel
theorem w_running : about1.status = .running := rfl
set_option maxRecDepth 65536 in
theorem w_room : about1.hasRoom e0.platform room_1 = true :=
  launch0.hasRoom_least _ room_1 (by decide +kernel) (by decide +kernel) (by decide +kernel) (by decide +kernel) (by decide +kernel) (by decide +kernel)
theorem allAtoms_all (ts : List Jvm.Cond) (a : Array Jvm.Value) (st : Jvm.State) : (allAtoms ts).before a st = ts.all (fun c => c.before a st) := by
  induction ts with
  | nil => rfl
  | cons c t ih =>
    show (Jvm.Cond.and c (allAtoms t)).before a st = _
    rw [Jvm.Cond.before_and, ih, List.all_cons]
def words1 : List Jvm.Cond := Jvm.Cond.code x code maxLocals ret :: tables_1
/-- a 'code' word, met by the world's own term for the bytes: nothing is compared byte by byte -/
theorem code_word {y : MethodName} {bytes : ByteArray} {mx : Nat} {rt : Option FieldType} {a : Array Value} {s : State} {m : MethodId} {meth : Method} {c : Code} (h1 : s.methodNamed? y = some m) (h2 : s.vm.method? m = some meth) (h3 : meth.code = some c) (h4 : c.code = bytes)
    (h5 : (c.maxLocals == mx && c.exceptionTable.isEmpty && decide (c.maxStack ≤ mostOperands) && decide (meth.sig.returnType = rt) && !meth.locks && decide (parseMethodDescriptor y.desc = some meth.sig)) = true) : (Jvm.Cond.code y bytes mx rt).before a s = true := by
  simp only [Bool.and_eq_true, beq_iff_eq, Bool.not_eq_true', decide_eq_true_eq] at h5
  obtain ⟨⟨⟨⟨⟨g1, g2⟩, g3⟩, g4⟩, g5⟩, g6⟩ := h5
  simp [Cond.before, Cond.holds, Cond.value, h1, h2, h3, h4, g1, g2, g3, g4, g5, g6]
def isCode : Jvm.Cond → Bool
  | .code _ _ _ _ => true
  | _ => false
theorem all_split {L : List Jvm.Cond} {P : Jvm.Cond → Bool} (h1 : L.all (fun c => isCode c || P c) = true) (h2 : ∀ c ∈ L.filter isCode, P c = true) : L.all P = true := by
  refine List.all_eq_true.mpr fun c hc => ?_
  have h := List.all_eq_true.mp h1 c hc
  rcases Bool.eq_false_or_eq_true (isCode c) with hi | hi
  · exact h2 c (List.mem_filter.mpr ⟨hc, hi⟩)
  · simpa [hi] using h
set_option maxRecDepth 65536 in
theorem w_c0 : (Jvm.Cond.code x code maxLocals ret).before args0 about1 = true := code_word (m := ⟨1, 1⟩) (meth := k1m1) (c := k1c1) (by decide +kernel) rfl rfl rfl (by decide +kernel)
set_option maxRecDepth 65536 in
theorem w_c1 : (Jvm.Cond.code ({ cls := "com/example/pland/pland/billing/ChargeMadePinLaw", name := "status", desc := "(I)Lcom/example/pland/pland/payment/ChargeResult$Status;" } : Jvm.MethodName) method_3_code (1 : Nat) (Option.some (Jvm.ClassFile.FieldType.object "com/example/pland/pland/payment/ChargeResult$Status"))).before args0 about1 = true := code_word (m := ⟨1, 2⟩) (meth := k1m2) (c := k1c2) (by decide +kernel) rfl rfl rfl (by decide +kernel)
set_option maxRecDepth 65536 in
theorem w_c2 : (Jvm.Cond.code ({ cls := "com/example/pland/pland/billing/Charge", name := "<init>", desc := "(Ljava/lang/String;Lcom/example/pland/pland/payment/ChargeResult;)V" } : Jvm.MethodName) prog_6_method_1_code (3 : Nat) (Option.none : Option Jvm.ClassFile.FieldType)).before args0 about1 = true := code_word (m := ⟨8, 0⟩) (meth := k8m0) (c := k8c0) (by decide +kernel) rfl rfl rfl (by decide +kernel)
set_option maxRecDepth 65536 in
theorem w_c3 : (Jvm.Cond.code ({ cls := "java/lang/Record", name := "<init>", desc := "()V" } : Jvm.MethodName) jdk_30_method_1_code (1 : Nat) (Option.none : Option Jvm.ClassFile.FieldType)).before args0 about1 = true := code_word (m := ⟨7, 0⟩) (meth := k7m0) (c := k7c0) (by decide +kernel) rfl rfl rfl (by decide +kernel)
set_option maxRecDepth 65536 in
theorem w_c4 : (Jvm.Cond.code ({ cls := "java/lang/Object", name := "<init>", desc := "()V" } : Jvm.MethodName) object_method_1_code (1 : Nat) (Option.none : Option Jvm.ClassFile.FieldType)).before args0 about1 = true := code_word (m := ⟨0, 0⟩) (meth := k0m0) (c := k0c0) (by decide +kernel) rfl rfl rfl (by decide +kernel)
set_option maxRecDepth 65536 in
theorem w_c5 : (Jvm.Cond.code ({ cls := "com/example/pland/pland/billing/Charge", name := "none", desc := "()Lcom/example/pland/pland/billing/Charge;" } : Jvm.MethodName) prog_6_method_2_code (0 : Nat) (Option.some (Jvm.ClassFile.FieldType.object "com/example/pland/pland/billing/Charge"))).before args0 about1 = true := code_word (m := ⟨8, 1⟩) (meth := k8m1) (c := k8c1) (by decide +kernel) rfl rfl rfl (by decide +kernel)
set_option maxRecDepth 65536 in
theorem w_c6 : (Jvm.Cond.code ({ cls := "com/example/pland/pland/billing/Charge", name := "made", desc := "()Z" } : Jvm.MethodName) prog_6_method_3_code (1 : Nat) (Option.some Jvm.ClassFile.FieldType.boolean)).before args0 about1 = true := code_word (m := ⟨8, 2⟩) (meth := k8m2) (c := k8c2) (by decide +kernel) rfl rfl rfl (by decide +kernel)
set_option maxRecDepth 65536 in
theorem w_c7 : (Jvm.Cond.code ({ cls := "com/example/pland/pland/payment/ChargeResult", name := "<init>", desc := "(Lcom/example/pland/pland/payment/ChargeResult$Status;Ljava/lang/String;)V" } : Jvm.MethodName) prog_37_method_1_code (3 : Nat) (Option.none : Option Jvm.ClassFile.FieldType)).before args0 about1 = true := code_word (m := ⟨9, 0⟩) (meth := k9m0) (c := k9c0) (by decide +kernel) rfl rfl rfl (by decide +kernel)
set_option maxRecDepth 65536 in
theorem w_c8 : (Jvm.Cond.code ({ cls := "java/lang/String", name := "<init>", desc := "([C)V" } : Jvm.MethodName) jdk_42_method_3_code (2 : Nat) (Option.none : Option Jvm.ClassFile.FieldType)).before args0 about1 = true := code_word (m := ⟨12, 1⟩) (meth := k12m1) (c := k12c1) (by decide +kernel) rfl rfl rfl (by decide +kernel)
set_option maxRecDepth 65536 in
theorem w_c9 : (Jvm.Cond.code ({ cls := "java/lang/String", name := "<init>", desc := "([CIILjava/lang/Void;)V" } : Jvm.MethodName) jdk_42_method_149_code (6 : Nat) (Option.none : Option Jvm.ClassFile.FieldType)).before args0 about1 = true := code_word (m := ⟨12, 2⟩) (meth := k12m2) (c := k12c2) (by decide +kernel) rfl rfl rfl (by decide +kernel)
set_option maxRecDepth 65536 in
theorem w_c10 : (Jvm.Cond.code ({ cls := "java/lang/StringUTF16", name := "compress", desc := "([CII)[B" } : Jvm.MethodName) jdk_52_method_16_code (6 : Nat) (Option.some (Jvm.ClassFile.FieldType.array Jvm.ClassFile.FieldType.byte))).before args0 about1 = true := code_word (m := ⟨13, 2⟩) (meth := k13m2) (c := k13c2) (by decide +kernel) rfl rfl rfl (by decide +kernel)
set_option maxRecDepth 65536 in
theorem w_c11 : (Jvm.Cond.code ({ cls := "java/lang/StringUTF16", name := "compress", desc := "([CI[BII)I" } : Jvm.MethodName) jdk_52_method_21_code (7 : Nat) (Option.some Jvm.ClassFile.FieldType.int)).before args0 about1 = true := code_word (m := ⟨13, 3⟩) (meth := k13m3) (c := k13c3) (by decide +kernel) rfl rfl rfl (by decide +kernel)
set_option maxRecDepth 65536 in
theorem w_c12 : (Jvm.Cond.code ({ cls := "java/lang/StringUTF16", name := "coderFromArrayLen", desc := "([BI)B" } : Jvm.MethodName) jdk_52_method_15_code (2 : Nat) (Option.some Jvm.ClassFile.FieldType.byte)).before args0 about1 = true := code_word (m := ⟨13, 1⟩) (meth := k13m1) (c := k13c1) (by decide +kernel) rfl rfl rfl (by decide +kernel)
def codes1 : List Jvm.Cond := [Jvm.Cond.code x code maxLocals ret, Jvm.Cond.code ({ cls := "com/example/pland/pland/billing/ChargeMadePinLaw", name := "status", desc := "(I)Lcom/example/pland/pland/payment/ChargeResult$Status;" } : Jvm.MethodName) method_3_code (1 : Nat) (Option.some (Jvm.ClassFile.FieldType.object "com/example/pland/pland/payment/ChargeResult$Status")), Jvm.Cond.code ({ cls := "com/example/pland/pland/billing/Charge", name := "<init>", desc := "(Ljava/lang/String;Lcom/example/pland/pland/payment/ChargeResult;)V" } : Jvm.MethodName) prog_6_method_1_code (3 : Nat) (Option.none : Option Jvm.ClassFile.FieldType), Jvm.Cond.code ({ cls := "java/lang/Record", name := "<init>", desc := "()V" } : Jvm.MethodName) jdk_30_method_1_code (1 : Nat) (Option.none : Option Jvm.ClassFile.FieldType), Jvm.Cond.code ({ cls := "java/lang/Object", name := "<init>", desc := "()V" } : Jvm.MethodName) object_method_1_code (1 : Nat) (Option.none : Option Jvm.ClassFile.FieldType), Jvm.Cond.code ({ cls := "com/example/pland/pland/billing/Charge", name := "none", desc := "()Lcom/example/pland/pland/billing/Charge;" } : Jvm.MethodName) prog_6_method_2_code (0 : Nat) (Option.some (Jvm.ClassFile.FieldType.object "com/example/pland/pland/billing/Charge")), Jvm.Cond.code ({ cls := "com/example/pland/pland/billing/Charge", name := "made", desc := "()Z" } : Jvm.MethodName) prog_6_method_3_code (1 : Nat) (Option.some Jvm.ClassFile.FieldType.boolean), Jvm.Cond.code ({ cls := "com/example/pland/pland/payment/ChargeResult", name := "<init>", desc := "(Lcom/example/pland/pland/payment/ChargeResult$Status;Ljava/lang/String;)V" } : Jvm.MethodName) prog_37_method_1_code (3 : Nat) (Option.none : Option Jvm.ClassFile.FieldType), Jvm.Cond.code ({ cls := "java/lang/String", name := "<init>", desc := "([C)V" } : Jvm.MethodName) jdk_42_method_3_code (2 : Nat) (Option.none : Option Jvm.ClassFile.FieldType), Jvm.Cond.code ({ cls := "java/lang/String", name := "<init>", desc := "([CIILjava/lang/Void;)V" } : Jvm.MethodName) jdk_42_method_149_code (6 : Nat) (Option.none : Option Jvm.ClassFile.FieldType), Jvm.Cond.code ({ cls := "java/lang/StringUTF16", name := "compress", desc := "([CII)[B" } : Jvm.MethodName) jdk_52_method_16_code (6 : Nat) (Option.some (Jvm.ClassFile.FieldType.array Jvm.ClassFile.FieldType.byte)), Jvm.Cond.code ({ cls := "java/lang/StringUTF16", name := "compress", desc := "([CI[BII)I" } : Jvm.MethodName) jdk_52_method_21_code (7 : Nat) (Option.some Jvm.ClassFile.FieldType.int), Jvm.Cond.code ({ cls := "java/lang/StringUTF16", name := "coderFromArrayLen", desc := "([BI)B" } : Jvm.MethodName) jdk_52_method_15_code (2 : Nat) (Option.some Jvm.ClassFile.FieldType.byte)]
set_option maxRecDepth 65536 in
theorem codes_eq : words1.filter isCode = codes1 := rfl
theorem w_codes : ∀ c ∈ words1.filter isCode, c.before args0 about1 = true := by
  rw [codes_eq]
  intro c hc
  simp only [codes1, List.mem_cons, List.not_mem_nil, or_false] at hc
  rcases hc with rfl | rfl | rfl | rfl | rfl | rfl | rfl | rfl | rfl | rfl | rfl | rfl | rfl
  · exact w_c0
  · exact w_c1
  · exact w_c2
  · exact w_c3
  · exact w_c4
  · exact w_c5
  · exact w_c6
  · exact w_c7
  · exact w_c8
  · exact w_c9
  · exact w_c10
  · exact w_c11
  · exact w_c12
set_option maxRecDepth 65536 in
theorem w_t1 : (words1.take 24).all (fun c => isCode c || c.before args0 about1) = true := by decide +kernel
set_option maxRecDepth 65536 in
theorem w_t2 : ((words1.drop 24).take 24).all (fun c => isCode c || c.before args0 about1) = true := by decide +kernel
set_option maxRecDepth 65536 in
theorem w_t3 : (((words1.drop 24).drop 24).take 24).all (fun c => isCode c || c.before args0 about1) = true := by decide +kernel
set_option maxRecDepth 65536 in
theorem w_t4 : (((words1.drop 24).drop 24).drop 24).all (fun c => isCode c || c.before args0 about1) = true := by decide +kernel
theorem w_tables : (allAtoms (Jvm.Cond.code x code maxLocals ret :: tables_1)).before args0 about1 = true := by
  rw [allAtoms_all]
  show words1.all (fun c => c.before args0 about1) = true
  refine all_split ?_ w_codes
  rw [← List.take_append_drop 24 words1, List.all_append, w_t1, ← List.take_append_drop 24 (words1.drop 24), List.all_append, w_t2, ← List.take_append_drop 24 ((words1.drop 24).drop 24), List.all_append, w_t3, w_t4]
  rfl
set_option maxRecDepth 65536 in
theorem w_rest : rest_1_c.before args0 about1 = true := by decide +kernel
set_option maxRecDepth 65536 in
theorem w_case : (Jvm.Cond.and given_1 narrow_1).before args0 about1 = true := by decide +kernel
theorem w_applies : (headSpec (Jvm.Cond.code x code maxLocals ret :: tables_1) room_1).applies x e0.platform about1 = true :=
  (Spec.applies_iff w_frames).mpr ⟨w_running, w_runnable, w_alone, w_named, w_hears, w_ripe, w_room, w_tables⟩
theorem atStart : AtStart classFile x code maxLocals ret World_1 tables_1 room_1 Calls_1 rest_1 Pre_1 launch0 p0 e0 about1 theMethod args0 below0 :=
  ⟨lists_1, trivial, launch0.admits_env _ _ _, launch0.least_env, fairChoices_fair.cas, fairChoices_fair.clock, w_frames, w_args, w_heap, w_applies, trivial, w_rest, w_case⟩
end start1
theorem witness_1 : WitnessClaimed_1 := ⟨start1.p0, start1.e0, start1.about1, start1.theMethod, start1.args0, start1.below0, start1.atStart⟩
end Jvm.Pilot.@@N@@
