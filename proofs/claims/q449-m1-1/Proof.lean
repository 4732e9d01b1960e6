import JvmDerived
import JvmDerived.Pilot.@@N@@Statement
import JvmDerived.Pilot.@@N@@Code
set_option linter.unusedVariables false
set_option linter.unusedSimpArgs false
namespace Jvm.RoadKit
open Sem ClassFile Op Lib Jvm.Stand Jvm.Free Jvm.LawKit
section Own
variable {p : Program} {l : Launch} {e : Env} {R : Room} {s : State} {m : MethodId} {args : Array Value} {below : List Frame} {meth : Method} {c : Code} {T A B : State} {locs : List Loc} {cells slots K N : Nat} {P : State → Outcome → Prop} {Q : Option Value → Heap → List Loc → Prop}
/-- the run that stands at A comes to an end of which P holds -/
def Go (p : Program) (e : Env) (below : List Frame) (P : State → Outcome → Prop) (A : State) : Prop := ∃ s₂ o, Steps p.tables e below A s₂ ∧ s₂.status = .running ∧ Ended s₂ below o ∧ P s₂ o
def PostW (s : State) (K N : Nat) (Q : Option Value → Heap → List Loc → Prop) : State → Outcome → Prop := fun s₂ o => ∃ v L, o = .returned v ∧ Q v s₂.heap L ∧ FrameEnd s o s₂ L K N
theorem Go.by (h : ∀ t, Steps p.tables e below B t → Steps p.tables e below A t) (k : Go p e below P B) : Go p e below P A := by
  obtain ⟨s₂, o, h1, h2⟩ := k
  exact ⟨s₂, o, h _ h1, h2⟩
theorem Go.to (h : Steps p.tables e below A B) (k : Go p e below P B) : Go p e below P A := Go.by (fun _ q => h.trans q) k
theorem Go.cast {g g' : JFrame} (q : g = g') (k : Go p e below P (T.setTop g')) : Go p e below P (T.setTop g) := q ▸ k
theorem Go.ret (X : Stand p l e R s m args below meth c T locs cells slots) (hx : p.tables.exec = Jvm.exec) (hlk : meth.locks = false) {pc : Nat} {Ls : Array Slot} {w : Value} {t : FieldType} {i : Instr} {rest : List Value} (hret : meth.sig.returnType = some t) (hn : narrow t w = w)
    (hi : (i = .ireturn ∧ (t = .int ∨ t = .boolean ∨ t = .byte ∨ t = .char ∨ t = .short) ∧ ∃ z, w = .int z) ∨ (i = .lreturn ∧ t = .long ∧ ∃ z, w = .long z) ∨ (i = .dreturn ∧ t = .double ∧ ∃ z, w = .double z) ∨ (i = .freturn ∧ t = .float ∧ ∃ z, w = .float z) ∨ (i = .areturn ∧ t.isReference = true ∧ w.isRef = true))
    (hd : decode c.code pc = .ok (i, 1)) (hc : cells ≤ K) (hs : slots ≤ N) (hQ : Q (some w) T.heap locs) : Go p e below (PostW s K N Q) (T.setTop (mkF m pc Ls (w :: rest))) := by
  obtain ⟨fs, hr, hrun, hended, hW, hsame⟩ := X.leave (v := some w) (fun h => by rw [hret] at h; cases h) hlk
  exact ⟨_, _, retOut X hx hret hn hi hd hr, hrun, hended, _, _, rfl, hQ, ⟨_, rfl⟩, hW, hsame.mono hc hs⟩
theorem Go.retZ (X : Stand p l e R s m args below meth c T locs cells slots) (hx : p.tables.exec = Jvm.exec) (hlk : meth.locks = false) {pc : Nat} {Ls : Array Slot} {z : Int32} {t : FieldType} {rest : List Value} (hret : meth.sig.returnType = some t) (ht : t = .boolean ∨ t = .byte ∨ t = .char ∨ t = .short)
    (hd : decode c.code pc = .ok (.ireturn, 1)) (hc : cells ≤ K) (hs : slots ≤ N) (hQ : Q (some (.int (nar t z))) T.heap locs) : Go p e below (PostW s K N Q) (T.setTop (mkF m pc Ls (.int z :: rest))) := by
  obtain ⟨fs, hr, hrun, hended, hW, hsame⟩ := X.leave (v := some (.int (nar t z))) (fun h => by rw [hret] at h; cases h) hlk
  exact ⟨_, _, retN X hx hret ht hd hr, hrun, hended, _, _, rfl, hQ, ⟨_, rfl⟩, hW, hsame.mono hc hs⟩
theorem own_cat {w : Value} (h : w.isRef = true) : w.category = 1 := by cases w <;> first | rfl | (simp [Value.isRef] at h)
theorem own_narR {w : Value} {t : FieldType} (h : w.isRef = true) (ht : t.isReference = true) : narrow t w = w := by cases t <;> first | (cases ht; done) | (cases w <;> first | rfl | (simp [Value.isRef] at h))
theorem own_fitR {w : Value} {t : FieldType} (h : w.isRef = true) (ht : t.isReference = true) : fits t w = true := by cases t <;> first | (cases ht; done) | (cases w <;> first | rfl | (simp [Value.isRef] at h))
theorem Go.retV (X : Stand p l e R s m args below meth c T locs cells slots) (hx : p.tables.exec = Jvm.exec) (hlk : meth.locks = false) {pc : Nat} {Ls : Array Slot} (hret : meth.sig.returnType = none)
    (hd : decode c.code pc = .ok (.return_, 1)) (hc : cells ≤ K) (hs : slots ≤ N) (hQ : Q none T.heap locs) : Go p e below (PostW s K N Q) (T.setTop (mkF m pc Ls [])) := by
  obtain ⟨fs, hr, hrun, hended, hW, hsame⟩ := X.leave (v := none) (fun _ => rfl) hlk
  exact ⟨_, _, X.returnOut hx hret hd hr, hrun, hended, _, _, rfl, hQ, ⟨_, rfl⟩, hW, hsame.mono hc hs⟩
theorem wd {L : List Cond} {a0 : Array Value} {Z : State} (hw : ∀ d ∈ L, d.before a0 Z = true) (i : Nat) {d : Cond} (h : L[i]? = some d) : d.before a0 Z = true := hw d (List.mem_of_getElem? h)
/-- a callee's contract, as the walks here say it -/
abbrev Met (l : Launch) (Z : State) (y : MethodName) (bytes : ByteArray) (maxL : Nat) (ret : Option FieldType) (ws : List Cond) (rm : Room) (as' : Array Value) (h0 : Heap) (Q : Option Value → Heap → List Loc → Prop) : Prop :=
  MetFree l y (head1 (Cond.code y bytes maxL ret :: ws) rm) (fun a U => a = as' ∧ Z.Warmed39 U.vm ∧ U.heap = h0) (fun _ _ _ _ _ => True) (fun _ U o U' => ∃ v L, o = .returned v ∧ Q v U'.heap L ∧ FrameEnd U o U' L rm.cells rm.slots)
theorem Met.enter {Z : State} {y : MethodName} {bytes : ByteArray} {maxL : Nat} {ret : Option FieldType} {ws : List Cond} {rm : Room} {as' : Array Value} {h0 : Heap} {f0 : MethodId → JFrame} (hpl : plainFor y = true) (hf0 : ∀ m, entryFrame m as' maxL = f0 m)
    (body : ∀ (p : Program) (e : Env) (s : State) (m : MethodId) (below : List Frame) (meth : Method) (c : Code) (s₁ : State), p.tables.exec = Jvm.exec → c.code = bytes → c.maxLocals = maxL → s.vm.findClass y.cls = some m.cls → meth.name = y.name → meth.sig.returnType = ret → meth.locks = false → Z.Warmed39 s.vm → Stand p l e rm s m as' below meth c s₁ [] 0 0 → s₁.heap = h0 → Go p e below (PostW s rm.cells rm.slots Q) (s₁.setTop (f0 m))) : Met l Z y bytes maxL ret ws rm as' h0 Q := by
  refine MetFree.of_bodySF hpl hisR ?_
  intro p e s m args below meth c s₁ Bd hml0 hP hK
  obtain ⟨rfl, hZ, hh⟩ := hP
  have q := body p e s m below meth c s₁ Bd.exec Bd.bytes hml0 (findClass_of_methodNamed Bd.named) (name_of_methodNamed Bd.named Bd.method).1 Bd.returns Bd.notSynchronized hZ (Stand.of_body Bd) (by rw [← hh, Bd.state]; rfl)
  rw [← hf0] at q
  exact q
end Own
end Jvm.RoadKit
namespace Jvm.Pilot.@@N@@
open Jvm Jvm.ClassFile Sem Op Lib Jvm.Free Jvm.Stand Jvm.LawKit Jvm.RoadKit Bundle Jvm.Pilot.@@N@@.Jvm.D
theorem own_eqk {args : Array Value} {first s : State} {o : Option Outcome} {idx : List Nat} {t : Term} {k : Int32} (h : (Jvm.Cond.eq t (Term.int k)).value args first o s idx = some true) : t.eval args first o idx s = some (.int k) := by
  obtain ⟨x, y, ex, ey, -, k2⟩ := cmp_v (Or.inl h)
  have e2 : y = .int k := Option.some.inj (ey.symm.trans (Term.int_eval k))
  subst e2
  obtain ⟨z, rfl⟩ := k2
  have := gotT (Cond.eq_ints ex (Term.int_eval k)) h
  rw [ex, this]

theorem own_ch (x : Int32) : ¬ (255 : Int32) < (x &&& (255 : Int32)).toUInt32.toUInt16.toUInt32.toInt32 := by
  rw [i2c_mask]
  have q := c_mask x 255 8 (by decide) (by decide)
  have z : (255 : Int32).toInt = 255 := by decide
  rw [Int32.lt_iff_toInt_lt, z]
  omega
theorem own_ch0 (x : Int32) : ¬ (x &&& (255 : Int32)).toUInt32.toUInt16.toUInt32.toInt32 < (0 : Int32) := by
  rw [i2c_mask]
  have q := c_mask x 255 8 (by decide) (by decide)
  have z : (0 : Int32).toInt = 0 := by decide
  rw [Int32.lt_iff_toInt_lt, z]
  omega
theorem own_nar (x : Int32) : nar .char ((x &&& (255 : Int32)).toUInt32.toUInt16.toUInt32.toInt32) = (x &&& (255 : Int32)) := by
  show ((x &&& (255 : Int32)).toUInt32.toUInt16.toUInt32.toInt32).toUInt32.toUInt16.toUInt32.toInt32 = _
  rw [i2c_mask, i2c_mask]
theorem own_chn (x : Int32) : ¬ (255 : Int32) < nar .char ((x &&& (255 : Int32)).toUInt32.toUInt16.toUInt32.toInt32) := by
  rw [own_nar]
  have q := c_mask x 255 8 (by decide) (by decide)
  have z : (255 : Int32).toInt = 255 := by decide
  rw [Int32.lt_iff_toInt_lt, z]
  omega

theorem ef_rm_Record_init (m : MethodId) (x0 : Addr) : entryFrame m #[(.ref x0)] 1 = mkF m 0 #[.val (.ref x0)] [] := by first | (simp [entryFrame, mkF, argsToLocals, Value.category]; done) | rfl
theorem d7_0 : decode jdk_30_method_1_code 0 = .ok (.aload_n 0, 1) := by decide +kernel
theorem d7_1 : decode jdk_30_method_1_code 1 = .ok (.invokespecial 1, 3) := by decide +kernel
theorem d7_4 : decode jdk_30_method_1_code 4 = .ok (.return_, 1) := by decide +kernel
theorem pn_java_lang_Record : plainName "java/lang/Record" = true := by first | (simp [plainName, overriddenIn]; done) | decide +kernel
def Q_rm_Record_init (Z : State) (a1 : Addr) (h0 : Heap) (n0 : Nat) (v : Option Value) (h : Heap) (L : List Loc) : Prop := v = none ∧ Fr n0 L ∧ h = h0
set_option maxRecDepth 65536 in
set_option maxHeartbeats 40000000 in
theorem rm_Record_init (l : Launch) (Z : State) (a0 : Array Value) (hw : ∀ d ∈ tables_1, d.before a0 Z = true) (ws : List Jvm.Cond) (a1 : Addr) (h0 : Heap) (n0 : Nat) (Z0 : n0 ≤ h0.size) :
    Met l Z (⟨"java/lang/Record", "<init>", "()V"⟩ : MethodName) jdk_30_method_1_code 1 none ws ({ frames := 1, cells := 0, slots := 0, locals := 12 } : Room) #[(.ref a1)] h0 (Q_rm_Record_init Z a1 h0 n0) := by
  refine Met.enter (f0 := fun m => mkF m 0 #[.val (.ref a1)] []) (plainFor_of_name pn_java_lang_Record) (fun m => ef_rm_Record_init m a1) ?_
  intro p e s m below meth c s₁ hx hby hml hown hnm hret hlk hZ X0 e0
  have hown : s.vm.findClass "java/lang/Record" = some m.cls := hown
  have hnm : meth.name = "<init>" := hnm
  have hml : c.maxLocals = 1 := hml
  have hby : c.code = jdk_30_method_1_code := hby
  have N0 := Fr.nil n0
  refine Go.by (B := (s₁.setTop (mkF m 1 #[.val (.ref a1)] [(.ref a1)]))) (fun _ k => XS.aloadN X0.here hx rfl (hb hby d7_0) rfl rfl k) ?_
  obtain ⟨T1, X1, e1, st1⟩ := initO X0 hx hZ hown (wd hw 41 rfl) (wd hw 24 rfl) (wd hw 25 rfl) e0 (g := (mkF m 1 #[.val (.ref a1)] [(.ref a1)])) rfl (by rw [hml]; rfl) rfl (hb hby d7_1) (by decide) (W := 0) (by show 2 * 0 + _ ≤ _; exact Nat.le_of_eq rfl) (by decide)
  refine Go.by (B := (T1.setTop (mkF m 4 #[.val (.ref a1)] []))) st1 ?_
  refine Go.retV X1 hx hlk hret (hb hby d7_4) (by decide) (by decide) ?_
  rw [e1]
  exact ⟨rfl, N0, rfl⟩
theorem ef_rm_canEnc (m : MethodId) (x0 : Int32) : entryFrame m #[(.int x0)] 1 = mkF m 0 #[.val (.int x0)] [] := by first | (simp [entryFrame, mkF, argsToLocals, Value.category]; done) | rfl
theorem d2_0 : decode jdk_43_method_3_code 0 = .ok (.iload_n 0, 1) := by decide +kernel
theorem d2_1 : decode jdk_43_method_3_code 1 = .ok (.sipush 255, 3) := by decide +kernel
theorem d2_4 : decode jdk_43_method_3_code 4 = .ok (.if_icmp .gt 7, 3) := by decide +kernel
theorem d2_7 : decode jdk_43_method_3_code 7 = .ok (.iconst 1, 1) := by decide +kernel
theorem d2_8 : decode jdk_43_method_3_code 8 = .ok (.goto 4, 3) := by decide +kernel
theorem d2_12 : decode jdk_43_method_3_code 12 = .ok (.ireturn, 1) := by decide +kernel
theorem pn_java_lang_StringLatin1 : plainName "java/lang/StringLatin1" = true := by first | (simp [plainName, overriddenIn]; done) | decide +kernel
def Q_rm_canEnc (Z : State) (p1 : Int32) (h0 : Heap) (n0 : Nat) (v : Option Value) (h : Heap) (L : List Loc) : Prop := v = some (.int 1) ∧ Fr n0 L ∧ h = h0
set_option maxRecDepth 65536 in
set_option maxHeartbeats 40000000 in
theorem rm_canEnc (l : Launch) (Z : State) (a0 : Array Value) (hw : ∀ d ∈ tables_1, d.before a0 Z = true) (ws : List Jvm.Cond) (p1 : Int32) (h0 : Heap) (n0 : Nat) (Z0 : n0 ≤ h0.size) (q0 : ¬ ((255 : Int32) < p1)) :
    Met l Z (⟨"java/lang/StringLatin1", "canEncode", "(C)Z"⟩ : MethodName) jdk_43_method_3_code 1 (some .boolean) ws ({ frames := 0, cells := 0, slots := 0, locals := 0 } : Room) #[(.int p1)] h0 (Q_rm_canEnc Z p1 h0 n0) := by
  refine Met.enter (f0 := fun m => mkF m 0 #[.val (.int p1)] []) (plainFor_of_name pn_java_lang_StringLatin1) (fun m => ef_rm_canEnc m p1) ?_
  intro p e s m below meth c s₁ hx hby hml hown hnm hret hlk hZ X0 e0
  have hown : s.vm.findClass "java/lang/StringLatin1" = some m.cls := hown
  have hnm : meth.name = "canEncode" := hnm
  have hml : c.maxLocals = 1 := hml
  have hby : c.code = jdk_43_method_3_code := hby
  have N0 := Fr.nil n0
  refine Go.by (B := (s₁.setTop (mkF m 12 #[.val (.int p1)] [(.int 1)]))) (fun _ k => XS.iloadN X0.here hx rfl (hb hby d2_0) rfl (XS.sipush X0.here hx rfl (hb hby d2_1) (XS.icmpNo X0.here hx rfl (hb hby d2_4) rfl (flt q0).2.2.1 (XS.iconst X0.here hx rfl (hb hby d2_7) (XS.goto X0.here hx rfl (pc0 := 8) (pc' := 12) rfl (hb hby d2_8) (by decide) (by decide) k))))) ?_
  refine Go.ret X0 hx hlk (t := .boolean) hret rfl (Or.inl ⟨rfl, by simp, _, rfl⟩) (hb hby d2_12) (by decide) (by decide) ?_
  rw [e0]
  exact ⟨rfl, N0, rfl⟩
theorem ef_rm_toBytes (m : MethodId) (x0 : Int32) : entryFrame m #[(.int x0)] 1 = mkF m 0 #[.val (.int x0)] [] := by first | (simp [entryFrame, mkF, argsToLocals, Value.category]; done) | rfl
theorem d3_0 : decode jdk_43_method_46_code 0 = .ok (.iconst 1, 1) := by decide +kernel
theorem d3_1 : decode jdk_43_method_46_code 1 = .ok (.newarray .byte, 2) := by decide +kernel
theorem d3_3 : decode jdk_43_method_46_code 3 = .ok (.dup, 1) := by decide +kernel
theorem d3_4 : decode jdk_43_method_46_code 4 = .ok (.iconst 0, 1) := by decide +kernel
theorem d3_5 : decode jdk_43_method_46_code 5 = .ok (.iload_n 0, 1) := by decide +kernel
theorem d3_6 : decode jdk_43_method_46_code 6 = .ok (.i2b, 1) := by decide +kernel
theorem d3_7 : decode jdk_43_method_46_code 7 = .ok (.bastore, 1) := by decide +kernel
theorem d3_8 : decode jdk_43_method_46_code 8 = .ok (.areturn, 1) := by decide +kernel
def Q_rm_toBytes (Z : State) (p1 : Int32) (h0 : Heap) (n0 : Nat) (v : Option Value) (h : Heap) (L : List Loc) : Prop := ∃ b : Addr, ∃ k : ClassId, v = some (.ref b) ∧ Fr n0 L ∧ Keep h0 h [] ∧ Arv Z h b k .byte (1 : Int32) [(.int (nar .byte (p1.toInt8.toInt32)))] (.int 0) ∧ h0.size ≤ b
set_option maxRecDepth 65536 in
set_option maxHeartbeats 40000000 in
theorem rm_toBytes (l : Launch) (Z : State) (a0 : Array Value) (hw : ∀ d ∈ tables_1, d.before a0 Z = true) (ws : List Jvm.Cond) (p1 : Int32) (h0 : Heap) (n0 : Nat) (Z0 : n0 ≤ h0.size) (pr0 : Old Z n0 h0) :
    Met l Z (⟨"java/lang/StringLatin1", "toBytes", "(C)[B"⟩ : MethodName) jdk_43_method_46_code 1 (some (.array .byte)) ws ({ frames := 0, cells := 1, slots := 1, locals := 0 } : Room) #[(.int p1)] h0 (Q_rm_toBytes Z p1 h0 n0) := by
  refine Met.enter (f0 := fun m => mkF m 0 #[.val (.int p1)] []) (plainFor_of_name pn_java_lang_StringLatin1) (fun m => ef_rm_toBytes m p1) ?_
  intro p e s m below meth c s₁ hx hby hml hown hnm hret hlk hZ X0 e0
  have hown : s.vm.findClass "java/lang/StringLatin1" = some m.cls := hown
  have hnm : meth.name = "toBytes" := hnm
  have hml : c.maxLocals = 1 := hml
  have hby : c.code = jdk_43_method_46_code := hby
  have N0 := Fr.nil n0
  refine Go.by (B := (s₁.setTop (mkF m 1 #[.val (.int p1)] [(.int 1)]))) (fun _ k => XS.iconst X0.here hx rfl (hb hby d3_0) k) ?_
  obtain ⟨T2, h2, k2, X2, e2, E2, A2, st2⟩ := newP X0 hx hZ (wd hw 18 rfl) e0 (g := (mkF m 1 #[.val (.int p1)] [(.int 1)])) rfl (hb hby d3_1) rfl (by decide) (cap := 1) (by decide) (by decide) (by decide) (by decide)
  obtain ⟨b2, g2⟩ : ∃ z, z = h0.size := ⟨_, rfl⟩
  rw [← g2] at A2 st2
  have sz_b2 : h0.size ≤ b2 := Nat.le_of_eq g2.symm
  have V2 : Arv Z h2 b2 k2 .byte (1 : Int32) [(.int 0)] (.int 0) := (Arv.new A2 (by decide)).pad (pad_rep [] (.int 0) 1)
  have O3 := pr0.ext E2
  have Z3 : n0 ≤ h2.size := Nat.le_trans Z0 E2.1
  refine Go.by (B := (T2.setTop (mkF m 3 #[.val (.int p1)] [(.ref b2)]))) st2 ?_
  refine Go.by (B := (T2.setTop (mkF m 7 #[.val (.int p1)] [(.int (p1.toInt8.toInt32)), (.int 0), (.ref b2), (.ref b2)]))) (fun _ k => XS.dup X2.here hx rfl (hb hby d3_3) rfl rfl (XS.iconst X2.here hx rfl (hb hby d3_4) (XS.iloadN X2.here hx rfl (hb hby d3_5) rfl (XS.i2b X2.here hx rfl (hb hby d3_6) rfl k)))) ?_
  obtain ⟨cl4, Ar4, q4, S4, N_4, Hs4, G4⟩ := id V2
  have hin5 : ¬ ((0 : Int32) < 0 ∨ cl4.slots.size ≤ ((0 : Int32)).toNatClampNeg) := inb_of S4 ⟨by decide, by decide⟩
  obtain ⟨T5, h5, X5, e5, W5, st5⟩ := stB X2 hx hZ e2 Ar4 (j := (0 : Int32)) hin5 (g := (mkF m 7 #[.val (.int p1)] [(.int (p1.toInt8.toInt32)), (.int 0), (.ref b2), (.ref b2)])) rfl rfl (hb hby d3_7)
  have O6 := O3.wr W5 (Nat.le_trans Z0 sz_b2)
  have Z6 : n0 ≤ h5.size := Nat.le_trans Z3 (Keep.of_wr W5).1
  have V5 : Arv Z h5 b2 k2 .byte (1 : Int32) [(.int (nar .byte (p1.toInt8.toInt32)))] (.int 0) := Arv.set Ar4 q4 S4 N_4 Hs4 G4 (fits_nar_byte _) W5 0 rfl (Nat.le_of_ble_eq_true rfl)
  have N5 := Fr.snoc X5 N0 (Nat.le_trans Z0 sz_b2)
  refine Go.by (B := (T5.setTop (mkF m 8 #[.val (.int p1)] [(.ref b2)]))) st5 ?_
  refine Go.ret X5 hx hlk (t := (.array .byte)) hret rfl (Or.inr (Or.inr (Or.inr (Or.inr ⟨rfl, rfl, rfl⟩)))) (hb hby d3_8) (by decide) (by decide) ?_
  rw [e5]
  exact ⟨b2, k2, rfl, N5, (((Keep.refl h0 []).ext E2).wr W5 (Or.inr (Nat.le_trans (Nat.le_refl _) sz_b2))), V5, (Nat.le_trans (Nat.le_refl _) sz_b2)⟩
theorem ef_rm_sinit (m : MethodId) (x0 : Addr) (x1 : Addr) : entryFrame m #[(.ref x0), (.ref x1), (.int 0)] 3 = mkF m 0 #[.val (.ref x0), .val (.ref x1), .val (.int 0)] [] := by first | (simp [entryFrame, mkF, argsToLocals, Value.category]; done) | rfl
theorem d4_0 : decode jdk_42_method_151_code 0 = .ok (.aload_n 0, 1) := by decide +kernel
theorem d4_1 : decode jdk_42_method_151_code 1 = .ok (.invokespecial 1, 3) := by decide +kernel
theorem d4_4 : decode jdk_42_method_151_code 4 = .ok (.aload_n 0, 1) := by decide +kernel
theorem d4_5 : decode jdk_42_method_151_code 5 = .ok (.aload_n 1, 1) := by decide +kernel
theorem d4_6 : decode jdk_42_method_151_code 6 = .ok (.putfield 9, 3) := by decide +kernel
theorem d4_9 : decode jdk_42_method_151_code 9 = .ok (.aload_n 0, 1) := by decide +kernel
theorem d4_10 : decode jdk_42_method_151_code 10 = .ok (.iload_n 2, 1) := by decide +kernel
theorem d4_11 : decode jdk_42_method_151_code 11 = .ok (.putfield 15, 3) := by decide +kernel
theorem d4_14 : decode jdk_42_method_151_code 14 = .ok (.return_, 1) := by decide +kernel
theorem pn_java_lang_String : plainName "java/lang/String" = true := by first | (simp [plainName, overriddenIn]; done) | decide +kernel
def Q_rm_sinit (Z : State) (a1 : Addr) (v1 : Addr) (h0 : Heap) (n0 : Nat) (v : Option Value) (h : Heap) (L : List Loc) : Prop := v = none ∧ Fr n0 L ∧ Keep h0 h [a1] ∧ Exa Z h a1 "java/lang/String" ∧ Fld Z h a1 "java/lang/String" "value" "[B" (.ref v1) ∧ Fld Z h a1 "java/lang/String" "coder" "B" (.int 0)
set_option maxRecDepth 65536 in
set_option maxHeartbeats 40000000 in
theorem rm_sinit (l : Launch) (Z : State) (a0 : Array Value) (hw : ∀ d ∈ tables_1, d.before a0 Z = true) (ws : List Jvm.Cond) (a1 : Addr) (v1 : Addr) (h0 : Heap) (n0 : Nat) (Z0 : n0 ≤ h0.size) (pr0 : Old Z n0 h0) (pr1 : Exa Z h0 a1 "java/lang/String") (pr2 : Fld Z h0 a1 "java/lang/String" "value" "[B" .null) (pr3 : Fld Z h0 a1 "java/lang/String" "coder" "B" (.int 0)) (pr4 : n0 ≤ a1) :
    Met l Z (⟨"java/lang/String", "<init>", "([BB)V"⟩ : MethodName) jdk_42_method_151_code 3 none ws ({ frames := 1, cells := 0, slots := 0, locals := 12 } : Room) #[(.ref a1), (.ref v1), (.int 0)] h0 (Q_rm_sinit Z a1 v1 h0 n0) := by
  refine Met.enter (f0 := fun m => mkF m 0 #[.val (.ref a1), .val (.ref v1), .val (.int 0)] []) (plainFor_of_name pn_java_lang_String) (fun m => ef_rm_sinit m a1 v1) ?_
  intro p e s m below meth c s₁ hx hby hml hown hnm hret hlk hZ X0 e0
  have hown : s.vm.findClass "java/lang/String" = some m.cls := hown
  have hnm : meth.name = "<init>" := hnm
  have hml : c.maxLocals = 3 := hml
  have hby : c.code = jdk_42_method_151_code := hby
  have N0 := Fr.nil n0
  refine Go.by (B := (s₁.setTop (mkF m 1 #[.val (.ref a1), .val (.ref v1), .val (.int 0)] [(.ref a1)]))) (fun _ k => XS.aloadN X0.here hx rfl (hb hby d4_0) rfl rfl k) ?_
  obtain ⟨T7, X7, e7, st7⟩ := initO X0 hx hZ hown (wd hw 23 rfl) (wd hw 24 rfl) (wd hw 25 rfl) e0 (g := (mkF m 1 #[.val (.ref a1), .val (.ref v1), .val (.int 0)] [(.ref a1)])) rfl (by rw [hml]; rfl) rfl (hb hby d4_1) (by decide) (W := 0) (by show 2 * 0 + _ ≤ _; exact Nat.le_of_eq rfl) (by decide)
  refine Go.by (B := (T7.setTop (mkF m 4 #[.val (.ref a1), .val (.ref v1), .val (.int 0)] []))) st7 ?_
  refine Go.by (B := (T7.setTop (mkF m 6 #[.val (.ref a1), .val (.ref v1), .val (.int 0)] [(.ref v1), (.ref a1)]))) (fun _ k => XS.aloadN X7.here hx rfl (hb hby d4_4) rfl rfl (XS.aloadN X7.here hx rfl (hb hby d4_5) rfl rfl k)) ?_
  obtain ⟨T8, h8, X8, e8, W8, st8⟩ := putF X7 hx hZ hown (host := "") (Or.inl (wd hw 26 rfl)) Via.refl e7 pr2 pr1 (Or.inr ⟨(wd hw 27 rfl), rfl, hnm⟩) (wd hw 14 rfl) (ty := (.array .byte)) (by decide) rfl rfl (g := (mkF m 6 #[.val (.ref a1), .val (.ref v1), .val (.int 0)] [(.ref v1), (.ref a1)])) rfl rfl (hb hby d4_6)
  have N8 := Fr.snoc X8 N0 pr4
  have O9 := pr0.wr W8 pr4
  have Z9 : n0 ≤ h8.size := Nat.le_trans Z0 (Keep.of_wr W8).1
  have F8 := pr2.same W8
  refine Go.by (B := (T8.setTop (mkF m 9 #[.val (.ref a1), .val (.ref v1), .val (.int 0)] []))) st8 ?_
  refine Go.by (B := (T8.setTop (mkF m 11 #[.val (.ref a1), .val (.ref v1), .val (.int 0)] [(.int 0), (.ref a1)]))) (fun _ k => XS.aloadN X8.here hx rfl (hb hby d4_9) rfl rfl (XS.iloadN X8.here hx rfl (hb hby d4_10) rfl k)) ?_
  have f10 := (pr3.other W8 (Or.inr (slot_ne (Or.inr (wd hw 29 rfl)) (Or.inr (wd hw 27 rfl)) (by decide) (t := .byte) (t' := (.array .byte)) (by decide) (by decide))))
  obtain ⟨T11, h11, X11, e11, W11, st11⟩ := putFN X8 hx hZ hown (wd hw 28 rfl) Via.refl e8 f10 (pr1.wr W8) (Or.inr ⟨(wd hw 29 rfl), rfl, hnm⟩) (wd hw 14 rfl) (ty := .byte) (v' := (.int 0)) (by decide) rfl rfl (g := (mkF m 11 #[.val (.ref a1), .val (.ref v1), .val (.int 0)] [(.int 0), (.ref a1)])) rfl rfl (hb hby d4_11)
  have N11 := Fr.snoc X11 N8 pr4
  have O12 := O9.wr W11 pr4
  have Z12 : n0 ≤ h11.size := Nat.le_trans Z9 (Keep.of_wr W11).1
  have F11 := f10.same W11
  refine Go.by (B := (T11.setTop (mkF m 14 #[.val (.ref a1), .val (.ref v1), .val (.int 0)] []))) st11 ?_
  refine Go.retV X11 hx hlk hret (hb hby d4_14) (by decide) (by decide) ?_
  rw [e11]
  exact ⟨rfl, N11, (((Keep.refl h0 [a1]).wr W8 (Or.inl (List.mem_of_getElem? (i := 0) rfl))).wr W11 (Or.inl (List.mem_of_getElem? (i := 0) rfl))), ((pr1.wr W8).wr W11), (F8.other W11 (Or.inr (slot_ne (Or.inr (wd hw 27 rfl)) (Or.inr (wd hw 29 rfl)) (by decide) (t := (.array .byte)) (t' := .byte) (by decide) (by decide)))), F11⟩
theorem ef_rm_valueOfC (m : MethodId) (x0 : Int32) : entryFrame m #[(.int x0)] 1 = mkF m 0 #[.val (.int x0)] [] := by first | (simp [entryFrame, mkF, argsToLocals, Value.category]; done) | rfl
theorem d1_0 : decode jdk_42_method_139_code 0 = .ok (.getstatic 38, 3) := by decide +kernel
theorem d1_3 : decode jdk_42_method_139_code 3 = .ok (.ifCond .eq 23, 3) := by decide +kernel
theorem d1_6 : decode jdk_42_method_139_code 6 = .ok (.iload_n 0, 1) := by decide +kernel
theorem d1_7 : decode jdk_42_method_139_code 7 = .ok (.invokestatic 1015, 3) := by decide +kernel
theorem pd_0 : parseMethodDescriptor "(C)Z" = some ⟨[.char], some .boolean⟩ := by decide +kernel
theorem d1_10 : decode jdk_42_method_139_code 10 = .ok (.ifCond .eq 16, 3) := by decide +kernel
theorem d1_13 : decode jdk_42_method_139_code 13 = .ok (.new 10, 3) := by decide +kernel
theorem d1_16 : decode jdk_42_method_139_code 16 = .ok (.dup, 1) := by decide +kernel
theorem d1_17 : decode jdk_42_method_139_code 17 = .ok (.iload_n 0, 1) := by decide +kernel
theorem d1_18 : decode jdk_42_method_139_code 18 = .ok (.invokestatic 1018, 3) := by decide +kernel
theorem pd_1 : parseMethodDescriptor "(C)[B" = some ⟨[.char], some (.array .byte)⟩ := by decide +kernel
theorem d1_21 : decode jdk_42_method_139_code 21 = .ok (.iconst 0, 1) := by decide +kernel
theorem d1_22 : decode jdk_42_method_139_code 22 = .ok (.invokespecial 209, 3) := by decide +kernel
theorem pd_2 : parseMethodDescriptor "([BB)V" = some ⟨[(.array .byte), .byte], none⟩ := by decide +kernel
theorem d1_25 : decode jdk_42_method_139_code 25 = .ok (.areturn, 1) := by decide +kernel
def Q_rm_valueOfC (Z : State) (p1 : Int32) (cs : Int32) (h0 : Heap) (n0 : Nat) (v : Option Value) (h : Heap) (L : List Loc) : Prop := ∃ b : Addr, ∃ t : Addr, ∃ k : ClassId, v = some (.ref b) ∧ Fr n0 L ∧ Keep h0 h [] ∧ Exa Z h b "java/lang/String" ∧ Fld Z h b "java/lang/String" "value" "[B" (.ref t) ∧ Fld Z h b "java/lang/String" "coder" "B" (.int 0) ∧ Arv Z h t k .byte (1 : Int32) [(.int (nar .byte (p1.toInt8.toInt32)))] (.int 0) ∧ h0.size ≤ b ∧ h0.size ≤ t
set_option maxRecDepth 65536 in
set_option maxHeartbeats 40000000 in
theorem rm_valueOfC (l : Launch) (Z : State) (a0 : Array Value) (hw : ∀ d ∈ tables_1, d.before a0 Z = true) (ws : List Jvm.Cond) (p1 : Int32) (cs : Int32) (h0 : Heap) (n0 : Nat) (Z0 : n0 ≤ h0.size) (pr0 : Old Z n0 h0) (pr1 : Sta Z Z.heap "java/lang/String" "COMPACT_STRINGS" "Z" (.int cs)) (hcs : ¬ (cs = (0 : Int32))) (q0 : ¬ ((255 : Int32) < p1)) :
    Met l Z (⟨"java/lang/String", "valueOf", "(C)Ljava/lang/String;"⟩ : MethodName) jdk_42_method_139_code 1 (some (.object "java/lang/String")) ws ({ frames := 2, cells := 2, slots := 5, locals := 27 } : Room) #[(.int p1)] h0 (Q_rm_valueOfC Z p1 cs h0 n0) := by
  refine Met.enter (f0 := fun m => mkF m 0 #[.val (.int p1)] []) (plainFor_of_name pn_java_lang_String) (fun m => ef_rm_valueOfC m p1) ?_
  intro p e s m below meth c s₁ hx hby hml hown hnm hret hlk hZ X0 e0
  have hown : s.vm.findClass "java/lang/String" = some m.cls := hown
  have hnm : meth.name = "valueOf" := hnm
  have hml : c.maxLocals = 1 := hml
  have hby : c.code = jdk_42_method_139_code := hby
  have N0 := Fr.nil n0
  obtain ⟨T13, X13, e13, st13⟩ := getS2 X0 hx hZ hown (host := "") (Or.inl (wd hw 8 rfl)) Via.refl e0 (pr1.ext pr0.2) (g := (mkF m 0 #[.val (.int p1)] [])) rfl (hb hby d1_0)
  refine Go.by (B := (T13.setTop (mkF m 3 #[.val (.int p1)] [(.int cs)]))) st13 ?_
  refine Go.by (B := (T13.setTop (mkF m 7 #[.val (.int p1)] [(.int p1)]))) (fun _ k => XS.ifNo X13.here hx rfl (hb hby d1_3) rfl ((if0 _ _).trans (feq hcs).1) (XS.iloadN X13.here hx rfl (hb hby d1_6) rfl k)) ?_
  obtain ⟨_, _, ⟨T14, L14, k14, n14⟩, -, X14, ⟨Lc14, hQ14, l14, y14, z14⟩, st14⟩ := Jvm.LawKit.callS X13 hx (y := (⟨"java/lang/StringLatin1", "canEncode", "(C)Z"⟩ : MethodName)) hown (mvT hZ (wd hw 9 rfl)) (mvT hZ (wd hw 10 rfl)) (mvT hZ (wd hw 11 rfl)) (mvT hZ (wd hw 12 rfl)) (by decide) (backOf (W := 0) (rm_canEnc l Z a0 hw [] p1 h0 n0 Z0 q0) hZ (wd hw 12 rfl) (wd hw 11 rfl) (by decide) (by decide)) (g := (mkF m 7 #[.val (.int p1)] [(.int p1)])) rfl (by rw [hml]; rfl) (argsL := [(.int p1)]) (rest := []) (lenOf pd_0 rfl) rfl (by show 2 * 0 + _ ≤ _; exact Nat.le_of_eq rfl) (hb hby d1_7) (fun _ _ => ⟨rfl, e13, Nat.le_of_ble_eq_true rfl, Nat.le_of_ble_eq_true rfl⟩)
  dsimp only [Pt.U, Pt.locs, Pt.cells, Pt.slots] at X14 l14 y14 z14 st14 hQ14
  subst l14 y14 z14
  obtain ⟨rfl, Nq14, hh14⟩ := hQ14
  have N14 := Fr.app N0 Nq14
  refine Go.by (B := (T14.setTop (mkF m 10 #[.val (.int p1)] [(.int 1)]))) (fun _ k => st14 _ k) ?_
  refine Go.by (B := (T14.setTop (mkF m 13 #[.val (.int p1)] []))) (fun _ k => XS.ifNo X14.here hx rfl (hb hby d1_10) rfl ((if0 _ _).trans (feq (by decide : ¬ ((1 : Int32) = (0 : Int32)))).1) k) ?_
  obtain ⟨T15, h15, X15, e15, E15, A15, D15, -, st15⟩ := newO X14 hx hZ hown (wd hw 13 rfl) (wd hw 14 rfl) (wd hw 6 rfl) hh14 (g := (mkF m 13 #[.val (.int p1)] [])) rfl (hb hby d1_13) (by decide) (by decide)
  obtain ⟨b15, g15⟩ : ∃ z, z = h0.size := ⟨_, rfl⟩
  rw [← g15] at A15 D15 st15
  have sz_b15 : h0.size ≤ b15 := Nat.le_of_eq g15.symm
  have O16 := pr0.ext E15
  have Z16 : n0 ≤ h15.size := Nat.le_trans Z0 E15.1
  have F17 : Fld Z h15 b15 "java/lang/String" "value" "[B" .null := D15 (Or.inr (wd hw 27 rfl)) (ty := (.array .byte)) (by decide)
  have F18 : Fld Z h15 b15 "java/lang/String" "coder" "B" (.int 0) := D15 (Or.inr (wd hw 29 rfl)) (ty := .byte) (by decide)
  refine Go.by (B := (T15.setTop (mkF m 16 #[.val (.int p1)] [(.ref b15)]))) st15 ?_
  refine Go.by (B := (T15.setTop (mkF m 18 #[.val (.int p1)] [(.int p1), (.ref b15), (.ref b15)]))) (fun _ k => XS.dup X15.here hx rfl (hb hby d1_16) rfl rfl (XS.iloadN X15.here hx rfl (hb hby d1_17) rfl k)) ?_
  obtain ⟨_, _, ⟨T19, L19, k19, n19⟩, -, X19, ⟨Lc19, hQ19, l19, y19, z19⟩, st19⟩ := Jvm.LawKit.callS X15 hx (y := (⟨"java/lang/StringLatin1", "toBytes", "(C)[B"⟩ : MethodName)) hown (mvT hZ (wd hw 15 rfl)) (mvT hZ (wd hw 16 rfl)) (mvT hZ (wd hw 11 rfl)) (mvT hZ (wd hw 17 rfl)) (by decide) (backOf (W := 2) (rm_toBytes l Z a0 hw [] p1 h15 n0 Z16 O16) hZ (wd hw 17 rfl) (wd hw 11 rfl) (by decide) (by decide)) (g := (mkF m 18 #[.val (.int p1)] [(.int p1), (.ref b15), (.ref b15)])) rfl (by rw [hml]; rfl) (argsL := [(.int p1)]) (rest := [(.ref b15), (.ref b15)]) (lenOf pd_1 rfl) rfl (by show 2 * 0 + _ ≤ _; exact Nat.le_of_eq rfl) (hb hby d1_18) (fun _ _ => ⟨rfl, e15, Nat.le_of_ble_eq_true rfl, Nat.le_of_ble_eq_true rfl⟩)
  dsimp only [Pt.U, Pt.locs, Pt.cells, Pt.slots] at X19 l19 y19 z19 st19 hQ19
  subst l19 y19 z19
  obtain ⟨b19, k19, rfl, Nq19, K19, p19_0, p19_1⟩ := hQ19
  have N19 := Fr.app N14 Nq19
  have O20 := O16.keep K19 all0
  have Z20 : n0 ≤ T19.heap.size := Nat.le_trans Z16 K19.1
  have sz_b19 : h15.size ≤ b19 := p19_1
  refine Go.by (B := (T19.setTop (mkF m 21 #[.val (.int p1)] [(.ref b19), (.ref b15), (.ref b15)]))) (fun _ k => st19 _ k) ?_
  refine Go.by (B := (T19.setTop (mkF m 22 #[.val (.int p1)] [(.int 0), (.ref b19), (.ref b15), (.ref b15)]))) (fun _ k => XS.iconst X19.here hx rfl (hb hby d1_21) k) ?_
  obtain ⟨_, _, ⟨T21, L21, k21, n21⟩, -, X21, ⟨Lc21, hQ21, l21, y21, z21⟩, st21⟩ := X19.specialBack hx (y := (⟨"java/lang/String", "<init>", "([BB)V"⟩ : MethodName)) rfl hown (mvT hZ (wd hw 19 rfl)) (mvT hZ (wd hw 20 rfl)) (mvT hZ (wd hw 22 rfl)) (by decide) (backOf (W := 1) (rm_sinit l Z a0 hw [] b15 b19 T19.heap n0 Z20 O20 (A15.keep K19) (F17.keep K19 nin0) (F18.keep K19 nin0) (Nat.le_trans Z0 sz_b15)) hZ (wd hw 22 rfl) (wd hw 6 rfl) (by decide) (by decide)) (g := (mkF m 22 #[.val (.int p1)] [(.int 0), (.ref b19), (.ref b15), (.ref b15)])) rfl (by rw [hml]; rfl) (Steps.refl _) (a := b15) (argsL := [(.ref b19), (.int 0)]) (rest := [(.ref b15)]) (lenOf pd_2 rfl) rfl (by show 2 * 0 + _ ≤ _; exact Nat.le_of_eq rfl) (hb hby d1_22) (fun _ _ => ⟨rfl, rfl, Nat.le_of_ble_eq_true rfl, Nat.le_of_ble_eq_true rfl⟩)
  dsimp only [Pt.U, Pt.locs, Pt.cells, Pt.slots] at X21 l21 y21 z21 st21 hQ21
  subst l21 y21 z21
  obtain ⟨rfl, Nq21, K21, p21_0, p21_1, p21_2⟩ := hQ21
  have N21 := Fr.app N19 Nq21
  have O22 := O20.keep K21 (allS (Nat.le_trans Z0 sz_b15) all0)
  have Z22 : n0 ≤ T21.heap.size := Nat.le_trans Z20 K21.1
  refine Go.by (B := (T21.setTop (mkF m 25 #[.val (.int p1)] [(.ref b15)]))) (fun _ k => st21.trans k) ?_
  refine Go.ret X21 hx hlk (t := (.object "java/lang/String")) hret rfl (Or.inr (Or.inr (Or.inr (Or.inr ⟨rfl, rfl, rfl⟩)))) (hb hby d1_25) (by decide) (by decide) ?_
  exact ⟨b15, b19, k19, rfl, N21, ((((Keep.refl h0 []).ext E15).trans K19 all0).trans K21 (allS (Or.inr (Nat.le_trans (Nat.le_refl _) sz_b15)) all0)), p21_0, p21_1, p21_2, (p19_0.keep K21 (ninS (Ne.symm (Nat.ne_of_lt (Nat.lt_of_lt_of_le A15.lt sz_b19))) nin0)), (Nat.le_trans (Nat.le_refl _) sz_b15), (Nat.le_trans (Nat.le_trans (Nat.le_refl _) E15.1) sz_b19)⟩
theorem ef_rm_feat (m : MethodId) (x0 : Addr) (x1 : Addr) (x2 : Addr) : entryFrame m #[(.ref x0), (.ref x1), (.ref x2)] 3 = mkF m 0 #[.val (.ref x0), .val (.ref x1), .val (.ref x2)] [] := by first | (simp [entryFrame, mkF, argsToLocals, Value.category]; done) | rfl
theorem d6_0 : decode prog_28_method_1_code 0 = .ok (.aload_n 0, 1) := by decide +kernel
theorem d6_1 : decode prog_28_method_1_code 1 = .ok (.invokespecial 1, 3) := by decide +kernel
theorem pd_3 : parseMethodDescriptor "()V" = some ⟨[], none⟩ := by decide +kernel
theorem d6_4 : decode prog_28_method_1_code 4 = .ok (.aload_n 0, 1) := by decide +kernel
theorem d6_5 : decode prog_28_method_1_code 5 = .ok (.aload_n 1, 1) := by decide +kernel
theorem d6_6 : decode prog_28_method_1_code 6 = .ok (.putfield 7, 3) := by decide +kernel
theorem d6_9 : decode prog_28_method_1_code 9 = .ok (.aload_n 0, 1) := by decide +kernel
theorem d6_10 : decode prog_28_method_1_code 10 = .ok (.aload_n 2, 1) := by decide +kernel
theorem d6_11 : decode prog_28_method_1_code 11 = .ok (.putfield 13, 3) := by decide +kernel
theorem d6_14 : decode prog_28_method_1_code 14 = .ok (.return_, 1) := by decide +kernel
theorem pn_com_example_pland_pland_catalog_Feature : plainName "com/example/pland/pland/catalog/Feature" = true := by first | (simp [plainName, overriddenIn]; done) | decide +kernel
def Q_rm_feat (Z : State) (a1 : Addr) (a2 : Addr) (a3 : Addr) (h0 : Heap) (n0 : Nat) (v : Option Value) (h : Heap) (L : List Loc) : Prop := v = none ∧ Fr n0 L ∧ Keep h0 h [a1] ∧ Exa Z h a1 "com/example/pland/pland/catalog/Feature" ∧ Fld Z h a1 "com/example/pland/pland/catalog/Feature" "id" "Ljava/lang/String;" (.ref a2) ∧ Fld Z h a1 "com/example/pland/pland/catalog/Feature" "type" "Lcom/example/pland/pland/catalog/FeatureType;" (.ref a3)
set_option maxRecDepth 65536 in
set_option maxHeartbeats 40000000 in
theorem rm_feat (l : Launch) (Z : State) (a0 : Array Value) (hw : ∀ d ∈ tables_1, d.before a0 Z = true) (ws : List Jvm.Cond) (a1 : Addr) (a2 : Addr) (a3 : Addr) (h0 : Heap) (n0 : Nat) (Z0 : n0 ≤ h0.size) (pr0 : Old Z n0 h0) (pr1 : Exa Z h0 a1 "com/example/pland/pland/catalog/Feature") (pr2 : Fld Z h0 a1 "com/example/pland/pland/catalog/Feature" "id" "Ljava/lang/String;" .null) (pr3 : Fld Z h0 a1 "com/example/pland/pland/catalog/Feature" "type" "Lcom/example/pland/pland/catalog/FeatureType;" .null) (pr4 : n0 ≤ a1) :
    Met l Z (⟨"com/example/pland/pland/catalog/Feature", "<init>", "(Ljava/lang/String;Lcom/example/pland/pland/catalog/FeatureType;)V"⟩ : MethodName) prog_28_method_1_code 3 none ws ({ frames := 2, cells := 0, slots := 0, locals := 24 } : Room) #[(.ref a1), (.ref a2), (.ref a3)] h0 (Q_rm_feat Z a1 a2 a3 h0 n0) := by
  refine Met.enter (f0 := fun m => mkF m 0 #[.val (.ref a1), .val (.ref a2), .val (.ref a3)] []) (plainFor_of_name pn_com_example_pland_pland_catalog_Feature) (fun m => ef_rm_feat m a1 a2 a3) ?_
  intro p e s m below meth c s₁ hx hby hml hown hnm hret hlk hZ X0 e0
  have hown : s.vm.findClass "com/example/pland/pland/catalog/Feature" = some m.cls := hown
  have hnm : meth.name = "<init>" := hnm
  have hml : c.maxLocals = 3 := hml
  have hby : c.code = prog_28_method_1_code := hby
  have N0 := Fr.nil n0
  refine Go.by (B := (s₁.setTop (mkF m 1 #[.val (.ref a1), .val (.ref a2), .val (.ref a3)] [(.ref a1)]))) (fun _ k => XS.aloadN X0.here hx rfl (hb hby d6_0) rfl rfl k) ?_
  obtain ⟨_, _, ⟨T23, L23, k23, n23⟩, -, X23, ⟨Lc23, hQ23, l23, y23, z23⟩, st23⟩ := X0.specialBack hx (y := (⟨"java/lang/Record", "<init>", "()V"⟩ : MethodName)) rfl hown (mvT hZ (wd hw 36 rfl)) (mvT hZ (wd hw 37 rfl)) (mvT hZ (wd hw 40 rfl)) (by decide) (backOf (W := 0) (rm_Record_init l Z a0 hw [] a1 h0 n0 Z0 ) hZ (wd hw 40 rfl) (wd hw 39 rfl) (by decide) (by decide)) (g := (mkF m 1 #[.val (.ref a1), .val (.ref a2), .val (.ref a3)] [(.ref a1)])) rfl (by rw [hml]; rfl) (Steps.refl _) (a := a1) (argsL := []) (rest := []) (lenOf pd_3 rfl) rfl (by show 2 * 0 + _ ≤ _; exact Nat.le_of_eq rfl) (hb hby d6_1) (fun _ _ => ⟨rfl, e0, Nat.le_of_ble_eq_true rfl, Nat.le_of_ble_eq_true rfl⟩)
  dsimp only [Pt.U, Pt.locs, Pt.cells, Pt.slots] at X23 l23 y23 z23 st23 hQ23
  subst l23 y23 z23
  obtain ⟨rfl, Nq23, hh23⟩ := hQ23
  have N23 := Fr.app N0 Nq23
  refine Go.by (B := (T23.setTop (mkF m 4 #[.val (.ref a1), .val (.ref a2), .val (.ref a3)] []))) (fun _ k => st23.trans k) ?_
  refine Go.by (B := (T23.setTop (mkF m 6 #[.val (.ref a1), .val (.ref a2), .val (.ref a3)] [(.ref a2), (.ref a1)]))) (fun _ k => XS.aloadN X23.here hx rfl (hb hby d6_4) rfl rfl (XS.aloadN X23.here hx rfl (hb hby d6_5) rfl rfl k)) ?_
  obtain ⟨T24, h24, X24, e24, W24, st24⟩ := putF X23 hx hZ hown (host := "") (Or.inl (wd hw 42 rfl)) Via.refl hh23 pr2 pr1 (Or.inr ⟨(wd hw 43 rfl), rfl, hnm⟩) (wd hw 31 rfl) (ty := (.object "java/lang/String")) (by decide) rfl rfl (g := (mkF m 6 #[.val (.ref a1), .val (.ref a2), .val (.ref a3)] [(.ref a2), (.ref a1)])) rfl rfl (hb hby d6_6)
  have N24 := Fr.snoc X24 N23 pr4
  have O25 := pr0.wr W24 pr4
  have Z25 : n0 ≤ h24.size := Nat.le_trans Z0 (Keep.of_wr W24).1
  have F24 := pr2.same W24
  refine Go.by (B := (T24.setTop (mkF m 9 #[.val (.ref a1), .val (.ref a2), .val (.ref a3)] []))) st24 ?_
  refine Go.by (B := (T24.setTop (mkF m 11 #[.val (.ref a1), .val (.ref a2), .val (.ref a3)] [(.ref a3), (.ref a1)]))) (fun _ k => XS.aloadN X24.here hx rfl (hb hby d6_9) rfl rfl (XS.aloadN X24.here hx rfl (hb hby d6_10) rfl rfl k)) ?_
  have f26 := (pr3.other W24 (Or.inr (slot_ne (Or.inr (wd hw 45 rfl)) (Or.inr (wd hw 43 rfl)) (by decide) (t := (.object "com/example/pland/pland/catalog/FeatureType")) (t' := (.object "java/lang/String")) (by decide) (by decide))))
  obtain ⟨T27, h27, X27, e27, W27, st27⟩ := putF X24 hx hZ hown (host := "") (Or.inl (wd hw 44 rfl)) Via.refl e24 f26 (pr1.wr W24) (Or.inr ⟨(wd hw 45 rfl), rfl, hnm⟩) (wd hw 31 rfl) (ty := (.object "com/example/pland/pland/catalog/FeatureType")) (by decide) rfl rfl (g := (mkF m 11 #[.val (.ref a1), .val (.ref a2), .val (.ref a3)] [(.ref a3), (.ref a1)])) rfl rfl (hb hby d6_11)
  have N27 := Fr.snoc X27 N24 pr4
  have O28 := O25.wr W27 pr4
  have Z28 : n0 ≤ h27.size := Nat.le_trans Z25 (Keep.of_wr W27).1
  have F27 := f26.same W27
  refine Go.by (B := (T27.setTop (mkF m 14 #[.val (.ref a1), .val (.ref a2), .val (.ref a3)] []))) st27 ?_
  refine Go.retV X27 hx hlk hret (hb hby d6_14) (by decide) (by decide) ?_
  rw [e27]
  exact ⟨rfl, N27, (((Keep.refl h0 [a1]).wr W24 (Or.inl (List.mem_of_getElem? (i := 0) rfl))).wr W27 (Or.inl (List.mem_of_getElem? (i := 0) rfl))), ((pr1.wr W24).wr W27), (F24.other W27 (Or.inr (slot_ne (Or.inr (wd hw 43 rfl)) (Or.inr (wd hw 45 rfl)) (by decide) (t := (.object "java/lang/String")) (t' := (.object "com/example/pland/pland/catalog/FeatureType")) (by decide) (by decide)))), F27⟩
theorem ef_rm_check (m : MethodId) (x0 : Addr) (x1 : Addr) (x2 : Addr) (x3 : Addr) (x4 : Int64) (x5 : Int64) : entryFrame m #[(.ref x0), (.ref x1), (.ref x2), (.ref x3), (.long x4), (.long x5)] 8 = mkF m 0 #[.val (.ref x0), .val (.ref x1), .val (.ref x2), .val (.ref x3), .val (.long x4), .second, .val (.long x5), .second] [] := by first | (simp [entryFrame, mkF, argsToLocals, Value.category]; done) | rfl
theorem d8_0 : decode prog_9_method_1_code 0 = .ok (.aload_n 0, 1) := by decide +kernel
theorem d8_1 : decode prog_9_method_1_code 1 = .ok (.invokespecial 1, 3) := by decide +kernel
theorem d8_4 : decode prog_9_method_1_code 4 = .ok (.aload_n 0, 1) := by decide +kernel
theorem d8_5 : decode prog_9_method_1_code 5 = .ok (.aload_n 1, 1) := by decide +kernel
theorem d8_6 : decode prog_9_method_1_code 6 = .ok (.putfield 7, 3) := by decide +kernel
theorem d8_9 : decode prog_9_method_1_code 9 = .ok (.aload_n 0, 1) := by decide +kernel
theorem d8_10 : decode prog_9_method_1_code 10 = .ok (.aload_n 2, 1) := by decide +kernel
theorem d8_11 : decode prog_9_method_1_code 11 = .ok (.putfield 13, 3) := by decide +kernel
theorem d8_14 : decode prog_9_method_1_code 14 = .ok (.aload_n 0, 1) := by decide +kernel
theorem d8_15 : decode prog_9_method_1_code 15 = .ok (.aload_n 3, 1) := by decide +kernel
theorem d8_16 : decode prog_9_method_1_code 16 = .ok (.putfield 17, 3) := by decide +kernel
theorem d8_19 : decode prog_9_method_1_code 19 = .ok (.aload_n 0, 1) := by decide +kernel
theorem d8_20 : decode prog_9_method_1_code 20 = .ok (.lload 4, 2) := by decide +kernel
theorem d8_22 : decode prog_9_method_1_code 22 = .ok (.putfield 20, 3) := by decide +kernel
theorem d8_25 : decode prog_9_method_1_code 25 = .ok (.aload_n 0, 1) := by decide +kernel
theorem d8_26 : decode prog_9_method_1_code 26 = .ok (.lload 6, 2) := by decide +kernel
theorem d8_28 : decode prog_9_method_1_code 28 = .ok (.putfield 24, 3) := by decide +kernel
theorem d8_31 : decode prog_9_method_1_code 31 = .ok (.return_, 1) := by decide +kernel
theorem pn_com_example_pland_pland_billing_CreditCheck : plainName "com/example/pland/pland/billing/CreditCheck" = true := by first | (simp [plainName, overriddenIn]; done) | decide +kernel
def Q_rm_check (Z : State) (a1 : Addr) (a2 : Addr) (a3 : Addr) (a4 : Addr) (q1 : Int64) (q2 : Int64) (h0 : Heap) (n0 : Nat) (v : Option Value) (h : Heap) (L : List Loc) : Prop := v = none ∧ Fr n0 L ∧ Keep h0 h [a1] ∧ Exa Z h a1 "com/example/pland/pland/billing/CreditCheck" ∧ Fld Z h a1 "com/example/pland/pland/billing/CreditCheck" "customer" "Ljava/lang/String;" (.ref a2) ∧ Fld Z h a1 "com/example/pland/pland/billing/CreditCheck" "feature" "Lcom/example/pland/pland/catalog/Feature;" (.ref a3) ∧ Fld Z h a1 "com/example/pland/pland/billing/CreditCheck" "creditSystem" "Ljava/lang/String;" (.ref a4) ∧ Fld Z h a1 "com/example/pland/pland/billing/CreditCheck" "balance" "J" (.long q1) ∧ Fld Z h a1 "com/example/pland/pland/billing/CreditCheck" "cost" "J" (.long q2)
set_option maxRecDepth 65536 in
set_option maxHeartbeats 40000000 in
theorem rm_check (l : Launch) (Z : State) (a0 : Array Value) (hw : ∀ d ∈ tables_1, d.before a0 Z = true) (ws : List Jvm.Cond) (a1 : Addr) (a2 : Addr) (a3 : Addr) (a4 : Addr) (q1 : Int64) (q2 : Int64) (h0 : Heap) (n0 : Nat) (Z0 : n0 ≤ h0.size) (pr0 : Old Z n0 h0) (pr1 : Exa Z h0 a1 "com/example/pland/pland/billing/CreditCheck") (pr2 : Fld Z h0 a1 "com/example/pland/pland/billing/CreditCheck" "customer" "Ljava/lang/String;" .null) (pr3 : Fld Z h0 a1 "com/example/pland/pland/billing/CreditCheck" "feature" "Lcom/example/pland/pland/catalog/Feature;" .null) (pr4 : Fld Z h0 a1 "com/example/pland/pland/billing/CreditCheck" "creditSystem" "Ljava/lang/String;" .null) (pr5 : Fld Z h0 a1 "com/example/pland/pland/billing/CreditCheck" "balance" "J" (.long (0 : Int64))) (pr6 : Fld Z h0 a1 "com/example/pland/pland/billing/CreditCheck" "cost" "J" (.long (0 : Int64))) (pr7 : n0 ≤ a1) :
    Met l Z (⟨"com/example/pland/pland/billing/CreditCheck", "<init>", "(Ljava/lang/String;Lcom/example/pland/pland/catalog/Feature;Ljava/lang/String;JJ)V"⟩ : MethodName) prog_9_method_1_code 8 none ws ({ frames := 2, cells := 0, slots := 0, locals := 24 } : Room) #[(.ref a1), (.ref a2), (.ref a3), (.ref a4), (.long q1), (.long q2)] h0 (Q_rm_check Z a1 a2 a3 a4 q1 q2 h0 n0) := by
  refine Met.enter (f0 := fun m => mkF m 0 #[.val (.ref a1), .val (.ref a2), .val (.ref a3), .val (.ref a4), .val (.long q1), .second, .val (.long q2), .second] []) (plainFor_of_name pn_com_example_pland_pland_billing_CreditCheck) (fun m => ef_rm_check m a1 a2 a3 a4 q1 q2) ?_
  intro p e s m below meth c s₁ hx hby hml hown hnm hret hlk hZ X0 e0
  have hown : s.vm.findClass "com/example/pland/pland/billing/CreditCheck" = some m.cls := hown
  have hnm : meth.name = "<init>" := hnm
  have hml : c.maxLocals = 8 := hml
  have hby : c.code = prog_9_method_1_code := hby
  have N0 := Fr.nil n0
  refine Go.by (B := (s₁.setTop (mkF m 1 #[.val (.ref a1), .val (.ref a2), .val (.ref a3), .val (.ref a4), .val (.long q1), .second, .val (.long q2), .second] [(.ref a1)]))) (fun _ k => XS.aloadN X0.here hx rfl (hb hby d8_0) rfl rfl k) ?_
  obtain ⟨_, _, ⟨T29, L29, k29, n29⟩, -, X29, ⟨Lc29, hQ29, l29, y29, z29⟩, st29⟩ := X0.specialBack hx (y := (⟨"java/lang/Record", "<init>", "()V"⟩ : MethodName)) rfl hown (mvT hZ (wd hw 52 rfl)) (mvT hZ (wd hw 37 rfl)) (mvT hZ (wd hw 40 rfl)) (by decide) (backOf (W := 0) (rm_Record_init l Z a0 hw [] a1 h0 n0 Z0 ) hZ (wd hw 40 rfl) (wd hw 39 rfl) (by decide) (by decide)) (g := (mkF m 1 #[.val (.ref a1), .val (.ref a2), .val (.ref a3), .val (.ref a4), .val (.long q1), .second, .val (.long q2), .second] [(.ref a1)])) rfl (by rw [hml]; rfl) (Steps.refl _) (a := a1) (argsL := []) (rest := []) (lenOf pd_3 rfl) rfl (by show 2 * 0 + _ ≤ _; exact Nat.le_of_eq rfl) (hb hby d8_1) (fun _ _ => ⟨rfl, e0, Nat.le_of_ble_eq_true rfl, Nat.le_of_ble_eq_true rfl⟩)
  dsimp only [Pt.U, Pt.locs, Pt.cells, Pt.slots] at X29 l29 y29 z29 st29 hQ29
  subst l29 y29 z29
  obtain ⟨rfl, Nq29, hh29⟩ := hQ29
  have N29 := Fr.app N0 Nq29
  refine Go.by (B := (T29.setTop (mkF m 4 #[.val (.ref a1), .val (.ref a2), .val (.ref a3), .val (.ref a4), .val (.long q1), .second, .val (.long q2), .second] []))) (fun _ k => st29.trans k) ?_
  refine Go.by (B := (T29.setTop (mkF m 6 #[.val (.ref a1), .val (.ref a2), .val (.ref a3), .val (.ref a4), .val (.long q1), .second, .val (.long q2), .second] [(.ref a2), (.ref a1)]))) (fun _ k => XS.aloadN X29.here hx rfl (hb hby d8_4) rfl rfl (XS.aloadN X29.here hx rfl (hb hby d8_5) rfl rfl k)) ?_
  obtain ⟨T30, h30, X30, e30, W30, st30⟩ := putF X29 hx hZ hown (host := "") (Or.inl (wd hw 53 rfl)) Via.refl hh29 pr2 pr1 (Or.inr ⟨(wd hw 54 rfl), rfl, hnm⟩) (wd hw 47 rfl) (ty := (.object "java/lang/String")) (by decide) rfl rfl (g := (mkF m 6 #[.val (.ref a1), .val (.ref a2), .val (.ref a3), .val (.ref a4), .val (.long q1), .second, .val (.long q2), .second] [(.ref a2), (.ref a1)])) rfl rfl (hb hby d8_6)
  have N30 := Fr.snoc X30 N29 pr7
  have O31 := pr0.wr W30 pr7
  have Z31 : n0 ≤ h30.size := Nat.le_trans Z0 (Keep.of_wr W30).1
  have F30 := pr2.same W30
  refine Go.by (B := (T30.setTop (mkF m 9 #[.val (.ref a1), .val (.ref a2), .val (.ref a3), .val (.ref a4), .val (.long q1), .second, .val (.long q2), .second] []))) st30 ?_
  refine Go.by (B := (T30.setTop (mkF m 11 #[.val (.ref a1), .val (.ref a2), .val (.ref a3), .val (.ref a4), .val (.long q1), .second, .val (.long q2), .second] [(.ref a3), (.ref a1)]))) (fun _ k => XS.aloadN X30.here hx rfl (hb hby d8_9) rfl rfl (XS.aloadN X30.here hx rfl (hb hby d8_10) rfl rfl k)) ?_
  have f32 := (pr3.other W30 (Or.inr (slot_ne (Or.inr (wd hw 56 rfl)) (Or.inr (wd hw 54 rfl)) (by decide) (t := (.object "com/example/pland/pland/catalog/Feature")) (t' := (.object "java/lang/String")) (by decide) (by decide))))
  obtain ⟨T33, h33, X33, e33, W33, st33⟩ := putF X30 hx hZ hown (host := "") (Or.inl (wd hw 55 rfl)) Via.refl e30 f32 (pr1.wr W30) (Or.inr ⟨(wd hw 56 rfl), rfl, hnm⟩) (wd hw 47 rfl) (ty := (.object "com/example/pland/pland/catalog/Feature")) (by decide) rfl rfl (g := (mkF m 11 #[.val (.ref a1), .val (.ref a2), .val (.ref a3), .val (.ref a4), .val (.long q1), .second, .val (.long q2), .second] [(.ref a3), (.ref a1)])) rfl rfl (hb hby d8_11)
  have N33 := Fr.snoc X33 N30 pr7
  have O34 := O31.wr W33 pr7
  have Z34 : n0 ≤ h33.size := Nat.le_trans Z31 (Keep.of_wr W33).1
  have F33 := f32.same W33
  refine Go.by (B := (T33.setTop (mkF m 14 #[.val (.ref a1), .val (.ref a2), .val (.ref a3), .val (.ref a4), .val (.long q1), .second, .val (.long q2), .second] []))) st33 ?_
  refine Go.by (B := (T33.setTop (mkF m 16 #[.val (.ref a1), .val (.ref a2), .val (.ref a3), .val (.ref a4), .val (.long q1), .second, .val (.long q2), .second] [(.ref a4), (.ref a1)]))) (fun _ k => XS.aloadN X33.here hx rfl (hb hby d8_14) rfl rfl (XS.aloadN X33.here hx rfl (hb hby d8_15) rfl rfl k)) ?_
  have f35 := ((pr4.other W30 (Or.inr (slot_ne (Or.inr (wd hw 58 rfl)) (Or.inr (wd hw 54 rfl)) (by decide) (t := (.object "java/lang/String")) (t' := (.object "java/lang/String")) (by decide) (by decide)))).other W33 (Or.inr (slot_ne (Or.inr (wd hw 58 rfl)) (Or.inr (wd hw 56 rfl)) (by decide) (t := (.object "java/lang/String")) (t' := (.object "com/example/pland/pland/catalog/Feature")) (by decide) (by decide))))
  obtain ⟨T36, h36, X36, e36, W36, st36⟩ := putF X33 hx hZ hown (host := "") (Or.inl (wd hw 57 rfl)) Via.refl e33 f35 ((pr1.wr W30).wr W33) (Or.inr ⟨(wd hw 58 rfl), rfl, hnm⟩) (wd hw 47 rfl) (ty := (.object "java/lang/String")) (by decide) rfl rfl (g := (mkF m 16 #[.val (.ref a1), .val (.ref a2), .val (.ref a3), .val (.ref a4), .val (.long q1), .second, .val (.long q2), .second] [(.ref a4), (.ref a1)])) rfl rfl (hb hby d8_16)
  have N36 := Fr.snoc X36 N33 pr7
  have O37 := O34.wr W36 pr7
  have Z37 : n0 ≤ h36.size := Nat.le_trans Z34 (Keep.of_wr W36).1
  have F36 := f35.same W36
  refine Go.by (B := (T36.setTop (mkF m 19 #[.val (.ref a1), .val (.ref a2), .val (.ref a3), .val (.ref a4), .val (.long q1), .second, .val (.long q2), .second] []))) st36 ?_
  refine Go.by (B := (T36.setTop (mkF m 22 #[.val (.ref a1), .val (.ref a2), .val (.ref a3), .val (.ref a4), .val (.long q1), .second, .val (.long q2), .second] [(.long q1), (.ref a1)]))) (fun _ k => XS.aloadN X36.here hx rfl (hb hby d8_19) rfl rfl (XS.lload X36.here hx rfl (hb hby d8_20) rfl k)) ?_
  have f38 := (((pr5.other W30 (Or.inr (slot_ne (Or.inr (wd hw 60 rfl)) (Or.inr (wd hw 54 rfl)) (by decide) (t := .long) (t' := (.object "java/lang/String")) (by decide) (by decide)))).other W33 (Or.inr (slot_ne (Or.inr (wd hw 60 rfl)) (Or.inr (wd hw 56 rfl)) (by decide) (t := .long) (t' := (.object "com/example/pland/pland/catalog/Feature")) (by decide) (by decide)))).other W36 (Or.inr (slot_ne (Or.inr (wd hw 60 rfl)) (Or.inr (wd hw 58 rfl)) (by decide) (t := .long) (t' := (.object "java/lang/String")) (by decide) (by decide))))
  obtain ⟨T39, h39, X39, e39, W39, st39⟩ := putF X36 hx hZ hown (host := "") (Or.inl (wd hw 59 rfl)) Via.refl e36 f38 (((pr1.wr W30).wr W33).wr W36) (Or.inr ⟨(wd hw 60 rfl), rfl, hnm⟩) (wd hw 47 rfl) (ty := .long) (by decide) rfl rfl (g := (mkF m 22 #[.val (.ref a1), .val (.ref a2), .val (.ref a3), .val (.ref a4), .val (.long q1), .second, .val (.long q2), .second] [(.long q1), (.ref a1)])) rfl rfl (hb hby d8_22)
  have N39 := Fr.snoc X39 N36 pr7
  have O40 := O37.wr W39 pr7
  have Z40 : n0 ≤ h39.size := Nat.le_trans Z37 (Keep.of_wr W39).1
  have F39 := f38.same W39
  refine Go.by (B := (T39.setTop (mkF m 25 #[.val (.ref a1), .val (.ref a2), .val (.ref a3), .val (.ref a4), .val (.long q1), .second, .val (.long q2), .second] []))) st39 ?_
  refine Go.by (B := (T39.setTop (mkF m 28 #[.val (.ref a1), .val (.ref a2), .val (.ref a3), .val (.ref a4), .val (.long q1), .second, .val (.long q2), .second] [(.long q2), (.ref a1)]))) (fun _ k => XS.aloadN X39.here hx rfl (hb hby d8_25) rfl rfl (XS.lload X39.here hx rfl (hb hby d8_26) rfl k)) ?_
  have f41 := ((((pr6.other W30 (Or.inr (slot_ne (Or.inr (wd hw 62 rfl)) (Or.inr (wd hw 54 rfl)) (by decide) (t := .long) (t' := (.object "java/lang/String")) (by decide) (by decide)))).other W33 (Or.inr (slot_ne (Or.inr (wd hw 62 rfl)) (Or.inr (wd hw 56 rfl)) (by decide) (t := .long) (t' := (.object "com/example/pland/pland/catalog/Feature")) (by decide) (by decide)))).other W36 (Or.inr (slot_ne (Or.inr (wd hw 62 rfl)) (Or.inr (wd hw 58 rfl)) (by decide) (t := .long) (t' := (.object "java/lang/String")) (by decide) (by decide)))).other W39 (Or.inr (slot_ne (Or.inr (wd hw 62 rfl)) (Or.inr (wd hw 60 rfl)) (by decide) (t := .long) (t' := .long) (by decide) (by decide))))
  have f42 := ((((pr1.wr W30).wr W33).wr W36).wr W39)
  obtain ⟨T43, h43, X43, e43, W43, st43⟩ := putF X39 hx hZ hown (host := "") (Or.inl (wd hw 61 rfl)) Via.refl e39 f41 f42 (Or.inr ⟨(wd hw 62 rfl), rfl, hnm⟩) (wd hw 47 rfl) (ty := .long) (by decide) rfl rfl (g := (mkF m 28 #[.val (.ref a1), .val (.ref a2), .val (.ref a3), .val (.ref a4), .val (.long q1), .second, .val (.long q2), .second] [(.long q2), (.ref a1)])) rfl rfl (hb hby d8_28)
  have N43 := Fr.snoc X43 N39 pr7
  have O44 := O40.wr W43 pr7
  have Z44 : n0 ≤ h43.size := Nat.le_trans Z40 (Keep.of_wr W43).1
  have F43 := f41.same W43
  refine Go.by (B := (T43.setTop (mkF m 31 #[.val (.ref a1), .val (.ref a2), .val (.ref a3), .val (.ref a4), .val (.long q1), .second, .val (.long q2), .second] []))) st43 ?_
  refine Go.retV X43 hx hlk hret (hb hby d8_31) (by decide) (by decide) ?_
  rw [e43]
  exact ⟨rfl, N43, ((((((Keep.refl h0 [a1]).wr W30 (Or.inl (List.mem_of_getElem? (i := 0) rfl))).wr W33 (Or.inl (List.mem_of_getElem? (i := 0) rfl))).wr W36 (Or.inl (List.mem_of_getElem? (i := 0) rfl))).wr W39 (Or.inl (List.mem_of_getElem? (i := 0) rfl))).wr W43 (Or.inl (List.mem_of_getElem? (i := 0) rfl))), (f42.wr W43), ((((F30.other W33 (Or.inr (slot_ne (Or.inr (wd hw 54 rfl)) (Or.inr (wd hw 56 rfl)) (by decide) (t := (.object "java/lang/String")) (t' := (.object "com/example/pland/pland/catalog/Feature")) (by decide) (by decide)))).other W36 (Or.inr (slot_ne (Or.inr (wd hw 54 rfl)) (Or.inr (wd hw 58 rfl)) (by decide) (t := (.object "java/lang/String")) (t' := (.object "java/lang/String")) (by decide) (by decide)))).other W39 (Or.inr (slot_ne (Or.inr (wd hw 54 rfl)) (Or.inr (wd hw 60 rfl)) (by decide) (t := (.object "java/lang/String")) (t' := .long) (by decide) (by decide)))).other W43 (Or.inr (slot_ne (Or.inr (wd hw 54 rfl)) (Or.inr (wd hw 62 rfl)) (by decide) (t := (.object "java/lang/String")) (t' := .long) (by decide) (by decide)))), (((F33.other W36 (Or.inr (slot_ne (Or.inr (wd hw 56 rfl)) (Or.inr (wd hw 58 rfl)) (by decide) (t := (.object "com/example/pland/pland/catalog/Feature")) (t' := (.object "java/lang/String")) (by decide) (by decide)))).other W39 (Or.inr (slot_ne (Or.inr (wd hw 56 rfl)) (Or.inr (wd hw 60 rfl)) (by decide) (t := (.object "com/example/pland/pland/catalog/Feature")) (t' := .long) (by decide) (by decide)))).other W43 (Or.inr (slot_ne (Or.inr (wd hw 56 rfl)) (Or.inr (wd hw 62 rfl)) (by decide) (t := (.object "com/example/pland/pland/catalog/Feature")) (t' := .long) (by decide) (by decide)))), ((F36.other W39 (Or.inr (slot_ne (Or.inr (wd hw 58 rfl)) (Or.inr (wd hw 60 rfl)) (by decide) (t := (.object "java/lang/String")) (t' := .long) (by decide) (by decide)))).other W43 (Or.inr (slot_ne (Or.inr (wd hw 58 rfl)) (Or.inr (wd hw 62 rfl)) (by decide) (t := (.object "java/lang/String")) (t' := .long) (by decide) (by decide)))), (F39.other W43 (Or.inr (slot_ne (Or.inr (wd hw 60 rfl)) (Or.inr (wd hw 62 rfl)) (by decide) (t := .long) (t' := .long) (by decide) (by decide)))), F43⟩
theorem ef_rm_allowed (m : MethodId) (x0 : Addr) : entryFrame m #[(.ref x0)] 1 = mkF m 0 #[.val (.ref x0)] [] := by first | (simp [entryFrame, mkF, argsToLocals, Value.category]; done) | rfl
theorem d9_0 : decode prog_9_method_2_code 0 = .ok (.aload_n 0, 1) := by decide +kernel
theorem d9_1 : decode prog_9_method_2_code 1 = .ok (.getfield 24, 3) := by decide +kernel
theorem d9_4 : decode prog_9_method_2_code 4 = .ok (.aload_n 0, 1) := by decide +kernel
theorem d9_5 : decode prog_9_method_2_code 5 = .ok (.getfield 20, 3) := by decide +kernel
theorem d9_8 : decode prog_9_method_2_code 8 = .ok (.lcmp, 1) := by decide +kernel
theorem d9_9 : decode prog_9_method_2_code 9 = .ok (.ifCond .gt 7, 3) := by decide +kernel
theorem d9_16 : decode prog_9_method_2_code 16 = .ok (.iconst 0, 1) := by decide +kernel
theorem d9_17 : decode prog_9_method_2_code 17 = .ok (.ireturn, 1) := by decide +kernel
theorem d9_12 : decode prog_9_method_2_code 12 = .ok (.iconst 1, 1) := by decide +kernel
theorem d9_13 : decode prog_9_method_2_code 13 = .ok (.goto 4, 3) := by decide +kernel
def Q_rm_allowed (Z : State) (a1 : Addr) (qb : Int64) (qc : Int64) (h0 : Heap) (n0 : Nat) (v : Option Value) (h : Heap) (L : List Loc) : Prop := v = some (.int (if qb < qc then (0 : Int32) else 1)) ∧ Fr n0 L ∧ h = h0
set_option maxRecDepth 65536 in
set_option maxHeartbeats 40000000 in
theorem rm_allowed (l : Launch) (Z : State) (a0 : Array Value) (hw : ∀ d ∈ tables_1, d.before a0 Z = true) (ws : List Jvm.Cond) (a1 : Addr) (qb : Int64) (qc : Int64) (h0 : Heap) (n0 : Nat) (Z0 : n0 ≤ h0.size) (pr0 : Fld Z h0 a1 "com/example/pland/pland/billing/CreditCheck" "balance" "J" (.long qb)) (pr1 : Fld Z h0 a1 "com/example/pland/pland/billing/CreditCheck" "cost" "J" (.long qc)) :
    Met l Z (⟨"com/example/pland/pland/billing/CreditCheck", "allowed", "()Z"⟩ : MethodName) prog_9_method_2_code 1 (some .boolean) ws ({ frames := 0, cells := 0, slots := 0, locals := 0 } : Room) #[(.ref a1)] h0 (Q_rm_allowed Z a1 qb qc h0 n0) := by
  refine Met.enter (f0 := fun m => mkF m 0 #[.val (.ref a1)] []) (plainFor_of_name pn_com_example_pland_pland_billing_CreditCheck) (fun m => ef_rm_allowed m a1) ?_
  intro p e s m below meth c s₁ hx hby hml hown hnm hret hlk hZ X0 e0
  have hown : s.vm.findClass "com/example/pland/pland/billing/CreditCheck" = some m.cls := hown
  have hnm : meth.name = "allowed" := hnm
  have hml : c.maxLocals = 1 := hml
  have hby : c.code = prog_9_method_2_code := hby
  have N0 := Fr.nil n0
  refine Go.by (B := (s₁.setTop (mkF m 1 #[.val (.ref a1)] [(.ref a1)]))) (fun _ k => XS.aloadN X0.here hx rfl (hb hby d9_0) rfl rfl k) ?_
  obtain ⟨T45, X45, e45, st45⟩ := getF X0 hx hZ hown (host := "") (Or.inl (wd hw 61 rfl)) Via.refl e0 pr1 (g := (mkF m 1 #[.val (.ref a1)] [(.ref a1)])) rfl rfl (hb hby d9_1)
  refine Go.by (B := (T45.setTop (mkF m 4 #[.val (.ref a1)] [(.long qc)]))) st45 ?_
  refine Go.by (B := (T45.setTop (mkF m 5 #[.val (.ref a1)] [(.ref a1), (.long qc)]))) (fun _ k => XS.aloadN X45.here hx rfl (hb hby d9_4) rfl rfl k) ?_
  obtain ⟨T46, X46, e46, st46⟩ := getF X45 hx hZ hown (host := "") (Or.inl (wd hw 59 rfl)) Via.refl e45 pr0 (g := (mkF m 5 #[.val (.ref a1)] [(.ref a1), (.long qc)])) rfl rfl (hb hby d9_5)
  refine Go.by (B := (T46.setTop (mkF m 8 #[.val (.ref a1)] [(.long qb), (.long qc)]))) st46 ?_
  refine Go.by (B := (T46.setTop (mkF m 9 #[.val (.ref a1)] [(.int (lcmpW qc qb))]))) (fun _ k => XS.lcmp X46.here hx rfl (hb hby d9_8) rfl k) ?_
  by_cases c47 : qb < qc
  · skip
    refine Go.by (B := (T46.setTop (mkF m 17 #[.val (.ref a1)] [(.int 0)]))) (fun _ k => XS.ifYes X46.here hx rfl (pc0 := 9) (pc' := 16) rfl (hb hby d9_9) rfl ((if0 _ _).trans (tlt ((lw_gt _ _).mpr c47)).2.2.1) (by decide) (by decide) (XS.iconst X46.here hx rfl (hb hby d9_16) k)) ?_
    refine Go.ret X46 hx hlk (t := .boolean) hret rfl (Or.inl ⟨rfl, by simp, _, rfl⟩) (hb hby d9_17) (by decide) (by decide) ?_
    rw [e46]
    exact ⟨(congrArg (fun q => some (Value.int q)) (if_pos c47).symm), N0, rfl⟩
  · skip
    refine Go.by (B := (T46.setTop (mkF m 17 #[.val (.ref a1)] [(.int 1)]))) (fun _ k => XS.ifNo X46.here hx rfl (hb hby d9_9) rfl ((if0 _ _).trans (flt (fun q => c47 ((lw_gt _ _).mp q))).2.2.1) (XS.iconst X46.here hx rfl (hb hby d9_12) (XS.goto X46.here hx rfl (pc0 := 13) (pc' := 17) rfl (hb hby d9_13) (by decide) (by decide) k))) ?_
    refine Go.ret X46 hx hlk (t := .boolean) hret rfl (Or.inl ⟨rfl, by simp, _, rfl⟩) (hb hby d9_17) (by decide) (by decide) ?_
    rw [e46]
    exact ⟨(congrArg (fun q => some (Value.int q)) (if_neg c47).symm), N0, rfl⟩
theorem ef_rm_exp (m : MethodId) (x0 : Int64) (x1 : Int64) : entryFrame m #[(.long x0), (.long x1)] 6 = mkF m 0 #[.val (.long x0), .second, .val (.long x1), .second, .unset, .unset] [] := by first | (simp [entryFrame, mkF, argsToLocals, Value.category]; done) | rfl
theorem d10_0 : decode method_2_code 0 = .ok (.lload_n 0, 1) := by decide +kernel
theorem d10_1 : decode method_2_code 1 = .ok (.lconst 0, 1) := by decide +kernel
theorem d10_2 : decode method_2_code 2 = .ok (.lcmp, 1) := by decide +kernel
theorem d10_3 : decode method_2_code 3 = .ok (.ifCond .lt 7, 3) := by decide +kernel
theorem d10_10 : decode method_2_code 10 = .ok (.iconst 0, 1) := by decide +kernel
theorem d10_11 : decode method_2_code 11 = .ok (.istore 4, 2) := by decide +kernel
theorem d10_13 : decode method_2_code 13 = .ok (.lload_n 2, 1) := by decide +kernel
theorem d10_14 : decode method_2_code 14 = .ok (.lconst 0, 1) := by decide +kernel
theorem d10_15 : decode method_2_code 15 = .ok (.lcmp, 1) := by decide +kernel
theorem d10_16 : decode method_2_code 16 = .ok (.ifCond .lt 7, 3) := by decide +kernel
theorem d10_23 : decode method_2_code 23 = .ok (.iconst 0, 1) := by decide +kernel
theorem d10_24 : decode method_2_code 24 = .ok (.istore 5, 2) := by decide +kernel
theorem d10_26 : decode method_2_code 26 = .ok (.iload 4, 2) := by decide +kernel
theorem d10_28 : decode method_2_code 28 = .ok (.iload 5, 2) := by decide +kernel
theorem d10_30 : decode method_2_code 30 = .ok (.if_icmp .eq 14, 3) := by decide +kernel
theorem d10_44 : decode method_2_code 44 = .ok (.lload_n 0, 1) := by decide +kernel
theorem d10_45 : decode method_2_code 45 = .ok (.lload_n 2, 1) := by decide +kernel
theorem d10_46 : decode method_2_code 46 = .ok (.lsub, 1) := by decide +kernel
theorem d10_47 : decode method_2_code 47 = .ok (.lconst 0, 1) := by decide +kernel
theorem d10_48 : decode method_2_code 48 = .ok (.lcmp, 1) := by decide +kernel
theorem d10_49 : decode method_2_code 49 = .ok (.ifCond .lt 7, 3) := by decide +kernel
theorem d10_56 : decode method_2_code 56 = .ok (.iconst 0, 1) := by decide +kernel
theorem d10_57 : decode method_2_code 57 = .ok (.ireturn, 1) := by decide +kernel
theorem d10_52 : decode method_2_code 52 = .ok (.iconst 1, 1) := by decide +kernel
theorem d10_53 : decode method_2_code 53 = .ok (.goto 4, 3) := by decide +kernel
theorem d10_19 : decode method_2_code 19 = .ok (.iconst 1, 1) := by decide +kernel
theorem d10_20 : decode method_2_code 20 = .ok (.goto 4, 3) := by decide +kernel
theorem d10_33 : decode method_2_code 33 = .ok (.iload 5, 2) := by decide +kernel
theorem d10_35 : decode method_2_code 35 = .ok (.ifCond .ne 7, 3) := by decide +kernel
theorem d10_42 : decode method_2_code 42 = .ok (.iconst 0, 1) := by decide +kernel
theorem d10_43 : decode method_2_code 43 = .ok (.ireturn, 1) := by decide +kernel
theorem d10_6 : decode method_2_code 6 = .ok (.iconst 1, 1) := by decide +kernel
theorem d10_7 : decode method_2_code 7 = .ok (.goto 4, 3) := by decide +kernel
theorem d10_38 : decode method_2_code 38 = .ok (.iconst 1, 1) := by decide +kernel
theorem d10_39 : decode method_2_code 39 = .ok (.goto 4, 3) := by decide +kernel
theorem pn_com_example_pland_pland_billing_CreditCheckAllowedPinLaw : plainName "com/example/pland/pland/billing/CreditCheckAllowedPinLaw" = true := by first | (simp [plainName, overriddenIn]; done) | decide +kernel
def Q_rm_exp (Z : State) (qb : Int64) (qc : Int64) (h0 : Heap) (n0 : Nat) (v : Option Value) (h : Heap) (L : List Loc) : Prop := v = some (.int (if qb < qc then (0 : Int32) else 1)) ∧ Fr n0 L ∧ h = h0
set_option maxRecDepth 65536 in
set_option maxHeartbeats 40000000 in
theorem rm_exp (l : Launch) (Z : State) (a0 : Array Value) (hw : ∀ d ∈ tables_1, d.before a0 Z = true) (ws : List Jvm.Cond) (qb : Int64) (qc : Int64) (h0 : Heap) (n0 : Nat) (Z0 : n0 ≤ h0.size) :
    Met l Z (⟨"com/example/pland/pland/billing/CreditCheckAllowedPinLaw", "expected", "(JJ)Z"⟩ : MethodName) method_2_code 6 (some .boolean) ws ({ frames := 0, cells := 0, slots := 0, locals := 0 } : Room) #[(.long qb), (.long qc)] h0 (Q_rm_exp Z qb qc h0 n0) := by
  refine Met.enter (f0 := fun m => mkF m 0 #[.val (.long qb), .second, .val (.long qc), .second, .unset, .unset] []) (plainFor_of_name pn_com_example_pland_pland_billing_CreditCheckAllowedPinLaw) (fun m => ef_rm_exp m qb qc) ?_
  intro p e s m below meth c s₁ hx hby hml hown hnm hret hlk hZ X0 e0
  have hown : s.vm.findClass "com/example/pland/pland/billing/CreditCheckAllowedPinLaw" = some m.cls := hown
  have hnm : meth.name = "expected" := hnm
  have hml : c.maxLocals = 6 := hml
  have hby : c.code = method_2_code := hby
  have N0 := Fr.nil n0
  refine Go.by (B := (s₁.setTop (mkF m 3 #[.val (.long qb), .second, .val (.long qc), .second, .unset, .unset] [(.int (lcmpW qb (0 : Int64)))]))) (fun _ k => XS.lloadN X0.here hx rfl (hb hby d10_0) rfl (XS.lconst X0.here hx rfl (hb hby d10_1) (XS.lcmp X0.here hx rfl (hb hby d10_2) rfl k))) ?_
  by_cases c48 : qb < (0 : Int64)
  · skip
    refine Go.by (B := (s₁.setTop (mkF m 16 #[.val (.long qb), .second, .val (.long qc), .second, .val (.int 0), .unset] [(.int (lcmpW qc (0 : Int64)))]))) (fun _ k => XS.ifYes X0.here hx rfl (pc0 := 3) (pc' := 10) rfl (hb hby d10_3) rfl ((if0 _ _).trans (tlt ((lw_lt _ _).mpr c48)).1) (by decide) (by decide) (XS.iconst X0.here hx rfl (hb hby d10_10) (XS.istore X0.here hx rfl (hb hby d10_11) rfl (l' := #[.val (.long qb), .second, .val (.long qc), .second, .val (.int 0), .unset]) rfl (XS.lloadN X0.here hx rfl (hb hby d10_13) rfl (XS.lconst X0.here hx rfl (hb hby d10_14) (XS.lcmp X0.here hx rfl (hb hby d10_15) rfl k)))))) ?_
    by_cases c49 : qc < (0 : Int64)
    · skip
      refine Go.by (B := (s₁.setTop (mkF m 46 #[.val (.long qb), .second, .val (.long qc), .second, .val (.int 0), .val (.int 0)] [(.long qc), (.long qb)]))) (fun _ k => XS.ifYes X0.here hx rfl (pc0 := 16) (pc' := 23) rfl (hb hby d10_16) rfl ((if0 _ _).trans (tlt ((lw_lt _ _).mpr c49)).1) (by decide) (by decide) (XS.iconst X0.here hx rfl (hb hby d10_23) (XS.istore X0.here hx rfl (hb hby d10_24) rfl (l' := #[.val (.long qb), .second, .val (.long qc), .second, .val (.int 0), .val (.int 0)]) rfl (XS.iload X0.here hx rfl (hb hby d10_26) rfl (XS.iload X0.here hx rfl (hb hby d10_28) rfl (XS.icmpYes X0.here hx rfl (pc0 := 30) (pc' := 44) rfl (hb hby d10_30) rfl (teq (by decide : (0 : Int32) = (0 : Int32))).1 (by decide) (by decide) (XS.lloadN X0.here hx rfl (hb hby d10_44) rfl (XS.lloadN X0.here hx rfl (hb hby d10_45) rfl k)))))))) ?_
      refine Go.by (B := (s₁.setTop (mkF m 49 #[.val (.long qb), .second, .val (.long qc), .second, .val (.int 0), .val (.int 0)] [(.int (lcmpW (qb - qc) (0 : Int64)))]))) (fun _ k => XS.lsub X0.here hx rfl (hb hby d10_46) rfl (XS.lconst X0.here hx rfl (hb hby d10_47) (XS.lcmp X0.here hx rfl (hb hby d10_48) rfl k))) ?_
      by_cases c50 : (qb - qc) < (0 : Int64)
      · skip
        refine Go.by (B := (s₁.setTop (mkF m 57 #[.val (.long qb), .second, .val (.long qc), .second, .val (.int 0), .val (.int 0)] [(.int 0)]))) (fun _ k => XS.ifYes X0.here hx rfl (pc0 := 49) (pc' := 56) rfl (hb hby d10_49) rfl ((if0 _ _).trans (tlt ((lw_lt _ _).mpr c50)).1) (by decide) (by decide) (XS.iconst X0.here hx rfl (hb hby d10_56) k)) ?_
        refine Go.ret X0 hx hlk (t := .boolean) hret rfl (Or.inl ⟨rfl, by simp, _, rfl⟩) (hb hby d10_57) (by decide) (by decide) ?_
        rw [e0]
        exact ⟨(congrArg (fun q => some (Value.int q)) (if_pos (by have d := c_lsub qb qc; have r1 := rng64 qb; have r2 := rng64 qc; have r3 := rng64 (qb - qc); have z : (0 : Int64).toInt = 0 := (by decide); rw [Int64.lt_iff_toInt_lt] at c48 c49 c50 ⊢; omega)).symm), N0, rfl⟩
      · skip
        refine Go.by (B := (s₁.setTop (mkF m 57 #[.val (.long qb), .second, .val (.long qc), .second, .val (.int 0), .val (.int 0)] [(.int 1)]))) (fun _ k => XS.ifNo X0.here hx rfl (hb hby d10_49) rfl ((if0 _ _).trans (flt (fun q => c50 ((lw_lt _ _).mp q))).1) (XS.iconst X0.here hx rfl (hb hby d10_52) (XS.goto X0.here hx rfl (pc0 := 53) (pc' := 57) rfl (hb hby d10_53) (by decide) (by decide) k))) ?_
        refine Go.ret X0 hx hlk (t := .boolean) hret rfl (Or.inl ⟨rfl, by simp, _, rfl⟩) (hb hby d10_57) (by decide) (by decide) ?_
        rw [e0]
        exact ⟨(congrArg (fun q => some (Value.int q)) (if_neg (by have d := c_lsub qb qc; have r1 := rng64 qb; have r2 := rng64 qc; have r3 := rng64 (qb - qc); have z : (0 : Int64).toInt = 0 := (by decide); rw [Int64.lt_iff_toInt_lt] at c48 c49 c50 ⊢; omega)).symm), N0, rfl⟩
    · skip
      refine Go.by (B := (s₁.setTop (mkF m 35 #[.val (.long qb), .second, .val (.long qc), .second, .val (.int 0), .val (.int 1)] [(.int 1)]))) (fun _ k => XS.ifNo X0.here hx rfl (hb hby d10_16) rfl ((if0 _ _).trans (flt (fun q => c49 ((lw_lt _ _).mp q))).1) (XS.iconst X0.here hx rfl (hb hby d10_19) (XS.goto X0.here hx rfl (pc0 := 20) (pc' := 24) rfl (hb hby d10_20) (by decide) (by decide) (XS.istore X0.here hx rfl (hb hby d10_24) rfl (l' := #[.val (.long qb), .second, .val (.long qc), .second, .val (.int 0), .val (.int 1)]) rfl (XS.iload X0.here hx rfl (hb hby d10_26) rfl (XS.iload X0.here hx rfl (hb hby d10_28) rfl (XS.icmpNo X0.here hx rfl (hb hby d10_30) rfl (feq (by decide : ¬ ((0 : Int32) = (1 : Int32)))).1 (XS.iload X0.here hx rfl (hb hby d10_33) rfl k)))))))) ?_
      refine Go.by (B := (s₁.setTop (mkF m 43 #[.val (.long qb), .second, .val (.long qc), .second, .val (.int 0), .val (.int 1)] [(.int 0)]))) (fun _ k => XS.ifYes X0.here hx rfl (pc0 := 35) (pc' := 42) rfl (hb hby d10_35) rfl ((if0 _ _).trans (feq (by decide : ¬ ((1 : Int32) = (0 : Int32)))).2) (by decide) (by decide) (XS.iconst X0.here hx rfl (hb hby d10_42) k)) ?_
      refine Go.ret X0 hx hlk (t := .boolean) hret rfl (Or.inl ⟨rfl, by simp, _, rfl⟩) (hb hby d10_43) (by decide) (by decide) ?_
      rw [e0]
      exact ⟨(congrArg (fun q => some (Value.int q)) (if_pos (by have d := c_lsub qb qc; have r1 := rng64 qb; have r2 := rng64 qc; have r3 := rng64 (qb - qc); have z : (0 : Int64).toInt = 0 := (by decide); rw [Int64.lt_iff_toInt_lt] at c48 c49 ⊢; omega)).symm), N0, rfl⟩
  · skip
    refine Go.by (B := (s₁.setTop (mkF m 16 #[.val (.long qb), .second, .val (.long qc), .second, .val (.int 1), .unset] [(.int (lcmpW qc (0 : Int64)))]))) (fun _ k => XS.ifNo X0.here hx rfl (hb hby d10_3) rfl ((if0 _ _).trans (flt (fun q => c48 ((lw_lt _ _).mp q))).1) (XS.iconst X0.here hx rfl (hb hby d10_6) (XS.goto X0.here hx rfl (pc0 := 7) (pc' := 11) rfl (hb hby d10_7) (by decide) (by decide) (XS.istore X0.here hx rfl (hb hby d10_11) rfl (l' := #[.val (.long qb), .second, .val (.long qc), .second, .val (.int 1), .unset]) rfl (XS.lloadN X0.here hx rfl (hb hby d10_13) rfl (XS.lconst X0.here hx rfl (hb hby d10_14) (XS.lcmp X0.here hx rfl (hb hby d10_15) rfl k))))))) ?_
    by_cases c51 : qc < (0 : Int64)
    · skip
      refine Go.by (B := (s₁.setTop (mkF m 38 #[.val (.long qb), .second, .val (.long qc), .second, .val (.int 1), .val (.int 0)] []))) (fun _ k => XS.ifYes X0.here hx rfl (pc0 := 16) (pc' := 23) rfl (hb hby d10_16) rfl ((if0 _ _).trans (tlt ((lw_lt _ _).mpr c51)).1) (by decide) (by decide) (XS.iconst X0.here hx rfl (hb hby d10_23) (XS.istore X0.here hx rfl (hb hby d10_24) rfl (l' := #[.val (.long qb), .second, .val (.long qc), .second, .val (.int 1), .val (.int 0)]) rfl (XS.iload X0.here hx rfl (hb hby d10_26) rfl (XS.iload X0.here hx rfl (hb hby d10_28) rfl (XS.icmpNo X0.here hx rfl (hb hby d10_30) rfl (feq (by decide : ¬ ((1 : Int32) = (0 : Int32)))).1 (XS.iload X0.here hx rfl (hb hby d10_33) rfl (XS.ifNo X0.here hx rfl (hb hby d10_35) rfl ((if0 _ _).trans (teq (by decide : (0 : Int32) = (0 : Int32))).2) k)))))))) ?_
      refine Go.by (B := (s₁.setTop (mkF m 43 #[.val (.long qb), .second, .val (.long qc), .second, .val (.int 1), .val (.int 0)] [(.int 1)]))) (fun _ k => XS.iconst X0.here hx rfl (hb hby d10_38) (XS.goto X0.here hx rfl (pc0 := 39) (pc' := 43) rfl (hb hby d10_39) (by decide) (by decide) k)) ?_
      refine Go.ret X0 hx hlk (t := .boolean) hret rfl (Or.inl ⟨rfl, by simp, _, rfl⟩) (hb hby d10_43) (by decide) (by decide) ?_
      rw [e0]
      exact ⟨(congrArg (fun q => some (Value.int q)) (if_neg (by have d := c_lsub qb qc; have r1 := rng64 qb; have r2 := rng64 qc; have r3 := rng64 (qb - qc); have z : (0 : Int64).toInt = 0 := (by decide); rw [Int64.lt_iff_toInt_lt] at c48 c51 ⊢; omega)).symm), N0, rfl⟩
    · skip
      refine Go.by (B := (s₁.setTop (mkF m 45 #[.val (.long qb), .second, .val (.long qc), .second, .val (.int 1), .val (.int 1)] [(.long qb)]))) (fun _ k => XS.ifNo X0.here hx rfl (hb hby d10_16) rfl ((if0 _ _).trans (flt (fun q => c51 ((lw_lt _ _).mp q))).1) (XS.iconst X0.here hx rfl (hb hby d10_19) (XS.goto X0.here hx rfl (pc0 := 20) (pc' := 24) rfl (hb hby d10_20) (by decide) (by decide) (XS.istore X0.here hx rfl (hb hby d10_24) rfl (l' := #[.val (.long qb), .second, .val (.long qc), .second, .val (.int 1), .val (.int 1)]) rfl (XS.iload X0.here hx rfl (hb hby d10_26) rfl (XS.iload X0.here hx rfl (hb hby d10_28) rfl (XS.icmpYes X0.here hx rfl (pc0 := 30) (pc' := 44) rfl (hb hby d10_30) rfl (teq (by decide : (1 : Int32) = (1 : Int32))).1 (by decide) (by decide) (XS.lloadN X0.here hx rfl (hb hby d10_44) rfl k)))))))) ?_
      refine Go.by (B := (s₁.setTop (mkF m 49 #[.val (.long qb), .second, .val (.long qc), .second, .val (.int 1), .val (.int 1)] [(.int (lcmpW (qb - qc) (0 : Int64)))]))) (fun _ k => XS.lloadN X0.here hx rfl (hb hby d10_45) rfl (XS.lsub X0.here hx rfl (hb hby d10_46) rfl (XS.lconst X0.here hx rfl (hb hby d10_47) (XS.lcmp X0.here hx rfl (hb hby d10_48) rfl k)))) ?_
      by_cases c52 : (qb - qc) < (0 : Int64)
      · skip
        refine Go.by (B := (s₁.setTop (mkF m 57 #[.val (.long qb), .second, .val (.long qc), .second, .val (.int 1), .val (.int 1)] [(.int 0)]))) (fun _ k => XS.ifYes X0.here hx rfl (pc0 := 49) (pc' := 56) rfl (hb hby d10_49) rfl ((if0 _ _).trans (tlt ((lw_lt _ _).mpr c52)).1) (by decide) (by decide) (XS.iconst X0.here hx rfl (hb hby d10_56) k)) ?_
        refine Go.ret X0 hx hlk (t := .boolean) hret rfl (Or.inl ⟨rfl, by simp, _, rfl⟩) (hb hby d10_57) (by decide) (by decide) ?_
        rw [e0]
        exact ⟨(congrArg (fun q => some (Value.int q)) (if_pos (by have d := c_lsub qb qc; have r1 := rng64 qb; have r2 := rng64 qc; have r3 := rng64 (qb - qc); have z : (0 : Int64).toInt = 0 := (by decide); rw [Int64.lt_iff_toInt_lt] at c48 c51 c52 ⊢; omega)).symm), N0, rfl⟩
      · skip
        refine Go.by (B := (s₁.setTop (mkF m 57 #[.val (.long qb), .second, .val (.long qc), .second, .val (.int 1), .val (.int 1)] [(.int 1)]))) (fun _ k => XS.ifNo X0.here hx rfl (hb hby d10_49) rfl ((if0 _ _).trans (flt (fun q => c52 ((lw_lt _ _).mp q))).1) (XS.iconst X0.here hx rfl (hb hby d10_52) (XS.goto X0.here hx rfl (pc0 := 53) (pc' := 57) rfl (hb hby d10_53) (by decide) (by decide) k))) ?_
        refine Go.ret X0 hx hlk (t := .boolean) hret rfl (Or.inl ⟨rfl, by simp, _, rfl⟩) (hb hby d10_57) (by decide) (by decide) ?_
        rw [e0]
        exact ⟨(congrArg (fun q => some (Value.int q)) (if_neg (by have d := c_lsub qb qc; have r1 := rng64 qb; have r2 := rng64 qc; have r3 := rng64 (qb - qc); have z : (0 : Int64).toInt = 0 := (by decide); rw [Int64.lt_iff_toInt_lt] at c48 c51 c52 ⊢; omega)).symm), N0, rfl⟩
theorem ef_rm0 (m : MethodId) (x0 : Int64) (x1 : Int64) (x2 : Int32) (x3 : Int32) : entryFrame m #[(.long x0), (.long x1), (.int x2), (.int x3)] maxLocals = mkF m 0 #[.val (.long x0), .second, .val (.long x1), .second, .val (.int x2), .val (.int x3), .unset, .unset, .unset, .unset, .unset, .unset, .unset, .unset, .unset, .unset] [] := by first | (simp [entryFrame, mkF, argsToLocals, Value.category, maxLocals]; done) | rfl
theorem pd_4 : parseMethodDescriptor "(C)Ljava/lang/String;" = some ⟨[.char], some (.object "java/lang/String")⟩ := by decide +kernel
theorem pd_5 : parseMethodDescriptor "(Ljava/lang/String;Lcom/example/pland/pland/catalog/FeatureType;)V" = some ⟨[(.object "java/lang/String"), (.object "com/example/pland/pland/catalog/FeatureType")], none⟩ := by decide +kernel
theorem pd_6 : parseMethodDescriptor "(Ljava/lang/String;Lcom/example/pland/pland/catalog/Feature;Ljava/lang/String;JJ)V" = some ⟨[(.object "java/lang/String"), (.object "com/example/pland/pland/catalog/Feature"), (.object "java/lang/String"), .long, .long], none⟩ := by decide +kernel
theorem pd_7 : parseMethodDescriptor "()Z" = some ⟨[], some .boolean⟩ := by decide +kernel
theorem pd_8 : parseMethodDescriptor "(JJ)Z" = some ⟨[.long, .long], some .boolean⟩ := by decide +kernel
def Q_rm0 (Z : State) (q1 : Int64) (q2 : Int64) (p3 : Int32) (p4 : Int32) (cs : Int32) (w0 : Addr) (w1 : Addr) (w2 : Addr) (h0 : Heap) (n0 : Nat) (v : Option Value) (h : Heap) (L : List Loc) : Prop := v = some (.int 1) ∧ Fr n0 L
set_option maxRecDepth 65536 in
set_option maxHeartbeats 40000000 in
theorem rm0 (l : Launch) (Z : State) (a0 : Array Value) (hw : ∀ d ∈ tables_1, d.before a0 Z = true) (ws : List Jvm.Cond) (q1 : Int64) (q2 : Int64) (p3 : Int32) (p4 : Int32) (cs : Int32) (w0 : Addr) (w1 : Addr) (w2 : Addr) (h0 : Heap) (n0 : Nat) (Z0 : n0 ≤ h0.size) (pr0 : Old Z n0 h0) (pr1 : Sta Z Z.heap "java/lang/String" "COMPACT_STRINGS" "Z" (.int cs)) (hcs : ¬ (cs = (0 : Int32))) (pr3 : Sta Z Z.heap "com/example/pland/pland/catalog/FeatureType" "BOOLEAN" "Lcom/example/pland/pland/catalog/FeatureType;" (.ref w0)) (pr4 : Sta Z Z.heap "com/example/pland/pland/catalog/FeatureType" "METERED" "Lcom/example/pland/pland/catalog/FeatureType;" (.ref w1)) (pr5 : Sta Z Z.heap "com/example/pland/pland/catalog/FeatureType" "STATIC" "Lcom/example/pland/pland/catalog/FeatureType;" (.ref w2)) :
    Met l Z x code maxLocals ret ws room_1 #[(.long q1), (.long q2), (.int p3), (.int p4)] h0 (Q_rm0 Z q1 q2 p3 p4 cs w0 w1 w2 h0 n0) := by
  refine Met.enter (f0 := fun m => mkF m 0 #[.val (.long q1), .second, .val (.long q2), .second, .val (.int p3), .val (.int p4), .unset, .unset, .unset, .unset, .unset, .unset, .unset, .unset, .unset, .unset] []) (plainFor_of_name pn_com_example_pland_pland_billing_CreditCheckAllowedPinLaw) (fun m => ef_rm0 m q1 q2 p3 p4) ?_
  intro p e s m below meth c s₁ hx hby hml hown hnm hret hlk hZ X0 e0
  have hown : s.vm.findClass "com/example/pland/pland/billing/CreditCheckAllowedPinLaw" = some m.cls := hown
  have hnm : meth.name = "law" := hnm
  have hml : c.maxLocals = 16 := hml
  have hby : c.code = code := hby
  have N0 := Fr.nil n0
  refine Go.by (B := (s₁.setTop (mkF m 9 #[.val (.long q1), .second, .val (.long q2), .second, .val (.int p3), .val (.int p4), .unset, .unset, .unset, .unset, .unset, .unset, .unset, .unset, .unset, .unset] [(.int ((((p3.toUInt32 >>> ((2 : Int32) &&& 31).toUInt32).toInt32) &&& (2147483647 : Int32)) % (3 : Int32)))]))) (fun _ k => XS.iload X0.here hx rfl (hb hby at_0) rfl (XS.iconst X0.here hx rfl (hb hby at_2) (XS.iushr X0.here hx rfl (hb hby at_3) rfl (X0.ldcInt hx hown (mvT hZ (wd hw 0 rfl)) (g := (mkF m 4 #[.val (.long q1), .second, .val (.long q2), .second, .val (.int p3), .val (.int p4), .unset, .unset, .unset, .unset, .unset, .unset, .unset, .unset, .unset, .unset] [(.int ((p3.toUInt32 >>> ((2 : Int32) &&& 31).toUInt32).toInt32))])) rfl (hb hby at_4) _ (XS.iand X0.here hx rfl (hb hby at_6) rfl (XS.iconst X0.here hx rfl (hb hby at_7) (iremM X0 hx (g := (mkF m 8 #[.val (.long q1), .second, .val (.long q2), .second, .val (.int p3), .val (.int p4), .unset, .unset, .unset, .unset, .unset, .unset, .unset, .unset, .unset, .unset] [(.int 3), (.int (((p3.toUInt32 >>> ((2 : Int32) &&& 31).toUInt32).toInt32) &&& (2147483647 : Int32)))])) rfl (hb hby at_8) rfl (by decide) k))))))) ?_
  obtain ⟨v53, hv53⟩ : ∃ v, v = ((((p3.toUInt32 >>> ((2 : Int32) &&& 31).toUInt32).toInt32) &&& (2147483647 : Int32)) % (3 : Int32)) := ⟨_, rfl⟩
  refine Go.by (B := (s₁.setTop (mkF m 14 #[.val (.long q1), .second, .val (.long q2), .second, .val (.int p3), .val (.int p4), .val (.int v53), .val (.long q2), .second, .unset, .unset, .unset, .unset, .unset, .unset, .unset] []))) (fun _ k => XS.istore (x := v53) (rest := []) X0.here hx rfl (hb hby at_9) (by rw [hv53]) (l' := #[.val (.long q1), .second, .val (.long q2), .second, .val (.int p3), .val (.int p4), .val (.int v53), .unset, .unset, .unset, .unset, .unset, .unset, .unset, .unset, .unset]) rfl (XS.lloadN X0.here hx rfl (hb hby at_11) rfl (XS.lstore X0.here hx rfl (hb hby at_12) rfl (l' := #[.val (.long q1), .second, .val (.long q2), .second, .val (.int p3), .val (.int p4), .val (.int v53), .val (.long q2), .second, .unset, .unset, .unset, .unset, .unset, .unset, .unset]) rfl k))) ?_
  obtain ⟨lc54, X54, N54⟩ : ∃ lc, Stand p l e room_1 s m #[(.long q1), (.long q2), (.int p3), (.int p4)] below meth c s₁ lc 0 0 ∧ Fr n0 lc := ⟨_, X0, N0⟩
  have e54 : s₁.heap = h0 := e0
  have J54 : ∀ (T55 : State) (X55 : Stand p l e room_1 s m #[(.long q1), (.long q2), (.int p3), (.int p4)] below meth c T55 lc54 0 0) (e55 : T55.heap = h0) (cost55 : Int64), Go p e below (PostW s room_1.cells room_1.slots (Q_rm0 Z q1 q2 p3 p4 cs w0 w1 w2 h0 n0)) (T55.setTop (mkF m 37 #[.val (.long q1), .second, .val (.long q2), .second, .val (.int p3), .val (.int p4), .val (.int v53), .val (.long cost55), .second, .unset, .unset, .unset, .unset, .unset, .unset, .unset] [])) := by
    intro T55 X55 e55 cost55
    refine Go.by (B := (T55.setTop (mkF m 44 #[.val (.long q1), .second, .val (.long q2), .second, .val (.int p3), .val (.int p4), .val (.int v53), .val (.long cost55), .second, .unset, .unset, .unset, .unset, .unset, .unset, .unset] [(.int ((p3 &&& (2147483647 : Int32)) % (3 : Int32)))]))) (fun _ k => XS.iload X55.here hx rfl (hb hby at_37) rfl (X55.ldcInt hx hown (mvT hZ (wd hw 0 rfl)) (g := (mkF m 39 #[.val (.long q1), .second, .val (.long q2), .second, .val (.int p3), .val (.int p4), .val (.int v53), .val (.long cost55), .second, .unset, .unset, .unset, .unset, .unset, .unset, .unset] [(.int p3)])) rfl (hb hby at_39) _ (XS.iand X55.here hx rfl (hb hby at_41) rfl (XS.iconst X55.here hx rfl (hb hby at_42) (iremM X55 hx (g := (mkF m 43 #[.val (.long q1), .second, .val (.long q2), .second, .val (.int p3), .val (.int p4), .val (.int v53), .val (.long cost55), .second, .unset, .unset, .unset, .unset, .unset, .unset, .unset] [(.int 3), (.int (p3 &&& (2147483647 : Int32)))])) rfl (hb hby at_43) rfl (by decide) k))))) ?_
    obtain ⟨v56, hv56⟩ : ∃ v, v = ((p3 &&& (2147483647 : Int32)) % (3 : Int32)) := ⟨_, rfl⟩
    refine Go.by (B := (T55.setTop (mkF m 46 #[.val (.long q1), .second, .val (.long q2), .second, .val (.int p3), .val (.int p4), .val (.int v53), .val (.long cost55), .second, .val (.int v56), .unset, .unset, .unset, .unset, .unset, .unset] []))) (fun _ k => XS.istore (x := v56) (rest := []) X55.here hx rfl (hb hby at_44) (by rw [hv56]) (l' := #[.val (.long q1), .second, .val (.long q2), .second, .val (.int p3), .val (.int p4), .val (.int v53), .val (.long cost55), .second, .val (.int v56), .unset, .unset, .unset, .unset, .unset, .unset]) rfl k) ?_
    obtain ⟨lc57, X57, N57⟩ : ∃ lc, Stand p l e room_1 s m #[(.long q1), (.long q2), (.int p3), (.int p4)] below meth c T55 lc 0 0 ∧ Fr n0 lc := ⟨_, X55, N54⟩
    have e57 : T55.heap = h0 := e55
    have J57 : ∀ (T58 : State) (X58 : Stand p l e room_1 s m #[(.long q1), (.long q2), (.int p3), (.int p4)] below meth c T58 lc57 0 0) (e58 : T58.heap = h0) (ty58 : Addr), Go p e below (PostW s room_1.cells room_1.slots (Q_rm0 Z q1 q2 p3 p4 cs w0 w1 w2 h0 n0)) (T58.setTop (mkF m 76 #[.val (.long q1), .second, .val (.long q2), .second, .val (.int p3), .val (.int p4), .val (.int v53), .val (.long cost55), .second, .val (.int v56), .val (.ref ty58), .unset, .unset, .unset, .unset, .unset] [])) := by
      intro T58 X58 e58 ty58
      refine Go.by (B := (T58.setTop (mkF m 83 #[.val (.long q1), .second, .val (.long q2), .second, .val (.int p3), .val (.int p4), .val (.int v53), .val (.long cost55), .second, .val (.int v56), .val (.ref ty58), .unset, .unset, .unset, .unset, .unset] [(.int ((p4 &&& (255 : Int32)).toUInt32.toUInt16.toUInt32.toInt32))]))) (fun _ k => XS.iload X58.here hx rfl (hb hby at_76) rfl (XS.sipush X58.here hx rfl (hb hby at_78) (XS.iand X58.here hx rfl (hb hby at_81) rfl (XS.i2c X58.here hx rfl (hb hby at_82) rfl k)))) ?_
      obtain ⟨_, _, ⟨T59, L59, k59, n59⟩, -, X59, ⟨Lc59, hQ59, l59, y59, z59⟩, st59⟩ := Jvm.LawKit.callS X58 hx (y := (⟨"java/lang/String", "valueOf", "(C)Ljava/lang/String;"⟩ : MethodName)) hown (mvT hZ (wd hw 4 rfl)) (mvT hZ (wd hw 5 rfl)) (mvT hZ (wd hw 6 rfl)) (mvT hZ (wd hw 7 rfl)) (by decide) (backOf (W := 0) (rm_valueOfC l Z a0 hw [] ((p4 &&& (255 : Int32)).toUInt32.toUInt16.toUInt32.toInt32) cs h0 n0 Z0 pr0 pr1 hcs (own_ch _)) hZ (wd hw 7 rfl) (wd hw 6 rfl) (by decide) (by decide)) (g := (mkF m 83 #[.val (.long q1), .second, .val (.long q2), .second, .val (.int p3), .val (.int p4), .val (.int v53), .val (.long cost55), .second, .val (.int v56), .val (.ref ty58), .unset, .unset, .unset, .unset, .unset] [(.int ((p4 &&& (255 : Int32)).toUInt32.toUInt16.toUInt32.toInt32))])) rfl (by rw [hml]; rfl) (argsL := [(.int ((p4 &&& (255 : Int32)).toUInt32.toUInt16.toUInt32.toInt32))]) (rest := []) (lenOf pd_4 rfl) rfl (by show 2 * 0 + _ ≤ _; exact Nat.le_of_eq rfl) (hb hby at_83) (fun _ _ => ⟨rfl, e58, Nat.le_of_ble_eq_true rfl, Nat.le_of_ble_eq_true rfl⟩)
      dsimp only [Pt.U, Pt.locs, Pt.cells, Pt.slots] at X59 l59 y59 z59 st59 hQ59
      subst l59 y59 z59
      obtain ⟨b59, t59, k59, rfl, Nq59, K59, p59_0, p59_1, p59_2, p59_3, p59_4, p59_5⟩ := hQ59
      have N59 := Fr.app N57 Nq59
      have O60 := pr0.keep K59 all0
      have Z60 : n0 ≤ T59.heap.size := Nat.le_trans Z0 K59.1
      have sz_b59 : h0.size ≤ b59 := p59_4
      have sz_t59 : h0.size ≤ t59 := p59_5
      refine Go.by (B := (T59.setTop (mkF m 86 #[.val (.long q1), .second, .val (.long q2), .second, .val (.int p3), .val (.int p4), .val (.int v53), .val (.long cost55), .second, .val (.int v56), .val (.ref ty58), .unset, .unset, .unset, .unset, .unset] [(.ref b59)]))) (fun _ k => st59 _ k) ?_
      refine Go.by (B := (T59.setTop (mkF m 98 #[.val (.long q1), .second, .val (.long q2), .second, .val (.int p3), .val (.int p4), .val (.int v53), .val (.long cost55), .second, .val (.int v56), .val (.ref ty58), .val (.ref b59), .unset, .unset, .unset, .unset] [(.int ((((p4.toUInt32 >>> ((8 : Int32) &&& 31).toUInt32).toInt32) &&& (255 : Int32)).toUInt32.toUInt16.toUInt32.toInt32))]))) (fun _ k => XS.astore X59.here hx rfl (hb hby at_86) rfl rfl (l' := #[.val (.long q1), .second, .val (.long q2), .second, .val (.int p3), .val (.int p4), .val (.int v53), .val (.long cost55), .second, .val (.int v56), .val (.ref ty58), .val (.ref b59), .unset, .unset, .unset, .unset]) rfl (XS.iload X59.here hx rfl (hb hby at_88) rfl (XS.bipush X59.here hx rfl (hb hby at_90) (XS.iushr X59.here hx rfl (hb hby at_92) rfl (XS.sipush X59.here hx rfl (hb hby at_93) (XS.iand X59.here hx rfl (hb hby at_96) rfl (XS.i2c X59.here hx rfl (hb hby at_97) rfl k))))))) ?_
      obtain ⟨_, _, ⟨T61, L61, k61, n61⟩, -, X61, ⟨Lc61, hQ61, l61, y61, z61⟩, st61⟩ := Jvm.LawKit.callS X59 hx (y := (⟨"java/lang/String", "valueOf", "(C)Ljava/lang/String;"⟩ : MethodName)) hown (mvT hZ (wd hw 4 rfl)) (mvT hZ (wd hw 5 rfl)) (mvT hZ (wd hw 6 rfl)) (mvT hZ (wd hw 7 rfl)) (by decide) (backOf (W := 0) (rm_valueOfC l Z a0 hw [] ((((p4.toUInt32 >>> ((8 : Int32) &&& 31).toUInt32).toInt32) &&& (255 : Int32)).toUInt32.toUInt16.toUInt32.toInt32) cs T59.heap n0 Z60 O60 pr1 hcs (own_ch _)) hZ (wd hw 7 rfl) (wd hw 6 rfl) (by decide) (by decide)) (g := (mkF m 98 #[.val (.long q1), .second, .val (.long q2), .second, .val (.int p3), .val (.int p4), .val (.int v53), .val (.long cost55), .second, .val (.int v56), .val (.ref ty58), .val (.ref b59), .unset, .unset, .unset, .unset] [(.int ((((p4.toUInt32 >>> ((8 : Int32) &&& 31).toUInt32).toInt32) &&& (255 : Int32)).toUInt32.toUInt16.toUInt32.toInt32))])) rfl (by rw [hml]; rfl) (argsL := [(.int ((((p4.toUInt32 >>> ((8 : Int32) &&& 31).toUInt32).toInt32) &&& (255 : Int32)).toUInt32.toUInt16.toUInt32.toInt32))]) (rest := []) (lenOf pd_4 rfl) rfl (by show 2 * 0 + _ ≤ _; exact Nat.le_of_eq rfl) (hb hby at_98) (fun _ _ => ⟨rfl, rfl, Nat.le_of_ble_eq_true rfl, Nat.le_of_ble_eq_true rfl⟩)
      dsimp only [Pt.U, Pt.locs, Pt.cells, Pt.slots] at X61 l61 y61 z61 st61 hQ61
      subst l61 y61 z61
      obtain ⟨b61, t61, k61, rfl, Nq61, K61, p61_0, p61_1, p61_2, p61_3, p61_4, p61_5⟩ := hQ61
      have N61 := Fr.app N59 Nq61
      have O62 := O60.keep K61 all0
      have Z62 : n0 ≤ T61.heap.size := Nat.le_trans Z60 K61.1
      have sz_b61 : T59.heap.size ≤ b61 := p61_4
      have sz_t61 : T59.heap.size ≤ t61 := p61_5
      refine Go.by (B := (T61.setTop (mkF m 101 #[.val (.long q1), .second, .val (.long q2), .second, .val (.int p3), .val (.int p4), .val (.int v53), .val (.long cost55), .second, .val (.int v56), .val (.ref ty58), .val (.ref b59), .unset, .unset, .unset, .unset] [(.ref b61)]))) (fun _ k => st61 _ k) ?_
      refine Go.by (B := (T61.setTop (mkF m 113 #[.val (.long q1), .second, .val (.long q2), .second, .val (.int p3), .val (.int p4), .val (.int v53), .val (.long cost55), .second, .val (.int v56), .val (.ref ty58), .val (.ref b59), .val (.ref b61), .unset, .unset, .unset] [(.int ((((p4.toUInt32 >>> ((16 : Int32) &&& 31).toUInt32).toInt32) &&& (255 : Int32)).toUInt32.toUInt16.toUInt32.toInt32))]))) (fun _ k => XS.astore X61.here hx rfl (hb hby at_101) rfl rfl (l' := #[.val (.long q1), .second, .val (.long q2), .second, .val (.int p3), .val (.int p4), .val (.int v53), .val (.long cost55), .second, .val (.int v56), .val (.ref ty58), .val (.ref b59), .val (.ref b61), .unset, .unset, .unset]) rfl (XS.iload X61.here hx rfl (hb hby at_103) rfl (XS.bipush X61.here hx rfl (hb hby at_105) (XS.iushr X61.here hx rfl (hb hby at_107) rfl (XS.sipush X61.here hx rfl (hb hby at_108) (XS.iand X61.here hx rfl (hb hby at_111) rfl (XS.i2c X61.here hx rfl (hb hby at_112) rfl k))))))) ?_
      obtain ⟨_, _, ⟨T63, L63, k63, n63⟩, -, X63, ⟨Lc63, hQ63, l63, y63, z63⟩, st63⟩ := Jvm.LawKit.callS X61 hx (y := (⟨"java/lang/String", "valueOf", "(C)Ljava/lang/String;"⟩ : MethodName)) hown (mvT hZ (wd hw 4 rfl)) (mvT hZ (wd hw 5 rfl)) (mvT hZ (wd hw 6 rfl)) (mvT hZ (wd hw 7 rfl)) (by decide) (backOf (W := 0) (rm_valueOfC l Z a0 hw [] ((((p4.toUInt32 >>> ((16 : Int32) &&& 31).toUInt32).toInt32) &&& (255 : Int32)).toUInt32.toUInt16.toUInt32.toInt32) cs T61.heap n0 Z62 O62 pr1 hcs (own_ch _)) hZ (wd hw 7 rfl) (wd hw 6 rfl) (by decide) (by decide)) (g := (mkF m 113 #[.val (.long q1), .second, .val (.long q2), .second, .val (.int p3), .val (.int p4), .val (.int v53), .val (.long cost55), .second, .val (.int v56), .val (.ref ty58), .val (.ref b59), .val (.ref b61), .unset, .unset, .unset] [(.int ((((p4.toUInt32 >>> ((16 : Int32) &&& 31).toUInt32).toInt32) &&& (255 : Int32)).toUInt32.toUInt16.toUInt32.toInt32))])) rfl (by rw [hml]; rfl) (argsL := [(.int ((((p4.toUInt32 >>> ((16 : Int32) &&& 31).toUInt32).toInt32) &&& (255 : Int32)).toUInt32.toUInt16.toUInt32.toInt32))]) (rest := []) (lenOf pd_4 rfl) rfl (by show 2 * 0 + _ ≤ _; exact Nat.le_of_eq rfl) (hb hby at_113) (fun _ _ => ⟨rfl, rfl, Nat.le_of_ble_eq_true rfl, Nat.le_of_ble_eq_true rfl⟩)
      dsimp only [Pt.U, Pt.locs, Pt.cells, Pt.slots] at X63 l63 y63 z63 st63 hQ63
      subst l63 y63 z63
      obtain ⟨b63, t63, k63, rfl, Nq63, K63, p63_0, p63_1, p63_2, p63_3, p63_4, p63_5⟩ := hQ63
      have N63 := Fr.app N61 Nq63
      have O64 := O62.keep K63 all0
      have Z64 : n0 ≤ T63.heap.size := Nat.le_trans Z62 K63.1
      have sz_b63 : T61.heap.size ≤ b63 := p63_4
      have sz_t63 : T61.heap.size ≤ t63 := p63_5
      refine Go.by (B := (T63.setTop (mkF m 116 #[.val (.long q1), .second, .val (.long q2), .second, .val (.int p3), .val (.int p4), .val (.int v53), .val (.long cost55), .second, .val (.int v56), .val (.ref ty58), .val (.ref b59), .val (.ref b61), .unset, .unset, .unset] [(.ref b63)]))) (fun _ k => st63 _ k) ?_
      refine Go.by (B := (T63.setTop (mkF m 118 #[.val (.long q1), .second, .val (.long q2), .second, .val (.int p3), .val (.int p4), .val (.int v53), .val (.long cost55), .second, .val (.int v56), .val (.ref ty58), .val (.ref b59), .val (.ref b61), .val (.ref b63), .unset, .unset] []))) (fun _ k => XS.astore X63.here hx rfl (hb hby at_116) rfl rfl (l' := #[.val (.long q1), .second, .val (.long q2), .second, .val (.int p3), .val (.int p4), .val (.int v53), .val (.long cost55), .second, .val (.int v56), .val (.ref ty58), .val (.ref b59), .val (.ref b61), .val (.ref b63), .unset, .unset]) rfl k) ?_
      obtain ⟨T65, h65, X65, e65, E65, A65, D65, -, st65⟩ := newO X63 hx hZ hown (wd hw 30 rfl) (wd hw 31 rfl) (wd hw 32 rfl) rfl (g := (mkF m 118 #[.val (.long q1), .second, .val (.long q2), .second, .val (.int p3), .val (.int p4), .val (.int v53), .val (.long cost55), .second, .val (.int v56), .val (.ref ty58), .val (.ref b59), .val (.ref b61), .val (.ref b63), .unset, .unset] [])) rfl (hb hby at_118) (by decide) (by decide)
      obtain ⟨b65, g65⟩ : ∃ z, z = T63.heap.size := ⟨_, rfl⟩
      rw [← g65] at A65 D65 st65
      have sz_b65 : T63.heap.size ≤ b65 := Nat.le_of_eq g65.symm
      have O66 := O64.ext E65
      have Z66 : n0 ≤ h65.size := Nat.le_trans Z64 E65.1
      have F67 : Fld Z h65 b65 "com/example/pland/pland/catalog/Feature" "id" "Ljava/lang/String;" .null := D65 (Or.inr (wd hw 43 rfl)) (ty := (.object "java/lang/String")) (by decide)
      have F68 : Fld Z h65 b65 "com/example/pland/pland/catalog/Feature" "type" "Lcom/example/pland/pland/catalog/FeatureType;" .null := D65 (Or.inr (wd hw 45 rfl)) (ty := (.object "com/example/pland/pland/catalog/FeatureType")) (by decide)
      refine Go.by (B := (T65.setTop (mkF m 121 #[.val (.long q1), .second, .val (.long q2), .second, .val (.int p3), .val (.int p4), .val (.int v53), .val (.long cost55), .second, .val (.int v56), .val (.ref ty58), .val (.ref b59), .val (.ref b61), .val (.ref b63), .unset, .unset] [(.ref b65)]))) st65 ?_
      refine Go.by (B := (T65.setTop (mkF m 126 #[.val (.long q1), .second, .val (.long q2), .second, .val (.int p3), .val (.int p4), .val (.int v53), .val (.long cost55), .second, .val (.int v56), .val (.ref ty58), .val (.ref b59), .val (.ref b61), .val (.ref b63), .unset, .unset] [(.ref ty58), (.ref b61), (.ref b65), (.ref b65)]))) (fun _ k => XS.dup X65.here hx rfl (hb hby at_121) rfl rfl (XS.aload X65.here hx rfl (hb hby at_122) rfl rfl (XS.aload X65.here hx rfl (hb hby at_124) rfl rfl k))) ?_
      obtain ⟨_, _, ⟨T69, L69, k69, n69⟩, -, X69, ⟨Lc69, hQ69, l69, y69, z69⟩, st69⟩ := X65.specialBack hx (y := (⟨"com/example/pland/pland/catalog/Feature", "<init>", "(Ljava/lang/String;Lcom/example/pland/pland/catalog/FeatureType;)V"⟩ : MethodName)) rfl hown (mvT hZ (wd hw 33 rfl)) (mvT hZ (wd hw 34 rfl)) (mvT hZ (wd hw 35 rfl)) (by decide) (backOf (W := 1) (rm_feat l Z a0 hw [] b65 b61 ty58 h65 n0 Z66 O66 A65 F67 F68 (Nat.le_trans Z64 sz_b65)) hZ (wd hw 35 rfl) (wd hw 32 rfl) (by decide) (by decide)) (g := (mkF m 126 #[.val (.long q1), .second, .val (.long q2), .second, .val (.int p3), .val (.int p4), .val (.int v53), .val (.long cost55), .second, .val (.int v56), .val (.ref ty58), .val (.ref b59), .val (.ref b61), .val (.ref b63), .unset, .unset] [(.ref ty58), (.ref b61), (.ref b65), (.ref b65)])) rfl (by rw [hml]; rfl) (Steps.refl _) (a := b65) (argsL := [(.ref b61), (.ref ty58)]) (rest := [(.ref b65)]) (lenOf pd_5 rfl) rfl (by show 2 * 0 + _ ≤ _; exact Nat.le_of_eq rfl) (hb hby at_126) (fun _ _ => ⟨rfl, e65, Nat.le_of_ble_eq_true rfl, Nat.le_of_ble_eq_true rfl⟩)
      dsimp only [Pt.U, Pt.locs, Pt.cells, Pt.slots] at X69 l69 y69 z69 st69 hQ69
      subst l69 y69 z69
      obtain ⟨rfl, Nq69, K69, p69_0, p69_1, p69_2⟩ := hQ69
      have N69 := Fr.app N63 Nq69
      have O70 := O66.keep K69 (allS (Nat.le_trans Z64 sz_b65) all0)
      have Z70 : n0 ≤ T69.heap.size := Nat.le_trans Z66 K69.1
      refine Go.by (B := (T69.setTop (mkF m 129 #[.val (.long q1), .second, .val (.long q2), .second, .val (.int p3), .val (.int p4), .val (.int v53), .val (.long cost55), .second, .val (.int v56), .val (.ref ty58), .val (.ref b59), .val (.ref b61), .val (.ref b63), .unset, .unset] [(.ref b65)]))) (fun _ k => st69.trans k) ?_
      refine Go.by (B := (T69.setTop (mkF m 131 #[.val (.long q1), .second, .val (.long q2), .second, .val (.int p3), .val (.int p4), .val (.int v53), .val (.long cost55), .second, .val (.int v56), .val (.ref ty58), .val (.ref b59), .val (.ref b61), .val (.ref b63), .val (.ref b65), .unset] []))) (fun _ k => XS.astore X69.here hx rfl (hb hby at_129) rfl rfl (l' := #[.val (.long q1), .second, .val (.long q2), .second, .val (.int p3), .val (.int p4), .val (.int v53), .val (.long cost55), .second, .val (.int v56), .val (.ref ty58), .val (.ref b59), .val (.ref b61), .val (.ref b63), .val (.ref b65), .unset]) rfl k) ?_
      obtain ⟨T71, h71, X71, e71, E71, A71, D71, -, st71⟩ := newO X69 hx hZ hown (wd hw 46 rfl) (wd hw 47 rfl) (wd hw 48 rfl) rfl (g := (mkF m 131 #[.val (.long q1), .second, .val (.long q2), .second, .val (.int p3), .val (.int p4), .val (.int v53), .val (.long cost55), .second, .val (.int v56), .val (.ref ty58), .val (.ref b59), .val (.ref b61), .val (.ref b63), .val (.ref b65), .unset] [])) rfl (hb hby at_131) (by decide) (by decide)
      obtain ⟨b71, g71⟩ : ∃ z, z = T69.heap.size := ⟨_, rfl⟩
      rw [← g71] at A71 D71 st71
      have sz_b71 : T69.heap.size ≤ b71 := Nat.le_of_eq g71.symm
      have O72 := O70.ext E71
      have Z72 : n0 ≤ h71.size := Nat.le_trans Z70 E71.1
      have F73 : Fld Z h71 b71 "com/example/pland/pland/billing/CreditCheck" "customer" "Ljava/lang/String;" .null := D71 (Or.inr (wd hw 54 rfl)) (ty := (.object "java/lang/String")) (by decide)
      have F74 : Fld Z h71 b71 "com/example/pland/pland/billing/CreditCheck" "feature" "Lcom/example/pland/pland/catalog/Feature;" .null := D71 (Or.inr (wd hw 56 rfl)) (ty := (.object "com/example/pland/pland/catalog/Feature")) (by decide)
      have F75 : Fld Z h71 b71 "com/example/pland/pland/billing/CreditCheck" "creditSystem" "Ljava/lang/String;" .null := D71 (Or.inr (wd hw 58 rfl)) (ty := (.object "java/lang/String")) (by decide)
      have F76 : Fld Z h71 b71 "com/example/pland/pland/billing/CreditCheck" "balance" "J" (.long (0 : Int64)) := D71 (Or.inr (wd hw 60 rfl)) (ty := .long) (by decide)
      have F77 : Fld Z h71 b71 "com/example/pland/pland/billing/CreditCheck" "cost" "J" (.long (0 : Int64)) := D71 (Or.inr (wd hw 62 rfl)) (ty := .long) (by decide)
      refine Go.by (B := (T71.setTop (mkF m 134 #[.val (.long q1), .second, .val (.long q2), .second, .val (.int p3), .val (.int p4), .val (.int v53), .val (.long cost55), .second, .val (.int v56), .val (.ref ty58), .val (.ref b59), .val (.ref b61), .val (.ref b63), .val (.ref b65), .unset] [(.ref b71)]))) st71 ?_
      refine Go.by (B := (T71.setTop (mkF m 144 #[.val (.long q1), .second, .val (.long q2), .second, .val (.int p3), .val (.int p4), .val (.int v53), .val (.long cost55), .second, .val (.int v56), .val (.ref ty58), .val (.ref b59), .val (.ref b61), .val (.ref b63), .val (.ref b65), .unset] [(.long cost55), (.long q1), (.ref b63), (.ref b65), (.ref b59), (.ref b71), (.ref b71)]))) (fun _ k => XS.dup X71.here hx rfl (hb hby at_134) rfl rfl (XS.aload X71.here hx rfl (hb hby at_135) rfl rfl (XS.aload X71.here hx rfl (hb hby at_137) rfl rfl (XS.aload X71.here hx rfl (hb hby at_139) rfl rfl (XS.lloadN X71.here hx rfl (hb hby at_141) rfl (XS.lload X71.here hx rfl (hb hby at_142) rfl k)))))) ?_
      obtain ⟨_, _, ⟨T78, L78, k78, n78⟩, -, X78, ⟨Lc78, hQ78, l78, y78, z78⟩, st78⟩ := X71.specialBack hx (y := (⟨"com/example/pland/pland/billing/CreditCheck", "<init>", "(Ljava/lang/String;Lcom/example/pland/pland/catalog/Feature;Ljava/lang/String;JJ)V"⟩ : MethodName)) rfl hown (mvT hZ (wd hw 49 rfl)) (mvT hZ (wd hw 50 rfl)) (mvT hZ (wd hw 51 rfl)) (by decide) (backOf (W := 1) (rm_check l Z a0 hw [] b71 b59 b65 b63 q1 cost55 h71 n0 Z72 O72 A71 F73 F74 F75 F76 F77 (Nat.le_trans Z70 sz_b71)) hZ (wd hw 51 rfl) (wd hw 48 rfl) (by decide) (by decide)) (g := (mkF m 144 #[.val (.long q1), .second, .val (.long q2), .second, .val (.int p3), .val (.int p4), .val (.int v53), .val (.long cost55), .second, .val (.int v56), .val (.ref ty58), .val (.ref b59), .val (.ref b61), .val (.ref b63), .val (.ref b65), .unset] [(.long cost55), (.long q1), (.ref b63), (.ref b65), (.ref b59), (.ref b71), (.ref b71)])) rfl (by rw [hml]; rfl) (Steps.refl _) (a := b71) (argsL := [(.ref b59), (.ref b65), (.ref b63), (.long q1), (.long cost55)]) (rest := [(.ref b71)]) (lenOf pd_6 rfl) rfl (by show 2 * 0 + _ ≤ _; exact Nat.le_of_eq rfl) (hb hby at_144) (fun _ _ => ⟨rfl, e71, Nat.le_of_ble_eq_true rfl, Nat.le_of_ble_eq_true rfl⟩)
      dsimp only [Pt.U, Pt.locs, Pt.cells, Pt.slots] at X78 l78 y78 z78 st78 hQ78
      subst l78 y78 z78
      obtain ⟨rfl, Nq78, K78, p78_0, p78_1, p78_2, p78_3, p78_4, p78_5⟩ := hQ78
      have N78 := Fr.app N69 Nq78
      have O79 := O72.keep K78 (allS (Nat.le_trans Z70 sz_b71) all0)
      have Z79 : n0 ≤ T78.heap.size := Nat.le_trans Z72 K78.1
      refine Go.by (B := (T78.setTop (mkF m 147 #[.val (.long q1), .second, .val (.long q2), .second, .val (.int p3), .val (.int p4), .val (.int v53), .val (.long cost55), .second, .val (.int v56), .val (.ref ty58), .val (.ref b59), .val (.ref b61), .val (.ref b63), .val (.ref b65), .unset] [(.ref b71)]))) (fun _ k => st78.trans k) ?_
      refine Go.by (B := (T78.setTop (mkF m 151 #[.val (.long q1), .second, .val (.long q2), .second, .val (.int p3), .val (.int p4), .val (.int v53), .val (.long cost55), .second, .val (.int v56), .val (.ref ty58), .val (.ref b59), .val (.ref b61), .val (.ref b63), .val (.ref b65), .val (.ref b71)] [(.ref b71)]))) (fun _ k => XS.astore X78.here hx rfl (hb hby at_147) rfl rfl (l' := #[.val (.long q1), .second, .val (.long q2), .second, .val (.int p3), .val (.int p4), .val (.int v53), .val (.long cost55), .second, .val (.int v56), .val (.ref ty58), .val (.ref b59), .val (.ref b61), .val (.ref b63), .val (.ref b65), .val (.ref b71)]) rfl (XS.aload X78.here hx rfl (hb hby at_149) rfl rfl k)) ?_
      obtain ⟨cq80, kq80, q80a, q80b, q80c⟩ := isOf hZ rfl p78_0
      obtain ⟨_, _, ⟨T80, L80, k80, n80⟩, -, X80, ⟨Lc80, hQ80, l80, y80, z80⟩, st80⟩ := X78.virtualBack hx (y := (⟨"com/example/pland/pland/billing/CreditCheck", "allowed", "()Z"⟩ : MethodName)) (z := (⟨"com/example/pland/pland/billing/CreditCheck", "allowed", "()Z"⟩ : MethodName)) hown (mvT hZ (wd hw 63 rfl)) (mvT hZ (wd hw 64 rfl)) (notFace_of_selects (args := #[]) (mvT hZ (wd hw 66 rfl))) (mvT hZ (wd hw 66 rfl)) (mvT hZ (wd hw 65 rfl)) (by decide) (backOf (W := 0) (rm_allowed l Z a0 hw [] b71 q1 cost55 T78.heap n0 Z79 p78_4 p78_5) hZ (wd hw 67 rfl) (wd hw 48 rfl) (by decide) (by decide)) q80a q80c (g := (mkF m 151 #[.val (.long q1), .second, .val (.long q2), .second, .val (.int p3), .val (.int p4), .val (.int v53), .val (.long cost55), .second, .val (.int v56), .val (.ref ty58), .val (.ref b59), .val (.ref b61), .val (.ref b63), .val (.ref b65), .val (.ref b71)] [(.ref b71)])) rfl (by rw [hml]; rfl) (Steps.refl _) (argsL := []) (rest := []) (lenOf pd_7 rfl) rfl (by show 2 * 0 + _ ≤ _; exact Nat.le_of_eq rfl) (hb hby at_151) (fun _ _ => ⟨rfl, rfl, Nat.le_of_ble_eq_true rfl, Nat.le_of_ble_eq_true rfl⟩)
      dsimp only [Pt.U, Pt.locs, Pt.cells, Pt.slots] at X80 l80 y80 z80 st80 hQ80
      subst l80 y80 z80
      obtain ⟨rfl, Nq80, hh80⟩ := hQ80
      have N80 := Fr.app N78 Nq80
      refine Go.by (B := (T80.setTop (mkF m 154 #[.val (.long q1), .second, .val (.long q2), .second, .val (.int p3), .val (.int p4), .val (.int v53), .val (.long cost55), .second, .val (.int v56), .val (.ref ty58), .val (.ref b59), .val (.ref b61), .val (.ref b63), .val (.ref b65), .val (.ref b71)] [(.int (if q1 < cost55 then (0 : Int32) else 1))]))) (fun _ k => st80.trans k) ?_
      refine Go.by (B := (T80.setTop (mkF m 157 #[.val (.long q1), .second, .val (.long q2), .second, .val (.int p3), .val (.int p4), .val (.int v53), .val (.long cost55), .second, .val (.int v56), .val (.ref ty58), .val (.ref b59), .val (.ref b61), .val (.ref b63), .val (.ref b65), .val (.ref b71)] [(.long cost55), (.long q1), (.int (if q1 < cost55 then (0 : Int32) else 1))]))) (fun _ k => XS.lloadN X80.here hx rfl (hb hby at_154) rfl (XS.lload X80.here hx rfl (hb hby at_155) rfl k)) ?_
      obtain ⟨_, _, ⟨T81, L81, k81, n81⟩, -, X81, ⟨Lc81, hQ81, l81, y81, z81⟩, st81⟩ := Jvm.LawKit.callS X80 hx (y := (⟨"com/example/pland/pland/billing/CreditCheckAllowedPinLaw", "expected", "(JJ)Z"⟩ : MethodName)) hown (mvT hZ (wd hw 68 rfl)) (mvT hZ (wd hw 69 rfl)) (mvT hZ (wd hw 70 rfl)) (mvT hZ (wd hw 71 rfl)) (by decide) (backOf (W := 1) (rm_exp l Z a0 hw [] q1 cost55 T78.heap n0 Z79 ) hZ (wd hw 71 rfl) (wd hw 70 rfl) (by decide) (by decide)) (g := (mkF m 157 #[.val (.long q1), .second, .val (.long q2), .second, .val (.int p3), .val (.int p4), .val (.int v53), .val (.long cost55), .second, .val (.int v56), .val (.ref ty58), .val (.ref b59), .val (.ref b61), .val (.ref b63), .val (.ref b65), .val (.ref b71)] [(.long cost55), (.long q1), (.int (if q1 < cost55 then (0 : Int32) else 1))])) rfl (by rw [hml]; rfl) (argsL := [(.long q1), (.long cost55)]) (rest := [(.int (if q1 < cost55 then (0 : Int32) else 1))]) (lenOf pd_8 rfl) rfl (by show 2 * 0 + _ ≤ _; exact Nat.le_of_eq rfl) (hb hby at_157) (fun _ _ => ⟨rfl, hh80, Nat.le_of_ble_eq_true rfl, Nat.le_of_ble_eq_true rfl⟩)
      dsimp only [Pt.U, Pt.locs, Pt.cells, Pt.slots] at X81 l81 y81 z81 st81 hQ81
      subst l81 y81 z81
      obtain ⟨rfl, Nq81, hh81⟩ := hQ81
      have N81 := Fr.app N80 Nq81
      refine Go.by (B := (T81.setTop (mkF m 160 #[.val (.long q1), .second, .val (.long q2), .second, .val (.int p3), .val (.int p4), .val (.int v53), .val (.long cost55), .second, .val (.int v56), .val (.ref ty58), .val (.ref b59), .val (.ref b61), .val (.ref b63), .val (.ref b65), .val (.ref b71)] [(.int (if q1 < cost55 then (0 : Int32) else 1)), (.int (if q1 < cost55 then (0 : Int32) else 1))]))) (fun _ k => st81 _ k) ?_
      refine Go.by (B := (T81.setTop (mkF m 168 #[.val (.long q1), .second, .val (.long q2), .second, .val (.int p3), .val (.int p4), .val (.int v53), .val (.long cost55), .second, .val (.int v56), .val (.ref ty58), .val (.ref b59), .val (.ref b61), .val (.ref b63), .val (.ref b65), .val (.ref b71)] [(.int 1)]))) (fun _ k => XS.icmpNo X81.here hx rfl (hb hby at_160) rfl (teq (rfl : (if q1 < cost55 then (0 : Int32) else 1) = (if q1 < cost55 then (0 : Int32) else 1))).2 (XS.iconst X81.here hx rfl (hb hby at_163) (XS.goto X81.here hx rfl (pc0 := 164) (pc' := 168) rfl (hb hby at_164) (by decide) (by decide) k))) ?_
      refine Go.ret X81 hx hlk (t := .boolean) hret rfl (Or.inl ⟨rfl, by simp, _, rfl⟩) (hb hby at_168) (by decide) (by decide) ?_
      exact ⟨rfl, N81⟩
    obtain ⟨T82, X82, e82, st82⟩ := getS2 X57 hx hZ hown (host := "") (Or.inl (wd hw 1 rfl)) Via.refl e57 (pr3.ext pr0.2) (g := (mkF m 46 #[.val (.long q1), .second, .val (.long q2), .second, .val (.int p3), .val (.int p4), .val (.int v53), .val (.long cost55), .second, .val (.int v56), .unset, .unset, .unset, .unset, .unset, .unset] [])) rfl (hb hby at_46)
    refine Go.by (B := (T82.setTop (mkF m 49 #[.val (.long q1), .second, .val (.long q2), .second, .val (.int p3), .val (.int p4), .val (.int v53), .val (.long cost55), .second, .val (.int v56), .unset, .unset, .unset, .unset, .unset, .unset] [(.ref w0)]))) st82 ?_
    refine Go.by (B := (T82.setTop (mkF m 54 #[.val (.long q1), .second, .val (.long q2), .second, .val (.int p3), .val (.int p4), .val (.int v53), .val (.long cost55), .second, .val (.int v56), .val (.ref w0), .unset, .unset, .unset, .unset, .unset] [(.int 1), (.int v56)]))) (fun _ k => XS.astore X82.here hx rfl (hb hby at_49) rfl rfl (l' := #[.val (.long q1), .second, .val (.long q2), .second, .val (.int p3), .val (.int p4), .val (.int v53), .val (.long cost55), .second, .val (.int v56), .val (.ref w0), .unset, .unset, .unset, .unset, .unset]) rfl (XS.iload X82.here hx rfl (hb hby at_51) rfl (XS.iconst X82.here hx rfl (hb hby at_53) k))) ?_
    by_cases c83 : v56 = (1 : Int32)
    · skip
      refine Go.by (B := (T82.setTop (mkF m 57 #[.val (.long q1), .second, .val (.long q2), .second, .val (.int p3), .val (.int p4), .val (.int v53), .val (.long cost55), .second, .val (.int v56), .val (.ref w0), .unset, .unset, .unset, .unset, .unset] []))) (fun _ k => XS.icmpNo X82.here hx rfl (hb hby at_54) rfl (teq c83).2 k) ?_
      obtain ⟨T84, X84, e84, st84⟩ := getS2 X82 hx hZ hown (host := "") (Or.inl (wd hw 74 rfl)) Via.refl e82 (pr4.ext pr0.2) (g := (mkF m 57 #[.val (.long q1), .second, .val (.long q2), .second, .val (.int p3), .val (.int p4), .val (.int v53), .val (.long cost55), .second, .val (.int v56), .val (.ref w0), .unset, .unset, .unset, .unset, .unset] [])) rfl (hb hby at_57)
      refine Go.by (B := (T84.setTop (mkF m 60 #[.val (.long q1), .second, .val (.long q2), .second, .val (.int p3), .val (.int p4), .val (.int v53), .val (.long cost55), .second, .val (.int v56), .val (.ref w0), .unset, .unset, .unset, .unset, .unset] [(.ref w1)]))) st84 ?_
      refine Go.by (B := (T84.setTop (mkF m 76 #[.val (.long q1), .second, .val (.long q2), .second, .val (.int p3), .val (.int p4), .val (.int v53), .val (.long cost55), .second, .val (.int v56), .val (.ref w1), .unset, .unset, .unset, .unset, .unset] []))) (fun _ k => XS.astore X84.here hx rfl (hb hby at_60) rfl rfl (l' := #[.val (.long q1), .second, .val (.long q2), .second, .val (.int p3), .val (.int p4), .val (.int v53), .val (.long cost55), .second, .val (.int v56), .val (.ref w1), .unset, .unset, .unset, .unset, .unset]) rfl (XS.goto X84.here hx rfl (pc0 := 62) (pc' := 76) rfl (hb hby at_62) (by decide) (by decide) k)) ?_
      exact J57 T84 X84 e84 w1
    · skip
      refine Go.by (B := (T82.setTop (mkF m 68 #[.val (.long q1), .second, .val (.long q2), .second, .val (.int p3), .val (.int p4), .val (.int v53), .val (.long cost55), .second, .val (.int v56), .val (.ref w0), .unset, .unset, .unset, .unset, .unset] [(.int 2), (.int v56)]))) (fun _ k => XS.icmpYes X82.here hx rfl (pc0 := 54) (pc' := 65) rfl (hb hby at_54) rfl (feq c83).2 (by decide) (by decide) (XS.iload X82.here hx rfl (hb hby at_65) rfl (XS.iconst X82.here hx rfl (hb hby at_67) k))) ?_
      by_cases c85 : v56 = (2 : Int32)
      · skip
        refine Go.by (B := (T82.setTop (mkF m 71 #[.val (.long q1), .second, .val (.long q2), .second, .val (.int p3), .val (.int p4), .val (.int v53), .val (.long cost55), .second, .val (.int v56), .val (.ref w0), .unset, .unset, .unset, .unset, .unset] []))) (fun _ k => XS.icmpNo X82.here hx rfl (hb hby at_68) rfl (teq c85).2 k) ?_
        obtain ⟨T86, X86, e86, st86⟩ := getS2 X82 hx hZ hown (host := "") (Or.inl (wd hw 72 rfl)) Via.refl e82 (pr5.ext pr0.2) (g := (mkF m 71 #[.val (.long q1), .second, .val (.long q2), .second, .val (.int p3), .val (.int p4), .val (.int v53), .val (.long cost55), .second, .val (.int v56), .val (.ref w0), .unset, .unset, .unset, .unset, .unset] [])) rfl (hb hby at_71)
        refine Go.by (B := (T86.setTop (mkF m 74 #[.val (.long q1), .second, .val (.long q2), .second, .val (.int p3), .val (.int p4), .val (.int v53), .val (.long cost55), .second, .val (.int v56), .val (.ref w0), .unset, .unset, .unset, .unset, .unset] [(.ref w2)]))) st86 ?_
        refine Go.by (B := (T86.setTop (mkF m 76 #[.val (.long q1), .second, .val (.long q2), .second, .val (.int p3), .val (.int p4), .val (.int v53), .val (.long cost55), .second, .val (.int v56), .val (.ref w2), .unset, .unset, .unset, .unset, .unset] []))) (fun _ k => XS.astore X86.here hx rfl (hb hby at_74) rfl rfl (l' := #[.val (.long q1), .second, .val (.long q2), .second, .val (.int p3), .val (.int p4), .val (.int v53), .val (.long cost55), .second, .val (.int v56), .val (.ref w2), .unset, .unset, .unset, .unset, .unset]) rfl k) ?_
        exact J57 T86 X86 e86 w2
      · skip
        refine Go.by (B := (T82.setTop (mkF m 76 #[.val (.long q1), .second, .val (.long q2), .second, .val (.int p3), .val (.int p4), .val (.int v53), .val (.long cost55), .second, .val (.int v56), .val (.ref w0), .unset, .unset, .unset, .unset, .unset] []))) (fun _ k => XS.icmpYes X82.here hx rfl (pc0 := 68) (pc' := 76) rfl (hb hby at_68) rfl (feq c85).2 (by decide) (by decide) k) ?_
        exact J57 T82 X82 e82 w0
  refine Go.by (B := (s₁.setTop (mkF m 17 #[.val (.long q1), .second, .val (.long q2), .second, .val (.int p3), .val (.int p4), .val (.int v53), .val (.long q2), .second, .unset, .unset, .unset, .unset, .unset, .unset, .unset] [(.int 1), (.int v53)]))) (fun _ k => XS.iload X54.here hx rfl (hb hby at_14) rfl (XS.iconst X54.here hx rfl (hb hby at_16) k)) ?_
  by_cases c87 : v53 = (1 : Int32)
  · skip
    refine Go.by (B := (s₁.setTop (mkF m 37 #[.val (.long q1), .second, .val (.long q2), .second, .val (.int p3), .val (.int p4), .val (.int v53), .val (.long q1), .second, .unset, .unset, .unset, .unset, .unset, .unset, .unset] []))) (fun _ k => XS.icmpNo X54.here hx rfl (hb hby at_17) rfl (teq c87).2 (XS.lloadN X54.here hx rfl (hb hby at_20) rfl (XS.lstore X54.here hx rfl (hb hby at_21) rfl (l' := #[.val (.long q1), .second, .val (.long q2), .second, .val (.int p3), .val (.int p4), .val (.int v53), .val (.long q1), .second, .unset, .unset, .unset, .unset, .unset, .unset, .unset]) rfl (XS.goto X54.here hx rfl (pc0 := 23) (pc' := 37) rfl (hb hby at_23) (by decide) (by decide) k)))) ?_
    exact J54 s₁ X54 e54 q1
  · skip
    refine Go.by (B := (s₁.setTop (mkF m 29 #[.val (.long q1), .second, .val (.long q2), .second, .val (.int p3), .val (.int p4), .val (.int v53), .val (.long q2), .second, .unset, .unset, .unset, .unset, .unset, .unset, .unset] [(.int 2), (.int v53)]))) (fun _ k => XS.icmpYes X54.here hx rfl (pc0 := 17) (pc' := 26) rfl (hb hby at_17) rfl (feq c87).2 (by decide) (by decide) (XS.iload X54.here hx rfl (hb hby at_26) rfl (XS.iconst X54.here hx rfl (hb hby at_28) k))) ?_
    by_cases c88 : v53 = (2 : Int32)
    · skip
      refine Go.by (B := (s₁.setTop (mkF m 35 #[.val (.long q1), .second, .val (.long q2), .second, .val (.int p3), .val (.int p4), .val (.int v53), .val (.long q2), .second, .unset, .unset, .unset, .unset, .unset, .unset, .unset] [(.long (q1 + (1 : Int64)))]))) (fun _ k => XS.icmpNo X54.here hx rfl (hb hby at_29) rfl (teq c88).2 (XS.lloadN X54.here hx rfl (hb hby at_32) rfl (XS.lconst X54.here hx rfl (hb hby at_33) (XS.ladd X54.here hx rfl (hb hby at_34) rfl k)))) ?_
      obtain ⟨v89, hv89⟩ : ∃ v, v = (q1 + (1 : Int64)) := ⟨_, rfl⟩
      refine Go.by (B := (s₁.setTop (mkF m 37 #[.val (.long q1), .second, .val (.long q2), .second, .val (.int p3), .val (.int p4), .val (.int v53), .val (.long v89), .second, .unset, .unset, .unset, .unset, .unset, .unset, .unset] []))) (fun _ k => XS.lstore (x := v89) (rest := []) X54.here hx rfl (hb hby at_35) (by rw [hv89]) (l' := #[.val (.long q1), .second, .val (.long q2), .second, .val (.int p3), .val (.int p4), .val (.int v53), .val (.long v89), .second, .unset, .unset, .unset, .unset, .unset, .unset, .unset]) rfl k) ?_
      exact J54 s₁ X54 e54 v89
    · skip
      refine Go.by (B := (s₁.setTop (mkF m 37 #[.val (.long q1), .second, .val (.long q2), .second, .val (.int p3), .val (.int p4), .val (.int v53), .val (.long q2), .second, .unset, .unset, .unset, .unset, .unset, .unset, .unset] []))) (fun _ k => XS.icmpYes X54.here hx rfl (pc0 := 29) (pc' := 37) rfl (hb hby at_29) rfl (feq c88).2 (by decide) (by decide) k) ?_
      exact J54 s₁ X54 e54 q2
set_option maxRecDepth 65536 in
set_option maxHeartbeats 40000000 in
theorem comes_1 {Post : Tables → Env → Array Value → State → Outcome → State → Prop} (hpost : ∀ tb e args s v u, (limb_1_1.after args s (.returned v) u = true ∧ limb_1_2.after args s (.returned v) u = true ∧ True) → FrameEnd s (.returned v) u (Jvm.fieldLocs frame_1_writes args s ++ Jvm.arrayLocs frame_1_arrays args s ++ Jvm.staticLocs frame_1_statics s) 24 128 → Post tb e args s (.returned v) u) :
    ArmFor flags0 classFile x code maxLocals ret World_1 tables_1 room_1 Calls_1 rest_1 Pre_1 Post := by
  intro l hfl _ _ p e ha hc hk s m args below hf hA hF happ hP
  obtain ⟨hcalls, hrest, hpre⟩ := hP
  obtain ⟨-, -, -, hnamed, -, -, -, hat⟩ := (Spec.applies_iff hf).mp happ
  obtain ⟨hg, hn⟩ := and_e (Cond.before_iff.mp (show (Jvm.Cond.and given_1 narrow_1).before args s = true from hpre))
  obtain ⟨hg0, hgr0⟩ := and_e hg
  obtain ⟨ga0, hgr1⟩ := and_e hgr0
  obtain ⟨ga1, hgr2⟩ := and_e hgr1
  obtain ⟨ga2, hgr3⟩ := and_e hgr2
  obtain ⟨w0, w1, w2, w3, rfl⟩ : ∃ w0 w1 w2 w3 : Value, args = #[w0, w1, w2, w3] := by
    have hs : args.size = 4 := by simpa [Cond.value, given_1] using hg0
    obtain ⟨L⟩ := args
    match L, hs with
    | [w0, w1, w2, w3], _ => exact ⟨w0, w1, w2, w3, rfl⟩
  have hw := fun d (hd : d ∈ tables_1) => atoms_spec (ws := Jvm.Cond.code x code maxLocals ret :: tables_1) hat d (List.mem_cons_of_mem _ hd)
  have hfit : Fit s := fun {y c} hc i hi => by
    obtain ⟨ha, rfl⟩ := Array.getElem?_eq_some_iff.mp hc
    have q := List.all_eq_true.mp ((Array.all_eq_true_iff_forall_mem.mp hF) _ (Array.getElem_mem ha)) i (List.mem_range.mpr hi)
    simpa [Array.getElem?_eq_getElem hi] using q
  obtain ⟨hsets, hown0⟩ := atoms_of _ (rest_1_c_eq ▸ (show rest_1_c.before _ s = true from hrest))
  have hr0 := Cond.before_iff.mp hown0
  obtain ⟨i0, ei0⟩ := isL_v ga0
  obtain rfl : w0 = (.long i0) := Option.some.inj ei0
  obtain ⟨i1, ei1⟩ := isL_v ga1
  obtain rfl : w1 = (.long i1) := Option.some.inj ei1
  obtain ⟨i2, ei2⟩ := is_v ga2
  obtain rfl : w2 = (.int i2) := Option.some.inj ei2
  obtain ⟨i3, ei3⟩ := is_v hgr3
  obtain rfl : w3 = (.int i3) := Option.some.inj ei3
  obtain ⟨hn90, hn91⟩ := and_e hn
  obtain ⟨hn92, hn93⟩ := and_e hn91
  obtain ⟨w_BOOLEAN, ev_w_BOOLEAN⟩ := exa_v hn90
  have S_w_BOOLEAN : Sta s s.heap "com/example/pland/pland/catalog/FeatureType" "BOOLEAN" "Lcom/example/pland/pland/catalog/FeatureType;" (.ref w_BOOLEAN) := Sta.start ev_w_BOOLEAN (Or.inr ⟨(wd hw 2 rfl), (wd hw 3 rfl)⟩)
  have E_w_BOOLEAN := Exa.start ev_w_BOOLEAN hn90
  obtain ⟨w_STATIC, ev_w_STATIC⟩ := exa_v hn92
  have S_w_STATIC : Sta s s.heap "com/example/pland/pland/catalog/FeatureType" "STATIC" "Lcom/example/pland/pland/catalog/FeatureType;" (.ref w_STATIC) := Sta.start ev_w_STATIC (Or.inr ⟨(wd hw 2 rfl), (wd hw 73 rfl)⟩)
  have E_w_STATIC := Exa.start ev_w_STATIC hn92
  obtain ⟨w_METERED, ev_w_METERED⟩ := exa_v hn93
  have S_w_METERED : Sta s s.heap "com/example/pland/pland/catalog/FeatureType" "METERED" "Lcom/example/pland/pland/catalog/FeatureType;" (.ref w_METERED) := Sta.start ev_w_METERED (Or.inr ⟨(wd hw 2 rfl), (wd hw 75 rfl)⟩)
  have E_w_METERED := Exa.start ev_w_METERED hn93
  have ncs := not_v (Cond.before_iff.mp (hsets _ (List.mem_of_getElem? (i := 2) rfl)))
  obtain ⟨cs, ecs⟩ := is_v (Cond.before_iff.mp (hsets _ (List.mem_of_getElem? (i := 1) rfl)))
  have Scs : Sta s s.heap "java/lang/String" "COMPACT_STRINGS" "Z" (.int cs) := Sta.start ecs (Or.inl (hsets _ (List.mem_of_getElem? (i := 0) rfl)))
  have hcs : ¬ (cs = (0 : Int32)) := gotF (Cond.eq_ints ecs (Term.int_eval (0))) ncs
  obtain ⟨n, o, h1, h2, h3, _, L, rfl, ⟨rfl, N⟩, hq⟩ := rm0 l s _ hw tables_1 i0 i1 i2 i3 cs w_BOOLEAN w_METERED w_STATIC s.heap s.heap.size (Nat.le_refl _) (Old.start s) Scs hcs S_w_BOOLEAN S_w_METERED S_w_STATIC p e ha hc hk s m _ below hf ((Spec.applies_iff_loose hf).mp happ).1 ⟨rfl, State.Warmed39.refl s, rfl⟩ trivial
  refine ⟨n, _, h1, h2, h3, hpost _ _ _ _ _ _ ⟨Cond.after_iff.mpr rfl, Cond.after_iff.mpr (eq_i res_at (Term.int_eval (1)) rfl), trivial⟩ ⟨hq.1, hq.2.1, (hq.2.2.sift fun y hy => Or.inr (N y hy)).mono (by decide) (by decide)⟩⟩
theorem main_1_1 : Claimed_1_1 := comes_1 fun _ _ _ _ _ _ h hF => ⟨h.1, hF⟩
theorem main_1_2 : Claimed_1_2 := comes_1 fun _ _ _ _ _ _ h hF => ⟨h.2.1, hF⟩
end Jvm.Pilot.@@N@@
namespace Jvm.Pilot.@@N@@
open Jvm Jvm.ClassFile Sem Op Lib Jvm.Free Jvm.Stand Jvm.Pilot.@@N@@.Jvm.D
/-! MADE BY PROGRAM (witnessworld.py) out of the Statement's table words and the real class files: 23 classes; the members and pool entries that the words name. The judged class is class 1, her method 2. -/
namespace start1
open Jvm.ClassFile
def u (s : String) : CpInfo := .utf8 (stringToUtf16 s)
/-- a pool by its gaps: so many unusable entries, then the entry; so many at the end -/
def gap : Nat → List CpInfo → List CpInfo
  | 0, r => r
  | n + 1, r => .unusable :: gap n r
def poolList (es : List (Nat × CpInfo)) (last : Nat) : List CpInfo := es.foldr (fun e r => gap e.1 (e.2 :: r)) (gap last [])
def pool (es : List (Nat × CpInfo)) (last : Nat) : Array CpInfo := ⟨poolList es last⟩
def fileOf (pool : Array CpInfo) (this : Nat) (attrs : Array Attribute := #[]) (ms : Array MethodInfo := #[]) (fl : Nat := 33) (sup : Nat := 0) (ifs : Array Nat := #[]) (fds : Array FieldInfo := #[]) : ClassFile where
  minorVersion := 0
  majorVersion := 65
  constantPool := pool
  accessFlags := fl
  thisClass := this
  superClass := sup
  interfaces := ifs
  fields := fds
  methods := ms
  attributes := attrs
def plain (name : String) (sup : Option ClassId) : Class where
  name := name
  kind := .ordinary
  loader := none
  accessFlags := 33
  super := sup
  interfaces := #[]
  cf := none
  fields := #[]
  methods := #[]
  instanceTypes := #[]
  staticTypes := #[]
  resolved := #[]
  callSites := []
  init := .initialized
  statics := none
  mirror := none

def pool0 : Array CpInfo := pool [(5, u "<init>"), (0, u "()V"), (1, .class_ 10), (1, u "java/lang/Object")] 113

def k0c0 : Code := { maxStack := 0, maxLocals := 1, code := object_method_1_code, exceptionTable := #[], attributes := #[] }
def k0m0 : Method := { name := "<init>", desc := "()V", sig := { parameters := [], returnType := none }, accessFlags := 1, code := some k0c0 }
/-- java/lang/Object -/
def k0 : Class := { plain "java/lang/Object" none with
  accessFlags := 33
  interfaces := #[]
  cf := some (fileOf pool0 8 #[] #[{ accessFlags := 1, nameIndex := 5, descriptorIndex := 6, attributes := #[] }] 33 0 #[] #[])
  fields := #[]
  methods := #[k0m0]
  instanceTypes := #[]
  staticTypes := #[]
  resolved := Array.replicate 124 none
  statics := none }

def pool1 : Array CpInfo := pool [(2, .class_ 4), (1, u "java/lang/Object"), (0, u "<init>"), (0, u "()V"), (0, .integer 2147483647), (0, .fieldref 9 10), (0, .class_ 11), (0, .nameAndType 12 13), (0, u "com/example/pland/pland/catalog/FeatureType"), (0, u "BOOLEAN"), (0, u "Lcom/example/pland/pland/catalog/FeatureType;"), (0, .fieldref 9 15), (0, .nameAndType 16 13), (0, u "METERED"), (0, .fieldref 9 18), (0, .nameAndType 19 13), (0, u "STATIC"), (0, .methodref 21 22), (0, .class_ 23), (0, .nameAndType 24 25), (0, u "java/lang/String"), (0, u "valueOf"), (0, u "(C)Ljava/lang/String;"), (0, .class_ 27), (0, u "com/example/pland/pland/catalog/Feature"), (0, .methodref 26 29), (0, .nameAndType 5 30), (0, u "(Ljava/lang/String;Lcom/example/pland/pland/catalog/FeatureType;)V"), (0, .class_ 32), (0, u "com/example/pland/pland/billing/CreditCheck"), (0, .methodref 31 34), (0, .nameAndType 5 35), (0, u "(Ljava/lang/String;Lcom/example/pland/pland/catalog/Feature;Ljava/lang/String;JJ)V"), (0, .methodref 31 37), (0, .nameAndType 38 39), (0, u "allowed"), (0, u "()Z"), (0, .methodref 41 42), (0, .class_ 43), (0, .nameAndType 44 45), (0, u "com/example/pland/pland/billing/CreditCheckAllowedPinLaw"), (0, u "expected"), (0, u "(JJ)Z"), (3, u "law"), (0, u "(JJII)Z")] 2

def k1m0 : Method := { name := "<init>", desc := "()V", sig := { parameters := [], returnType := none }, accessFlags := 1, code := none }
def k1c1 : Code := { maxStack := 4, maxLocals := 6, code := method_2_code, exceptionTable := #[], attributes := #[] }
def k1m1 : Method := { name := "expected", desc := "(JJ)Z", sig := { parameters := [.long, .long], returnType := some .boolean }, accessFlags := 10, code := some k1c1 }
def k1c2 : Code := { maxStack := 9, maxLocals := 16, code := code, exceptionTable := #[], attributes := #[] }
def k1m2 : Method := { name := "law", desc := "(JJII)Z", sig := { parameters := [.long, .long, .int, .int], returnType := some .boolean }, accessFlags := 9, code := some k1c2 }
/-- com/example/pland/pland/billing/CreditCheckAllowedPinLaw -/
def k1 : Class := { plain "com/example/pland/pland/billing/CreditCheckAllowedPinLaw" (some 0) with
  accessFlags := 49
  interfaces := #[]
  cf := some (fileOf pool1 41 #[] #[{ accessFlags := 1, nameIndex := 5, descriptorIndex := 6, attributes := #[] }, { accessFlags := 10, nameIndex := 44, descriptorIndex := 45, attributes := #[] }, { accessFlags := 9, nameIndex := 49, descriptorIndex := 50, attributes := #[] }] 49 2 #[] #[])
  fields := #[]
  methods := #[k1m0, k1m1, k1m2]
  instanceTypes := #[]
  staticTypes := #[]
  resolved := Array.replicate 53 none
  statics := none }

def pool2 : Array CpInfo := pool [(1, .class_ 2), (0, u "java/lang/constant/Constable"), (0, .class_ 4), (0, u "java/lang/Object")] 6

/-- java/lang/constant/Constable -/
def k2 : Class := { plain "java/lang/constant/Constable" (some 0) with
  accessFlags := 1537
  interfaces := #[]
  cf := some (fileOf pool2 1 #[] #[] 1537 3 #[] #[])
  fields := #[]
  methods := #[]
  instanceTypes := #[]
  staticTypes := #[]
  resolved := Array.replicate 11 none
  statics := none }

def pool3 : Array CpInfo := pool [(1, .class_ 2), (0, u "java/lang/Comparable"), (0, .class_ 4), (0, u "java/lang/Object")] 7

/-- java/lang/Comparable -/
def k3 : Class := { plain "java/lang/Comparable" (some 0) with
  accessFlags := 1537
  interfaces := #[]
  cf := some (fileOf pool3 1 #[] #[] 1537 3 #[] #[])
  fields := #[]
  methods := #[]
  instanceTypes := #[]
  staticTypes := #[]
  resolved := Array.replicate 12 none
  statics := none }

def pool4 : Array CpInfo := pool [(1, .class_ 2), (0, u "java/io/Serializable"), (0, .class_ 4), (0, u "java/lang/Object")] 2

/-- java/io/Serializable -/
def k4 : Class := { plain "java/io/Serializable" (some 0) with
  accessFlags := 1537
  interfaces := #[]
  cf := some (fileOf pool4 1 #[] #[] 1537 3 #[] #[])
  fields := #[]
  methods := #[]
  instanceTypes := #[]
  staticTypes := #[]
  resolved := Array.replicate 7 none
  statics := none }

def pool5 : Array CpInfo := pool [(2, .class_ 4), (1, u "java/lang/Enum"), (0, u "name"), (0, u "Ljava/lang/String;"), (2, u "ordinal"), (0, u "I"), (1, .class_ 14), (1, u "java/lang/Object"), (4, u "hash"), (86, .class_ 108), (1, u "java/lang/Enum$EnumDesc"), (2, .class_ 112), (0, u "java/lang/constant/Constable"), (0, .class_ 114), (0, u "java/lang/Comparable"), (0, .class_ 116), (0, u "java/io/Serializable")] 87

/-- java/lang/Enum -/
def k5 : Class := { plain "java/lang/Enum" (some 0) with
  accessFlags := 1057
  interfaces := #[2, 3, 4]
  cf := some (fileOf pool5 2 #[.nestMembers #[106]] #[] 1057 12 #[111, 113, 115] #[{ accessFlags := 18, nameIndex := 5, descriptorIndex := 6, attributes := #[] }, { accessFlags := 18, nameIndex := 9, descriptorIndex := 10, attributes := #[] }, { accessFlags := 2, nameIndex := 19, descriptorIndex := 10, attributes := #[] }])
  fields := #[{ name := "name", type := (.object "java/lang/String"), accessFlags := 18, slot := 0, constantValue := 0 }, { name := "ordinal", type := .int, accessFlags := 18, slot := 1, constantValue := 0 }, { name := "hash", type := .int, accessFlags := 2, slot := 2, constantValue := 0 }]
  methods := #[]
  instanceTypes := #[(.object "java/lang/String"), .int, .int]
  staticTypes := #[]
  resolved := Array.replicate 204 none
  statics := none }

def pool6 : Array CpInfo := pool [(2, .class_ 4), (1, u "com/example/pland/pland/json/WireName"), (18, .class_ 24), (0, u "java/lang/Object")] 11

/-- com/example/pland/pland/json/WireName -/
def k6 : Class := { plain "com/example/pland/pland/json/WireName" (some 0) with
  accessFlags := 1537
  interfaces := #[]
  cf := some (fileOf pool6 2 #[] #[] 1537 23 #[] #[])
  fields := #[]
  methods := #[]
  instanceTypes := #[]
  staticTypes := #[]
  resolved := Array.replicate 36 none
  statics := none }

def pool7 : Array CpInfo := pool [(1, .class_ 2), (0, u "com/example/pland/pland/catalog/FeatureType"), (2, u "BOOLEAN"), (0, u "Lcom/example/pland/pland/catalog/FeatureType;"), (2, u "METERED"), (2, u "STATIC"), (2, u "$VALUES"), (0, u "[Lcom/example/pland/pland/catalog/FeatureType;"), (6, .class_ 25), (1, u "java/lang/Enum"), (8, u "wireName"), (0, u "Ljava/lang/String;"), (5, .class_ 43), (1, u "com/example/pland/pland/json/WireName")] 32

/-- com/example/pland/pland/catalog/FeatureType -/
def k7 : Class := { plain "com/example/pland/pland/catalog/FeatureType" (some 5) with
  accessFlags := 16433
  interfaces := #[6]
  cf := some (fileOf pool7 1 #[] #[] 16433 23 #[41] #[{ accessFlags := 16409, nameIndex := 5, descriptorIndex := 6, attributes := #[] }, { accessFlags := 16409, nameIndex := 9, descriptorIndex := 6, attributes := #[] }, { accessFlags := 16409, nameIndex := 12, descriptorIndex := 6, attributes := #[] }, { accessFlags := 18, nameIndex := 34, descriptorIndex := 35, attributes := #[] }, { accessFlags := 4122, nameIndex := 15, descriptorIndex := 16, attributes := #[] }])
  fields := #[{ name := "BOOLEAN", type := (.object "com/example/pland/pland/catalog/FeatureType"), accessFlags := 16409, slot := 0, constantValue := 0 }, { name := "METERED", type := (.object "com/example/pland/pland/catalog/FeatureType"), accessFlags := 16409, slot := 1, constantValue := 0 }, { name := "STATIC", type := (.object "com/example/pland/pland/catalog/FeatureType"), accessFlags := 16409, slot := 2, constantValue := 0 }, { name := "wireName", type := (.object "java/lang/String"), accessFlags := 18, slot := 3, constantValue := 0 }, { name := "$VALUES", type := (.array (.object "com/example/pland/pland/catalog/FeatureType")), accessFlags := 4122, slot := 3, constantValue := 0 }]
  methods := #[]
  instanceTypes := #[(.object "java/lang/String"), .int, .int, (.object "java/lang/String")]
  staticTypes := #[(.object "com/example/pland/pland/catalog/FeatureType"), (.object "com/example/pland/pland/catalog/FeatureType"), (.object "com/example/pland/pland/catalog/FeatureType"), (.array (.object "com/example/pland/pland/catalog/FeatureType"))]
  resolved := Array.replicate 76 none
  statics := some 0 }

def pool8 : Array CpInfo := pool [(2, .class_ 4), (1, u "java/lang/CharSequence"), (42, .class_ 48), (0, u "java/lang/CharSequence$1CodePointIterator"), (10, .class_ 60), (0, u "java/lang/CharSequence$1CharIterator"), (5, .class_ 67), (0, u "java/lang/Object")] 63

/-- java/lang/CharSequence -/
def k8 : Class := { plain "java/lang/CharSequence" (some 0) with
  accessFlags := 1537
  interfaces := #[]
  cf := some (fileOf pool8 2 #[.nestMembers #[47, 59]] #[] 1537 66 #[] #[])
  fields := #[]
  methods := #[]
  instanceTypes := #[]
  staticTypes := #[]
  resolved := Array.replicate 131 none
  statics := none }

def pool9 : Array CpInfo := pool [(1, .class_ 2), (0, u "java/lang/constant/ConstantDesc"), (0, .class_ 4), (0, u "java/lang/Object")] 32

/-- java/lang/constant/ConstantDesc -/
def k9 : Class := { plain "java/lang/constant/ConstantDesc" (some 0) with
  accessFlags := 1537
  interfaces := #[]
  cf := some (fileOf pool9 1 #[] #[] 1537 3 #[] #[])
  fields := #[]
  methods := #[]
  instanceTypes := #[]
  staticTypes := #[]
  resolved := Array.replicate 37 none
  statics := none }

def pool10 : Array CpInfo := pool [(1, .methodref 2 3), (0, .class_ 4), (0, .nameAndType 5 6), (0, u "java/lang/Object"), (0, u "<init>"), (0, u "()V"), (2, .fieldref 10 11), (0, .class_ 12), (0, .nameAndType 13 14), (0, u "java/lang/String"), (0, u "value"), (0, u "[B"), (0, .fieldref 10 16), (0, .nameAndType 17 18), (0, u "coder"), (0, u "B"), (2, u "hash"), (0, u "I"), (2, u "hashIsZero"), (0, u "Z"), (11, .fieldref 10 39), (0, .nameAndType 40 26), (0, u "COMPACT_STRINGS"), (12, u "toBytes"), (53, .class_ 109), (1, u "java/lang/StringLatin1"), (99, .methodref 10 210), (0, .nameAndType 5 211), (0, u "([BB)V"), (157, u "(C)Z"), (205, .class_ 576), (0, u "java/lang/CharSequence"), (22, u "CASE_INSENSITIVE_ORDER"), (0, u "Ljava/util/Comparator;"), (181, u "valueOf"), (0, u "(C)Ljava/lang/String;"), (231, .methodref 107 1016), (0, .nameAndType 1017 369), (0, u "canEncode"), (0, .methodref 107 1019), (0, .nameAndType 53 1020), (0, u "(C)[B"), (80, u "serialPersistentFields"), (0, u "[Ljava/io/ObjectStreamField;"), (0, .class_ 1104), (0, u "java/lang/String$CaseInsensitiveComparator"), (1, .class_ 1107), (0, u "java/io/Serializable"), (0, .class_ 1109), (0, u "java/lang/Comparable"), (0, .class_ 1111), (0, u "java/lang/constant/Constable"), (0, .class_ 1113), (0, u "java/lang/constant/ConstantDesc"), (2, u "serialVersionUID"), (0, u "J"), (3, u "REPL"), (0, u "C"), (2, u "LATIN1"), (1, u "UTF16")] 323

def k10m0 : Method := { name := "<init>", desc := "()V", sig := { parameters := [], returnType := none }, accessFlags := 1, code := none }
def k10c1 : Code := { maxStack := 4, maxLocals := 1, code := jdk_42_method_139_code, exceptionTable := #[], attributes := #[] }
def k10m1 : Method := { name := "valueOf", desc := "(C)Ljava/lang/String;", sig := { parameters := [.char], returnType := some (.object "java/lang/String") }, accessFlags := 9, code := some k10c1 }
def k10c2 : Code := { maxStack := 2, maxLocals := 3, code := jdk_42_method_151_code, exceptionTable := #[], attributes := #[] }
def k10m2 : Method := { name := "<init>", desc := "([BB)V", sig := { parameters := [(.array .byte), .byte], returnType := none }, accessFlags := 0, code := some k10c2 }
/-- java/lang/String -/
def k10 : Class := { plain "java/lang/String" (some 0) with
  accessFlags := 49
  interfaces := #[4, 3, 8, 2, 9]
  cf := some (fileOf pool10 10 #[.nestMembers #[1103]] #[{ accessFlags := 1, nameIndex := 5, descriptorIndex := 6, attributes := #[] }, { accessFlags := 9, nameIndex := 782, descriptorIndex := 783, attributes := #[] }, { accessFlags := 0, nameIndex := 5, descriptorIndex := 211, attributes := #[] }] 49 2 #[1106, 1108, 575, 1110, 1112] #[{ accessFlags := 18, nameIndex := 13, descriptorIndex := 14, attributes := #[] }, { accessFlags := 18, nameIndex := 17, descriptorIndex := 18, attributes := #[] }, { accessFlags := 2, nameIndex := 21, descriptorIndex := 22, attributes := #[] }, { accessFlags := 2, nameIndex := 25, descriptorIndex := 26, attributes := #[] }, { accessFlags := 26, nameIndex := 1116, descriptorIndex := 1117, attributes := #[] }, { accessFlags := 24, nameIndex := 40, descriptorIndex := 26, attributes := #[] }, { accessFlags := 26, nameIndex := 1101, descriptorIndex := 1102, attributes := #[] }, { accessFlags := 26, nameIndex := 1121, descriptorIndex := 1122, attributes := #[] }, { accessFlags := 25, nameIndex := 599, descriptorIndex := 600, attributes := #[] }, { accessFlags := 24, nameIndex := 1125, descriptorIndex := 18, attributes := #[] }, { accessFlags := 24, nameIndex := 1127, descriptorIndex := 18, attributes := #[] }])
  fields := #[{ name := "value", type := (.array .byte), accessFlags := 18, slot := 0, constantValue := 0 }, { name := "coder", type := .byte, accessFlags := 18, slot := 1, constantValue := 0 }, { name := "hash", type := .int, accessFlags := 2, slot := 2, constantValue := 0 }, { name := "hashIsZero", type := .boolean, accessFlags := 2, slot := 3, constantValue := 0 }, { name := "serialVersionUID", type := .long, accessFlags := 26, slot := 0, constantValue := 0 }, { name := "COMPACT_STRINGS", type := .boolean, accessFlags := 24, slot := 1, constantValue := 0 }, { name := "serialPersistentFields", type := (.array (.object "java/io/ObjectStreamField")), accessFlags := 26, slot := 2, constantValue := 0 }, { name := "REPL", type := .char, accessFlags := 26, slot := 3, constantValue := 0 }, { name := "CASE_INSENSITIVE_ORDER", type := (.object "java/util/Comparator"), accessFlags := 25, slot := 4, constantValue := 0 }, { name := "LATIN1", type := .byte, accessFlags := 24, slot := 5, constantValue := 0 }, { name := "UTF16", type := .byte, accessFlags := 24, slot := 6, constantValue := 0 }]
  methods := #[k10m0, k10m1, k10m2]
  instanceTypes := #[(.array .byte), .byte, .int, .boolean]
  staticTypes := #[.long, .boolean, (.array (.object "java/io/ObjectStreamField")), .char, (.object "java/util/Comparator"), .byte, .byte]
  resolved := Array.replicate 1451 none
  statics := some 1 }

def pool11 : Array CpInfo := pool [(4, .class_ 6), (1, u "java/lang/Object"), (0, u "<init>"), (0, u "()V"), (5, .class_ 16), (1, u "java/lang/StringLatin1"), (73, u "canEncode"), (14, u "(C)Z"), (15, u "$assertionsDisabled"), (0, u "Z"), (98, .class_ 223), (1, u "java/lang/StringLatin1$LinesSpliterator"), (156, u "toBytes"), (1, u "(C)[B"), (7, .class_ 391), (0, u "java/lang/StringLatin1$CharsSpliterator")] 3

def k11m0 : Method := { name := "<init>", desc := "()V", sig := { parameters := [], returnType := none }, accessFlags := 0, code := none }
def k11c1 : Code := { maxStack := 2, maxLocals := 1, code := jdk_43_method_3_code, exceptionTable := #[], attributes := #[] }
def k11m1 : Method := { name := "canEncode", desc := "(C)Z", sig := { parameters := [.char], returnType := some .boolean }, accessFlags := 9, code := some k11c1 }
def k11c2 : Code := { maxStack := 4, maxLocals := 1, code := jdk_43_method_46_code, exceptionTable := #[], attributes := #[] }
def k11m2 : Method := { name := "toBytes", desc := "(C)[B", sig := { parameters := [.char], returnType := some (.array .byte) }, accessFlags := 9, code := some k11c2 }
/-- java/lang/StringLatin1 -/
def k11 : Class := { plain "java/lang/StringLatin1" (some 0) with
  accessFlags := 48
  interfaces := #[]
  cf := some (fileOf pool11 14 #[.nestMembers #[390, 221]] #[{ accessFlags := 0, nameIndex := 7, descriptorIndex := 8, attributes := #[] }, { accessFlags := 9, nameIndex := 90, descriptorIndex := 105, attributes := #[] }, { accessFlags := 9, nameIndex := 380, descriptorIndex := 382, attributes := #[] }] 48 4 #[] #[{ accessFlags := 4120, nameIndex := 121, descriptorIndex := 122, attributes := #[] }])
  fields := #[{ name := "$assertionsDisabled", type := .boolean, accessFlags := 4120, slot := 0, constantValue := 0 }]
  methods := #[k11m0, k11m1, k11m2]
  instanceTypes := #[]
  staticTypes := #[.boolean]
  resolved := Array.replicate 395 none
  statics := none }

def pool12 : Array CpInfo := pool [(1, .methodref 2 3), (0, .class_ 4), (0, .nameAndType 5 6), (0, u "java/lang/Object"), (0, u "<init>"), (0, u "()V"), (0, .class_ 8), (0, u "java/lang/Record")] 13

def k12c0 : Code := { maxStack := 1, maxLocals := 1, code := jdk_30_method_1_code, exceptionTable := #[], attributes := #[] }
def k12m0 : Method := { name := "<init>", desc := "()V", sig := { parameters := [], returnType := none }, accessFlags := 4, code := some k12c0 }
/-- java/lang/Record -/
def k12 : Class := { plain "java/lang/Record" (some 0) with
  accessFlags := 1057
  interfaces := #[]
  cf := some (fileOf pool12 7 #[] #[{ accessFlags := 4, nameIndex := 5, descriptorIndex := 6, attributes := #[] }] 1057 2 #[] #[])
  fields := #[]
  methods := #[k12m0]
  instanceTypes := #[]
  staticTypes := #[]
  resolved := Array.replicate 22 none
  statics := none }

def pool13 : Array CpInfo := pool [(1, .methodref 2 3), (0, .class_ 4), (0, .nameAndType 5 6), (0, u "java/lang/Record"), (0, u "<init>"), (0, u "()V"), (0, .fieldref 8 9), (0, .class_ 10), (0, .nameAndType 11 12), (0, u "com/example/pland/pland/catalog/Feature"), (0, u "id"), (0, u "Ljava/lang/String;"), (0, .fieldref 8 14), (0, .nameAndType 15 16), (0, u "type"), (0, u "Lcom/example/pland/pland/catalog/FeatureType;"), (12, u "(Ljava/lang/String;Lcom/example/pland/pland/catalog/FeatureType;)V")] 28

def k13c0 : Code := { maxStack := 2, maxLocals := 3, code := prog_28_method_1_code, exceptionTable := #[], attributes := #[] }
def k13m0 : Method := { name := "<init>", desc := "(Ljava/lang/String;Lcom/example/pland/pland/catalog/FeatureType;)V", sig := { parameters := [(.object "java/lang/String"), (.object "com/example/pland/pland/catalog/FeatureType")], returnType := none }, accessFlags := 1, code := some k13c0 }
/-- com/example/pland/pland/catalog/Feature -/
def k13 : Class := { plain "com/example/pland/pland/catalog/Feature" (some 12) with
  accessFlags := 49
  interfaces := #[]
  cf := some (fileOf pool13 8 #[] #[{ accessFlags := 1, nameIndex := 5, descriptorIndex := 29, attributes := #[] }] 49 2 #[] #[{ accessFlags := 18, nameIndex := 11, descriptorIndex := 12, attributes := #[] }, { accessFlags := 18, nameIndex := 15, descriptorIndex := 16, attributes := #[] }])
  fields := #[{ name := "id", type := (.object "java/lang/String"), accessFlags := 18, slot := 0, constantValue := 0 }, { name := "type", type := (.object "com/example/pland/pland/catalog/FeatureType"), accessFlags := 18, slot := 1, constantValue := 0 }]
  methods := #[k13m0]
  instanceTypes := #[(.object "java/lang/String"), (.object "com/example/pland/pland/catalog/FeatureType")]
  staticTypes := #[]
  resolved := Array.replicate 58 none
  statics := none }

def pool14 : Array CpInfo := pool [(1, .class_ 2), (0, u "com/example/pland/pland/billing/Check"), (0, .class_ 4), (0, u "java/lang/Object")] 13

/-- com/example/pland/pland/billing/Check -/
def k14 : Class := { plain "com/example/pland/pland/billing/Check" (some 0) with
  accessFlags := 1537
  interfaces := #[]
  cf := some (fileOf pool14 1 #[] #[] 1537 3 #[] #[])
  fields := #[]
  methods := #[]
  instanceTypes := #[]
  staticTypes := #[]
  resolved := Array.replicate 18 none
  statics := none }

def pool15 : Array CpInfo := pool [(1, .methodref 2 3), (0, .class_ 4), (0, .nameAndType 5 6), (0, u "java/lang/Record"), (0, u "<init>"), (0, u "()V"), (0, .fieldref 8 9), (0, .class_ 10), (0, .nameAndType 11 12), (0, u "com/example/pland/pland/billing/CreditCheck"), (0, u "customer"), (0, u "Ljava/lang/String;"), (0, .fieldref 8 14), (0, .nameAndType 15 16), (0, u "feature"), (0, u "Lcom/example/pland/pland/catalog/Feature;"), (0, .fieldref 8 18), (0, .nameAndType 19 12), (0, u "creditSystem"), (0, .fieldref 8 21), (0, .nameAndType 22 23), (0, u "balance"), (0, u "J"), (0, .fieldref 8 25), (0, .nameAndType 26 23), (0, u "cost"), (12, .class_ 40), (0, u "com/example/pland/pland/billing/Check"), (0, u "(Ljava/lang/String;Lcom/example/pland/pland/catalog/Feature;Ljava/lang/String;JJ)V"), (3, u "allowed"), (0, u "()Z")] 30

def k15c0 : Code := { maxStack := 3, maxLocals := 8, code := prog_9_method_1_code, exceptionTable := #[], attributes := #[] }
def k15m0 : Method := { name := "<init>", desc := "(Ljava/lang/String;Lcom/example/pland/pland/catalog/Feature;Ljava/lang/String;JJ)V", sig := { parameters := [(.object "java/lang/String"), (.object "com/example/pland/pland/catalog/Feature"), (.object "java/lang/String"), .long, .long], returnType := none }, accessFlags := 1, code := some k15c0 }
def k15c1 : Code := { maxStack := 4, maxLocals := 1, code := prog_9_method_2_code, exceptionTable := #[], attributes := #[] }
def k15m1 : Method := { name := "allowed", desc := "()Z", sig := { parameters := [], returnType := some .boolean }, accessFlags := 1, code := some k15c1 }
/-- com/example/pland/pland/billing/CreditCheck -/
def k15 : Class := { plain "com/example/pland/pland/billing/CreditCheck" (some 12) with
  accessFlags := 49
  interfaces := #[14]
  cf := some (fileOf pool15 8 #[] #[{ accessFlags := 1, nameIndex := 5, descriptorIndex := 41, attributes := #[] }, { accessFlags := 1, nameIndex := 45, descriptorIndex := 46, attributes := #[] }] 49 2 #[39] #[{ accessFlags := 18, nameIndex := 11, descriptorIndex := 12, attributes := #[] }, { accessFlags := 18, nameIndex := 15, descriptorIndex := 16, attributes := #[] }, { accessFlags := 18, nameIndex := 19, descriptorIndex := 12, attributes := #[] }, { accessFlags := 18, nameIndex := 22, descriptorIndex := 23, attributes := #[] }, { accessFlags := 18, nameIndex := 26, descriptorIndex := 23, attributes := #[] }])
  fields := #[{ name := "customer", type := (.object "java/lang/String"), accessFlags := 18, slot := 0, constantValue := 0 }, { name := "feature", type := (.object "com/example/pland/pland/catalog/Feature"), accessFlags := 18, slot := 1, constantValue := 0 }, { name := "creditSystem", type := (.object "java/lang/String"), accessFlags := 18, slot := 2, constantValue := 0 }, { name := "balance", type := .long, accessFlags := 18, slot := 3, constantValue := 0 }, { name := "cost", type := .long, accessFlags := 18, slot := 4, constantValue := 0 }]
  methods := #[k15m0, k15m1]
  instanceTypes := #[(.object "java/lang/String"), (.object "com/example/pland/pland/catalog/Feature"), (.object "java/lang/String"), .long, .long]
  staticTypes := #[]
  resolved := Array.replicate 77 none
  statics := none }

def pool16 : Array CpInfo := pool [(2, .class_ 4), (1, u "java/lang/Object"), (0, u "<init>"), (0, u "()V"), (17, .class_ 26), (1, u "jdk/internal/util/Preconditions"), (28, .class_ 56), (0, u "jdk/internal/util/Preconditions$4"), (57, .class_ 115), (0, u "jdk/internal/util/Preconditions$1"), (7, u "SIOOBE_FORMATTER"), (0, u "Ljava/util/function/BiFunction;"), (0, .class_ 126), (0, u "jdk/internal/util/Preconditions$2"), (3, u "AIOOBE_FORMATTER"), (0, .class_ 132), (0, u "jdk/internal/util/Preconditions$3"), (3, u "IOOBE_FORMATTER")] 57

def k16m0 : Method := { name := "<init>", desc := "()V", sig := { parameters := [], returnType := none }, accessFlags := 1, code := none }
/-- jdk/internal/util/Preconditions -/
def k16 : Class := { plain "jdk/internal/util/Preconditions" (some 0) with
  accessFlags := 33
  interfaces := #[]
  cf := some (fileOf pool16 24 #[.nestMembers #[55, 131, 125, 114]] #[{ accessFlags := 1, nameIndex := 5, descriptorIndex := 6, attributes := #[] }] 33 2 #[] #[{ accessFlags := 25, nameIndex := 123, descriptorIndex := 124, attributes := #[] }, { accessFlags := 25, nameIndex := 130, descriptorIndex := 124, attributes := #[] }, { accessFlags := 25, nameIndex := 136, descriptorIndex := 124, attributes := #[] }])
  fields := #[{ name := "SIOOBE_FORMATTER", type := (.object "java/util/function/BiFunction"), accessFlags := 25, slot := 0, constantValue := 0 }, { name := "AIOOBE_FORMATTER", type := (.object "java/util/function/BiFunction"), accessFlags := 25, slot := 1, constantValue := 0 }, { name := "IOOBE_FORMATTER", type := (.object "java/util/function/BiFunction"), accessFlags := 25, slot := 2, constantValue := 0 }]
  methods := #[k16m0]
  instanceTypes := #[]
  staticTypes := #[(.object "java/util/function/BiFunction"), (.object "java/util/function/BiFunction"), (.object "java/util/function/BiFunction")]
  resolved := Array.replicate 194 none
  statics := some 2 }

def pool17 : Array CpInfo := pool [(9, u "<init>"), (6, .class_ 18), (1, u "java/lang/Object"), (0, u "()V"), (1, .class_ 23), (1, u "jdk/internal/util/ArraysSupport"), (0, u "LOG2_ARRAY_LONG_INDEX_SCALE"), (0, u "I"), (2, u "U"), (0, u "Ljdk/internal/misc/Unsafe;"), (8, u "BIG_ENDIAN"), (0, u "Z"), (8, u "LOG2_BYTE_BIT_SIZE"), (4, u "LOG2_ARRAY_INT_INDEX_SCALE"), (54, u "JLA"), (0, u "Ljdk/internal/access/JavaLangAccess;"), (11, u "LOG2_ARRAY_BOOLEAN_INDEX_SCALE"), (9, u "LOG2_ARRAY_BYTE_INDEX_SCALE"), (5, u "LOG2_ARRAY_CHAR_INDEX_SCALE"), (5, u "LOG2_ARRAY_SHORT_INDEX_SCALE"), (18, u "LOG2_ARRAY_FLOAT_INDEX_SCALE"), (24, u "LOG2_ARRAY_DOUBLE_INDEX_SCALE"), (89, u "T_BOOLEAN"), (2, u "T_CHAR"), (1, u "T_FLOAT"), (1, u "T_DOUBLE"), (1, u "T_BYTE"), (1, u "T_SHORT"), (1, u "T_INT"), (1, u "T_LONG"), (1, u "SOFT_MAX_ARRAY_LENGTH")] 83

def k17m0 : Method := { name := "<init>", desc := "()V", sig := { parameters := [], returnType := none }, accessFlags := 2, code := none }
/-- jdk/internal/util/ArraysSupport -/
def k17 : Class := { plain "jdk/internal/util/ArraysSupport" (some 0) with
  accessFlags := 33
  interfaces := #[]
  cf := some (fileOf pool17 21 #[] #[{ accessFlags := 2, nameIndex := 9, descriptorIndex := 19, attributes := #[] }] 33 16 #[] #[{ accessFlags := 24, nameIndex := 28, descriptorIndex := 29, attributes := #[] }, { accessFlags := 26, nameIndex := 38, descriptorIndex := 39, attributes := #[] }, { accessFlags := 25, nameIndex := 121, descriptorIndex := 25, attributes := #[] }, { accessFlags := 25, nameIndex := 131, descriptorIndex := 25, attributes := #[] }, { accessFlags := 25, nameIndex := 137, descriptorIndex := 25, attributes := #[] }, { accessFlags := 25, nameIndex := 143, descriptorIndex := 25, attributes := #[] }, { accessFlags := 25, nameIndex := 53, descriptorIndex := 25, attributes := #[] }, { accessFlags := 25, nameIndex := 24, descriptorIndex := 25, attributes := #[] }, { accessFlags := 25, nameIndex := 162, descriptorIndex := 25, attributes := #[] }, { accessFlags := 25, nameIndex := 187, descriptorIndex := 25, attributes := #[] }, { accessFlags := 26, nameIndex := 48, descriptorIndex := 25, attributes := #[] }, { accessFlags := 25, nameIndex := 277, descriptorIndex := 25, attributes := #[] }, { accessFlags := 25, nameIndex := 280, descriptorIndex := 25, attributes := #[] }, { accessFlags := 25, nameIndex := 282, descriptorIndex := 25, attributes := #[] }, { accessFlags := 25, nameIndex := 284, descriptorIndex := 25, attributes := #[] }, { accessFlags := 25, nameIndex := 286, descriptorIndex := 25, attributes := #[] }, { accessFlags := 25, nameIndex := 288, descriptorIndex := 25, attributes := #[] }, { accessFlags := 25, nameIndex := 290, descriptorIndex := 25, attributes := #[] }, { accessFlags := 25, nameIndex := 292, descriptorIndex := 25, attributes := #[] }, { accessFlags := 26, nameIndex := 108, descriptorIndex := 109, attributes := #[] }, { accessFlags := 25, nameIndex := 294, descriptorIndex := 25, attributes := #[] }])
  fields := #[{ name := "U", type := (.object "jdk/internal/misc/Unsafe"), accessFlags := 24, slot := 0, constantValue := 0 }, { name := "BIG_ENDIAN", type := .boolean, accessFlags := 26, slot := 1, constantValue := 0 }, { name := "LOG2_ARRAY_BOOLEAN_INDEX_SCALE", type := .int, accessFlags := 25, slot := 2, constantValue := 0 }, { name := "LOG2_ARRAY_BYTE_INDEX_SCALE", type := .int, accessFlags := 25, slot := 3, constantValue := 0 }, { name := "LOG2_ARRAY_CHAR_INDEX_SCALE", type := .int, accessFlags := 25, slot := 4, constantValue := 0 }, { name := "LOG2_ARRAY_SHORT_INDEX_SCALE", type := .int, accessFlags := 25, slot := 5, constantValue := 0 }, { name := "LOG2_ARRAY_INT_INDEX_SCALE", type := .int, accessFlags := 25, slot := 6, constantValue := 0 }, { name := "LOG2_ARRAY_LONG_INDEX_SCALE", type := .int, accessFlags := 25, slot := 7, constantValue := 0 }, { name := "LOG2_ARRAY_FLOAT_INDEX_SCALE", type := .int, accessFlags := 25, slot := 8, constantValue := 0 }, { name := "LOG2_ARRAY_DOUBLE_INDEX_SCALE", type := .int, accessFlags := 25, slot := 9, constantValue := 0 }, { name := "LOG2_BYTE_BIT_SIZE", type := .int, accessFlags := 26, slot := 10, constantValue := 0 }, { name := "T_BOOLEAN", type := .int, accessFlags := 25, slot := 11, constantValue := 0 }, { name := "T_CHAR", type := .int, accessFlags := 25, slot := 12, constantValue := 0 }, { name := "T_FLOAT", type := .int, accessFlags := 25, slot := 13, constantValue := 0 }, { name := "T_DOUBLE", type := .int, accessFlags := 25, slot := 14, constantValue := 0 }, { name := "T_BYTE", type := .int, accessFlags := 25, slot := 15, constantValue := 0 }, { name := "T_SHORT", type := .int, accessFlags := 25, slot := 16, constantValue := 0 }, { name := "T_INT", type := .int, accessFlags := 25, slot := 17, constantValue := 0 }, { name := "T_LONG", type := .int, accessFlags := 25, slot := 18, constantValue := 0 }, { name := "JLA", type := (.object "jdk/internal/access/JavaLangAccess"), accessFlags := 26, slot := 19, constantValue := 0 }, { name := "SOFT_MAX_ARRAY_LENGTH", type := .int, accessFlags := 25, slot := 20, constantValue := 0 }]
  methods := #[k17m0]
  instanceTypes := #[]
  staticTypes := #[(.object "jdk/internal/misc/Unsafe"), .boolean, .int, .int, .int, .int, .int, .int, .int, .int, .int, .int, .int, .int, .int, .int, .int, .int, .int, (.object "jdk/internal/access/JavaLangAccess"), .int]
  resolved := Array.replicate 378 none
  statics := none }

def pool18 : Array CpInfo := pool [(1, u "java/lang/Cloneable"), (0, .class_ 1), (0, u "java/lang/Object"), (0, .class_ 3)] 3

/-- java/lang/Cloneable -/
def k18 : Class := { plain "java/lang/Cloneable" (some 0) with
  accessFlags := 1537
  interfaces := #[]
  cf := some (fileOf pool18 2 #[] #[] 1537 4 #[] #[])
  fields := #[]
  methods := #[]
  instanceTypes := #[]
  staticTypes := #[]
  resolved := Array.replicate 8 none
  statics := none }

/-- the primitive byte -/
def k19 : Class := { plain "byte" none with kind := .primitive 'B', accessFlags := 0x411 }
/-- [B -/
def k20 : Class := { plain "[B" (some 0) with kind := .array 19 .byte, interfaces := #[18, 4], accessFlags := 1041 }

/-- the primitive int -/
def k21 : Class := { plain "int" none with kind := .primitive 'I', accessFlags := 0x411 }
/-- [I -/
def k22 : Class := { plain "[I" (some 0) with kind := .array 21 .int, interfaces := #[18, 4], accessFlags := 1041 }

def heap : Heap := #[{ cls := 7, slots := #[.ref 3, .ref 5, .ref 4, .null], vm := .statics 7 },
  { cls := 10, slots := #[.long 0, .int 1, .null, .int 0, .null, .int 0, .int 0], vm := .statics 10 },
  { cls := 16, slots := #[.null, .null, .null], vm := .statics 16 },
  { cls := 7, slots := #[.null, .int 0, .int 0, .null], vm := .none },
  { cls := 7, slots := #[.null, .int 0, .int 0, .null], vm := .none },
  { cls := 7, slots := #[.null, .int 0, .int 0, .null], vm := .none }]
def classes : Array Class := #[k0, k1, k2, k3, k4, k5, k6, k7, k8, k9, k10, k11, k12, k13, k14, k15, k16, k17, k18, k19, k20, k21, k22]
def interned : List (Array UInt16 × Addr) := []
def slotsUsed : Nat := 26
def theMethod : MethodId := ⟨1, 2⟩
def args0 : Array Value := #[.long 5, .long 6, .int 7, .int 8]
def aboutOver (below : List Frame) : State where
  vm := { classes := classes, interned := interned.toArray }
  heap := heap
  slotsUsed := slotsUsed
  threads := #[{ frames := .invoking theMethod args0 :: below }]
def below0 : List Frame := [.native { method := ⟨0, 0⟩, args := #[] }]
def about1 : State := aboutOver below0
def p0 : Program := .bare "" "" ""
def e0 : Env := launch0.env 0 0 0
theorem w_frames : about1.frames = Frame.invoking theMethod args0 :: below0 := rfl
set_option maxRecDepth 65536 in
theorem w_args : argsFit about1.vm theMethod args0 = true := by decide +kernel
set_option maxRecDepth 65536 in
theorem w_heap : heapFits about1 = true := by decide +kernel
set_option maxRecDepth 65536 in
theorem w_runnable : about1.curStatus? = some .runnable := by decide +kernel
set_option maxRecDepth 65536 in
theorem w_alone : about1.alone = true := by decide +kernel
set_option maxRecDepth 65536 in
theorem w_named : about1.methodNamed? x = some theMethod := by decide +kernel
set_option maxRecDepth 65536 in
theorem w_hears : about1.hears theMethod below0 = true := by decide +kernel
set_option maxRecDepth 65536 in
theorem w_ripe : about1.ripe theMethod args0 below0 = true := by decide +kernel
theorem w_running : about1.status = .running := rfl
set_option maxRecDepth 65536 in
theorem w_room : about1.hasRoom e0.platform room_1 = true :=
  launch0.hasRoom_least _ room_1 (by decide +kernel) (by decide +kernel) (by decide +kernel) (by decide +kernel) (by decide +kernel) (by decide +kernel)
theorem allAtoms_all (ts : List Jvm.Cond) (a : Array Jvm.Value) (st : Jvm.State) : (allAtoms ts).before a st = ts.all (fun c => c.before a st) := by
  induction ts with
  | nil => rfl
  | cons c t ih =>
    show (Jvm.Cond.and c (allAtoms t)).before a st = _
    rw [Jvm.Cond.before_and, ih, List.all_cons]
def words1 : List Jvm.Cond := Jvm.Cond.code x code maxLocals ret :: tables_1
/-- a 'code' word, met by the world's own term for the bytes: nothing is compared byte by byte -/
theorem code_word {y : MethodName} {bytes : ByteArray} {mx : Nat} {rt : Option FieldType} {a : Array Value} {s : State} {m : MethodId} {meth : Method} {c : Code} (h1 : s.methodNamed? y = some m) (h2 : s.vm.method? m = some meth) (h3 : meth.code = some c) (h4 : c.code = bytes)
    (h5 : (c.maxLocals == mx && c.exceptionTable.isEmpty && decide (c.maxStack ≤ mostOperands) && decide (meth.sig.returnType = rt) && !meth.locks && decide (parseMethodDescriptor y.desc = some meth.sig)) = true) : (Jvm.Cond.code y bytes mx rt).before a s = true := by
  simp only [Bool.and_eq_true, beq_iff_eq, Bool.not_eq_true', decide_eq_true_eq] at h5
  obtain ⟨⟨⟨⟨⟨g1, g2⟩, g3⟩, g4⟩, g5⟩, g6⟩ := h5
  simp [Cond.before, Cond.holds, Cond.value, h1, h2, h3, h4, g1, g2, g3, g4, g5, g6]
def isCode : Jvm.Cond → Bool
  | .code _ _ _ _ => true
  | _ => false
theorem all_split {L : List Jvm.Cond} {P : Jvm.Cond → Bool} (h1 : L.all (fun c => isCode c || P c) = true) (h2 : ∀ c ∈ L.filter isCode, P c = true) : L.all P = true := by
  refine List.all_eq_true.mpr fun c hc => ?_
  have h := List.all_eq_true.mp h1 c hc
  rcases Bool.eq_false_or_eq_true (isCode c) with hi | hi
  · exact h2 c (List.mem_filter.mpr ⟨hc, hi⟩)
  · simpa [hi] using h
set_option maxRecDepth 65536 in
theorem w_c0 : (Jvm.Cond.code x code maxLocals ret).before args0 about1 = true := code_word (m := ⟨1, 2⟩) (meth := k1m2) (c := k1c2) (by decide +kernel) rfl rfl rfl (by decide +kernel)
set_option maxRecDepth 65536 in
theorem w_c1 : (Jvm.Cond.code ({ cls := "java/lang/String", name := "valueOf", desc := "(C)Ljava/lang/String;" } : Jvm.MethodName) jdk_42_method_139_code (1 : Nat) (Option.some (Jvm.ClassFile.FieldType.object "java/lang/String"))).before args0 about1 = true := code_word (m := ⟨10, 1⟩) (meth := k10m1) (c := k10c1) (by decide +kernel) rfl rfl rfl (by decide +kernel)
set_option maxRecDepth 65536 in
theorem w_c2 : (Jvm.Cond.code ({ cls := "java/lang/StringLatin1", name := "canEncode", desc := "(C)Z" } : Jvm.MethodName) jdk_43_method_3_code (1 : Nat) (Option.some Jvm.ClassFile.FieldType.boolean)).before args0 about1 = true := code_word (m := ⟨11, 1⟩) (meth := k11m1) (c := k11c1) (by decide +kernel) rfl rfl rfl (by decide +kernel)
set_option maxRecDepth 65536 in
theorem w_c3 : (Jvm.Cond.code ({ cls := "java/lang/StringLatin1", name := "toBytes", desc := "(C)[B" } : Jvm.MethodName) jdk_43_method_46_code (1 : Nat) (Option.some (Jvm.ClassFile.FieldType.array Jvm.ClassFile.FieldType.byte))).before args0 about1 = true := code_word (m := ⟨11, 2⟩) (meth := k11m2) (c := k11c2) (by decide +kernel) rfl rfl rfl (by decide +kernel)
set_option maxRecDepth 65536 in
theorem w_c4 : (Jvm.Cond.code ({ cls := "java/lang/String", name := "<init>", desc := "([BB)V" } : Jvm.MethodName) jdk_42_method_151_code (3 : Nat) (Option.none : Option Jvm.ClassFile.FieldType)).before args0 about1 = true := code_word (m := ⟨10, 2⟩) (meth := k10m2) (c := k10c2) (by decide +kernel) rfl rfl rfl (by decide +kernel)
set_option maxRecDepth 65536 in
theorem w_c5 : (Jvm.Cond.code ({ cls := "java/lang/Object", name := "<init>", desc := "()V" } : Jvm.MethodName) object_method_1_code (1 : Nat) (Option.none : Option Jvm.ClassFile.FieldType)).before args0 about1 = true := code_word (m := ⟨0, 0⟩) (meth := k0m0) (c := k0c0) (by decide +kernel) rfl rfl rfl (by decide +kernel)
set_option maxRecDepth 65536 in
theorem w_c6 : (Jvm.Cond.code ({ cls := "com/example/pland/pland/catalog/Feature", name := "<init>", desc := "(Ljava/lang/String;Lcom/example/pland/pland/catalog/FeatureType;)V" } : Jvm.MethodName) prog_28_method_1_code (3 : Nat) (Option.none : Option Jvm.ClassFile.FieldType)).before args0 about1 = true := code_word (m := ⟨13, 0⟩) (meth := k13m0) (c := k13c0) (by decide +kernel) rfl rfl rfl (by decide +kernel)
set_option maxRecDepth 65536 in
theorem w_c7 : (Jvm.Cond.code ({ cls := "java/lang/Record", name := "<init>", desc := "()V" } : Jvm.MethodName) jdk_30_method_1_code (1 : Nat) (Option.none : Option Jvm.ClassFile.FieldType)).before args0 about1 = true := code_word (m := ⟨12, 0⟩) (meth := k12m0) (c := k12c0) (by decide +kernel) rfl rfl rfl (by decide +kernel)
set_option maxRecDepth 65536 in
theorem w_c8 : (Jvm.Cond.code ({ cls := "com/example/pland/pland/billing/CreditCheck", name := "<init>", desc := "(Ljava/lang/String;Lcom/example/pland/pland/catalog/Feature;Ljava/lang/String;JJ)V" } : Jvm.MethodName) prog_9_method_1_code (8 : Nat) (Option.none : Option Jvm.ClassFile.FieldType)).before args0 about1 = true := code_word (m := ⟨15, 0⟩) (meth := k15m0) (c := k15c0) (by decide +kernel) rfl rfl rfl (by decide +kernel)
set_option maxRecDepth 65536 in
theorem w_c9 : (Jvm.Cond.code ({ cls := "com/example/pland/pland/billing/CreditCheck", name := "allowed", desc := "()Z" } : Jvm.MethodName) prog_9_method_2_code (1 : Nat) (Option.some Jvm.ClassFile.FieldType.boolean)).before args0 about1 = true := code_word (m := ⟨15, 1⟩) (meth := k15m1) (c := k15c1) (by decide +kernel) rfl rfl rfl (by decide +kernel)
set_option maxRecDepth 65536 in
theorem w_c10 : (Jvm.Cond.code ({ cls := "com/example/pland/pland/billing/CreditCheckAllowedPinLaw", name := "expected", desc := "(JJ)Z" } : Jvm.MethodName) method_2_code (6 : Nat) (Option.some Jvm.ClassFile.FieldType.boolean)).before args0 about1 = true := code_word (m := ⟨1, 1⟩) (meth := k1m1) (c := k1c1) (by decide +kernel) rfl rfl rfl (by decide +kernel)
def codes1 : List Jvm.Cond := [Jvm.Cond.code x code maxLocals ret, Jvm.Cond.code ({ cls := "java/lang/String", name := "valueOf", desc := "(C)Ljava/lang/String;" } : Jvm.MethodName) jdk_42_method_139_code (1 : Nat) (Option.some (Jvm.ClassFile.FieldType.object "java/lang/String")), Jvm.Cond.code ({ cls := "java/lang/StringLatin1", name := "canEncode", desc := "(C)Z" } : Jvm.MethodName) jdk_43_method_3_code (1 : Nat) (Option.some Jvm.ClassFile.FieldType.boolean), Jvm.Cond.code ({ cls := "java/lang/StringLatin1", name := "toBytes", desc := "(C)[B" } : Jvm.MethodName) jdk_43_method_46_code (1 : Nat) (Option.some (Jvm.ClassFile.FieldType.array Jvm.ClassFile.FieldType.byte)), Jvm.Cond.code ({ cls := "java/lang/String", name := "<init>", desc := "([BB)V" } : Jvm.MethodName) jdk_42_method_151_code (3 : Nat) (Option.none : Option Jvm.ClassFile.FieldType), Jvm.Cond.code ({ cls := "java/lang/Object", name := "<init>", desc := "()V" } : Jvm.MethodName) object_method_1_code (1 : Nat) (Option.none : Option Jvm.ClassFile.FieldType), Jvm.Cond.code ({ cls := "com/example/pland/pland/catalog/Feature", name := "<init>", desc := "(Ljava/lang/String;Lcom/example/pland/pland/catalog/FeatureType;)V" } : Jvm.MethodName) prog_28_method_1_code (3 : Nat) (Option.none : Option Jvm.ClassFile.FieldType), Jvm.Cond.code ({ cls := "java/lang/Record", name := "<init>", desc := "()V" } : Jvm.MethodName) jdk_30_method_1_code (1 : Nat) (Option.none : Option Jvm.ClassFile.FieldType), Jvm.Cond.code ({ cls := "com/example/pland/pland/billing/CreditCheck", name := "<init>", desc := "(Ljava/lang/String;Lcom/example/pland/pland/catalog/Feature;Ljava/lang/String;JJ)V" } : Jvm.MethodName) prog_9_method_1_code (8 : Nat) (Option.none : Option Jvm.ClassFile.FieldType), Jvm.Cond.code ({ cls := "com/example/pland/pland/billing/CreditCheck", name := "allowed", desc := "()Z" } : Jvm.MethodName) prog_9_method_2_code (1 : Nat) (Option.some Jvm.ClassFile.FieldType.boolean), Jvm.Cond.code ({ cls := "com/example/pland/pland/billing/CreditCheckAllowedPinLaw", name := "expected", desc := "(JJ)Z" } : Jvm.MethodName) method_2_code (6 : Nat) (Option.some Jvm.ClassFile.FieldType.boolean)]
set_option maxRecDepth 65536 in
theorem codes_eq : words1.filter isCode = codes1 := rfl
theorem w_codes : ∀ c ∈ words1.filter isCode, c.before args0 about1 = true := by
  rw [codes_eq]
  intro c hc
  simp only [codes1, List.mem_cons, List.not_mem_nil, or_false] at hc
  rcases hc with rfl | rfl | rfl | rfl | rfl | rfl | rfl | rfl | rfl | rfl | rfl
  · exact w_c0
  · exact w_c1
  · exact w_c2
  · exact w_c3
  · exact w_c4
  · exact w_c5
  · exact w_c6
  · exact w_c7
  · exact w_c8
  · exact w_c9
  · exact w_c10
set_option maxRecDepth 65536 in
theorem w_t1 : (words1.take 24).all (fun c => isCode c || c.before args0 about1) = true := by decide +kernel
set_option maxRecDepth 65536 in
theorem w_t2 : ((words1.drop 24).take 24).all (fun c => isCode c || c.before args0 about1) = true := by decide +kernel
set_option maxRecDepth 65536 in
theorem w_t3 : (((words1.drop 24).drop 24).take 24).all (fun c => isCode c || c.before args0 about1) = true := by decide +kernel
set_option maxRecDepth 65536 in
theorem w_t4 : (((words1.drop 24).drop 24).drop 24).all (fun c => isCode c || c.before args0 about1) = true := by decide +kernel
theorem w_tables : (allAtoms (Jvm.Cond.code x code maxLocals ret :: tables_1)).before args0 about1 = true := by
  rw [allAtoms_all]
  show words1.all (fun c => c.before args0 about1) = true
  refine all_split ?_ w_codes
  rw [← List.take_append_drop 24 words1, List.all_append, w_t1, ← List.take_append_drop 24 (words1.drop 24), List.all_append, w_t2, ← List.take_append_drop 24 ((words1.drop 24).drop 24), List.all_append, w_t3, w_t4]
  rfl
set_option maxRecDepth 65536 in
theorem w_rest : rest_1_c.before args0 about1 = true := by decide +kernel
set_option maxRecDepth 65536 in
theorem w_case : (Jvm.Cond.and given_1 narrow_1).before args0 about1 = true := by decide +kernel
theorem w_applies : (headSpec (Jvm.Cond.code x code maxLocals ret :: tables_1) room_1).applies x e0.platform about1 = true :=
  (Spec.applies_iff w_frames).mpr ⟨w_running, w_runnable, w_alone, w_named, w_hears, w_ripe, w_room, w_tables⟩
theorem atStart : AtStart classFile x code maxLocals ret World_1 tables_1 room_1 Calls_1 rest_1 Pre_1 launch0 p0 e0 about1 theMethod args0 below0 :=
  ⟨lists_1, trivial, launch0.admits_env _ _ _, launch0.least_env, fairChoices_fair.cas, fairChoices_fair.clock, w_frames, w_args, w_heap, w_applies, trivial, w_rest, w_case⟩
end start1
theorem witness_1 : WitnessClaimed_1 := ⟨start1.p0, start1.e0, start1.about1, start1.theMethod, start1.args0, start1.below0, start1.atStart⟩
end Jvm.Pilot.@@N@@
