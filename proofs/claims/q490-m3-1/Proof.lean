import JvmDerived
import JvmDerived.Pilot.@@N@@Statement
import JvmDerived.Pilot.@@N@@Code
set_option linter.unusedVariables false
set_option linter.unusedSimpArgs false
namespace Jvm.RoadKit
open Sem ClassFile Op Lib Jvm.Stand Jvm.Free Jvm.LawKit
section Own
variable {p : Program} {l : Launch} {e : Env} {R : Room} {s : State} {m : MethodId} {args : Array Value} {below : List Frame} {meth : Method} {c : Code} {T A B : State} {locs : List Loc} {cells slots K N : Nat} {P : State → Outcome → Prop} {Q : Option Value → Heap → List Loc → Prop}
/-- the run that stands at A comes to an end of which P holds -/
def Go (p : Program) (e : Env) (below : List Frame) (P : State → Outcome → Prop) (A : State) : Prop := ∃ s₂ o, Steps p.tables e below A s₂ ∧ s₂.status = .running ∧ Ended s₂ below o ∧ P s₂ o
def PostW (s : State) (K N : Nat) (Q : Option Value → Heap → List Loc → Prop) : State → Outcome → Prop := fun s₂ o => ∃ v L, o = .returned v ∧ Q v s₂.heap L ∧ FrameEnd s o s₂ L K N
theorem Go.by (h : ∀ t, Steps p.tables e below B t → Steps p.tables e below A t) (k : Go p e below P B) : Go p e below P A := by
  obtain ⟨s₂, o, h1, h2⟩ := k
  exact ⟨s₂, o, h _ h1, h2⟩
theorem Go.to (h : Steps p.tables e below A B) (k : Go p e below P B) : Go p e below P A := Go.by (fun _ q => h.trans q) k
theorem Go.cast {g g' : JFrame} (q : g = g') (k : Go p e below P (T.setTop g')) : Go p e below P (T.setTop g) := q ▸ k
theorem Go.ret (X : Stand p l e R s m args below meth c T locs cells slots) (hx : p.tables.exec = Jvm.exec) (hlk : meth.locks = false) {pc : Nat} {Ls : Array Slot} {w : Value} {t : FieldType} {i : Instr} {rest : List Value} (hret : meth.sig.returnType = some t) (hn : narrow t w = w)
    (hi : (i = .ireturn ∧ (t = .int ∨ t = .boolean ∨ t = .byte ∨ t = .char ∨ t = .short) ∧ ∃ z, w = .int z) ∨ (i = .lreturn ∧ t = .long ∧ ∃ z, w = .long z) ∨ (i = .dreturn ∧ t = .double ∧ ∃ z, w = .double z) ∨ (i = .freturn ∧ t = .float ∧ ∃ z, w = .float z) ∨ (i = .areturn ∧ t.isReference = true ∧ w.isRef = true))
    (hd : decode c.code pc = .ok (i, 1)) (hc : cells ≤ K) (hs : slots ≤ N) (hQ : Q (some w) T.heap locs) : Go p e below (PostW s K N Q) (T.setTop (mkF m pc Ls (w :: rest))) := by
  obtain ⟨fs, hr, hrun, hended, hW, hsame⟩ := X.leave (v := some w) (fun h => by rw [hret] at h; cases h) hlk
  exact ⟨_, _, retOut X hx hret hn hi hd hr, hrun, hended, _, _, rfl, hQ, ⟨_, rfl⟩, hW, hsame.mono hc hs⟩
theorem Go.retZ (X : Stand p l e R s m args below meth c T locs cells slots) (hx : p.tables.exec = Jvm.exec) (hlk : meth.locks = false) {pc : Nat} {Ls : Array Slot} {z : Int32} {t : FieldType} {rest : List Value} (hret : meth.sig.returnType = some t) (ht : t = .boolean ∨ t = .byte ∨ t = .char ∨ t = .short)
    (hd : decode c.code pc = .ok (.ireturn, 1)) (hc : cells ≤ K) (hs : slots ≤ N) (hQ : Q (some (.int (nar t z))) T.heap locs) : Go p e below (PostW s K N Q) (T.setTop (mkF m pc Ls (.int z :: rest))) := by
  obtain ⟨fs, hr, hrun, hended, hW, hsame⟩ := X.leave (v := some (.int (nar t z))) (fun h => by rw [hret] at h; cases h) hlk
  exact ⟨_, _, retN X hx hret ht hd hr, hrun, hended, _, _, rfl, hQ, ⟨_, rfl⟩, hW, hsame.mono hc hs⟩
theorem own_cat {w : Value} (h : w.isRef = true) : w.category = 1 := by cases w <;> first | rfl | (simp [Value.isRef] at h)
theorem own_narR {w : Value} {t : FieldType} (h : w.isRef = true) (ht : t.isReference = true) : narrow t w = w := by cases t <;> first | (cases ht; done) | (cases w <;> first | rfl | (simp [Value.isRef] at h))
theorem own_fitR {w : Value} {t : FieldType} (h : w.isRef = true) (ht : t.isReference = true) : fits t w = true := by cases t <;> first | (cases ht; done) | (cases w <;> first | rfl | (simp [Value.isRef] at h))
theorem Go.retV (X : Stand p l e R s m args below meth c T locs cells slots) (hx : p.tables.exec = Jvm.exec) (hlk : meth.locks = false) {pc : Nat} {Ls : Array Slot} (hret : meth.sig.returnType = none)
    (hd : decode c.code pc = .ok (.return_, 1)) (hc : cells ≤ K) (hs : slots ≤ N) (hQ : Q none T.heap locs) : Go p e below (PostW s K N Q) (T.setTop (mkF m pc Ls [])) := by
  obtain ⟨fs, hr, hrun, hended, hW, hsame⟩ := X.leave (v := none) (fun _ => rfl) hlk
  exact ⟨_, _, X.returnOut hx hret hd hr, hrun, hended, _, _, rfl, hQ, ⟨_, rfl⟩, hW, hsame.mono hc hs⟩
theorem wd {L : List Cond} {a0 : Array Value} {Z : State} (hw : ∀ d ∈ L, d.before a0 Z = true) (i : Nat) {d : Cond} (h : L[i]? = some d) : d.before a0 Z = true := hw d (List.mem_of_getElem? h)
/-- a callee's contract, as the walks here say it -/
abbrev Met (l : Launch) (Z : State) (y : MethodName) (bytes : ByteArray) (maxL : Nat) (ret : Option FieldType) (ws : List Cond) (rm : Room) (as' : Array Value) (h0 : Heap) (Q : Option Value → Heap → List Loc → Prop) : Prop :=
  MetFree l y (head1 (Cond.code y bytes maxL ret :: ws) rm) (fun a U => a = as' ∧ Z.Warmed39 U.vm ∧ U.heap = h0) (fun _ _ _ _ _ => True) (fun _ U o U' => ∃ v L, o = .returned v ∧ Q v U'.heap L ∧ FrameEnd U o U' L rm.cells rm.slots)
theorem Met.enter {Z : State} {y : MethodName} {bytes : ByteArray} {maxL : Nat} {ret : Option FieldType} {ws : List Cond} {rm : Room} {as' : Array Value} {h0 : Heap} {f0 : MethodId → JFrame} (hpl : plainFor y = true) (hf0 : ∀ m, entryFrame m as' maxL = f0 m)
    (body : ∀ (p : Program) (e : Env) (s : State) (m : MethodId) (below : List Frame) (meth : Method) (c : Code) (s₁ : State), p.tables.exec = Jvm.exec → c.code = bytes → c.maxLocals = maxL → s.vm.findClass y.cls = some m.cls → meth.name = y.name → meth.sig.returnType = ret → meth.locks = false → Z.Warmed39 s.vm → Stand p l e rm s m as' below meth c s₁ [] 0 0 → s₁.heap = h0 → Go p e below (PostW s rm.cells rm.slots Q) (s₁.setTop (f0 m))) : Met l Z y bytes maxL ret ws rm as' h0 Q := by
  refine MetFree.of_bodySF hpl hisR ?_
  intro p e s m args below meth c s₁ Bd hml0 hP hK
  obtain ⟨rfl, hZ, hh⟩ := hP
  have q := body p e s m below meth c s₁ Bd.exec Bd.bytes hml0 (findClass_of_methodNamed Bd.named) (name_of_methodNamed Bd.named Bd.method).1 Bd.returns Bd.notSynchronized hZ (Stand.of_body Bd) (by rw [← hh, Bd.state]; rfl)
  rw [← hf0] at q
  exact q
end Own
end Jvm.RoadKit
namespace Jvm.Pilot.@@N@@
open Jvm Jvm.ClassFile Sem Op Lib Jvm.Free Jvm.Stand Jvm.LawKit Jvm.RoadKit Bundle Jvm.Pilot.@@N@@.Jvm.D
theorem own_eqk {args : Array Value} {first s : State} {o : Option Outcome} {idx : List Nat} {t : Term} {k : Int32} (h : (Jvm.Cond.eq t (Term.int k)).value args first o s idx = some true) : t.eval args first o idx s = some (.int k) := by
  obtain ⟨x, y, ex, ey, -, k2⟩ := cmp_v (Or.inl h)
  have e2 : y = .int k := Option.some.inj (ey.symm.trans (Term.int_eval k))
  subst e2
  obtain ⟨z, rfl⟩ := k2
  have := gotT (Cond.eq_ints ex (Term.int_eval k)) h
  rw [ex, this]

theorem own_placeJ {q : Int64} (h1 : ¬ q < (-128 : Int64)) (h2 : ¬ (127 : Int64) < q) : ¬ (q.toInt32 + (128 : Int32)) < 0 ∧ (q.toInt32 + (128 : Int32)).toNatClampNeg < 256 ∧ ((q.toInt32 + (128 : Int32)) - 128).toInt64 = q := by
  have a1 : (-128 : Int64).toInt = -128 := by decide
  have a2 : (127 : Int64).toInt = 127 := by decide
  have a3 : (128 : Int32).toInt = 128 := by decide
  have a4 : (0 : Int32).toInt = 0 := by decide
  rw [Int64.lt_iff_toInt_lt, a1] at h1
  rw [Int64.lt_iff_toInt_lt, a2] at h2
  have b1 := c_l2i q
  have b2 := rng32 q.toInt32
  have e1 : q.toInt32.toInt = q.toInt := by omega
  have b3 := c_iadd q.toInt32 128
  have b4 := rng32 (q.toInt32 + 128)
  have e2 : (q.toInt32 + (128 : Int32)).toInt = q.toInt + 128 := by omega
  have hn : ¬ (q.toInt32 + (128 : Int32)) < 0 := by rw [Int32.lt_iff_toInt_lt, a4]; omega
  refine ⟨hn, ?_, ?_⟩
  · have := nat_of hn
    omega
  · rw [Int32.add_sub_cancel, ← Int64.toInt_inj, c_i2l, e1]
theorem own_placeI {q : Int32} (h1 : ¬ q < (-128 : Int32)) (h2 : ¬ (127 : Int32) < q) : ¬ (q + (128 : Int32)) < 0 ∧ (q + (128 : Int32)).toNatClampNeg < 256 ∧ ((q + (128 : Int32)) - 128) = q := by
  have a1 : (-128 : Int32).toInt = -128 := by decide
  have a2 : (127 : Int32).toInt = 127 := by decide
  have a3 : (128 : Int32).toInt = 128 := by decide
  have a4 : (0 : Int32).toInt = 0 := by decide
  rw [Int32.lt_iff_toInt_lt, a1] at h1
  rw [Int32.lt_iff_toInt_lt, a2] at h2
  have b3 := c_iadd q 128
  have b4 := rng32 (q + 128)
  have b2 := rng32 q
  have e2 : (q + (128 : Int32)).toInt = q.toInt + 128 := by omega
  have hn : ¬ (q + (128 : Int32)) < 0 := by rw [Int32.lt_iff_toInt_lt, a4]; omega
  refine ⟨hn, ?_, ?_⟩
  · have := nat_of hn
    omega
  · exact Int32.add_sub_cancel _ _
theorem own_size256 {cl : Cell} {args : Array Value} {s : State} {t : Term} {a : Addr} {ty : FieldType} (ht : t.eval args s none [] s = some (.ref a)) (A : Arr s s.heap a cl ty) (h : (Jvm.Cond.eq (Term.length t) (Term.int 256)).value args s none s [] = some true) : cl.slots.size = 256 := by
  have e := own_eqk h
  have hat : s.arrayAt? a = some cl := A.fin (State.Warmed39.refl s).alike
  by_cases q : cl.slots.size < 2 ^ 31
  · have e7 : cl.slots.size.toInt32 = 256 := Value.int.inj (Option.some.inj ((len_f ht hat q).symm.trans e))
    have e5 : (256 : Int32).toInt = 256 := by decide
    have e6 : cl.slots.size.toInt32.toInt = cl.slots.size := len_toInt q
    rw [e7, e5] at e6
    omega
  · simp [Term.eval, ht, hat, q] at e
theorem own_eqL {args : Array Value} {first s : State} {o : Option Outcome} {idx : List Nat} {t u : Term} {k : Int64} (h : (Jvm.Cond.eq t u).value args first o s idx = some true) (hu : u.eval args first o idx s = some (.long k)) : t.eval args first o idx s = some (.long k) := by
  obtain ⟨x, y, ex, ey, -, k2⟩ := cmp_v (Or.inl h)
  have e2 : y = .long k := Option.some.inj (ey.symm.trans hu)
  subst e2
  obtain ⟨z, rfl⟩ := k2
  have := gotT (eq_L ex hu) h
  rw [ex, this]
theorem own_eqI {args : Array Value} {first s : State} {o : Option Outcome} {idx : List Nat} {t u : Term} {k : Int32} (h : (Jvm.Cond.eq t u).value args first o s idx = some true) (hu : u.eval args first o idx s = some (.int k)) : t.eval args first o idx s = some (.int k) := by
  obtain ⟨x, y, ex, ey, -, k2⟩ := cmp_v (Or.inl h)
  have e2 : y = .int k := Option.some.inj (ey.symm.trans hu)
  subst e2
  obtain ⟨z, rfl⟩ := k2
  have := gotT (Cond.eq_ints ex hu) h
  rw [ex, this]

theorem ef_rm_Record_init (m : MethodId) (x0 : Addr) : entryFrame m #[(.ref x0)] 1 = mkF m 0 #[.val (.ref x0)] [] := by first | (simp [entryFrame, mkF, argsToLocals, Value.category]; done) | rfl
theorem d2_0 : decode jdk_30_method_1_code 0 = .ok (.aload_n 0, 1) := by decide +kernel
theorem d2_1 : decode jdk_30_method_1_code 1 = .ok (.invokespecial 1, 3) := by decide +kernel
theorem d2_4 : decode jdk_30_method_1_code 4 = .ok (.return_, 1) := by decide +kernel
theorem pn_java_lang_Record : plainName "java/lang/Record" = true := by first | (simp [plainName, overriddenIn]; done) | decide +kernel
def Q_rm_Record_init (Z : State) (a1 : Addr) (h0 : Heap) (n0 : Nat) (v : Option Value) (h : Heap) (L : List Loc) : Prop := v = none ∧ Fr n0 L ∧ h = h0
set_option maxRecDepth 65536 in
set_option maxHeartbeats 40000000 in
theorem rm_Record_init (l : Launch) (Z : State) (a0 : Array Value) (hw : ∀ d ∈ tables_1, d.before a0 Z = true) (ws : List Jvm.Cond) (a1 : Addr) (h0 : Heap) (n0 : Nat) (Z0 : n0 ≤ h0.size) :
    Met l Z (⟨"java/lang/Record", "<init>", "()V"⟩ : MethodName) jdk_30_method_1_code 1 none ws ({ frames := 1, cells := 0, slots := 0, locals := 12 } : Room) #[(.ref a1)] h0 (Q_rm_Record_init Z a1 h0 n0) := by
  refine Met.enter (f0 := fun m => mkF m 0 #[.val (.ref a1)] []) (plainFor_of_name pn_java_lang_Record) (fun m => ef_rm_Record_init m a1) ?_
  intro p e s m below meth c s₁ hx hby hml hown hnm hret hlk hZ X0 e0
  have hown : s.vm.findClass "java/lang/Record" = some m.cls := hown
  have hnm : meth.name = "<init>" := hnm
  have hml : c.maxLocals = 1 := hml
  have hby : c.code = jdk_30_method_1_code := hby
  have N0 := Fr.nil n0
  refine Go.by (B := (s₁.setTop (mkF m 1 #[.val (.ref a1)] [(.ref a1)]))) (fun _ k => XS.aloadN X0.here hx rfl (hb hby d2_0) rfl rfl k) ?_
  obtain ⟨T1, X1, e1, st1⟩ := initO X0 hx hZ hown (wd hw 12 rfl) (wd hw 13 rfl) (wd hw 14 rfl) e0 (g := (mkF m 1 #[.val (.ref a1)] [(.ref a1)])) rfl (by rw [hml]; rfl) rfl (hb hby d2_1) (by decide) (W := 0) (by show 2 * 0 + _ ≤ _; exact Nat.le_of_eq rfl) (by decide)
  refine Go.by (B := (T1.setTop (mkF m 4 #[.val (.ref a1)] []))) st1 ?_
  refine Go.retV X1 hx hlk hret (hb hby d2_4) (by decide) (by decide) ?_
  rw [e1]
  exact ⟨rfl, N0, rfl⟩
theorem ef_rm_Number_init (m : MethodId) (x0 : Addr) : entryFrame m #[(.ref x0)] 1 = mkF m 0 #[.val (.ref x0)] [] := by first | (simp [entryFrame, mkF, argsToLocals, Value.category]; done) | rfl
theorem d7_0 : decode jdk_18_method_1_code 0 = .ok (.aload_n 0, 1) := by decide +kernel
theorem d7_1 : decode jdk_18_method_1_code 1 = .ok (.invokespecial 1, 3) := by decide +kernel
theorem d7_4 : decode jdk_18_method_1_code 4 = .ok (.return_, 1) := by decide +kernel
theorem pn_java_lang_Number : plainName "java/lang/Number" = true := by first | (simp [plainName, overriddenIn]; done) | decide +kernel
def Q_rm_Number_init (Z : State) (a1 : Addr) (h0 : Heap) (n0 : Nat) (v : Option Value) (h : Heap) (L : List Loc) : Prop := v = none ∧ Fr n0 L ∧ h = h0
set_option maxRecDepth 65536 in
set_option maxHeartbeats 40000000 in
theorem rm_Number_init (l : Launch) (Z : State) (a0 : Array Value) (hw : ∀ d ∈ tables_1, d.before a0 Z = true) (ws : List Jvm.Cond) (a1 : Addr) (h0 : Heap) (n0 : Nat) (Z0 : n0 ≤ h0.size) :
    Met l Z (⟨"java/lang/Number", "<init>", "()V"⟩ : MethodName) jdk_18_method_1_code 1 none ws ({ frames := 1, cells := 0, slots := 0, locals := 12 } : Room) #[(.ref a1)] h0 (Q_rm_Number_init Z a1 h0 n0) := by
  refine Met.enter (f0 := fun m => mkF m 0 #[.val (.ref a1)] []) (plainFor_of_name pn_java_lang_Number) (fun m => ef_rm_Number_init m a1) ?_
  intro p e s m below meth c s₁ hx hby hml hown hnm hret hlk hZ X0 e0
  have hown : s.vm.findClass "java/lang/Number" = some m.cls := hown
  have hnm : meth.name = "<init>" := hnm
  have hml : c.maxLocals = 1 := hml
  have hby : c.code = jdk_18_method_1_code := hby
  have N0 := Fr.nil n0
  refine Go.by (B := (s₁.setTop (mkF m 1 #[.val (.ref a1)] [(.ref a1)]))) (fun _ k => XS.aloadN X0.here hx rfl (hb hby d7_0) rfl rfl k) ?_
  obtain ⟨T2, X2, e2, st2⟩ := initO X0 hx hZ hown (wd hw 49 rfl) (wd hw 13 rfl) (wd hw 14 rfl) e0 (g := (mkF m 1 #[.val (.ref a1)] [(.ref a1)])) rfl (by rw [hml]; rfl) rfl (hb hby d7_1) (by decide) (W := 0) (by show 2 * 0 + _ ≤ _; exact Nat.le_of_eq rfl) (by decide)
  refine Go.by (B := (T2.setTop (mkF m 4 #[.val (.ref a1)] []))) st2 ?_
  refine Go.retV X2 hx hlk hret (hb hby d7_4) (by decide) (by decide) ?_
  rw [e2]
  exact ⟨rfl, N0, rfl⟩
theorem ef_rm_Long_init (m : MethodId) (x0 : Addr) (x1 : Int64) : entryFrame m #[(.ref x0), (.long x1)] 3 = mkF m 0 #[.val (.ref x0), .val (.long x1), .second] [] := by first | (simp [entryFrame, mkF, argsToLocals, Value.category]; done) | rfl
theorem d6_0 : decode jdk_35_method_26_code 0 = .ok (.aload_n 0, 1) := by decide +kernel
theorem d6_1 : decode jdk_35_method_26_code 1 = .ok (.invokespecial 270, 3) := by decide +kernel
theorem pd_0 : parseMethodDescriptor "()V" = some ⟨[], none⟩ := by decide +kernel
theorem d6_4 : decode jdk_35_method_26_code 4 = .ok (.aload_n 0, 1) := by decide +kernel
theorem d6_5 : decode jdk_35_method_26_code 5 = .ok (.lload_n 1, 1) := by decide +kernel
theorem d6_6 : decode jdk_35_method_26_code 6 = .ok (.putfield 273, 3) := by decide +kernel
theorem d6_9 : decode jdk_35_method_26_code 9 = .ok (.return_, 1) := by decide +kernel
theorem pn_java_lang_Long : plainName "java/lang/Long" = true := by first | (simp [plainName, overriddenIn]; done) | decide +kernel
def Q_rm_Long_init (Z : State) (a1 : Addr) (q1 : Int64) (h0 : Heap) (n0 : Nat) (v : Option Value) (h : Heap) (L : List Loc) : Prop := v = none ∧ Fr n0 L ∧ Keep h0 h [a1] ∧ Exa Z h a1 "java/lang/Long" ∧ Fld Z h a1 "java/lang/Long" "value" "J" (.long q1)
set_option maxRecDepth 65536 in
set_option maxHeartbeats 40000000 in
theorem rm_Long_init (l : Launch) (Z : State) (a0 : Array Value) (hw : ∀ d ∈ tables_1, d.before a0 Z = true) (ws : List Jvm.Cond) (a1 : Addr) (q1 : Int64) (h0 : Heap) (n0 : Nat) (Z0 : n0 ≤ h0.size) (pr0 : Old Z n0 h0) (pr1 : Exa Z h0 a1 "java/lang/Long") (pr2 : Fld Z h0 a1 "java/lang/Long" "value" "J" (.long (0 : Int64))) (pr3 : n0 ≤ a1) :
    Met l Z (⟨"java/lang/Long", "<init>", "(J)V"⟩ : MethodName) jdk_35_method_26_code 3 none ws ({ frames := 2, cells := 0, slots := 0, locals := 24 } : Room) #[(.ref a1), (.long q1)] h0 (Q_rm_Long_init Z a1 q1 h0 n0) := by
  refine Met.enter (f0 := fun m => mkF m 0 #[.val (.ref a1), .val (.long q1), .second] []) (plainFor_of_name pn_java_lang_Long) (fun m => ef_rm_Long_init m a1 q1) ?_
  intro p e s m below meth c s₁ hx hby hml hown hnm hret hlk hZ X0 e0
  have hown : s.vm.findClass "java/lang/Long" = some m.cls := hown
  have hnm : meth.name = "<init>" := hnm
  have hml : c.maxLocals = 3 := hml
  have hby : c.code = jdk_35_method_26_code := hby
  have N0 := Fr.nil n0
  refine Go.by (B := (s₁.setTop (mkF m 1 #[.val (.ref a1), .val (.long q1), .second] [(.ref a1)]))) (fun _ k => XS.aloadN X0.here hx rfl (hb hby d6_0) rfl rfl k) ?_
  obtain ⟨_, _, ⟨T3, L3, k3, n3⟩, -, X3, ⟨Lc3, hQ3, l3, y3, z3⟩, st3⟩ := X0.specialBack hx (y := (⟨"java/lang/Number", "<init>", "()V"⟩ : MethodName)) rfl hown (mvT hZ (wd hw 43 rfl)) (mvT hZ (wd hw 44 rfl)) (mvT hZ (wd hw 48 rfl)) (by decide) (backOf (W := 0) (rm_Number_init l Z a0 hw [] a1 h0 n0 Z0 ) hZ (wd hw 48 rfl) (wd hw 47 rfl) (by decide) (by decide)) (g := (mkF m 1 #[.val (.ref a1), .val (.long q1), .second] [(.ref a1)])) rfl (by rw [hml]; rfl) (Steps.refl _) (a := a1) (argsL := []) (rest := []) (lenOf pd_0 rfl) rfl (by show 2 * 0 + _ ≤ _; exact Nat.le_of_eq rfl) (hb hby d6_1) (fun _ _ => ⟨rfl, e0, Nat.le_of_ble_eq_true rfl, Nat.le_of_ble_eq_true rfl⟩)
  dsimp only [Pt.U, Pt.locs, Pt.cells, Pt.slots] at X3 l3 y3 z3 st3 hQ3
  subst l3 y3 z3
  obtain ⟨rfl, Nq3, hh3⟩ := hQ3
  have N3 := Fr.app N0 Nq3
  refine Go.by (B := (T3.setTop (mkF m 4 #[.val (.ref a1), .val (.long q1), .second] []))) (fun _ k => st3.trans k) ?_
  refine Go.by (B := (T3.setTop (mkF m 6 #[.val (.ref a1), .val (.long q1), .second] [(.long q1), (.ref a1)]))) (fun _ k => XS.aloadN X3.here hx rfl (hb hby d6_4) rfl rfl (XS.lloadN X3.here hx rfl (hb hby d6_5) rfl k)) ?_
  obtain ⟨T4, h4, X4, e4, W4, st4⟩ := putF X3 hx hZ hown (host := "") (Or.inl (wd hw 50 rfl)) Via.refl hh3 pr2 pr1 (Or.inr ⟨(wd hw 51 rfl), rfl, hnm⟩) (wd hw 38 rfl) (ty := .long) (by decide) rfl rfl (g := (mkF m 6 #[.val (.ref a1), .val (.long q1), .second] [(.long q1), (.ref a1)])) rfl rfl (hb hby d6_6)
  have N4 := Fr.snoc X4 N3 pr3
  have O5 := pr0.wr W4 pr3
  have Z5 : n0 ≤ h4.size := Nat.le_trans Z0 (Keep.of_wr W4).1
  have F4 := pr2.same W4
  refine Go.by (B := (T4.setTop (mkF m 9 #[.val (.ref a1), .val (.long q1), .second] []))) st4 ?_
  refine Go.retV X4 hx hlk hret (hb hby d6_9) (by decide) (by decide) ?_
  rw [e4]
  exact ⟨rfl, N4, ((Keep.refl h0 [a1]).wr W4 (Or.inl (List.mem_of_getElem? (i := 0) rfl))), (pr1.wr W4), F4⟩
theorem ef_rm_Long_valueOf (m : MethodId) (x0 : Int64) : entryFrame m #[(.long x0)] 3 = mkF m 0 #[.val (.long x0), .second, .unset] [] := by first | (simp [entryFrame, mkF, argsToLocals, Value.category]; done) | rfl
theorem d5_0 : decode jdk_35_method_24_code 0 = .ok (.sipush 128, 3) := by decide +kernel
theorem d5_3 : decode jdk_35_method_24_code 3 = .ok (.istore_n 2, 1) := by decide +kernel
theorem d5_4 : decode jdk_35_method_24_code 4 = .ok (.lload_n 0, 1) := by decide +kernel
theorem d5_5 : decode jdk_35_method_24_code 5 = .ok (.ldc2_w 230, 3) := by decide +kernel
theorem d5_8 : decode jdk_35_method_24_code 8 = .ok (.lcmp, 1) := by decide +kernel
theorem d5_9 : decode jdk_35_method_24_code 9 = .ok (.ifCond .lt 22, 3) := by decide +kernel
theorem d5_31 : decode jdk_35_method_24_code 31 = .ok (.new 1, 3) := by decide +kernel
theorem d5_34 : decode jdk_35_method_24_code 34 = .ok (.dup, 1) := by decide +kernel
theorem d5_35 : decode jdk_35_method_24_code 35 = .ok (.lload_n 0, 1) := by decide +kernel
theorem d5_36 : decode jdk_35_method_24_code 36 = .ok (.invokespecial 240, 3) := by decide +kernel
theorem pd_1 : parseMethodDescriptor "(J)V" = some ⟨[.long], none⟩ := by decide +kernel
theorem d5_39 : decode jdk_35_method_24_code 39 = .ok (.areturn, 1) := by decide +kernel
theorem d5_12 : decode jdk_35_method_24_code 12 = .ok (.lload_n 0, 1) := by decide +kernel
theorem d5_13 : decode jdk_35_method_24_code 13 = .ok (.ldc2_w 232, 3) := by decide +kernel
theorem d5_16 : decode jdk_35_method_24_code 16 = .ok (.lcmp, 1) := by decide +kernel
theorem d5_17 : decode jdk_35_method_24_code 17 = .ok (.ifCond .gt 14, 3) := by decide +kernel
theorem d5_20 : decode jdk_35_method_24_code 20 = .ok (.getstatic 234, 3) := by decide +kernel
theorem d5_23 : decode jdk_35_method_24_code 23 = .ok (.lload_n 0, 1) := by decide +kernel
theorem d5_24 : decode jdk_35_method_24_code 24 = .ok (.l2i, 1) := by decide +kernel
theorem d5_25 : decode jdk_35_method_24_code 25 = .ok (.sipush 128, 3) := by decide +kernel
theorem d5_28 : decode jdk_35_method_24_code 28 = .ok (.iadd, 1) := by decide +kernel
theorem d5_29 : decode jdk_35_method_24_code 29 = .ok (.aaload, 1) := by decide +kernel
theorem d5_30 : decode jdk_35_method_24_code 30 = .ok (.areturn, 1) := by decide +kernel
def Q_rm_Long_valueOf (Z : State) (q1 : Int64) (wcJ : Addr) (clJ : Cell) (h0 : Heap) (n0 : Nat) (v : Option Value) (h : Heap) (L : List Loc) : Prop := ∃ b : Addr, v = some (.ref b) ∧ Fr n0 L ∧ Keep h0 h [] ∧ Exa Z h b "java/lang/Long" ∧ Fld Z h b "java/lang/Long" "value" "J" (.long q1)
set_option maxRecDepth 65536 in
set_option maxHeartbeats 40000000 in
theorem rm_Long_valueOf (l : Launch) (Z : State) (a0 : Array Value) (hw : ∀ d ∈ tables_1, d.before a0 Z = true) (ws : List Jvm.Cond) (q1 : Int64) (wcJ : Addr) (clJ : Cell) (h0 : Heap) (n0 : Nat) (Z0 : n0 ≤ h0.size) (pr0 : Old Z n0 h0) (pr1 : Sta Z Z.heap "java/lang/Long$LongCache" "cache" "[Ljava/lang/Long;" (.ref wcJ)) (hArJ : Arr Z Z.heap wcJ clJ (.object "java/lang/Long")) (hszJ : clJ.slots.size = 256) (helJ : ∀ j : Int32, ¬ j < 0 → j.toNatClampNeg < 256 → ∃ b, clJ.slots[j.toNatClampNeg]? = some (.ref b) ∧ Exa Z Z.heap b "java/lang/Long" ∧ Fld Z Z.heap b "java/lang/Long" "value" "J" (.long (j - 128).toInt64)) :
    Met l Z (⟨"java/lang/Long", "valueOf", "(J)Ljava/lang/Long;"⟩ : MethodName) jdk_35_method_24_code 3 (some (.object "java/lang/Long")) ws ({ frames := 3, cells := 1, slots := 1, locals := 39 } : Room) #[(.long q1)] h0 (Q_rm_Long_valueOf Z q1 wcJ clJ h0 n0) := by
  refine Met.enter (f0 := fun m => mkF m 0 #[.val (.long q1), .second, .unset] []) (plainFor_of_name pn_java_lang_Long) (fun m => ef_rm_Long_valueOf m q1) ?_
  intro p e s m below meth c s₁ hx hby hml hown hnm hret hlk hZ X0 e0
  have hown : s.vm.findClass "java/lang/Long" = some m.cls := hown
  have hnm : meth.name = "valueOf" := hnm
  have hml : c.maxLocals = 3 := hml
  have hby : c.code = jdk_35_method_24_code := hby
  have N0 := Fr.nil n0
  refine Go.by (B := (s₁.setTop (mkF m 9 #[.val (.long q1), .second, .val (.int 128)] [(.int (lcmpW q1 (-128 : Int64)))]))) (fun _ k => XS.sipush X0.here hx rfl (hb hby d5_0) (XS.istoreN X0.here hx rfl (hb hby d5_3) rfl (l' := #[.val (.long q1), .second, .val (.int 128)]) rfl (XS.lloadN X0.here hx rfl (hb hby d5_4) rfl (X0.ldc2Long hx hown (mvT hZ (wd hw 36 rfl)) (g := (mkF m 5 #[.val (.long q1), .second, .val (.int 128)] [(.long q1)])) rfl (hb hby d5_5) _ (XS.lcmp X0.here hx rfl (hb hby d5_8) rfl k))))) ?_
  by_cases c6 : q1 < (-128 : Int64)
  · skip
    refine Go.by (B := (s₁.setTop (mkF m 31 #[.val (.long q1), .second, .val (.int 128)] []))) (fun _ k => XS.ifYes X0.here hx rfl (pc0 := 9) (pc' := 31) rfl (hb hby d5_9) rfl ((if0 _ _).trans (tlt ((lw_lt _ _).mpr c6)).1) (by decide) (by decide) k) ?_
    obtain ⟨T7, h7, X7, e7, E7, A7, D7, -, st7⟩ := newO X0 hx hZ hown (wd hw 37 rfl) (wd hw 38 rfl) (wd hw 34 rfl) e0 (g := (mkF m 31 #[.val (.long q1), .second, .val (.int 128)] [])) rfl (hb hby d5_31) (by decide) (by decide)
    obtain ⟨b7, g7⟩ : ∃ z, z = h0.size := ⟨_, rfl⟩
    rw [← g7] at A7 D7 st7
    have sz_b7 : h0.size ≤ b7 := Nat.le_of_eq g7.symm
    have O8 := pr0.ext E7
    have Z8 : n0 ≤ h7.size := Nat.le_trans Z0 E7.1
    have F9 : Fld Z h7 b7 "java/lang/Long" "value" "J" (.long (0 : Int64)) := D7 (Or.inr (wd hw 51 rfl)) (ty := .long) (by decide)
    refine Go.by (B := (T7.setTop (mkF m 34 #[.val (.long q1), .second, .val (.int 128)] [(.ref b7)]))) st7 ?_
    refine Go.by (B := (T7.setTop (mkF m 36 #[.val (.long q1), .second, .val (.int 128)] [(.long q1), (.ref b7), (.ref b7)]))) (fun _ k => XS.dup X7.here hx rfl (hb hby d5_34) rfl rfl (XS.lloadN X7.here hx rfl (hb hby d5_35) rfl k)) ?_
    obtain ⟨_, _, ⟨T10, L10, k10, n10⟩, -, X10, ⟨Lc10, hQ10, l10, y10, z10⟩, st10⟩ := X7.specialBack hx (y := (⟨"java/lang/Long", "<init>", "(J)V"⟩ : MethodName)) rfl hown (mvT hZ (wd hw 39 rfl)) (mvT hZ (wd hw 40 rfl)) (mvT hZ (wd hw 42 rfl)) (by decide) (backOf (W := 1) (rm_Long_init l Z a0 hw [] b7 q1 h7 n0 Z8 O8 A7 F9 (Nat.le_trans Z0 sz_b7)) hZ (wd hw 42 rfl) (wd hw 34 rfl) (by decide) (by decide)) (g := (mkF m 36 #[.val (.long q1), .second, .val (.int 128)] [(.long q1), (.ref b7), (.ref b7)])) rfl (by rw [hml]; rfl) (Steps.refl _) (a := b7) (argsL := [(.long q1)]) (rest := [(.ref b7)]) (lenOf pd_1 rfl) rfl (by show 2 * 0 + _ ≤ _; exact Nat.le_of_eq rfl) (hb hby d5_36) (fun _ _ => ⟨rfl, e7, Nat.le_of_ble_eq_true rfl, Nat.le_of_ble_eq_true rfl⟩)
    dsimp only [Pt.U, Pt.locs, Pt.cells, Pt.slots] at X10 l10 y10 z10 st10 hQ10
    subst l10 y10 z10
    obtain ⟨rfl, Nq10, K10, p10_0, p10_1⟩ := hQ10
    have N10 := Fr.app N0 Nq10
    have O11 := O8.keep K10 (allS (Nat.le_trans Z0 sz_b7) all0)
    have Z11 : n0 ≤ T10.heap.size := Nat.le_trans Z8 K10.1
    refine Go.by (B := (T10.setTop (mkF m 39 #[.val (.long q1), .second, .val (.int 128)] [(.ref b7)]))) (fun _ k => st10.trans k) ?_
    refine Go.ret X10 hx hlk (t := (.object "java/lang/Long")) hret rfl (Or.inr (Or.inr (Or.inr (Or.inr ⟨rfl, rfl, rfl⟩)))) (hb hby d5_39) (by decide) (by decide) ?_
    exact ⟨b7, rfl, N10, (((Keep.refl h0 []).ext E7).trans K10 (allS (Or.inr (Nat.le_trans (Nat.le_refl _) sz_b7)) all0)), p10_0, p10_1⟩
  · skip
    refine Go.by (B := (s₁.setTop (mkF m 17 #[.val (.long q1), .second, .val (.int 128)] [(.int (lcmpW q1 (127 : Int64)))]))) (fun _ k => XS.ifNo X0.here hx rfl (hb hby d5_9) rfl ((if0 _ _).trans (flt (fun q => c6 ((lw_lt _ _).mp q))).1) (XS.lloadN X0.here hx rfl (hb hby d5_12) rfl (X0.ldc2Long hx hown (mvT hZ (wd hw 52 rfl)) (g := (mkF m 13 #[.val (.long q1), .second, .val (.int 128)] [(.long q1)])) rfl (hb hby d5_13) _ (XS.lcmp X0.here hx rfl (hb hby d5_16) rfl k)))) ?_
    by_cases c12 : (127 : Int64) < q1
    · skip
      refine Go.by (B := (s₁.setTop (mkF m 31 #[.val (.long q1), .second, .val (.int 128)] []))) (fun _ k => XS.ifYes X0.here hx rfl (pc0 := 17) (pc' := 31) rfl (hb hby d5_17) rfl ((if0 _ _).trans (tlt ((lw_gt _ _).mpr c12)).2.2.1) (by decide) (by decide) k) ?_
      obtain ⟨T13, h13, X13, e13, E13, A13, D13, -, st13⟩ := newO X0 hx hZ hown (wd hw 37 rfl) (wd hw 38 rfl) (wd hw 34 rfl) e0 (g := (mkF m 31 #[.val (.long q1), .second, .val (.int 128)] [])) rfl (hb hby d5_31) (by decide) (by decide)
      obtain ⟨b13, g13⟩ : ∃ z, z = h0.size := ⟨_, rfl⟩
      rw [← g13] at A13 D13 st13
      have sz_b13 : h0.size ≤ b13 := Nat.le_of_eq g13.symm
      have O14 := pr0.ext E13
      have Z14 : n0 ≤ h13.size := Nat.le_trans Z0 E13.1
      have F15 : Fld Z h13 b13 "java/lang/Long" "value" "J" (.long (0 : Int64)) := D13 (Or.inr (wd hw 51 rfl)) (ty := .long) (by decide)
      refine Go.by (B := (T13.setTop (mkF m 34 #[.val (.long q1), .second, .val (.int 128)] [(.ref b13)]))) st13 ?_
      refine Go.by (B := (T13.setTop (mkF m 36 #[.val (.long q1), .second, .val (.int 128)] [(.long q1), (.ref b13), (.ref b13)]))) (fun _ k => XS.dup X13.here hx rfl (hb hby d5_34) rfl rfl (XS.lloadN X13.here hx rfl (hb hby d5_35) rfl k)) ?_
      obtain ⟨_, _, ⟨T16, L16, k16, n16⟩, -, X16, ⟨Lc16, hQ16, l16, y16, z16⟩, st16⟩ := X13.specialBack hx (y := (⟨"java/lang/Long", "<init>", "(J)V"⟩ : MethodName)) rfl hown (mvT hZ (wd hw 39 rfl)) (mvT hZ (wd hw 40 rfl)) (mvT hZ (wd hw 42 rfl)) (by decide) (backOf (W := 1) (rm_Long_init l Z a0 hw [] b13 q1 h13 n0 Z14 O14 A13 F15 (Nat.le_trans Z0 sz_b13)) hZ (wd hw 42 rfl) (wd hw 34 rfl) (by decide) (by decide)) (g := (mkF m 36 #[.val (.long q1), .second, .val (.int 128)] [(.long q1), (.ref b13), (.ref b13)])) rfl (by rw [hml]; rfl) (Steps.refl _) (a := b13) (argsL := [(.long q1)]) (rest := [(.ref b13)]) (lenOf pd_1 rfl) rfl (by show 2 * 0 + _ ≤ _; exact Nat.le_of_eq rfl) (hb hby d5_36) (fun _ _ => ⟨rfl, e13, Nat.le_of_ble_eq_true rfl, Nat.le_of_ble_eq_true rfl⟩)
      dsimp only [Pt.U, Pt.locs, Pt.cells, Pt.slots] at X16 l16 y16 z16 st16 hQ16
      subst l16 y16 z16
      obtain ⟨rfl, Nq16, K16, p16_0, p16_1⟩ := hQ16
      have N16 := Fr.app N0 Nq16
      have O17 := O14.keep K16 (allS (Nat.le_trans Z0 sz_b13) all0)
      have Z17 : n0 ≤ T16.heap.size := Nat.le_trans Z14 K16.1
      refine Go.by (B := (T16.setTop (mkF m 39 #[.val (.long q1), .second, .val (.int 128)] [(.ref b13)]))) (fun _ k => st16.trans k) ?_
      refine Go.ret X16 hx hlk (t := (.object "java/lang/Long")) hret rfl (Or.inr (Or.inr (Or.inr (Or.inr ⟨rfl, rfl, rfl⟩)))) (hb hby d5_39) (by decide) (by decide) ?_
      exact ⟨b13, rfl, N16, (((Keep.refl h0 []).ext E13).trans K16 (allS (Or.inr (Nat.le_trans (Nat.le_refl _) sz_b13)) all0)), p16_0, p16_1⟩
    · skip
      refine Go.by (B := (s₁.setTop (mkF m 20 #[.val (.long q1), .second, .val (.int 128)] []))) (fun _ k => XS.ifNo X0.here hx rfl (hb hby d5_17) rfl ((if0 _ _).trans (flt (fun q => c12 ((lw_gt _ _).mp q))).2.2.1) k) ?_
      obtain ⟨T18, X18, e18, st18⟩ := getS2 X0 hx hZ hown (host := "") (Or.inl (wd hw 58 rfl)) Via.refl e0 (pr1.ext pr0.2) (g := (mkF m 20 #[.val (.long q1), .second, .val (.int 128)] [])) rfl (hb hby d5_20)
      refine Go.by (B := (T18.setTop (mkF m 23 #[.val (.long q1), .second, .val (.int 128)] [(.ref wcJ)]))) st18 ?_
      refine Go.by (B := (T18.setTop (mkF m 29 #[.val (.long q1), .second, .val (.int 128)] [(.int ((q1.toInt32) + (128 : Int32))), (.ref wcJ)]))) (fun _ k => XS.lloadN X18.here hx rfl (hb hby d5_23) rfl (XS.l2i X18.here hx rfl (hb hby d5_24) rfl (XS.sipush X18.here hx rfl (hb hby d5_25) (XS.iadd X18.here hx rfl (hb hby d5_28) rfl k)))) ?_
      obtain ⟨hj019, hj119, hj219⟩ := own_placeJ c6 c12
      obtain ⟨b19, hb19, E19, F19⟩ := helJ _ hj019 hj119
      have Ar19 := hArJ.ext pr0.2
      have hin19 : ¬ (((q1.toInt32) + (128 : Int32)) < 0 ∨ clJ.slots.size ≤ (((q1.toInt32) + (128 : Int32))).toNatClampNeg) := fun q => q.elim hj019 (fun q => by rw [hszJ] at q; omega)
      refine Go.by (B := (T18.setTop (mkF m 30 #[.val (.long q1), .second, .val (.int 128)] [(.ref b19)]))) (fun _ k => X18.aaload hx (j := ((q1.toInt32) + (128 : Int32))) (v := (.ref b19)) (by rw [e18]; exact Ar19.1) (State.isArrayOf_alike hZ.alike Ar19.2.1) rfl Ar19.2.2 hin19 hb19 (g := (mkF m 29 #[.val (.long q1), .second, .val (.int 128)] [(.int ((q1.toInt32) + (128 : Int32))), (.ref wcJ)])) rfl rfl (hb hby d5_29) _ k) ?_
      rw [hj219] at F19
      refine Go.ret X18 hx hlk (t := (.object "java/lang/Long")) hret rfl (Or.inr (Or.inr (Or.inr (Or.inr ⟨rfl, rfl, rfl⟩)))) (hb hby d5_30) (by decide) (by decide) ?_
      rw [e18]
      exact ⟨b19, rfl, N0, (Keep.refl h0 []), (E19.ext pr0.2), (F19.ext pr0.2)⟩
theorem ef_rm_longValue (m : MethodId) (x0 : Addr) : entryFrame m #[(.ref x0)] 1 = mkF m 0 #[.val (.ref x0)] [] := by first | (simp [entryFrame, mkF, argsToLocals, Value.category]; done) | rfl
theorem d8_0 : decode jdk_35_method_31_code 0 = .ok (.aload_n 0, 1) := by decide +kernel
theorem d8_1 : decode jdk_35_method_31_code 1 = .ok (.getfield 273, 3) := by decide +kernel
theorem d8_4 : decode jdk_35_method_31_code 4 = .ok (.lreturn, 1) := by decide +kernel
def Q_rm_longValue (Z : State) (a1 : Addr) (q1 : Int64) (h0 : Heap) (n0 : Nat) (v : Option Value) (h : Heap) (L : List Loc) : Prop := v = some (.long q1) ∧ Fr n0 L ∧ h = h0
set_option maxRecDepth 65536 in
set_option maxHeartbeats 40000000 in
theorem rm_longValue (l : Launch) (Z : State) (a0 : Array Value) (hw : ∀ d ∈ tables_1, d.before a0 Z = true) (ws : List Jvm.Cond) (a1 : Addr) (q1 : Int64) (h0 : Heap) (n0 : Nat) (Z0 : n0 ≤ h0.size) (pr0 : Fld Z h0 a1 "java/lang/Long" "value" "J" (.long q1)) :
    Met l Z (⟨"java/lang/Long", "longValue", "()J"⟩ : MethodName) jdk_35_method_31_code 1 (some .long) ws ({ frames := 0, cells := 0, slots := 0, locals := 0 } : Room) #[(.ref a1)] h0 (Q_rm_longValue Z a1 q1 h0 n0) := by
  refine Met.enter (f0 := fun m => mkF m 0 #[.val (.ref a1)] []) (plainFor_of_name pn_java_lang_Long) (fun m => ef_rm_longValue m a1) ?_
  intro p e s m below meth c s₁ hx hby hml hown hnm hret hlk hZ X0 e0
  have hown : s.vm.findClass "java/lang/Long" = some m.cls := hown
  have hnm : meth.name = "longValue" := hnm
  have hml : c.maxLocals = 1 := hml
  have hby : c.code = jdk_35_method_31_code := hby
  have N0 := Fr.nil n0
  refine Go.by (B := (s₁.setTop (mkF m 1 #[.val (.ref a1)] [(.ref a1)]))) (fun _ k => XS.aloadN X0.here hx rfl (hb hby d8_0) rfl rfl k) ?_
  obtain ⟨T20, X20, e20, st20⟩ := getF X0 hx hZ hown (host := "") (Or.inl (wd hw 50 rfl)) Via.refl e0 pr0 (g := (mkF m 1 #[.val (.ref a1)] [(.ref a1)])) rfl rfl (hb hby d8_1)
  refine Go.by (B := (T20.setTop (mkF m 4 #[.val (.ref a1)] [(.long q1)]))) st20 ?_
  refine Go.ret X20 hx hlk (t := .long) hret rfl (Or.inr (Or.inl ⟨rfl, rfl, _, rfl⟩)) (hb hby d8_4) (by decide) (by decide) ?_
  rw [e20]
  exact ⟨rfl, N0, rfl⟩
theorem ef_rm_ini_n (m : MethodId) (x0 : Addr) (x1 : Int64) (x2 : Int64) (x3 : Int64) (x4 : Int64) (x5 : Int64) : entryFrame m #[(.ref x0), (.long x1), (.long x2), (.long x3), (.long x4), (.long x5), .null] 12 = mkF m 0 #[.val (.ref x0), .val (.long x1), .second, .val (.long x2), .second, .val (.long x3), .second, .val (.long x4), .second, .val (.long x5), .second, .val .null] [] := by first | (simp [entryFrame, mkF, argsToLocals, Value.category]; done) | rfl
theorem d1_0 : decode prog_19_method_1_code 0 = .ok (.aload_n 0, 1) := by decide +kernel
theorem d1_1 : decode prog_19_method_1_code 1 = .ok (.invokespecial 1, 3) := by decide +kernel
theorem d1_4 : decode prog_19_method_1_code 4 = .ok (.aload_n 0, 1) := by decide +kernel
theorem d1_5 : decode prog_19_method_1_code 5 = .ok (.lload_n 1, 1) := by decide +kernel
theorem d1_6 : decode prog_19_method_1_code 6 = .ok (.putfield 7, 3) := by decide +kernel
theorem d1_9 : decode prog_19_method_1_code 9 = .ok (.aload_n 0, 1) := by decide +kernel
theorem d1_10 : decode prog_19_method_1_code 10 = .ok (.lload_n 3, 1) := by decide +kernel
theorem d1_11 : decode prog_19_method_1_code 11 = .ok (.putfield 13, 3) := by decide +kernel
theorem d1_14 : decode prog_19_method_1_code 14 = .ok (.aload_n 0, 1) := by decide +kernel
theorem d1_15 : decode prog_19_method_1_code 15 = .ok (.lload 5, 2) := by decide +kernel
theorem d1_17 : decode prog_19_method_1_code 17 = .ok (.putfield 16, 3) := by decide +kernel
theorem d1_20 : decode prog_19_method_1_code 20 = .ok (.aload_n 0, 1) := by decide +kernel
theorem d1_21 : decode prog_19_method_1_code 21 = .ok (.lload 7, 2) := by decide +kernel
theorem d1_23 : decode prog_19_method_1_code 23 = .ok (.putfield 19, 3) := by decide +kernel
theorem d1_26 : decode prog_19_method_1_code 26 = .ok (.aload_n 0, 1) := by decide +kernel
theorem d1_27 : decode prog_19_method_1_code 27 = .ok (.lload 9, 2) := by decide +kernel
theorem d1_29 : decode prog_19_method_1_code 29 = .ok (.putfield 22, 3) := by decide +kernel
theorem d1_32 : decode prog_19_method_1_code 32 = .ok (.aload_n 0, 1) := by decide +kernel
theorem d1_33 : decode prog_19_method_1_code 33 = .ok (.aload 11, 2) := by decide +kernel
theorem d1_35 : decode prog_19_method_1_code 35 = .ok (.putfield 25, 3) := by decide +kernel
theorem d1_38 : decode prog_19_method_1_code 38 = .ok (.return_, 1) := by decide +kernel
theorem pn_com_example_floodgauge_floodgauge_validate_Validation : plainName "com/example/floodgauge/floodgauge/validate/Validation" = true := by first | (simp [plainName, overriddenIn]; done) | decide +kernel
def Q_rm_ini_n (Z : State) (a1 : Addr) (q0 : Int64) (q1 : Int64) (q2 : Int64) (q3 : Int64) (q4 : Int64) (h0 : Heap) (n0 : Nat) (v : Option Value) (h : Heap) (L : List Loc) : Prop := v = none ∧ Fr n0 L ∧ Keep h0 h [a1] ∧ Exa Z h a1 "com/example/floodgauge/floodgauge/validate/Validation" ∧ Fld Z h a1 "com/example/floodgauge/floodgauge/validate/Validation" "expected" "J" (.long q0) ∧ Fld Z h a1 "com/example/floodgauge/floodgauge/validate/Validation" "matched" "J" (.long q1) ∧ Fld Z h a1 "com/example/floodgauge/floodgauge/validate/Validation" "missing" "J" (.long q2) ∧ Fld Z h a1 "com/example/floodgauge/floodgauge/validate/Validation" "wrong" "J" (.long q3) ∧ Fld Z h a1 "com/example/floodgauge/floodgauge/validate/Validation" "extra" "J" (.long q4) ∧ Fld Z h a1 "com/example/floodgauge/floodgauge/validate/Validation" "duplicates" "Ljava/lang/Long;" .null
set_option maxRecDepth 65536 in
set_option maxHeartbeats 40000000 in
theorem rm_ini_n (l : Launch) (Z : State) (a0 : Array Value) (hw : ∀ d ∈ tables_1, d.before a0 Z = true) (ws : List Jvm.Cond) (a1 : Addr) (q0 : Int64) (q1 : Int64) (q2 : Int64) (q3 : Int64) (q4 : Int64) (h0 : Heap) (n0 : Nat) (Z0 : n0 ≤ h0.size) (pr0 : Old Z n0 h0) (pr1 : Exa Z h0 a1 "com/example/floodgauge/floodgauge/validate/Validation") (pr2 : Fld Z h0 a1 "com/example/floodgauge/floodgauge/validate/Validation" "expected" "J" (.long (0 : Int64))) (pr3 : Fld Z h0 a1 "com/example/floodgauge/floodgauge/validate/Validation" "matched" "J" (.long (0 : Int64))) (pr4 : Fld Z h0 a1 "com/example/floodgauge/floodgauge/validate/Validation" "missing" "J" (.long (0 : Int64))) (pr5 : Fld Z h0 a1 "com/example/floodgauge/floodgauge/validate/Validation" "wrong" "J" (.long (0 : Int64))) (pr6 : Fld Z h0 a1 "com/example/floodgauge/floodgauge/validate/Validation" "extra" "J" (.long (0 : Int64))) (pr7 : Fld Z h0 a1 "com/example/floodgauge/floodgauge/validate/Validation" "duplicates" "Ljava/lang/Long;" .null) (pr8 : n0 ≤ a1) :
    Met l Z (⟨"com/example/floodgauge/floodgauge/validate/Validation", "<init>", "(JJJJJLjava/lang/Long;)V"⟩ : MethodName) prog_19_method_1_code 12 none ws ({ frames := 2, cells := 0, slots := 0, locals := 24 } : Room) #[(.ref a1), (.long q0), (.long q1), (.long q2), (.long q3), (.long q4), .null] h0 (Q_rm_ini_n Z a1 q0 q1 q2 q3 q4 h0 n0) := by
  refine Met.enter (f0 := fun m => mkF m 0 #[.val (.ref a1), .val (.long q0), .second, .val (.long q1), .second, .val (.long q2), .second, .val (.long q3), .second, .val (.long q4), .second, .val .null] []) (plainFor_of_name pn_com_example_floodgauge_floodgauge_validate_Validation) (fun m => ef_rm_ini_n m a1 q0 q1 q2 q3 q4) ?_
  intro p e s m below meth c s₁ hx hby hml hown hnm hret hlk hZ X0 e0
  have hown : s.vm.findClass "com/example/floodgauge/floodgauge/validate/Validation" = some m.cls := hown
  have hnm : meth.name = "<init>" := hnm
  have hml : c.maxLocals = 12 := hml
  have hby : c.code = prog_19_method_1_code := hby
  have N0 := Fr.nil n0
  refine Go.by (B := (s₁.setTop (mkF m 1 #[.val (.ref a1), .val (.long q0), .second, .val (.long q1), .second, .val (.long q2), .second, .val (.long q3), .second, .val (.long q4), .second, .val .null] [(.ref a1)]))) (fun _ k => XS.aloadN X0.here hx rfl (hb hby d1_0) rfl rfl k) ?_
  obtain ⟨_, _, ⟨T21, L21, k21, n21⟩, -, X21, ⟨Lc21, hQ21, l21, y21, z21⟩, st21⟩ := X0.specialBack hx (y := (⟨"java/lang/Record", "<init>", "()V"⟩ : MethodName)) rfl hown (mvT hZ (wd hw 7 rfl)) (mvT hZ (wd hw 8 rfl)) (mvT hZ (wd hw 11 rfl)) (by decide) (backOf (W := 0) (rm_Record_init l Z a0 hw [] a1 h0 n0 Z0 ) hZ (wd hw 11 rfl) (wd hw 10 rfl) (by decide) (by decide)) (g := (mkF m 1 #[.val (.ref a1), .val (.long q0), .second, .val (.long q1), .second, .val (.long q2), .second, .val (.long q3), .second, .val (.long q4), .second, .val .null] [(.ref a1)])) rfl (by rw [hml]; rfl) (Steps.refl _) (a := a1) (argsL := []) (rest := []) (lenOf pd_0 rfl) rfl (by show 2 * 0 + _ ≤ _; exact Nat.le_of_eq rfl) (hb hby d1_1) (fun _ _ => ⟨rfl, e0, Nat.le_of_ble_eq_true rfl, Nat.le_of_ble_eq_true rfl⟩)
  dsimp only [Pt.U, Pt.locs, Pt.cells, Pt.slots] at X21 l21 y21 z21 st21 hQ21
  subst l21 y21 z21
  obtain ⟨rfl, Nq21, hh21⟩ := hQ21
  have N21 := Fr.app N0 Nq21
  refine Go.by (B := (T21.setTop (mkF m 4 #[.val (.ref a1), .val (.long q0), .second, .val (.long q1), .second, .val (.long q2), .second, .val (.long q3), .second, .val (.long q4), .second, .val .null] []))) (fun _ k => st21.trans k) ?_
  refine Go.by (B := (T21.setTop (mkF m 6 #[.val (.ref a1), .val (.long q0), .second, .val (.long q1), .second, .val (.long q2), .second, .val (.long q3), .second, .val (.long q4), .second, .val .null] [(.long q0), (.ref a1)]))) (fun _ k => XS.aloadN X21.here hx rfl (hb hby d1_4) rfl rfl (XS.lloadN X21.here hx rfl (hb hby d1_5) rfl k)) ?_
  obtain ⟨T22, h22, X22, e22, W22, st22⟩ := putF X21 hx hZ hown (host := "") (Or.inl (wd hw 15 rfl)) Via.refl hh21 pr2 pr1 (Or.inr ⟨(wd hw 16 rfl), rfl, hnm⟩) (wd hw 1 rfl) (ty := .long) (by decide) rfl rfl (g := (mkF m 6 #[.val (.ref a1), .val (.long q0), .second, .val (.long q1), .second, .val (.long q2), .second, .val (.long q3), .second, .val (.long q4), .second, .val .null] [(.long q0), (.ref a1)])) rfl rfl (hb hby d1_6)
  have N22 := Fr.snoc X22 N21 pr8
  have O23 := pr0.wr W22 pr8
  have Z23 : n0 ≤ h22.size := Nat.le_trans Z0 (Keep.of_wr W22).1
  have F22 := pr2.same W22
  refine Go.by (B := (T22.setTop (mkF m 9 #[.val (.ref a1), .val (.long q0), .second, .val (.long q1), .second, .val (.long q2), .second, .val (.long q3), .second, .val (.long q4), .second, .val .null] []))) st22 ?_
  refine Go.by (B := (T22.setTop (mkF m 11 #[.val (.ref a1), .val (.long q0), .second, .val (.long q1), .second, .val (.long q2), .second, .val (.long q3), .second, .val (.long q4), .second, .val .null] [(.long q1), (.ref a1)]))) (fun _ k => XS.aloadN X22.here hx rfl (hb hby d1_9) rfl rfl (XS.lloadN X22.here hx rfl (hb hby d1_10) rfl k)) ?_
  have f24 := (pr3.other W22 (Or.inr (slot_ne (Or.inr (wd hw 18 rfl)) (Or.inr (wd hw 16 rfl)) (by decide) (t := .long) (t' := .long) (by decide) (by decide))))
  obtain ⟨T25, h25, X25, e25, W25, st25⟩ := putF X22 hx hZ hown (host := "") (Or.inl (wd hw 17 rfl)) Via.refl e22 f24 (pr1.wr W22) (Or.inr ⟨(wd hw 18 rfl), rfl, hnm⟩) (wd hw 1 rfl) (ty := .long) (by decide) rfl rfl (g := (mkF m 11 #[.val (.ref a1), .val (.long q0), .second, .val (.long q1), .second, .val (.long q2), .second, .val (.long q3), .second, .val (.long q4), .second, .val .null] [(.long q1), (.ref a1)])) rfl rfl (hb hby d1_11)
  have N25 := Fr.snoc X25 N22 pr8
  have O26 := O23.wr W25 pr8
  have Z26 : n0 ≤ h25.size := Nat.le_trans Z23 (Keep.of_wr W25).1
  have F25 := f24.same W25
  refine Go.by (B := (T25.setTop (mkF m 14 #[.val (.ref a1), .val (.long q0), .second, .val (.long q1), .second, .val (.long q2), .second, .val (.long q3), .second, .val (.long q4), .second, .val .null] []))) st25 ?_
  refine Go.by (B := (T25.setTop (mkF m 17 #[.val (.ref a1), .val (.long q0), .second, .val (.long q1), .second, .val (.long q2), .second, .val (.long q3), .second, .val (.long q4), .second, .val .null] [(.long q2), (.ref a1)]))) (fun _ k => XS.aloadN X25.here hx rfl (hb hby d1_14) rfl rfl (XS.lload X25.here hx rfl (hb hby d1_15) rfl k)) ?_
  have f27 := ((pr4.other W22 (Or.inr (slot_ne (Or.inr (wd hw 20 rfl)) (Or.inr (wd hw 16 rfl)) (by decide) (t := .long) (t' := .long) (by decide) (by decide)))).other W25 (Or.inr (slot_ne (Or.inr (wd hw 20 rfl)) (Or.inr (wd hw 18 rfl)) (by decide) (t := .long) (t' := .long) (by decide) (by decide))))
  obtain ⟨T28, h28, X28, e28, W28, st28⟩ := putF X25 hx hZ hown (host := "") (Or.inl (wd hw 19 rfl)) Via.refl e25 f27 ((pr1.wr W22).wr W25) (Or.inr ⟨(wd hw 20 rfl), rfl, hnm⟩) (wd hw 1 rfl) (ty := .long) (by decide) rfl rfl (g := (mkF m 17 #[.val (.ref a1), .val (.long q0), .second, .val (.long q1), .second, .val (.long q2), .second, .val (.long q3), .second, .val (.long q4), .second, .val .null] [(.long q2), (.ref a1)])) rfl rfl (hb hby d1_17)
  have N28 := Fr.snoc X28 N25 pr8
  have O29 := O26.wr W28 pr8
  have Z29 : n0 ≤ h28.size := Nat.le_trans Z26 (Keep.of_wr W28).1
  have F28 := f27.same W28
  refine Go.by (B := (T28.setTop (mkF m 20 #[.val (.ref a1), .val (.long q0), .second, .val (.long q1), .second, .val (.long q2), .second, .val (.long q3), .second, .val (.long q4), .second, .val .null] []))) st28 ?_
  refine Go.by (B := (T28.setTop (mkF m 23 #[.val (.ref a1), .val (.long q0), .second, .val (.long q1), .second, .val (.long q2), .second, .val (.long q3), .second, .val (.long q4), .second, .val .null] [(.long q3), (.ref a1)]))) (fun _ k => XS.aloadN X28.here hx rfl (hb hby d1_20) rfl rfl (XS.lload X28.here hx rfl (hb hby d1_21) rfl k)) ?_
  have f30 := (((pr5.other W22 (Or.inr (slot_ne (Or.inr (wd hw 22 rfl)) (Or.inr (wd hw 16 rfl)) (by decide) (t := .long) (t' := .long) (by decide) (by decide)))).other W25 (Or.inr (slot_ne (Or.inr (wd hw 22 rfl)) (Or.inr (wd hw 18 rfl)) (by decide) (t := .long) (t' := .long) (by decide) (by decide)))).other W28 (Or.inr (slot_ne (Or.inr (wd hw 22 rfl)) (Or.inr (wd hw 20 rfl)) (by decide) (t := .long) (t' := .long) (by decide) (by decide))))
  obtain ⟨T31, h31, X31, e31, W31, st31⟩ := putF X28 hx hZ hown (host := "") (Or.inl (wd hw 21 rfl)) Via.refl e28 f30 (((pr1.wr W22).wr W25).wr W28) (Or.inr ⟨(wd hw 22 rfl), rfl, hnm⟩) (wd hw 1 rfl) (ty := .long) (by decide) rfl rfl (g := (mkF m 23 #[.val (.ref a1), .val (.long q0), .second, .val (.long q1), .second, .val (.long q2), .second, .val (.long q3), .second, .val (.long q4), .second, .val .null] [(.long q3), (.ref a1)])) rfl rfl (hb hby d1_23)
  have N31 := Fr.snoc X31 N28 pr8
  have O32 := O29.wr W31 pr8
  have Z32 : n0 ≤ h31.size := Nat.le_trans Z29 (Keep.of_wr W31).1
  have F31 := f30.same W31
  refine Go.by (B := (T31.setTop (mkF m 26 #[.val (.ref a1), .val (.long q0), .second, .val (.long q1), .second, .val (.long q2), .second, .val (.long q3), .second, .val (.long q4), .second, .val .null] []))) st31 ?_
  refine Go.by (B := (T31.setTop (mkF m 29 #[.val (.ref a1), .val (.long q0), .second, .val (.long q1), .second, .val (.long q2), .second, .val (.long q3), .second, .val (.long q4), .second, .val .null] [(.long q4), (.ref a1)]))) (fun _ k => XS.aloadN X31.here hx rfl (hb hby d1_26) rfl rfl (XS.lload X31.here hx rfl (hb hby d1_27) rfl k)) ?_
  have f33 := ((((pr6.other W22 (Or.inr (slot_ne (Or.inr (wd hw 24 rfl)) (Or.inr (wd hw 16 rfl)) (by decide) (t := .long) (t' := .long) (by decide) (by decide)))).other W25 (Or.inr (slot_ne (Or.inr (wd hw 24 rfl)) (Or.inr (wd hw 18 rfl)) (by decide) (t := .long) (t' := .long) (by decide) (by decide)))).other W28 (Or.inr (slot_ne (Or.inr (wd hw 24 rfl)) (Or.inr (wd hw 20 rfl)) (by decide) (t := .long) (t' := .long) (by decide) (by decide)))).other W31 (Or.inr (slot_ne (Or.inr (wd hw 24 rfl)) (Or.inr (wd hw 22 rfl)) (by decide) (t := .long) (t' := .long) (by decide) (by decide))))
  have f34 := ((((pr1.wr W22).wr W25).wr W28).wr W31)
  obtain ⟨T35, h35, X35, e35, W35, st35⟩ := putF X31 hx hZ hown (host := "") (Or.inl (wd hw 23 rfl)) Via.refl e31 f33 f34 (Or.inr ⟨(wd hw 24 rfl), rfl, hnm⟩) (wd hw 1 rfl) (ty := .long) (by decide) rfl rfl (g := (mkF m 29 #[.val (.ref a1), .val (.long q0), .second, .val (.long q1), .second, .val (.long q2), .second, .val (.long q3), .second, .val (.long q4), .second, .val .null] [(.long q4), (.ref a1)])) rfl rfl (hb hby d1_29)
  have N35 := Fr.snoc X35 N31 pr8
  have O36 := O32.wr W35 pr8
  have Z36 : n0 ≤ h35.size := Nat.le_trans Z32 (Keep.of_wr W35).1
  have F35 := f33.same W35
  refine Go.by (B := (T35.setTop (mkF m 32 #[.val (.ref a1), .val (.long q0), .second, .val (.long q1), .second, .val (.long q2), .second, .val (.long q3), .second, .val (.long q4), .second, .val .null] []))) st35 ?_
  refine Go.by (B := (T35.setTop (mkF m 35 #[.val (.ref a1), .val (.long q0), .second, .val (.long q1), .second, .val (.long q2), .second, .val (.long q3), .second, .val (.long q4), .second, .val .null] [.null, (.ref a1)]))) (fun _ k => XS.aloadN X35.here hx rfl (hb hby d1_32) rfl rfl (XS.aload X35.here hx rfl (hb hby d1_33) rfl rfl k)) ?_
  have f37 := (((((pr7.other W22 (Or.inr (slot_ne (Or.inr (wd hw 26 rfl)) (Or.inr (wd hw 16 rfl)) (by decide) (t := (.object "java/lang/Long")) (t' := .long) (by decide) (by decide)))).other W25 (Or.inr (slot_ne (Or.inr (wd hw 26 rfl)) (Or.inr (wd hw 18 rfl)) (by decide) (t := (.object "java/lang/Long")) (t' := .long) (by decide) (by decide)))).other W28 (Or.inr (slot_ne (Or.inr (wd hw 26 rfl)) (Or.inr (wd hw 20 rfl)) (by decide) (t := (.object "java/lang/Long")) (t' := .long) (by decide) (by decide)))).other W31 (Or.inr (slot_ne (Or.inr (wd hw 26 rfl)) (Or.inr (wd hw 22 rfl)) (by decide) (t := (.object "java/lang/Long")) (t' := .long) (by decide) (by decide)))).other W35 (Or.inr (slot_ne (Or.inr (wd hw 26 rfl)) (Or.inr (wd hw 24 rfl)) (by decide) (t := (.object "java/lang/Long")) (t' := .long) (by decide) (by decide))))
  obtain ⟨T38, h38, X38, e38, W38, st38⟩ := putF X35 hx hZ hown (host := "") (Or.inl (wd hw 25 rfl)) Via.refl e35 f37 (f34.wr W35) (Or.inr ⟨(wd hw 26 rfl), rfl, hnm⟩) (wd hw 1 rfl) (ty := (.object "java/lang/Long")) (by decide) rfl rfl (g := (mkF m 35 #[.val (.ref a1), .val (.long q0), .second, .val (.long q1), .second, .val (.long q2), .second, .val (.long q3), .second, .val (.long q4), .second, .val .null] [.null, (.ref a1)])) rfl rfl (hb hby d1_35)
  have N38 := Fr.snoc X38 N35 pr8
  have O39 := O36.wr W38 pr8
  have Z39 : n0 ≤ h38.size := Nat.le_trans Z36 (Keep.of_wr W38).1
  have F38 := f37.same W38
  refine Go.by (B := (T38.setTop (mkF m 38 #[.val (.ref a1), .val (.long q0), .second, .val (.long q1), .second, .val (.long q2), .second, .val (.long q3), .second, .val (.long q4), .second, .val .null] []))) st38 ?_
  refine Go.retV X38 hx hlk hret (hb hby d1_38) (by decide) (by decide) ?_
  rw [e38]
  exact ⟨rfl, N38, (((((((Keep.refl h0 [a1]).wr W22 (Or.inl (List.mem_of_getElem? (i := 0) rfl))).wr W25 (Or.inl (List.mem_of_getElem? (i := 0) rfl))).wr W28 (Or.inl (List.mem_of_getElem? (i := 0) rfl))).wr W31 (Or.inl (List.mem_of_getElem? (i := 0) rfl))).wr W35 (Or.inl (List.mem_of_getElem? (i := 0) rfl))).wr W38 (Or.inl (List.mem_of_getElem? (i := 0) rfl))), ((f34.wr W35).wr W38), (((((F22.other W25 (Or.inr (slot_ne (Or.inr (wd hw 16 rfl)) (Or.inr (wd hw 18 rfl)) (by decide) (t := .long) (t' := .long) (by decide) (by decide)))).other W28 (Or.inr (slot_ne (Or.inr (wd hw 16 rfl)) (Or.inr (wd hw 20 rfl)) (by decide) (t := .long) (t' := .long) (by decide) (by decide)))).other W31 (Or.inr (slot_ne (Or.inr (wd hw 16 rfl)) (Or.inr (wd hw 22 rfl)) (by decide) (t := .long) (t' := .long) (by decide) (by decide)))).other W35 (Or.inr (slot_ne (Or.inr (wd hw 16 rfl)) (Or.inr (wd hw 24 rfl)) (by decide) (t := .long) (t' := .long) (by decide) (by decide)))).other W38 (Or.inr (slot_ne (Or.inr (wd hw 16 rfl)) (Or.inr (wd hw 26 rfl)) (by decide) (t := .long) (t' := (.object "java/lang/Long")) (by decide) (by decide)))), ((((F25.other W28 (Or.inr (slot_ne (Or.inr (wd hw 18 rfl)) (Or.inr (wd hw 20 rfl)) (by decide) (t := .long) (t' := .long) (by decide) (by decide)))).other W31 (Or.inr (slot_ne (Or.inr (wd hw 18 rfl)) (Or.inr (wd hw 22 rfl)) (by decide) (t := .long) (t' := .long) (by decide) (by decide)))).other W35 (Or.inr (slot_ne (Or.inr (wd hw 18 rfl)) (Or.inr (wd hw 24 rfl)) (by decide) (t := .long) (t' := .long) (by decide) (by decide)))).other W38 (Or.inr (slot_ne (Or.inr (wd hw 18 rfl)) (Or.inr (wd hw 26 rfl)) (by decide) (t := .long) (t' := (.object "java/lang/Long")) (by decide) (by decide)))), (((F28.other W31 (Or.inr (slot_ne (Or.inr (wd hw 20 rfl)) (Or.inr (wd hw 22 rfl)) (by decide) (t := .long) (t' := .long) (by decide) (by decide)))).other W35 (Or.inr (slot_ne (Or.inr (wd hw 20 rfl)) (Or.inr (wd hw 24 rfl)) (by decide) (t := .long) (t' := .long) (by decide) (by decide)))).other W38 (Or.inr (slot_ne (Or.inr (wd hw 20 rfl)) (Or.inr (wd hw 26 rfl)) (by decide) (t := .long) (t' := (.object "java/lang/Long")) (by decide) (by decide)))), ((F31.other W35 (Or.inr (slot_ne (Or.inr (wd hw 22 rfl)) (Or.inr (wd hw 24 rfl)) (by decide) (t := .long) (t' := .long) (by decide) (by decide)))).other W38 (Or.inr (slot_ne (Or.inr (wd hw 22 rfl)) (Or.inr (wd hw 26 rfl)) (by decide) (t := .long) (t' := (.object "java/lang/Long")) (by decide) (by decide)))), (F35.other W38 (Or.inr (slot_ne (Or.inr (wd hw 24 rfl)) (Or.inr (wd hw 26 rfl)) (by decide) (t := .long) (t' := (.object "java/lang/Long")) (by decide) (by decide)))), F38⟩
theorem ef_rm_ini_r (m : MethodId) (x0 : Addr) (x1 : Int64) (x2 : Int64) (x3 : Int64) (x4 : Int64) (x5 : Int64) (x6 : Addr) : entryFrame m #[(.ref x0), (.long x1), (.long x2), (.long x3), (.long x4), (.long x5), (.ref x6)] 12 = mkF m 0 #[.val (.ref x0), .val (.long x1), .second, .val (.long x2), .second, .val (.long x3), .second, .val (.long x4), .second, .val (.long x5), .second, .val (.ref x6)] [] := by first | (simp [entryFrame, mkF, argsToLocals, Value.category]; done) | rfl
def Q_rm_ini_r (Z : State) (a1 : Addr) (q0 : Int64) (q1 : Int64) (q2 : Int64) (q3 : Int64) (q4 : Int64) (d : Addr) (h0 : Heap) (n0 : Nat) (v : Option Value) (h : Heap) (L : List Loc) : Prop := v = none ∧ Fr n0 L ∧ Keep h0 h [a1] ∧ Exa Z h a1 "com/example/floodgauge/floodgauge/validate/Validation" ∧ Fld Z h a1 "com/example/floodgauge/floodgauge/validate/Validation" "expected" "J" (.long q0) ∧ Fld Z h a1 "com/example/floodgauge/floodgauge/validate/Validation" "matched" "J" (.long q1) ∧ Fld Z h a1 "com/example/floodgauge/floodgauge/validate/Validation" "missing" "J" (.long q2) ∧ Fld Z h a1 "com/example/floodgauge/floodgauge/validate/Validation" "wrong" "J" (.long q3) ∧ Fld Z h a1 "com/example/floodgauge/floodgauge/validate/Validation" "extra" "J" (.long q4) ∧ Fld Z h a1 "com/example/floodgauge/floodgauge/validate/Validation" "duplicates" "Ljava/lang/Long;" (.ref d)
set_option maxRecDepth 65536 in
set_option maxHeartbeats 40000000 in
theorem rm_ini_r (l : Launch) (Z : State) (a0 : Array Value) (hw : ∀ d ∈ tables_1, d.before a0 Z = true) (ws : List Jvm.Cond) (a1 : Addr) (q0 : Int64) (q1 : Int64) (q2 : Int64) (q3 : Int64) (q4 : Int64) (d : Addr) (h0 : Heap) (n0 : Nat) (Z0 : n0 ≤ h0.size) (pr0 : Old Z n0 h0) (pr1 : Exa Z h0 a1 "com/example/floodgauge/floodgauge/validate/Validation") (pr2 : Fld Z h0 a1 "com/example/floodgauge/floodgauge/validate/Validation" "expected" "J" (.long (0 : Int64))) (pr3 : Fld Z h0 a1 "com/example/floodgauge/floodgauge/validate/Validation" "matched" "J" (.long (0 : Int64))) (pr4 : Fld Z h0 a1 "com/example/floodgauge/floodgauge/validate/Validation" "missing" "J" (.long (0 : Int64))) (pr5 : Fld Z h0 a1 "com/example/floodgauge/floodgauge/validate/Validation" "wrong" "J" (.long (0 : Int64))) (pr6 : Fld Z h0 a1 "com/example/floodgauge/floodgauge/validate/Validation" "extra" "J" (.long (0 : Int64))) (pr7 : Fld Z h0 a1 "com/example/floodgauge/floodgauge/validate/Validation" "duplicates" "Ljava/lang/Long;" .null) (pr8 : n0 ≤ a1) :
    Met l Z (⟨"com/example/floodgauge/floodgauge/validate/Validation", "<init>", "(JJJJJLjava/lang/Long;)V"⟩ : MethodName) prog_19_method_1_code 12 none ws ({ frames := 2, cells := 0, slots := 0, locals := 24 } : Room) #[(.ref a1), (.long q0), (.long q1), (.long q2), (.long q3), (.long q4), (.ref d)] h0 (Q_rm_ini_r Z a1 q0 q1 q2 q3 q4 d h0 n0) := by
  refine Met.enter (f0 := fun m => mkF m 0 #[.val (.ref a1), .val (.long q0), .second, .val (.long q1), .second, .val (.long q2), .second, .val (.long q3), .second, .val (.long q4), .second, .val (.ref d)] []) (plainFor_of_name pn_com_example_floodgauge_floodgauge_validate_Validation) (fun m => ef_rm_ini_r m a1 q0 q1 q2 q3 q4 d) ?_
  intro p e s m below meth c s₁ hx hby hml hown hnm hret hlk hZ X0 e0
  have hown : s.vm.findClass "com/example/floodgauge/floodgauge/validate/Validation" = some m.cls := hown
  have hnm : meth.name = "<init>" := hnm
  have hml : c.maxLocals = 12 := hml
  have hby : c.code = prog_19_method_1_code := hby
  have N0 := Fr.nil n0
  refine Go.by (B := (s₁.setTop (mkF m 1 #[.val (.ref a1), .val (.long q0), .second, .val (.long q1), .second, .val (.long q2), .second, .val (.long q3), .second, .val (.long q4), .second, .val (.ref d)] [(.ref a1)]))) (fun _ k => XS.aloadN X0.here hx rfl (hb hby d1_0) rfl rfl k) ?_
  obtain ⟨_, _, ⟨T40, L40, k40, n40⟩, -, X40, ⟨Lc40, hQ40, l40, y40, z40⟩, st40⟩ := X0.specialBack hx (y := (⟨"java/lang/Record", "<init>", "()V"⟩ : MethodName)) rfl hown (mvT hZ (wd hw 7 rfl)) (mvT hZ (wd hw 8 rfl)) (mvT hZ (wd hw 11 rfl)) (by decide) (backOf (W := 0) (rm_Record_init l Z a0 hw [] a1 h0 n0 Z0 ) hZ (wd hw 11 rfl) (wd hw 10 rfl) (by decide) (by decide)) (g := (mkF m 1 #[.val (.ref a1), .val (.long q0), .second, .val (.long q1), .second, .val (.long q2), .second, .val (.long q3), .second, .val (.long q4), .second, .val (.ref d)] [(.ref a1)])) rfl (by rw [hml]; rfl) (Steps.refl _) (a := a1) (argsL := []) (rest := []) (lenOf pd_0 rfl) rfl (by show 2 * 0 + _ ≤ _; exact Nat.le_of_eq rfl) (hb hby d1_1) (fun _ _ => ⟨rfl, e0, Nat.le_of_ble_eq_true rfl, Nat.le_of_ble_eq_true rfl⟩)
  dsimp only [Pt.U, Pt.locs, Pt.cells, Pt.slots] at X40 l40 y40 z40 st40 hQ40
  subst l40 y40 z40
  obtain ⟨rfl, Nq40, hh40⟩ := hQ40
  have N40 := Fr.app N0 Nq40
  refine Go.by (B := (T40.setTop (mkF m 4 #[.val (.ref a1), .val (.long q0), .second, .val (.long q1), .second, .val (.long q2), .second, .val (.long q3), .second, .val (.long q4), .second, .val (.ref d)] []))) (fun _ k => st40.trans k) ?_
  refine Go.by (B := (T40.setTop (mkF m 6 #[.val (.ref a1), .val (.long q0), .second, .val (.long q1), .second, .val (.long q2), .second, .val (.long q3), .second, .val (.long q4), .second, .val (.ref d)] [(.long q0), (.ref a1)]))) (fun _ k => XS.aloadN X40.here hx rfl (hb hby d1_4) rfl rfl (XS.lloadN X40.here hx rfl (hb hby d1_5) rfl k)) ?_
  obtain ⟨T41, h41, X41, e41, W41, st41⟩ := putF X40 hx hZ hown (host := "") (Or.inl (wd hw 15 rfl)) Via.refl hh40 pr2 pr1 (Or.inr ⟨(wd hw 16 rfl), rfl, hnm⟩) (wd hw 1 rfl) (ty := .long) (by decide) rfl rfl (g := (mkF m 6 #[.val (.ref a1), .val (.long q0), .second, .val (.long q1), .second, .val (.long q2), .second, .val (.long q3), .second, .val (.long q4), .second, .val (.ref d)] [(.long q0), (.ref a1)])) rfl rfl (hb hby d1_6)
  have N41 := Fr.snoc X41 N40 pr8
  have O42 := pr0.wr W41 pr8
  have Z42 : n0 ≤ h41.size := Nat.le_trans Z0 (Keep.of_wr W41).1
  have F41 := pr2.same W41
  refine Go.by (B := (T41.setTop (mkF m 9 #[.val (.ref a1), .val (.long q0), .second, .val (.long q1), .second, .val (.long q2), .second, .val (.long q3), .second, .val (.long q4), .second, .val (.ref d)] []))) st41 ?_
  refine Go.by (B := (T41.setTop (mkF m 11 #[.val (.ref a1), .val (.long q0), .second, .val (.long q1), .second, .val (.long q2), .second, .val (.long q3), .second, .val (.long q4), .second, .val (.ref d)] [(.long q1), (.ref a1)]))) (fun _ k => XS.aloadN X41.here hx rfl (hb hby d1_9) rfl rfl (XS.lloadN X41.here hx rfl (hb hby d1_10) rfl k)) ?_
  have f43 := (pr3.other W41 (Or.inr (slot_ne (Or.inr (wd hw 18 rfl)) (Or.inr (wd hw 16 rfl)) (by decide) (t := .long) (t' := .long) (by decide) (by decide))))
  obtain ⟨T44, h44, X44, e44, W44, st44⟩ := putF X41 hx hZ hown (host := "") (Or.inl (wd hw 17 rfl)) Via.refl e41 f43 (pr1.wr W41) (Or.inr ⟨(wd hw 18 rfl), rfl, hnm⟩) (wd hw 1 rfl) (ty := .long) (by decide) rfl rfl (g := (mkF m 11 #[.val (.ref a1), .val (.long q0), .second, .val (.long q1), .second, .val (.long q2), .second, .val (.long q3), .second, .val (.long q4), .second, .val (.ref d)] [(.long q1), (.ref a1)])) rfl rfl (hb hby d1_11)
  have N44 := Fr.snoc X44 N41 pr8
  have O45 := O42.wr W44 pr8
  have Z45 : n0 ≤ h44.size := Nat.le_trans Z42 (Keep.of_wr W44).1
  have F44 := f43.same W44
  refine Go.by (B := (T44.setTop (mkF m 14 #[.val (.ref a1), .val (.long q0), .second, .val (.long q1), .second, .val (.long q2), .second, .val (.long q3), .second, .val (.long q4), .second, .val (.ref d)] []))) st44 ?_
  refine Go.by (B := (T44.setTop (mkF m 17 #[.val (.ref a1), .val (.long q0), .second, .val (.long q1), .second, .val (.long q2), .second, .val (.long q3), .second, .val (.long q4), .second, .val (.ref d)] [(.long q2), (.ref a1)]))) (fun _ k => XS.aloadN X44.here hx rfl (hb hby d1_14) rfl rfl (XS.lload X44.here hx rfl (hb hby d1_15) rfl k)) ?_
  have f46 := ((pr4.other W41 (Or.inr (slot_ne (Or.inr (wd hw 20 rfl)) (Or.inr (wd hw 16 rfl)) (by decide) (t := .long) (t' := .long) (by decide) (by decide)))).other W44 (Or.inr (slot_ne (Or.inr (wd hw 20 rfl)) (Or.inr (wd hw 18 rfl)) (by decide) (t := .long) (t' := .long) (by decide) (by decide))))
  obtain ⟨T47, h47, X47, e47, W47, st47⟩ := putF X44 hx hZ hown (host := "") (Or.inl (wd hw 19 rfl)) Via.refl e44 f46 ((pr1.wr W41).wr W44) (Or.inr ⟨(wd hw 20 rfl), rfl, hnm⟩) (wd hw 1 rfl) (ty := .long) (by decide) rfl rfl (g := (mkF m 17 #[.val (.ref a1), .val (.long q0), .second, .val (.long q1), .second, .val (.long q2), .second, .val (.long q3), .second, .val (.long q4), .second, .val (.ref d)] [(.long q2), (.ref a1)])) rfl rfl (hb hby d1_17)
  have N47 := Fr.snoc X47 N44 pr8
  have O48 := O45.wr W47 pr8
  have Z48 : n0 ≤ h47.size := Nat.le_trans Z45 (Keep.of_wr W47).1
  have F47 := f46.same W47
  refine Go.by (B := (T47.setTop (mkF m 20 #[.val (.ref a1), .val (.long q0), .second, .val (.long q1), .second, .val (.long q2), .second, .val (.long q3), .second, .val (.long q4), .second, .val (.ref d)] []))) st47 ?_
  refine Go.by (B := (T47.setTop (mkF m 23 #[.val (.ref a1), .val (.long q0), .second, .val (.long q1), .second, .val (.long q2), .second, .val (.long q3), .second, .val (.long q4), .second, .val (.ref d)] [(.long q3), (.ref a1)]))) (fun _ k => XS.aloadN X47.here hx rfl (hb hby d1_20) rfl rfl (XS.lload X47.here hx rfl (hb hby d1_21) rfl k)) ?_
  have f49 := (((pr5.other W41 (Or.inr (slot_ne (Or.inr (wd hw 22 rfl)) (Or.inr (wd hw 16 rfl)) (by decide) (t := .long) (t' := .long) (by decide) (by decide)))).other W44 (Or.inr (slot_ne (Or.inr (wd hw 22 rfl)) (Or.inr (wd hw 18 rfl)) (by decide) (t := .long) (t' := .long) (by decide) (by decide)))).other W47 (Or.inr (slot_ne (Or.inr (wd hw 22 rfl)) (Or.inr (wd hw 20 rfl)) (by decide) (t := .long) (t' := .long) (by decide) (by decide))))
  obtain ⟨T50, h50, X50, e50, W50, st50⟩ := putF X47 hx hZ hown (host := "") (Or.inl (wd hw 21 rfl)) Via.refl e47 f49 (((pr1.wr W41).wr W44).wr W47) (Or.inr ⟨(wd hw 22 rfl), rfl, hnm⟩) (wd hw 1 rfl) (ty := .long) (by decide) rfl rfl (g := (mkF m 23 #[.val (.ref a1), .val (.long q0), .second, .val (.long q1), .second, .val (.long q2), .second, .val (.long q3), .second, .val (.long q4), .second, .val (.ref d)] [(.long q3), (.ref a1)])) rfl rfl (hb hby d1_23)
  have N50 := Fr.snoc X50 N47 pr8
  have O51 := O48.wr W50 pr8
  have Z51 : n0 ≤ h50.size := Nat.le_trans Z48 (Keep.of_wr W50).1
  have F50 := f49.same W50
  refine Go.by (B := (T50.setTop (mkF m 26 #[.val (.ref a1), .val (.long q0), .second, .val (.long q1), .second, .val (.long q2), .second, .val (.long q3), .second, .val (.long q4), .second, .val (.ref d)] []))) st50 ?_
  refine Go.by (B := (T50.setTop (mkF m 29 #[.val (.ref a1), .val (.long q0), .second, .val (.long q1), .second, .val (.long q2), .second, .val (.long q3), .second, .val (.long q4), .second, .val (.ref d)] [(.long q4), (.ref a1)]))) (fun _ k => XS.aloadN X50.here hx rfl (hb hby d1_26) rfl rfl (XS.lload X50.here hx rfl (hb hby d1_27) rfl k)) ?_
  have f52 := ((((pr6.other W41 (Or.inr (slot_ne (Or.inr (wd hw 24 rfl)) (Or.inr (wd hw 16 rfl)) (by decide) (t := .long) (t' := .long) (by decide) (by decide)))).other W44 (Or.inr (slot_ne (Or.inr (wd hw 24 rfl)) (Or.inr (wd hw 18 rfl)) (by decide) (t := .long) (t' := .long) (by decide) (by decide)))).other W47 (Or.inr (slot_ne (Or.inr (wd hw 24 rfl)) (Or.inr (wd hw 20 rfl)) (by decide) (t := .long) (t' := .long) (by decide) (by decide)))).other W50 (Or.inr (slot_ne (Or.inr (wd hw 24 rfl)) (Or.inr (wd hw 22 rfl)) (by decide) (t := .long) (t' := .long) (by decide) (by decide))))
  have f53 := ((((pr1.wr W41).wr W44).wr W47).wr W50)
  obtain ⟨T54, h54, X54, e54, W54, st54⟩ := putF X50 hx hZ hown (host := "") (Or.inl (wd hw 23 rfl)) Via.refl e50 f52 f53 (Or.inr ⟨(wd hw 24 rfl), rfl, hnm⟩) (wd hw 1 rfl) (ty := .long) (by decide) rfl rfl (g := (mkF m 29 #[.val (.ref a1), .val (.long q0), .second, .val (.long q1), .second, .val (.long q2), .second, .val (.long q3), .second, .val (.long q4), .second, .val (.ref d)] [(.long q4), (.ref a1)])) rfl rfl (hb hby d1_29)
  have N54 := Fr.snoc X54 N50 pr8
  have O55 := O51.wr W54 pr8
  have Z55 : n0 ≤ h54.size := Nat.le_trans Z51 (Keep.of_wr W54).1
  have F54 := f52.same W54
  refine Go.by (B := (T54.setTop (mkF m 32 #[.val (.ref a1), .val (.long q0), .second, .val (.long q1), .second, .val (.long q2), .second, .val (.long q3), .second, .val (.long q4), .second, .val (.ref d)] []))) st54 ?_
  refine Go.by (B := (T54.setTop (mkF m 35 #[.val (.ref a1), .val (.long q0), .second, .val (.long q1), .second, .val (.long q2), .second, .val (.long q3), .second, .val (.long q4), .second, .val (.ref d)] [(.ref d), (.ref a1)]))) (fun _ k => XS.aloadN X54.here hx rfl (hb hby d1_32) rfl rfl (XS.aload X54.here hx rfl (hb hby d1_33) rfl rfl k)) ?_
  have f56 := (((((pr7.other W41 (Or.inr (slot_ne (Or.inr (wd hw 26 rfl)) (Or.inr (wd hw 16 rfl)) (by decide) (t := (.object "java/lang/Long")) (t' := .long) (by decide) (by decide)))).other W44 (Or.inr (slot_ne (Or.inr (wd hw 26 rfl)) (Or.inr (wd hw 18 rfl)) (by decide) (t := (.object "java/lang/Long")) (t' := .long) (by decide) (by decide)))).other W47 (Or.inr (slot_ne (Or.inr (wd hw 26 rfl)) (Or.inr (wd hw 20 rfl)) (by decide) (t := (.object "java/lang/Long")) (t' := .long) (by decide) (by decide)))).other W50 (Or.inr (slot_ne (Or.inr (wd hw 26 rfl)) (Or.inr (wd hw 22 rfl)) (by decide) (t := (.object "java/lang/Long")) (t' := .long) (by decide) (by decide)))).other W54 (Or.inr (slot_ne (Or.inr (wd hw 26 rfl)) (Or.inr (wd hw 24 rfl)) (by decide) (t := (.object "java/lang/Long")) (t' := .long) (by decide) (by decide))))
  obtain ⟨T57, h57, X57, e57, W57, st57⟩ := putF X54 hx hZ hown (host := "") (Or.inl (wd hw 25 rfl)) Via.refl e54 f56 (f53.wr W54) (Or.inr ⟨(wd hw 26 rfl), rfl, hnm⟩) (wd hw 1 rfl) (ty := (.object "java/lang/Long")) (by decide) rfl rfl (g := (mkF m 35 #[.val (.ref a1), .val (.long q0), .second, .val (.long q1), .second, .val (.long q2), .second, .val (.long q3), .second, .val (.long q4), .second, .val (.ref d)] [(.ref d), (.ref a1)])) rfl rfl (hb hby d1_35)
  have N57 := Fr.snoc X57 N54 pr8
  have O58 := O55.wr W57 pr8
  have Z58 : n0 ≤ h57.size := Nat.le_trans Z55 (Keep.of_wr W57).1
  have F57 := f56.same W57
  refine Go.by (B := (T57.setTop (mkF m 38 #[.val (.ref a1), .val (.long q0), .second, .val (.long q1), .second, .val (.long q2), .second, .val (.long q3), .second, .val (.long q4), .second, .val (.ref d)] []))) st57 ?_
  refine Go.retV X57 hx hlk hret (hb hby d1_38) (by decide) (by decide) ?_
  rw [e57]
  exact ⟨rfl, N57, (((((((Keep.refl h0 [a1]).wr W41 (Or.inl (List.mem_of_getElem? (i := 0) rfl))).wr W44 (Or.inl (List.mem_of_getElem? (i := 0) rfl))).wr W47 (Or.inl (List.mem_of_getElem? (i := 0) rfl))).wr W50 (Or.inl (List.mem_of_getElem? (i := 0) rfl))).wr W54 (Or.inl (List.mem_of_getElem? (i := 0) rfl))).wr W57 (Or.inl (List.mem_of_getElem? (i := 0) rfl))), ((f53.wr W54).wr W57), (((((F41.other W44 (Or.inr (slot_ne (Or.inr (wd hw 16 rfl)) (Or.inr (wd hw 18 rfl)) (by decide) (t := .long) (t' := .long) (by decide) (by decide)))).other W47 (Or.inr (slot_ne (Or.inr (wd hw 16 rfl)) (Or.inr (wd hw 20 rfl)) (by decide) (t := .long) (t' := .long) (by decide) (by decide)))).other W50 (Or.inr (slot_ne (Or.inr (wd hw 16 rfl)) (Or.inr (wd hw 22 rfl)) (by decide) (t := .long) (t' := .long) (by decide) (by decide)))).other W54 (Or.inr (slot_ne (Or.inr (wd hw 16 rfl)) (Or.inr (wd hw 24 rfl)) (by decide) (t := .long) (t' := .long) (by decide) (by decide)))).other W57 (Or.inr (slot_ne (Or.inr (wd hw 16 rfl)) (Or.inr (wd hw 26 rfl)) (by decide) (t := .long) (t' := (.object "java/lang/Long")) (by decide) (by decide)))), ((((F44.other W47 (Or.inr (slot_ne (Or.inr (wd hw 18 rfl)) (Or.inr (wd hw 20 rfl)) (by decide) (t := .long) (t' := .long) (by decide) (by decide)))).other W50 (Or.inr (slot_ne (Or.inr (wd hw 18 rfl)) (Or.inr (wd hw 22 rfl)) (by decide) (t := .long) (t' := .long) (by decide) (by decide)))).other W54 (Or.inr (slot_ne (Or.inr (wd hw 18 rfl)) (Or.inr (wd hw 24 rfl)) (by decide) (t := .long) (t' := .long) (by decide) (by decide)))).other W57 (Or.inr (slot_ne (Or.inr (wd hw 18 rfl)) (Or.inr (wd hw 26 rfl)) (by decide) (t := .long) (t' := (.object "java/lang/Long")) (by decide) (by decide)))), (((F47.other W50 (Or.inr (slot_ne (Or.inr (wd hw 20 rfl)) (Or.inr (wd hw 22 rfl)) (by decide) (t := .long) (t' := .long) (by decide) (by decide)))).other W54 (Or.inr (slot_ne (Or.inr (wd hw 20 rfl)) (Or.inr (wd hw 24 rfl)) (by decide) (t := .long) (t' := .long) (by decide) (by decide)))).other W57 (Or.inr (slot_ne (Or.inr (wd hw 20 rfl)) (Or.inr (wd hw 26 rfl)) (by decide) (t := .long) (t' := (.object "java/lang/Long")) (by decide) (by decide)))), ((F50.other W54 (Or.inr (slot_ne (Or.inr (wd hw 22 rfl)) (Or.inr (wd hw 24 rfl)) (by decide) (t := .long) (t' := .long) (by decide) (by decide)))).other W57 (Or.inr (slot_ne (Or.inr (wd hw 22 rfl)) (Or.inr (wd hw 26 rfl)) (by decide) (t := .long) (t' := (.object "java/lang/Long")) (by decide) (by decide)))), (F54.other W57 (Or.inr (slot_ne (Or.inr (wd hw 24 rfl)) (Or.inr (wd hw 26 rfl)) (by decide) (t := .long) (t' := (.object "java/lang/Long")) (by decide) (by decide)))), F57⟩
theorem ef_rm_passed_n (m : MethodId) (x0 : Addr) (x1 : Int32) : entryFrame m #[(.ref x0), (.int x1)] 3 = mkF m 0 #[.val (.ref x0), .val (.int x1), .unset] [] := by first | (simp [entryFrame, mkF, argsToLocals, Value.category]; done) | rfl
theorem d4_0 : decode prog_19_method_2_code 0 = .ok (.iload_n 1, 1) := by decide +kernel
theorem d4_1 : decode prog_19_method_2_code 1 = .ok (.ifCond .eq 22, 3) := by decide +kernel
theorem d4_23 : decode prog_19_method_2_code 23 = .ok (.iconst 1, 1) := by decide +kernel
theorem d4_24 : decode prog_19_method_2_code 24 = .ok (.goto 4, 3) := by decide +kernel
theorem d4_28 : decode prog_19_method_2_code 28 = .ok (.istore_n 2, 1) := by decide +kernel
theorem d4_29 : decode prog_19_method_2_code 29 = .ok (.aload_n 0, 1) := by decide +kernel
theorem d4_30 : decode prog_19_method_2_code 30 = .ok (.getfield 16, 3) := by decide +kernel
theorem d4_33 : decode prog_19_method_2_code 33 = .ok (.lconst 0, 1) := by decide +kernel
theorem d4_34 : decode prog_19_method_2_code 34 = .ok (.lcmp, 1) := by decide +kernel
theorem d4_35 : decode prog_19_method_2_code 35 = .ok (.ifCond .ne 29, 3) := by decide +kernel
theorem d4_38 : decode prog_19_method_2_code 38 = .ok (.aload_n 0, 1) := by decide +kernel
theorem d4_39 : decode prog_19_method_2_code 39 = .ok (.getfield 19, 3) := by decide +kernel
theorem d4_42 : decode prog_19_method_2_code 42 = .ok (.lconst 0, 1) := by decide +kernel
theorem d4_43 : decode prog_19_method_2_code 43 = .ok (.lcmp, 1) := by decide +kernel
theorem d4_44 : decode prog_19_method_2_code 44 = .ok (.ifCond .ne 20, 3) := by decide +kernel
theorem d4_47 : decode prog_19_method_2_code 47 = .ok (.aload_n 0, 1) := by decide +kernel
theorem d4_48 : decode prog_19_method_2_code 48 = .ok (.getfield 22, 3) := by decide +kernel
theorem d4_51 : decode prog_19_method_2_code 51 = .ok (.lconst 0, 1) := by decide +kernel
theorem d4_52 : decode prog_19_method_2_code 52 = .ok (.lcmp, 1) := by decide +kernel
theorem d4_53 : decode prog_19_method_2_code 53 = .ok (.ifCond .ne 11, 3) := by decide +kernel
theorem d4_56 : decode prog_19_method_2_code 56 = .ok (.iload_n 2, 1) := by decide +kernel
theorem d4_57 : decode prog_19_method_2_code 57 = .ok (.ifCond .eq 7, 3) := by decide +kernel
theorem d4_60 : decode prog_19_method_2_code 60 = .ok (.iconst 1, 1) := by decide +kernel
theorem d4_61 : decode prog_19_method_2_code 61 = .ok (.goto 4, 3) := by decide +kernel
theorem d4_65 : decode prog_19_method_2_code 65 = .ok (.ireturn, 1) := by decide +kernel
theorem d4_64 : decode prog_19_method_2_code 64 = .ok (.iconst 0, 1) := by decide +kernel
theorem d4_4 : decode prog_19_method_2_code 4 = .ok (.aload_n 0, 1) := by decide +kernel
theorem d4_5 : decode prog_19_method_2_code 5 = .ok (.getfield 25, 3) := by decide +kernel
theorem d4_8 : decode prog_19_method_2_code 8 = .ok (.ifnull 15, 3) := by decide +kernel
def Q_rm_passed_n (Z : State) (a1 : Addr) (p1 : Int32) (q2 : Int64) (q3 : Int64) (q4 : Int64) (h0 : Heap) (n0 : Nat) (v : Option Value) (h : Heap) (L : List Loc) : Prop := v = some (.int (if q2 = 0 ∧ q3 = 0 ∧ q4 = 0 then (1 : Int32) else 0)) ∧ Fr n0 L ∧ h = h0
set_option maxRecDepth 65536 in
set_option maxHeartbeats 40000000 in
theorem rm_passed_n (l : Launch) (Z : State) (a0 : Array Value) (hw : ∀ d ∈ tables_1, d.before a0 Z = true) (ws : List Jvm.Cond) (a1 : Addr) (p1 : Int32) (q2 : Int64) (q3 : Int64) (q4 : Int64) (h0 : Heap) (n0 : Nat) (Z0 : n0 ≤ h0.size) (pr0 : Fld Z h0 a1 "com/example/floodgauge/floodgauge/validate/Validation" "duplicates" "Ljava/lang/Long;" .null) (pr1 : Fld Z h0 a1 "com/example/floodgauge/floodgauge/validate/Validation" "missing" "J" (.long q2)) (pr2 : Fld Z h0 a1 "com/example/floodgauge/floodgauge/validate/Validation" "wrong" "J" (.long q3)) (pr3 : Fld Z h0 a1 "com/example/floodgauge/floodgauge/validate/Validation" "extra" "J" (.long q4)) :
    Met l Z (⟨"com/example/floodgauge/floodgauge/validate/Validation", "passed", "(Z)Z"⟩ : MethodName) prog_19_method_2_code 3 (some .boolean) ws ({ frames := 0, cells := 0, slots := 0, locals := 0 } : Room) #[(.ref a1), (.int p1)] h0 (Q_rm_passed_n Z a1 p1 q2 q3 q4 h0 n0) := by
  refine Met.enter (f0 := fun m => mkF m 0 #[.val (.ref a1), .val (.int p1), .unset] []) (plainFor_of_name pn_com_example_floodgauge_floodgauge_validate_Validation) (fun m => ef_rm_passed_n m a1 p1) ?_
  intro p e s m below meth c s₁ hx hby hml hown hnm hret hlk hZ X0 e0
  have hown : s.vm.findClass "com/example/floodgauge/floodgauge/validate/Validation" = some m.cls := hown
  have hnm : meth.name = "passed" := hnm
  have hml : c.maxLocals = 3 := hml
  have hby : c.code = prog_19_method_2_code := hby
  have N0 := Fr.nil n0
  refine Go.by (B := (s₁.setTop (mkF m 1 #[.val (.ref a1), .val (.int p1), .unset] [(.int p1)]))) (fun _ k => XS.iloadN X0.here hx rfl (hb hby d4_0) rfl k) ?_
  by_cases c59 : p1 = (0 : Int32)
  · skip
    refine Go.by (B := (s₁.setTop (mkF m 30 #[.val (.ref a1), .val (.int p1), .val (.int 1)] [(.ref a1)]))) (fun _ k => XS.ifYes X0.here hx rfl (pc0 := 1) (pc' := 23) rfl (hb hby d4_1) rfl ((if0 _ _).trans (teq c59).1) (by decide) (by decide) (XS.iconst X0.here hx rfl (hb hby d4_23) (XS.goto X0.here hx rfl (pc0 := 24) (pc' := 28) rfl (hb hby d4_24) (by decide) (by decide) (XS.istoreN X0.here hx rfl (hb hby d4_28) rfl (l' := #[.val (.ref a1), .val (.int p1), .val (.int 1)]) rfl (XS.aloadN X0.here hx rfl (hb hby d4_29) rfl rfl k))))) ?_
    obtain ⟨T60, X60, e60, st60⟩ := getF X0 hx hZ hown (host := "") (Or.inl (wd hw 19 rfl)) Via.refl e0 pr1 (g := (mkF m 30 #[.val (.ref a1), .val (.int p1), .val (.int 1)] [(.ref a1)])) rfl rfl (hb hby d4_30)
    refine Go.by (B := (T60.setTop (mkF m 33 #[.val (.ref a1), .val (.int p1), .val (.int 1)] [(.long q2)]))) st60 ?_
    refine Go.by (B := (T60.setTop (mkF m 35 #[.val (.ref a1), .val (.int p1), .val (.int 1)] [(.int (lcmpW q2 (0 : Int64)))]))) (fun _ k => XS.lconst X60.here hx rfl (hb hby d4_33) (XS.lcmp X60.here hx rfl (hb hby d4_34) rfl k)) ?_
    by_cases c61 : q2 = (0 : Int64)
    · skip
      refine Go.by (B := (T60.setTop (mkF m 39 #[.val (.ref a1), .val (.int p1), .val (.int 1)] [(.ref a1)]))) (fun _ k => XS.ifNo X60.here hx rfl (hb hby d4_35) rfl ((if0 _ _).trans (teq ((lw_eq _ _).mpr c61)).2) (XS.aloadN X60.here hx rfl (hb hby d4_38) rfl rfl k)) ?_
      obtain ⟨T62, X62, e62, st62⟩ := getF X60 hx hZ hown (host := "") (Or.inl (wd hw 21 rfl)) Via.refl e60 pr2 (g := (mkF m 39 #[.val (.ref a1), .val (.int p1), .val (.int 1)] [(.ref a1)])) rfl rfl (hb hby d4_39)
      refine Go.by (B := (T62.setTop (mkF m 42 #[.val (.ref a1), .val (.int p1), .val (.int 1)] [(.long q3)]))) st62 ?_
      refine Go.by (B := (T62.setTop (mkF m 44 #[.val (.ref a1), .val (.int p1), .val (.int 1)] [(.int (lcmpW q3 (0 : Int64)))]))) (fun _ k => XS.lconst X62.here hx rfl (hb hby d4_42) (XS.lcmp X62.here hx rfl (hb hby d4_43) rfl k)) ?_
      by_cases c63 : q3 = (0 : Int64)
      · skip
        refine Go.by (B := (T62.setTop (mkF m 48 #[.val (.ref a1), .val (.int p1), .val (.int 1)] [(.ref a1)]))) (fun _ k => XS.ifNo X62.here hx rfl (hb hby d4_44) rfl ((if0 _ _).trans (teq ((lw_eq _ _).mpr c63)).2) (XS.aloadN X62.here hx rfl (hb hby d4_47) rfl rfl k)) ?_
        obtain ⟨T64, X64, e64, st64⟩ := getF X62 hx hZ hown (host := "") (Or.inl (wd hw 23 rfl)) Via.refl e62 pr3 (g := (mkF m 48 #[.val (.ref a1), .val (.int p1), .val (.int 1)] [(.ref a1)])) rfl rfl (hb hby d4_48)
        refine Go.by (B := (T64.setTop (mkF m 51 #[.val (.ref a1), .val (.int p1), .val (.int 1)] [(.long q4)]))) st64 ?_
        refine Go.by (B := (T64.setTop (mkF m 53 #[.val (.ref a1), .val (.int p1), .val (.int 1)] [(.int (lcmpW q4 (0 : Int64)))]))) (fun _ k => XS.lconst X64.here hx rfl (hb hby d4_51) (XS.lcmp X64.here hx rfl (hb hby d4_52) rfl k)) ?_
        by_cases c65 : q4 = (0 : Int64)
        · skip
          refine Go.by (B := (T64.setTop (mkF m 65 #[.val (.ref a1), .val (.int p1), .val (.int 1)] [(.int 1)]))) (fun _ k => XS.ifNo X64.here hx rfl (hb hby d4_53) rfl ((if0 _ _).trans (teq ((lw_eq _ _).mpr c65)).2) (XS.iloadN X64.here hx rfl (hb hby d4_56) rfl (XS.ifNo X64.here hx rfl (hb hby d4_57) rfl ((if0 _ _).trans (feq (by decide : ¬ ((1 : Int32) = (0 : Int32)))).1) (XS.iconst X64.here hx rfl (hb hby d4_60) (XS.goto X64.here hx rfl (pc0 := 61) (pc' := 65) rfl (hb hby d4_61) (by decide) (by decide) k))))) ?_
          refine Go.ret X64 hx hlk (t := .boolean) hret rfl (Or.inl ⟨rfl, by simp, _, rfl⟩) (hb hby d4_65) (by decide) (by decide) ?_
          rw [e64]
          exact ⟨(congrArg some (congrArg Value.int (by simp [c59, c61, c63, c65]))), N0, rfl⟩
        · skip
          refine Go.by (B := (T64.setTop (mkF m 65 #[.val (.ref a1), .val (.int p1), .val (.int 1)] [(.int 0)]))) (fun _ k => XS.ifYes X64.here hx rfl (pc0 := 53) (pc' := 64) rfl (hb hby d4_53) rfl ((if0 _ _).trans (feq (fun q => c65 ((lw_eq _ _).mp q))).2) (by decide) (by decide) (XS.iconst X64.here hx rfl (hb hby d4_64) k)) ?_
          refine Go.ret X64 hx hlk (t := .boolean) hret rfl (Or.inl ⟨rfl, by simp, _, rfl⟩) (hb hby d4_65) (by decide) (by decide) ?_
          rw [e64]
          exact ⟨(congrArg some (congrArg Value.int (by simp [c59, c61, c63, c65]))), N0, rfl⟩
      · skip
        refine Go.by (B := (T62.setTop (mkF m 65 #[.val (.ref a1), .val (.int p1), .val (.int 1)] [(.int 0)]))) (fun _ k => XS.ifYes X62.here hx rfl (pc0 := 44) (pc' := 64) rfl (hb hby d4_44) rfl ((if0 _ _).trans (feq (fun q => c63 ((lw_eq _ _).mp q))).2) (by decide) (by decide) (XS.iconst X62.here hx rfl (hb hby d4_64) k)) ?_
        refine Go.ret X62 hx hlk (t := .boolean) hret rfl (Or.inl ⟨rfl, by simp, _, rfl⟩) (hb hby d4_65) (by decide) (by decide) ?_
        rw [e62]
        exact ⟨(congrArg some (congrArg Value.int (by simp [c59, c61, c63]))), N0, rfl⟩
    · skip
      refine Go.by (B := (T60.setTop (mkF m 65 #[.val (.ref a1), .val (.int p1), .val (.int 1)] [(.int 0)]))) (fun _ k => XS.ifYes X60.here hx rfl (pc0 := 35) (pc' := 64) rfl (hb hby d4_35) rfl ((if0 _ _).trans (feq (fun q => c61 ((lw_eq _ _).mp q))).2) (by decide) (by decide) (XS.iconst X60.here hx rfl (hb hby d4_64) k)) ?_
      refine Go.ret X60 hx hlk (t := .boolean) hret rfl (Or.inl ⟨rfl, by simp, _, rfl⟩) (hb hby d4_65) (by decide) (by decide) ?_
      rw [e60]
      exact ⟨(congrArg some (congrArg Value.int (by simp [c59, c61]))), N0, rfl⟩
  · skip
    refine Go.by (B := (s₁.setTop (mkF m 5 #[.val (.ref a1), .val (.int p1), .unset] [(.ref a1)]))) (fun _ k => XS.ifNo X0.here hx rfl (hb hby d4_1) rfl ((if0 _ _).trans (feq c59).1) (XS.aloadN X0.here hx rfl (hb hby d4_4) rfl rfl k)) ?_
    obtain ⟨T66, X66, e66, st66⟩ := getF X0 hx hZ hown (host := "") (Or.inl (wd hw 25 rfl)) Via.refl e0 pr0 (g := (mkF m 5 #[.val (.ref a1), .val (.int p1), .unset] [(.ref a1)])) rfl rfl (hb hby d4_5)
    refine Go.by (B := (T66.setTop (mkF m 8 #[.val (.ref a1), .val (.int p1), .unset] [.null]))) st66 ?_
    refine Go.by (B := (T66.setTop (mkF m 30 #[.val (.ref a1), .val (.int p1), .val (.int 1)] [(.ref a1)]))) (fun _ k => XS.ifnullYes X66.here hx rfl (pc0 := 8) (pc' := 23) rfl (hb hby d4_8) rfl (by decide) (by decide) (XS.iconst X66.here hx rfl (hb hby d4_23) (XS.goto X66.here hx rfl (pc0 := 24) (pc' := 28) rfl (hb hby d4_24) (by decide) (by decide) (XS.istoreN X66.here hx rfl (hb hby d4_28) rfl (l' := #[.val (.ref a1), .val (.int p1), .val (.int 1)]) rfl (XS.aloadN X66.here hx rfl (hb hby d4_29) rfl rfl k))))) ?_
    obtain ⟨T67, X67, e67, st67⟩ := getF X66 hx hZ hown (host := "") (Or.inl (wd hw 19 rfl)) Via.refl e66 pr1 (g := (mkF m 30 #[.val (.ref a1), .val (.int p1), .val (.int 1)] [(.ref a1)])) rfl rfl (hb hby d4_30)
    refine Go.by (B := (T67.setTop (mkF m 33 #[.val (.ref a1), .val (.int p1), .val (.int 1)] [(.long q2)]))) st67 ?_
    refine Go.by (B := (T67.setTop (mkF m 35 #[.val (.ref a1), .val (.int p1), .val (.int 1)] [(.int (lcmpW q2 (0 : Int64)))]))) (fun _ k => XS.lconst X67.here hx rfl (hb hby d4_33) (XS.lcmp X67.here hx rfl (hb hby d4_34) rfl k)) ?_
    by_cases c68 : q2 = (0 : Int64)
    · skip
      refine Go.by (B := (T67.setTop (mkF m 39 #[.val (.ref a1), .val (.int p1), .val (.int 1)] [(.ref a1)]))) (fun _ k => XS.ifNo X67.here hx rfl (hb hby d4_35) rfl ((if0 _ _).trans (teq ((lw_eq _ _).mpr c68)).2) (XS.aloadN X67.here hx rfl (hb hby d4_38) rfl rfl k)) ?_
      obtain ⟨T69, X69, e69, st69⟩ := getF X67 hx hZ hown (host := "") (Or.inl (wd hw 21 rfl)) Via.refl e67 pr2 (g := (mkF m 39 #[.val (.ref a1), .val (.int p1), .val (.int 1)] [(.ref a1)])) rfl rfl (hb hby d4_39)
      refine Go.by (B := (T69.setTop (mkF m 42 #[.val (.ref a1), .val (.int p1), .val (.int 1)] [(.long q3)]))) st69 ?_
      refine Go.by (B := (T69.setTop (mkF m 44 #[.val (.ref a1), .val (.int p1), .val (.int 1)] [(.int (lcmpW q3 (0 : Int64)))]))) (fun _ k => XS.lconst X69.here hx rfl (hb hby d4_42) (XS.lcmp X69.here hx rfl (hb hby d4_43) rfl k)) ?_
      by_cases c70 : q3 = (0 : Int64)
      · skip
        refine Go.by (B := (T69.setTop (mkF m 48 #[.val (.ref a1), .val (.int p1), .val (.int 1)] [(.ref a1)]))) (fun _ k => XS.ifNo X69.here hx rfl (hb hby d4_44) rfl ((if0 _ _).trans (teq ((lw_eq _ _).mpr c70)).2) (XS.aloadN X69.here hx rfl (hb hby d4_47) rfl rfl k)) ?_
        obtain ⟨T71, X71, e71, st71⟩ := getF X69 hx hZ hown (host := "") (Or.inl (wd hw 23 rfl)) Via.refl e69 pr3 (g := (mkF m 48 #[.val (.ref a1), .val (.int p1), .val (.int 1)] [(.ref a1)])) rfl rfl (hb hby d4_48)
        refine Go.by (B := (T71.setTop (mkF m 51 #[.val (.ref a1), .val (.int p1), .val (.int 1)] [(.long q4)]))) st71 ?_
        refine Go.by (B := (T71.setTop (mkF m 53 #[.val (.ref a1), .val (.int p1), .val (.int 1)] [(.int (lcmpW q4 (0 : Int64)))]))) (fun _ k => XS.lconst X71.here hx rfl (hb hby d4_51) (XS.lcmp X71.here hx rfl (hb hby d4_52) rfl k)) ?_
        by_cases c72 : q4 = (0 : Int64)
        · skip
          refine Go.by (B := (T71.setTop (mkF m 65 #[.val (.ref a1), .val (.int p1), .val (.int 1)] [(.int 1)]))) (fun _ k => XS.ifNo X71.here hx rfl (hb hby d4_53) rfl ((if0 _ _).trans (teq ((lw_eq _ _).mpr c72)).2) (XS.iloadN X71.here hx rfl (hb hby d4_56) rfl (XS.ifNo X71.here hx rfl (hb hby d4_57) rfl ((if0 _ _).trans (feq (by decide : ¬ ((1 : Int32) = (0 : Int32)))).1) (XS.iconst X71.here hx rfl (hb hby d4_60) (XS.goto X71.here hx rfl (pc0 := 61) (pc' := 65) rfl (hb hby d4_61) (by decide) (by decide) k))))) ?_
          refine Go.ret X71 hx hlk (t := .boolean) hret rfl (Or.inl ⟨rfl, by simp, _, rfl⟩) (hb hby d4_65) (by decide) (by decide) ?_
          rw [e71]
          exact ⟨(congrArg some (congrArg Value.int (by simp [c59, c68, c70, c72]))), N0, rfl⟩
        · skip
          refine Go.by (B := (T71.setTop (mkF m 65 #[.val (.ref a1), .val (.int p1), .val (.int 1)] [(.int 0)]))) (fun _ k => XS.ifYes X71.here hx rfl (pc0 := 53) (pc' := 64) rfl (hb hby d4_53) rfl ((if0 _ _).trans (feq (fun q => c72 ((lw_eq _ _).mp q))).2) (by decide) (by decide) (XS.iconst X71.here hx rfl (hb hby d4_64) k)) ?_
          refine Go.ret X71 hx hlk (t := .boolean) hret rfl (Or.inl ⟨rfl, by simp, _, rfl⟩) (hb hby d4_65) (by decide) (by decide) ?_
          rw [e71]
          exact ⟨(congrArg some (congrArg Value.int (by simp [c59, c68, c70, c72]))), N0, rfl⟩
      · skip
        refine Go.by (B := (T69.setTop (mkF m 65 #[.val (.ref a1), .val (.int p1), .val (.int 1)] [(.int 0)]))) (fun _ k => XS.ifYes X69.here hx rfl (pc0 := 44) (pc' := 64) rfl (hb hby d4_44) rfl ((if0 _ _).trans (feq (fun q => c70 ((lw_eq _ _).mp q))).2) (by decide) (by decide) (XS.iconst X69.here hx rfl (hb hby d4_64) k)) ?_
        refine Go.ret X69 hx hlk (t := .boolean) hret rfl (Or.inl ⟨rfl, by simp, _, rfl⟩) (hb hby d4_65) (by decide) (by decide) ?_
        rw [e69]
        exact ⟨(congrArg some (congrArg Value.int (by simp [c59, c68, c70]))), N0, rfl⟩
    · skip
      refine Go.by (B := (T67.setTop (mkF m 65 #[.val (.ref a1), .val (.int p1), .val (.int 1)] [(.int 0)]))) (fun _ k => XS.ifYes X67.here hx rfl (pc0 := 35) (pc' := 64) rfl (hb hby d4_35) rfl ((if0 _ _).trans (feq (fun q => c68 ((lw_eq _ _).mp q))).2) (by decide) (by decide) (XS.iconst X67.here hx rfl (hb hby d4_64) k)) ?_
      refine Go.ret X67 hx hlk (t := .boolean) hret rfl (Or.inl ⟨rfl, by simp, _, rfl⟩) (hb hby d4_65) (by decide) (by decide) ?_
      rw [e67]
      exact ⟨(congrArg some (congrArg Value.int (by simp [c59, c68]))), N0, rfl⟩
theorem ef_rm_passed_r (m : MethodId) (x0 : Addr) (x1 : Int32) : entryFrame m #[(.ref x0), (.int x1)] 3 = mkF m 0 #[.val (.ref x0), .val (.int x1), .unset] [] := by first | (simp [entryFrame, mkF, argsToLocals, Value.category]; done) | rfl
theorem d4_11 : decode prog_19_method_2_code 11 = .ok (.aload_n 0, 1) := by decide +kernel
theorem d4_12 : decode prog_19_method_2_code 12 = .ok (.getfield 25, 3) := by decide +kernel
theorem d4_15 : decode prog_19_method_2_code 15 = .ok (.invokevirtual 29, 3) := by decide +kernel
theorem pd_2 : parseMethodDescriptor "()J" = some ⟨[], some .long⟩ := by decide +kernel
theorem d4_18 : decode prog_19_method_2_code 18 = .ok (.lconst 0, 1) := by decide +kernel
theorem d4_19 : decode prog_19_method_2_code 19 = .ok (.lcmp, 1) := by decide +kernel
theorem d4_20 : decode prog_19_method_2_code 20 = .ok (.ifCond .ne 7, 3) := by decide +kernel
theorem d4_27 : decode prog_19_method_2_code 27 = .ok (.iconst 0, 1) := by decide +kernel
def Q_rm_passed_r (Z : State) (a1 : Addr) (p1 : Int32) (q2 : Int64) (q3 : Int64) (q4 : Int64) (d : Addr) (d1 : Int64) (h0 : Heap) (n0 : Nat) (v : Option Value) (h : Heap) (L : List Loc) : Prop := v = some (.int (if q2 = 0 ∧ q3 = 0 ∧ q4 = 0 ∧ (p1 = 0 ∨ d1 = 0) then (1 : Int32) else 0)) ∧ Fr n0 L ∧ h = h0
set_option maxRecDepth 65536 in
set_option maxHeartbeats 40000000 in
theorem rm_passed_r (l : Launch) (Z : State) (a0 : Array Value) (hw : ∀ d ∈ tables_1, d.before a0 Z = true) (ws : List Jvm.Cond) (a1 : Addr) (p1 : Int32) (q2 : Int64) (q3 : Int64) (q4 : Int64) (d : Addr) (d1 : Int64) (h0 : Heap) (n0 : Nat) (Z0 : n0 ≤ h0.size) (pr0 : Fld Z h0 a1 "com/example/floodgauge/floodgauge/validate/Validation" "duplicates" "Ljava/lang/Long;" (.ref d)) (pr1 : Fld Z h0 a1 "com/example/floodgauge/floodgauge/validate/Validation" "missing" "J" (.long q2)) (pr2 : Fld Z h0 a1 "com/example/floodgauge/floodgauge/validate/Validation" "wrong" "J" (.long q3)) (pr3 : Fld Z h0 a1 "com/example/floodgauge/floodgauge/validate/Validation" "extra" "J" (.long q4)) (pr4 : Exa Z h0 d "java/lang/Long") (pr5 : Fld Z h0 d "java/lang/Long" "value" "J" (.long d1)) :
    Met l Z (⟨"com/example/floodgauge/floodgauge/validate/Validation", "passed", "(Z)Z"⟩ : MethodName) prog_19_method_2_code 3 (some .boolean) ws ({ frames := 1, cells := 0, slots := 0, locals := 12 } : Room) #[(.ref a1), (.int p1)] h0 (Q_rm_passed_r Z a1 p1 q2 q3 q4 d d1 h0 n0) := by
  refine Met.enter (f0 := fun m => mkF m 0 #[.val (.ref a1), .val (.int p1), .unset] []) (plainFor_of_name pn_com_example_floodgauge_floodgauge_validate_Validation) (fun m => ef_rm_passed_r m a1 p1) ?_
  intro p e s m below meth c s₁ hx hby hml hown hnm hret hlk hZ X0 e0
  have hown : s.vm.findClass "com/example/floodgauge/floodgauge/validate/Validation" = some m.cls := hown
  have hnm : meth.name = "passed" := hnm
  have hml : c.maxLocals = 3 := hml
  have hby : c.code = prog_19_method_2_code := hby
  have N0 := Fr.nil n0
  refine Go.by (B := (s₁.setTop (mkF m 1 #[.val (.ref a1), .val (.int p1), .unset] [(.int p1)]))) (fun _ k => XS.iloadN X0.here hx rfl (hb hby d4_0) rfl k) ?_
  by_cases c73 : p1 = (0 : Int32)
  · skip
    refine Go.by (B := (s₁.setTop (mkF m 30 #[.val (.ref a1), .val (.int p1), .val (.int 1)] [(.ref a1)]))) (fun _ k => XS.ifYes X0.here hx rfl (pc0 := 1) (pc' := 23) rfl (hb hby d4_1) rfl ((if0 _ _).trans (teq c73).1) (by decide) (by decide) (XS.iconst X0.here hx rfl (hb hby d4_23) (XS.goto X0.here hx rfl (pc0 := 24) (pc' := 28) rfl (hb hby d4_24) (by decide) (by decide) (XS.istoreN X0.here hx rfl (hb hby d4_28) rfl (l' := #[.val (.ref a1), .val (.int p1), .val (.int 1)]) rfl (XS.aloadN X0.here hx rfl (hb hby d4_29) rfl rfl k))))) ?_
    obtain ⟨T74, X74, e74, st74⟩ := getF X0 hx hZ hown (host := "") (Or.inl (wd hw 19 rfl)) Via.refl e0 pr1 (g := (mkF m 30 #[.val (.ref a1), .val (.int p1), .val (.int 1)] [(.ref a1)])) rfl rfl (hb hby d4_30)
    refine Go.by (B := (T74.setTop (mkF m 33 #[.val (.ref a1), .val (.int p1), .val (.int 1)] [(.long q2)]))) st74 ?_
    refine Go.by (B := (T74.setTop (mkF m 35 #[.val (.ref a1), .val (.int p1), .val (.int 1)] [(.int (lcmpW q2 (0 : Int64)))]))) (fun _ k => XS.lconst X74.here hx rfl (hb hby d4_33) (XS.lcmp X74.here hx rfl (hb hby d4_34) rfl k)) ?_
    by_cases c75 : q2 = (0 : Int64)
    · skip
      refine Go.by (B := (T74.setTop (mkF m 39 #[.val (.ref a1), .val (.int p1), .val (.int 1)] [(.ref a1)]))) (fun _ k => XS.ifNo X74.here hx rfl (hb hby d4_35) rfl ((if0 _ _).trans (teq ((lw_eq _ _).mpr c75)).2) (XS.aloadN X74.here hx rfl (hb hby d4_38) rfl rfl k)) ?_
      obtain ⟨T76, X76, e76, st76⟩ := getF X74 hx hZ hown (host := "") (Or.inl (wd hw 21 rfl)) Via.refl e74 pr2 (g := (mkF m 39 #[.val (.ref a1), .val (.int p1), .val (.int 1)] [(.ref a1)])) rfl rfl (hb hby d4_39)
      refine Go.by (B := (T76.setTop (mkF m 42 #[.val (.ref a1), .val (.int p1), .val (.int 1)] [(.long q3)]))) st76 ?_
      refine Go.by (B := (T76.setTop (mkF m 44 #[.val (.ref a1), .val (.int p1), .val (.int 1)] [(.int (lcmpW q3 (0 : Int64)))]))) (fun _ k => XS.lconst X76.here hx rfl (hb hby d4_42) (XS.lcmp X76.here hx rfl (hb hby d4_43) rfl k)) ?_
      by_cases c77 : q3 = (0 : Int64)
      · skip
        refine Go.by (B := (T76.setTop (mkF m 48 #[.val (.ref a1), .val (.int p1), .val (.int 1)] [(.ref a1)]))) (fun _ k => XS.ifNo X76.here hx rfl (hb hby d4_44) rfl ((if0 _ _).trans (teq ((lw_eq _ _).mpr c77)).2) (XS.aloadN X76.here hx rfl (hb hby d4_47) rfl rfl k)) ?_
        obtain ⟨T78, X78, e78, st78⟩ := getF X76 hx hZ hown (host := "") (Or.inl (wd hw 23 rfl)) Via.refl e76 pr3 (g := (mkF m 48 #[.val (.ref a1), .val (.int p1), .val (.int 1)] [(.ref a1)])) rfl rfl (hb hby d4_48)
        refine Go.by (B := (T78.setTop (mkF m 51 #[.val (.ref a1), .val (.int p1), .val (.int 1)] [(.long q4)]))) st78 ?_
        refine Go.by (B := (T78.setTop (mkF m 53 #[.val (.ref a1), .val (.int p1), .val (.int 1)] [(.int (lcmpW q4 (0 : Int64)))]))) (fun _ k => XS.lconst X78.here hx rfl (hb hby d4_51) (XS.lcmp X78.here hx rfl (hb hby d4_52) rfl k)) ?_
        by_cases c79 : q4 = (0 : Int64)
        · skip
          refine Go.by (B := (T78.setTop (mkF m 65 #[.val (.ref a1), .val (.int p1), .val (.int 1)] [(.int 1)]))) (fun _ k => XS.ifNo X78.here hx rfl (hb hby d4_53) rfl ((if0 _ _).trans (teq ((lw_eq _ _).mpr c79)).2) (XS.iloadN X78.here hx rfl (hb hby d4_56) rfl (XS.ifNo X78.here hx rfl (hb hby d4_57) rfl ((if0 _ _).trans (feq (by decide : ¬ ((1 : Int32) = (0 : Int32)))).1) (XS.iconst X78.here hx rfl (hb hby d4_60) (XS.goto X78.here hx rfl (pc0 := 61) (pc' := 65) rfl (hb hby d4_61) (by decide) (by decide) k))))) ?_
          refine Go.ret X78 hx hlk (t := .boolean) hret rfl (Or.inl ⟨rfl, by simp, _, rfl⟩) (hb hby d4_65) (by decide) (by decide) ?_
          rw [e78]
          exact ⟨(congrArg some (congrArg Value.int (by simp [c73, c75, c77, c79]))), N0, rfl⟩
        · skip
          refine Go.by (B := (T78.setTop (mkF m 65 #[.val (.ref a1), .val (.int p1), .val (.int 1)] [(.int 0)]))) (fun _ k => XS.ifYes X78.here hx rfl (pc0 := 53) (pc' := 64) rfl (hb hby d4_53) rfl ((if0 _ _).trans (feq (fun q => c79 ((lw_eq _ _).mp q))).2) (by decide) (by decide) (XS.iconst X78.here hx rfl (hb hby d4_64) k)) ?_
          refine Go.ret X78 hx hlk (t := .boolean) hret rfl (Or.inl ⟨rfl, by simp, _, rfl⟩) (hb hby d4_65) (by decide) (by decide) ?_
          rw [e78]
          exact ⟨(congrArg some (congrArg Value.int (by simp [c73, c75, c77, c79]))), N0, rfl⟩
      · skip
        refine Go.by (B := (T76.setTop (mkF m 65 #[.val (.ref a1), .val (.int p1), .val (.int 1)] [(.int 0)]))) (fun _ k => XS.ifYes X76.here hx rfl (pc0 := 44) (pc' := 64) rfl (hb hby d4_44) rfl ((if0 _ _).trans (feq (fun q => c77 ((lw_eq _ _).mp q))).2) (by decide) (by decide) (XS.iconst X76.here hx rfl (hb hby d4_64) k)) ?_
        refine Go.ret X76 hx hlk (t := .boolean) hret rfl (Or.inl ⟨rfl, by simp, _, rfl⟩) (hb hby d4_65) (by decide) (by decide) ?_
        rw [e76]
        exact ⟨(congrArg some (congrArg Value.int (by simp [c73, c75, c77]))), N0, rfl⟩
    · skip
      refine Go.by (B := (T74.setTop (mkF m 65 #[.val (.ref a1), .val (.int p1), .val (.int 1)] [(.int 0)]))) (fun _ k => XS.ifYes X74.here hx rfl (pc0 := 35) (pc' := 64) rfl (hb hby d4_35) rfl ((if0 _ _).trans (feq (fun q => c75 ((lw_eq _ _).mp q))).2) (by decide) (by decide) (XS.iconst X74.here hx rfl (hb hby d4_64) k)) ?_
      refine Go.ret X74 hx hlk (t := .boolean) hret rfl (Or.inl ⟨rfl, by simp, _, rfl⟩) (hb hby d4_65) (by decide) (by decide) ?_
      rw [e74]
      exact ⟨(congrArg some (congrArg Value.int (by simp [c73, c75]))), N0, rfl⟩
  · skip
    refine Go.by (B := (s₁.setTop (mkF m 5 #[.val (.ref a1), .val (.int p1), .unset] [(.ref a1)]))) (fun _ k => XS.ifNo X0.here hx rfl (hb hby d4_1) rfl ((if0 _ _).trans (feq c73).1) (XS.aloadN X0.here hx rfl (hb hby d4_4) rfl rfl k)) ?_
    obtain ⟨T80, X80, e80, st80⟩ := getF X0 hx hZ hown (host := "") (Or.inl (wd hw 25 rfl)) Via.refl e0 pr0 (g := (mkF m 5 #[.val (.ref a1), .val (.int p1), .unset] [(.ref a1)])) rfl rfl (hb hby d4_5)
    refine Go.by (B := (T80.setTop (mkF m 8 #[.val (.ref a1), .val (.int p1), .unset] [(.ref d)]))) st80 ?_
    refine Go.by (B := (T80.setTop (mkF m 12 #[.val (.ref a1), .val (.int p1), .unset] [(.ref a1)]))) (fun _ k => XS.ifnullNo X80.here hx rfl (hb hby d4_8) rfl (XS.aloadN X80.here hx rfl (hb hby d4_11) rfl rfl k)) ?_
    obtain ⟨T81, X81, e81, st81⟩ := getF X80 hx hZ hown (host := "") (Or.inl (wd hw 25 rfl)) Via.refl e80 pr0 (g := (mkF m 12 #[.val (.ref a1), .val (.int p1), .unset] [(.ref a1)])) rfl rfl (hb hby d4_12)
    refine Go.by (B := (T81.setTop (mkF m 15 #[.val (.ref a1), .val (.int p1), .unset] [(.ref d)]))) st81 ?_
    obtain ⟨cq82, kq82, q82a, q82b, q82c⟩ := isOf hZ e81 pr4
    obtain ⟨_, _, ⟨T82, L82, k82, n82⟩, -, X82, ⟨Lc82, hQ82, l82, y82, z82⟩, st82⟩ := X81.virtualBack hx (y := (⟨"java/lang/Long", "longValue", "()J"⟩ : MethodName)) (z := (⟨"java/lang/Long", "longValue", "()J"⟩ : MethodName)) hown (mvT hZ (wd hw 53 rfl)) (mvT hZ (wd hw 54 rfl)) (notFace_of_selects (args := #[]) (mvT hZ (wd hw 56 rfl))) (mvT hZ (wd hw 56 rfl)) (mvT hZ (wd hw 55 rfl)) (by decide) (backOf (W := 0) (rm_longValue l Z a0 hw [] d d1 h0 n0 Z0 pr5) hZ (wd hw 57 rfl) (wd hw 34 rfl) (by decide) (by decide)) q82a q82c (g := (mkF m 15 #[.val (.ref a1), .val (.int p1), .unset] [(.ref d)])) rfl (by rw [hml]; rfl) (Steps.refl _) (argsL := []) (rest := []) (lenOf pd_2 rfl) rfl (by show 2 * 0 + _ ≤ _; exact Nat.le_of_eq rfl) (hb hby d4_15) (fun _ _ => ⟨rfl, e81, Nat.le_of_ble_eq_true rfl, Nat.le_of_ble_eq_true rfl⟩)
    dsimp only [Pt.U, Pt.locs, Pt.cells, Pt.slots] at X82 l82 y82 z82 st82 hQ82
    subst l82 y82 z82
    obtain ⟨rfl, Nq82, hh82⟩ := hQ82
    have N82 := Fr.app N0 Nq82
    refine Go.by (B := (T82.setTop (mkF m 18 #[.val (.ref a1), .val (.int p1), .unset] [(.long d1)]))) (fun _ k => st82.trans k) ?_
    refine Go.by (B := (T82.setTop (mkF m 20 #[.val (.ref a1), .val (.int p1), .unset] [(.int (lcmpW d1 (0 : Int64)))]))) (fun _ k => XS.lconst X82.here hx rfl (hb hby d4_18) (XS.lcmp X82.here hx rfl (hb hby d4_19) rfl k)) ?_
    by_cases c83 : d1 = (0 : Int64)
    · skip
      refine Go.by (B := (T82.setTop (mkF m 30 #[.val (.ref a1), .val (.int p1), .val (.int 1)] [(.ref a1)]))) (fun _ k => XS.ifNo X82.here hx rfl (hb hby d4_20) rfl ((if0 _ _).trans (teq ((lw_eq _ _).mpr c83)).2) (XS.iconst X82.here hx rfl (hb hby d4_23) (XS.goto X82.here hx rfl (pc0 := 24) (pc' := 28) rfl (hb hby d4_24) (by decide) (by decide) (XS.istoreN X82.here hx rfl (hb hby d4_28) rfl (l' := #[.val (.ref a1), .val (.int p1), .val (.int 1)]) rfl (XS.aloadN X82.here hx rfl (hb hby d4_29) rfl rfl k))))) ?_
      obtain ⟨T84, X84, e84, st84⟩ := getF X82 hx hZ hown (host := "") (Or.inl (wd hw 19 rfl)) Via.refl hh82 pr1 (g := (mkF m 30 #[.val (.ref a1), .val (.int p1), .val (.int 1)] [(.ref a1)])) rfl rfl (hb hby d4_30)
      refine Go.by (B := (T84.setTop (mkF m 33 #[.val (.ref a1), .val (.int p1), .val (.int 1)] [(.long q2)]))) st84 ?_
      refine Go.by (B := (T84.setTop (mkF m 35 #[.val (.ref a1), .val (.int p1), .val (.int 1)] [(.int (lcmpW q2 (0 : Int64)))]))) (fun _ k => XS.lconst X84.here hx rfl (hb hby d4_33) (XS.lcmp X84.here hx rfl (hb hby d4_34) rfl k)) ?_
      by_cases c85 : q2 = (0 : Int64)
      · skip
        refine Go.by (B := (T84.setTop (mkF m 39 #[.val (.ref a1), .val (.int p1), .val (.int 1)] [(.ref a1)]))) (fun _ k => XS.ifNo X84.here hx rfl (hb hby d4_35) rfl ((if0 _ _).trans (teq ((lw_eq _ _).mpr c85)).2) (XS.aloadN X84.here hx rfl (hb hby d4_38) rfl rfl k)) ?_
        obtain ⟨T86, X86, e86, st86⟩ := getF X84 hx hZ hown (host := "") (Or.inl (wd hw 21 rfl)) Via.refl e84 pr2 (g := (mkF m 39 #[.val (.ref a1), .val (.int p1), .val (.int 1)] [(.ref a1)])) rfl rfl (hb hby d4_39)
        refine Go.by (B := (T86.setTop (mkF m 42 #[.val (.ref a1), .val (.int p1), .val (.int 1)] [(.long q3)]))) st86 ?_
        refine Go.by (B := (T86.setTop (mkF m 44 #[.val (.ref a1), .val (.int p1), .val (.int 1)] [(.int (lcmpW q3 (0 : Int64)))]))) (fun _ k => XS.lconst X86.here hx rfl (hb hby d4_42) (XS.lcmp X86.here hx rfl (hb hby d4_43) rfl k)) ?_
        by_cases c87 : q3 = (0 : Int64)
        · skip
          refine Go.by (B := (T86.setTop (mkF m 48 #[.val (.ref a1), .val (.int p1), .val (.int 1)] [(.ref a1)]))) (fun _ k => XS.ifNo X86.here hx rfl (hb hby d4_44) rfl ((if0 _ _).trans (teq ((lw_eq _ _).mpr c87)).2) (XS.aloadN X86.here hx rfl (hb hby d4_47) rfl rfl k)) ?_
          obtain ⟨T88, X88, e88, st88⟩ := getF X86 hx hZ hown (host := "") (Or.inl (wd hw 23 rfl)) Via.refl e86 pr3 (g := (mkF m 48 #[.val (.ref a1), .val (.int p1), .val (.int 1)] [(.ref a1)])) rfl rfl (hb hby d4_48)
          refine Go.by (B := (T88.setTop (mkF m 51 #[.val (.ref a1), .val (.int p1), .val (.int 1)] [(.long q4)]))) st88 ?_
          refine Go.by (B := (T88.setTop (mkF m 53 #[.val (.ref a1), .val (.int p1), .val (.int 1)] [(.int (lcmpW q4 (0 : Int64)))]))) (fun _ k => XS.lconst X88.here hx rfl (hb hby d4_51) (XS.lcmp X88.here hx rfl (hb hby d4_52) rfl k)) ?_
          by_cases c89 : q4 = (0 : Int64)
          · skip
            refine Go.by (B := (T88.setTop (mkF m 65 #[.val (.ref a1), .val (.int p1), .val (.int 1)] [(.int 1)]))) (fun _ k => XS.ifNo X88.here hx rfl (hb hby d4_53) rfl ((if0 _ _).trans (teq ((lw_eq _ _).mpr c89)).2) (XS.iloadN X88.here hx rfl (hb hby d4_56) rfl (XS.ifNo X88.here hx rfl (hb hby d4_57) rfl ((if0 _ _).trans (feq (by decide : ¬ ((1 : Int32) = (0 : Int32)))).1) (XS.iconst X88.here hx rfl (hb hby d4_60) (XS.goto X88.here hx rfl (pc0 := 61) (pc' := 65) rfl (hb hby d4_61) (by decide) (by decide) k))))) ?_
            refine Go.ret X88 hx hlk (t := .boolean) hret rfl (Or.inl ⟨rfl, by simp, _, rfl⟩) (hb hby d4_65) (by decide) (by decide) ?_
            rw [e88]
            exact ⟨(congrArg some (congrArg Value.int (by simp [c73, c83, c85, c87, c89]))), N82, rfl⟩
          · skip
            refine Go.by (B := (T88.setTop (mkF m 65 #[.val (.ref a1), .val (.int p1), .val (.int 1)] [(.int 0)]))) (fun _ k => XS.ifYes X88.here hx rfl (pc0 := 53) (pc' := 64) rfl (hb hby d4_53) rfl ((if0 _ _).trans (feq (fun q => c89 ((lw_eq _ _).mp q))).2) (by decide) (by decide) (XS.iconst X88.here hx rfl (hb hby d4_64) k)) ?_
            refine Go.ret X88 hx hlk (t := .boolean) hret rfl (Or.inl ⟨rfl, by simp, _, rfl⟩) (hb hby d4_65) (by decide) (by decide) ?_
            rw [e88]
            exact ⟨(congrArg some (congrArg Value.int (by simp [c73, c83, c85, c87, c89]))), N82, rfl⟩
        · skip
          refine Go.by (B := (T86.setTop (mkF m 65 #[.val (.ref a1), .val (.int p1), .val (.int 1)] [(.int 0)]))) (fun _ k => XS.ifYes X86.here hx rfl (pc0 := 44) (pc' := 64) rfl (hb hby d4_44) rfl ((if0 _ _).trans (feq (fun q => c87 ((lw_eq _ _).mp q))).2) (by decide) (by decide) (XS.iconst X86.here hx rfl (hb hby d4_64) k)) ?_
          refine Go.ret X86 hx hlk (t := .boolean) hret rfl (Or.inl ⟨rfl, by simp, _, rfl⟩) (hb hby d4_65) (by decide) (by decide) ?_
          rw [e86]
          exact ⟨(congrArg some (congrArg Value.int (by simp [c73, c83, c85, c87]))), N82, rfl⟩
      · skip
        refine Go.by (B := (T84.setTop (mkF m 65 #[.val (.ref a1), .val (.int p1), .val (.int 1)] [(.int 0)]))) (fun _ k => XS.ifYes X84.here hx rfl (pc0 := 35) (pc' := 64) rfl (hb hby d4_35) rfl ((if0 _ _).trans (feq (fun q => c85 ((lw_eq _ _).mp q))).2) (by decide) (by decide) (XS.iconst X84.here hx rfl (hb hby d4_64) k)) ?_
        refine Go.ret X84 hx hlk (t := .boolean) hret rfl (Or.inl ⟨rfl, by simp, _, rfl⟩) (hb hby d4_65) (by decide) (by decide) ?_
        rw [e84]
        exact ⟨(congrArg some (congrArg Value.int (by simp [c73, c83, c85]))), N82, rfl⟩
    · skip
      refine Go.by (B := (T82.setTop (mkF m 30 #[.val (.ref a1), .val (.int p1), .val (.int 0)] [(.ref a1)]))) (fun _ k => XS.ifYes X82.here hx rfl (pc0 := 20) (pc' := 27) rfl (hb hby d4_20) rfl ((if0 _ _).trans (feq (fun q => c83 ((lw_eq _ _).mp q))).2) (by decide) (by decide) (XS.iconst X82.here hx rfl (hb hby d4_27) (XS.istoreN X82.here hx rfl (hb hby d4_28) rfl (l' := #[.val (.ref a1), .val (.int p1), .val (.int 0)]) rfl (XS.aloadN X82.here hx rfl (hb hby d4_29) rfl rfl k)))) ?_
      obtain ⟨T90, X90, e90, st90⟩ := getF X82 hx hZ hown (host := "") (Or.inl (wd hw 19 rfl)) Via.refl hh82 pr1 (g := (mkF m 30 #[.val (.ref a1), .val (.int p1), .val (.int 0)] [(.ref a1)])) rfl rfl (hb hby d4_30)
      refine Go.by (B := (T90.setTop (mkF m 33 #[.val (.ref a1), .val (.int p1), .val (.int 0)] [(.long q2)]))) st90 ?_
      refine Go.by (B := (T90.setTop (mkF m 35 #[.val (.ref a1), .val (.int p1), .val (.int 0)] [(.int (lcmpW q2 (0 : Int64)))]))) (fun _ k => XS.lconst X90.here hx rfl (hb hby d4_33) (XS.lcmp X90.here hx rfl (hb hby d4_34) rfl k)) ?_
      by_cases c91 : q2 = (0 : Int64)
      · skip
        refine Go.by (B := (T90.setTop (mkF m 39 #[.val (.ref a1), .val (.int p1), .val (.int 0)] [(.ref a1)]))) (fun _ k => XS.ifNo X90.here hx rfl (hb hby d4_35) rfl ((if0 _ _).trans (teq ((lw_eq _ _).mpr c91)).2) (XS.aloadN X90.here hx rfl (hb hby d4_38) rfl rfl k)) ?_
        obtain ⟨T92, X92, e92, st92⟩ := getF X90 hx hZ hown (host := "") (Or.inl (wd hw 21 rfl)) Via.refl e90 pr2 (g := (mkF m 39 #[.val (.ref a1), .val (.int p1), .val (.int 0)] [(.ref a1)])) rfl rfl (hb hby d4_39)
        refine Go.by (B := (T92.setTop (mkF m 42 #[.val (.ref a1), .val (.int p1), .val (.int 0)] [(.long q3)]))) st92 ?_
        refine Go.by (B := (T92.setTop (mkF m 44 #[.val (.ref a1), .val (.int p1), .val (.int 0)] [(.int (lcmpW q3 (0 : Int64)))]))) (fun _ k => XS.lconst X92.here hx rfl (hb hby d4_42) (XS.lcmp X92.here hx rfl (hb hby d4_43) rfl k)) ?_
        by_cases c93 : q3 = (0 : Int64)
        · skip
          refine Go.by (B := (T92.setTop (mkF m 48 #[.val (.ref a1), .val (.int p1), .val (.int 0)] [(.ref a1)]))) (fun _ k => XS.ifNo X92.here hx rfl (hb hby d4_44) rfl ((if0 _ _).trans (teq ((lw_eq _ _).mpr c93)).2) (XS.aloadN X92.here hx rfl (hb hby d4_47) rfl rfl k)) ?_
          obtain ⟨T94, X94, e94, st94⟩ := getF X92 hx hZ hown (host := "") (Or.inl (wd hw 23 rfl)) Via.refl e92 pr3 (g := (mkF m 48 #[.val (.ref a1), .val (.int p1), .val (.int 0)] [(.ref a1)])) rfl rfl (hb hby d4_48)
          refine Go.by (B := (T94.setTop (mkF m 51 #[.val (.ref a1), .val (.int p1), .val (.int 0)] [(.long q4)]))) st94 ?_
          refine Go.by (B := (T94.setTop (mkF m 53 #[.val (.ref a1), .val (.int p1), .val (.int 0)] [(.int (lcmpW q4 (0 : Int64)))]))) (fun _ k => XS.lconst X94.here hx rfl (hb hby d4_51) (XS.lcmp X94.here hx rfl (hb hby d4_52) rfl k)) ?_
          by_cases c95 : q4 = (0 : Int64)
          · skip
            refine Go.by (B := (T94.setTop (mkF m 65 #[.val (.ref a1), .val (.int p1), .val (.int 0)] [(.int 0)]))) (fun _ k => XS.ifNo X94.here hx rfl (hb hby d4_53) rfl ((if0 _ _).trans (teq ((lw_eq _ _).mpr c95)).2) (XS.iloadN X94.here hx rfl (hb hby d4_56) rfl (XS.ifYes X94.here hx rfl (pc0 := 57) (pc' := 64) rfl (hb hby d4_57) rfl ((if0 _ _).trans (teq (by decide : (0 : Int32) = (0 : Int32))).1) (by decide) (by decide) (XS.iconst X94.here hx rfl (hb hby d4_64) k)))) ?_
            refine Go.ret X94 hx hlk (t := .boolean) hret rfl (Or.inl ⟨rfl, by simp, _, rfl⟩) (hb hby d4_65) (by decide) (by decide) ?_
            rw [e94]
            exact ⟨(congrArg some (congrArg Value.int (by simp [c73, c83, c91, c93, c95]))), N82, rfl⟩
          · skip
            refine Go.by (B := (T94.setTop (mkF m 65 #[.val (.ref a1), .val (.int p1), .val (.int 0)] [(.int 0)]))) (fun _ k => XS.ifYes X94.here hx rfl (pc0 := 53) (pc' := 64) rfl (hb hby d4_53) rfl ((if0 _ _).trans (feq (fun q => c95 ((lw_eq _ _).mp q))).2) (by decide) (by decide) (XS.iconst X94.here hx rfl (hb hby d4_64) k)) ?_
            refine Go.ret X94 hx hlk (t := .boolean) hret rfl (Or.inl ⟨rfl, by simp, _, rfl⟩) (hb hby d4_65) (by decide) (by decide) ?_
            rw [e94]
            exact ⟨(congrArg some (congrArg Value.int (by simp [c73, c83, c91, c93, c95]))), N82, rfl⟩
        · skip
          refine Go.by (B := (T92.setTop (mkF m 65 #[.val (.ref a1), .val (.int p1), .val (.int 0)] [(.int 0)]))) (fun _ k => XS.ifYes X92.here hx rfl (pc0 := 44) (pc' := 64) rfl (hb hby d4_44) rfl ((if0 _ _).trans (feq (fun q => c93 ((lw_eq _ _).mp q))).2) (by decide) (by decide) (XS.iconst X92.here hx rfl (hb hby d4_64) k)) ?_
          refine Go.ret X92 hx hlk (t := .boolean) hret rfl (Or.inl ⟨rfl, by simp, _, rfl⟩) (hb hby d4_65) (by decide) (by decide) ?_
          rw [e92]
          exact ⟨(congrArg some (congrArg Value.int (by simp [c73, c83, c91, c93]))), N82, rfl⟩
      · skip
        refine Go.by (B := (T90.setTop (mkF m 65 #[.val (.ref a1), .val (.int p1), .val (.int 0)] [(.int 0)]))) (fun _ k => XS.ifYes X90.here hx rfl (pc0 := 35) (pc' := 64) rfl (hb hby d4_35) rfl ((if0 _ _).trans (feq (fun q => c91 ((lw_eq _ _).mp q))).2) (by decide) (by decide) (XS.iconst X90.here hx rfl (hb hby d4_64) k)) ?_
        refine Go.ret X90 hx hlk (t := .boolean) hret rfl (Or.inl ⟨rfl, by simp, _, rfl⟩) (hb hby d4_65) (by decide) (by decide) ?_
        rw [e90]
        exact ⟨(congrArg some (congrArg Value.int (by simp [c73, c83, c91]))), N82, rfl⟩
theorem ef_rm0 (m : MethodId) (x0 : Int64) (x1 : Int64) (x2 : Int64) (x3 : Int64) (x4 : Int64) (x5 : Int32) : entryFrame m #[(.long x0), (.long x1), (.long x2), (.long x3), (.long x4), (.int x5)] maxLocals = mkF m 0 #[.val (.long x0), .second, .val (.long x1), .second, .val (.long x2), .second, .val (.long x3), .second, .val (.long x4), .second, .val (.int x5), .unset, .unset, .unset, .unset, .unset, .unset, .unset, .unset, .unset, .unset, .unset, .unset, .unset, .unset] [] := by first | (simp [entryFrame, mkF, argsToLocals, Value.category, maxLocals]; done) | rfl
theorem pd_3 : parseMethodDescriptor "(J)Ljava/lang/Long;" = some ⟨[.long], some (.object "java/lang/Long")⟩ := by decide +kernel
theorem pd_4 : parseMethodDescriptor "(JJJJJLjava/lang/Long;)V" = some ⟨[.long, .long, .long, .long, .long, (.object "java/lang/Long")], none⟩ := by decide +kernel
theorem pd_5 : parseMethodDescriptor "(Z)Z" = some ⟨[.boolean], some .boolean⟩ := by decide +kernel
theorem pn_com_example_floodgauge_floodgauge_validate_ValidationPassedPinLaw : plainName "com/example/floodgauge/floodgauge/validate/ValidationPassedPinLaw" = true := by first | (simp [plainName, overriddenIn]; done) | decide +kernel
def Q_rm0 (Z : State) (m1 : Int64) (m2 : Int64) (m3 : Int64) (m4 : Int64) (m5 : Int64) (p6 : Int32) (wcJ : Addr) (clJ : Cell) (h0 : Heap) (n0 : Nat) (v : Option Value) (h : Heap) (L : List Loc) : Prop := v = some (.int 1) ∧ Fr n0 L
set_option maxRecDepth 65536 in
set_option maxHeartbeats 40000000 in
theorem rm0 (l : Launch) (Z : State) (a0 : Array Value) (hw : ∀ d ∈ tables_1, d.before a0 Z = true) (ws : List Jvm.Cond) (m1 : Int64) (m2 : Int64) (m3 : Int64) (m4 : Int64) (m5 : Int64) (p6 : Int32) (wcJ : Addr) (clJ : Cell) (h0 : Heap) (n0 : Nat) (Z0 : n0 ≤ h0.size) (pr0 : Old Z n0 h0) (pr1 : Sta Z Z.heap "java/lang/Long$LongCache" "cache" "[Ljava/lang/Long;" (.ref wcJ)) (hArJ : Arr Z Z.heap wcJ clJ (.object "java/lang/Long")) (hszJ : clJ.slots.size = 256) (helJ : ∀ j : Int32, ¬ j < 0 → j.toNatClampNeg < 256 → ∃ b, clJ.slots[j.toNatClampNeg]? = some (.ref b) ∧ Exa Z Z.heap b "java/lang/Long" ∧ Fld Z Z.heap b "java/lang/Long" "value" "J" (.long (j - 128).toInt64)) :
    Met l Z x code maxLocals ret ws room_1 #[(.long m1), (.long m2), (.long m3), (.long m4), (.long m5), (.int p6)] h0 (Q_rm0 Z m1 m2 m3 m4 m5 p6 wcJ clJ h0 n0) := by
  refine Met.enter (f0 := fun m => mkF m 0 #[.val (.long m1), .second, .val (.long m2), .second, .val (.long m3), .second, .val (.long m4), .second, .val (.long m5), .second, .val (.int p6), .unset, .unset, .unset, .unset, .unset, .unset, .unset, .unset, .unset, .unset, .unset, .unset, .unset, .unset] []) (plainFor_of_name pn_com_example_floodgauge_floodgauge_validate_ValidationPassedPinLaw) (fun m => ef_rm0 m m1 m2 m3 m4 m5 p6) ?_
  intro p e s m below meth c s₁ hx hby hml hown hnm hret hlk hZ X0 e0
  have hown : s.vm.findClass "com/example/floodgauge/floodgauge/validate/ValidationPassedPinLaw" = some m.cls := hown
  have hnm : meth.name = "law" := hnm
  have hml : c.maxLocals = 25 := hml
  have hby : c.code = code := hby
  have N0 := Fr.nil n0
  obtain ⟨lc96, X96, N96⟩ : ∃ lc, Stand p l e room_1 s m #[(.long m1), (.long m2), (.long m3), (.long m4), (.long m5), (.int p6)] below meth c s₁ lc 0 0 ∧ Fr n0 lc := ⟨_, X0, N0⟩
  have e96 : s₁.heap = h0 := e0
  have J96 : ∀ (T97 : State) (X97 : Stand p l e room_1 s m #[(.long m1), (.long m2), (.long m3), (.long m4), (.long m5), (.int p6)] below meth c T97 lc96 0 0) (e97 : T97.heap = h0) (once97 : Int32), Go p e below (PostW s room_1.cells room_1.slots (Q_rm0 Z m1 m2 m3 m4 m5 p6 wcJ clJ h0 n0)) (T97.setTop (mkF m 12 #[.val (.long m1), .second, .val (.long m2), .second, .val (.long m3), .second, .val (.long m4), .second, .val (.long m5), .second, .val (.int p6), .unset, .unset, .unset, .unset, .unset, .unset, .unset, .unset, .unset, .unset, .unset, .unset, .unset, .unset] [(.int once97)])) := by
    intro T97 X97 e97 once97
    refine Go.by (B := (T97.setTop (mkF m 14 #[.val (.long m1), .second, .val (.long m2), .second, .val (.long m3), .second, .val (.long m4), .second, .val (.long m5), .second, .val (.int p6), .val (.int once97), .unset, .unset, .unset, .unset, .unset, .unset, .unset, .unset, .unset, .unset, .unset, .unset, .unset] []))) (fun _ k => XS.istore X97.here hx rfl (hb hby at_12) rfl (l' := #[.val (.long m1), .second, .val (.long m2), .second, .val (.long m3), .second, .val (.long m4), .second, .val (.long m5), .second, .val (.int p6), .val (.int once97), .unset, .unset, .unset, .unset, .unset, .unset, .unset, .unset, .unset, .unset, .unset, .unset, .unset]) rfl k) ?_
    obtain ⟨lc98, X98, N98⟩ : ∃ lc, Stand p l e room_1 s m #[(.long m1), (.long m2), (.long m3), (.long m4), (.long m5), (.int p6)] below meth c T97 lc 0 0 ∧ Fr n0 lc := ⟨_, X97, N96⟩
    have e98 : T97.heap = h0 := e97
    have J98 : ∀ (T99 : State) (X99 : Stand p l e room_1 s m #[(.long m1), (.long m2), (.long m3), (.long m4), (.long m5), (.int p6)] below meth c T99 lc98 0 0) (e99 : T99.heap = h0) (mi99 : Int64), Go p e below (PostW s room_1.cells room_1.slots (Q_rm0 Z m1 m2 m3 m4 m5 p6 wcJ clJ h0 n0)) (T99.setTop (mkF m 26 #[.val (.long m1), .second, .val (.long m2), .second, .val (.long m3), .second, .val (.long m4), .second, .val (.long m5), .second, .val (.int p6), .val (.int once97), .unset, .unset, .unset, .unset, .unset, .unset, .unset, .unset, .unset, .unset, .unset, .unset, .unset] [(.long mi99)])) := by
      intro T99 X99 e99 mi99
      refine Go.by (B := (T99.setTop (mkF m 28 #[.val (.long m1), .second, .val (.long m2), .second, .val (.long m3), .second, .val (.long m4), .second, .val (.long m5), .second, .val (.int p6), .val (.int once97), .val (.long mi99), .second, .unset, .unset, .unset, .unset, .unset, .unset, .unset, .unset, .unset, .unset, .unset] []))) (fun _ k => XS.lstore X99.here hx rfl (hb hby at_26) rfl (l' := #[.val (.long m1), .second, .val (.long m2), .second, .val (.long m3), .second, .val (.long m4), .second, .val (.long m5), .second, .val (.int p6), .val (.int once97), .val (.long mi99), .second, .unset, .unset, .unset, .unset, .unset, .unset, .unset, .unset, .unset, .unset, .unset]) rfl k) ?_
      obtain ⟨lc100, X100, N100⟩ : ∃ lc, Stand p l e room_1 s m #[(.long m1), (.long m2), (.long m3), (.long m4), (.long m5), (.int p6)] below meth c T99 lc 0 0 ∧ Fr n0 lc := ⟨_, X99, N98⟩
      have e100 : T99.heap = h0 := e99
      have J100 : ∀ (T101 : State) (X101 : Stand p l e room_1 s m #[(.long m1), (.long m2), (.long m3), (.long m4), (.long m5), (.int p6)] below meth c T101 lc100 0 0) (e101 : T101.heap = h0) (wr101 : Int64), Go p e below (PostW s room_1.cells room_1.slots (Q_rm0 Z m1 m2 m3 m4 m5 p6 wcJ clJ h0 n0)) (T101.setTop (mkF m 40 #[.val (.long m1), .second, .val (.long m2), .second, .val (.long m3), .second, .val (.long m4), .second, .val (.long m5), .second, .val (.int p6), .val (.int once97), .val (.long mi99), .second, .unset, .unset, .unset, .unset, .unset, .unset, .unset, .unset, .unset, .unset, .unset] [(.long wr101)])) := by
        intro T101 X101 e101 wr101
        refine Go.by (B := (T101.setTop (mkF m 42 #[.val (.long m1), .second, .val (.long m2), .second, .val (.long m3), .second, .val (.long m4), .second, .val (.long m5), .second, .val (.int p6), .val (.int once97), .val (.long mi99), .second, .val (.long wr101), .second, .unset, .unset, .unset, .unset, .unset, .unset, .unset, .unset, .unset] []))) (fun _ k => XS.lstore X101.here hx rfl (hb hby at_40) rfl (l' := #[.val (.long m1), .second, .val (.long m2), .second, .val (.long m3), .second, .val (.long m4), .second, .val (.long m5), .second, .val (.int p6), .val (.int once97), .val (.long mi99), .second, .val (.long wr101), .second, .unset, .unset, .unset, .unset, .unset, .unset, .unset, .unset, .unset]) rfl k) ?_
        obtain ⟨lc102, X102, N102⟩ : ∃ lc, Stand p l e room_1 s m #[(.long m1), (.long m2), (.long m3), (.long m4), (.long m5), (.int p6)] below meth c T101 lc 0 0 ∧ Fr n0 lc := ⟨_, X101, N100⟩
        have e102 : T101.heap = h0 := e101
        have J102 : ∀ (T103 : State) (X103 : Stand p l e room_1 s m #[(.long m1), (.long m2), (.long m3), (.long m4), (.long m5), (.int p6)] below meth c T103 lc102 0 0) (e103 : T103.heap = h0) (ex103 : Int64), Go p e below (PostW s room_1.cells room_1.slots (Q_rm0 Z m1 m2 m3 m4 m5 p6 wcJ clJ h0 n0)) (T103.setTop (mkF m 56 #[.val (.long m1), .second, .val (.long m2), .second, .val (.long m3), .second, .val (.long m4), .second, .val (.long m5), .second, .val (.int p6), .val (.int once97), .val (.long mi99), .second, .val (.long wr101), .second, .unset, .unset, .unset, .unset, .unset, .unset, .unset, .unset, .unset] [(.long ex103)])) := by
          intro T103 X103 e103 ex103
          refine Go.by (B := (T103.setTop (mkF m 64 #[.val (.long m1), .second, .val (.long m2), .second, .val (.long m3), .second, .val (.long m4), .second, .val (.long m5), .second, .val (.int p6), .val (.int once97), .val (.long mi99), .second, .val (.long wr101), .second, .val (.long ex103), .second, .unset, .unset, .unset, .unset, .unset, .unset, .unset] [(.int (((p6.toUInt32 >>> ((4 : Int32) &&& 31).toUInt32).toInt32) &&& (3 : Int32)))]))) (fun _ k => XS.lstore X103.here hx rfl (hb hby at_56) rfl (l' := #[.val (.long m1), .second, .val (.long m2), .second, .val (.long m3), .second, .val (.long m4), .second, .val (.long m5), .second, .val (.int p6), .val (.int once97), .val (.long mi99), .second, .val (.long wr101), .second, .val (.long ex103), .second, .unset, .unset, .unset, .unset, .unset, .unset, .unset]) rfl (XS.iload X103.here hx rfl (hb hby at_58) rfl (XS.iconst X103.here hx rfl (hb hby at_60) (XS.iushr X103.here hx rfl (hb hby at_61) rfl (XS.iconst X103.here hx rfl (hb hby at_62) (XS.iand X103.here hx rfl (hb hby at_63) rfl k)))))) ?_
          obtain ⟨v104, hv104⟩ : ∃ v, v = (((p6.toUInt32 >>> ((4 : Int32) &&& 31).toUInt32).toInt32) &&& (3 : Int32)) := ⟨_, rfl⟩
          refine Go.by (B := (T103.setTop (mkF m 75 #[.val (.long m1), .second, .val (.long m2), .second, .val (.long m3), .second, .val (.long m4), .second, .val (.long m5), .second, .val (.int p6), .val (.int once97), .val (.long mi99), .second, .val (.long wr101), .second, .val (.long ex103), .second, .val (.int v104), .val .null, .val (.long (0 : Int64)), .second, .unset, .unset, .unset] [(.int 1), (.int v104)]))) (fun _ k => XS.istore (x := v104) (rest := []) X103.here hx rfl (hb hby at_64) (by rw [hv104]) (l' := #[.val (.long m1), .second, .val (.long m2), .second, .val (.long m3), .second, .val (.long m4), .second, .val (.long m5), .second, .val (.int p6), .val (.int once97), .val (.long mi99), .second, .val (.long wr101), .second, .val (.long ex103), .second, .val (.int v104), .unset, .unset, .unset, .unset, .unset, .unset]) rfl (XS.aconstNull X103.here hx rfl (hb hby at_66) (XS.astore X103.here hx rfl (hb hby at_67) rfl rfl (l' := #[.val (.long m1), .second, .val (.long m2), .second, .val (.long m3), .second, .val (.long m4), .second, .val (.long m5), .second, .val (.int p6), .val (.int once97), .val (.long mi99), .second, .val (.long wr101), .second, .val (.long ex103), .second, .val (.int v104), .val .null, .unset, .unset, .unset, .unset, .unset]) rfl (XS.lconst X103.here hx rfl (hb hby at_69) (XS.lstore X103.here hx rfl (hb hby at_70) rfl (l' := #[.val (.long m1), .second, .val (.long m2), .second, .val (.long m3), .second, .val (.long m4), .second, .val (.long m5), .second, .val (.int p6), .val (.int once97), .val (.long mi99), .second, .val (.long wr101), .second, .val (.long ex103), .second, .val (.int v104), .val .null, .val (.long (0 : Int64)), .second, .unset, .unset, .unset]) rfl (XS.iload X103.here hx rfl (hb hby at_72) rfl (XS.iconst X103.here hx rfl (hb hby at_74) k))))))) ?_
          by_cases c105 : v104 = (1 : Int32)
          · skip
            refine Go.by (B := (T103.setTop (mkF m 79 #[.val (.long m1), .second, .val (.long m2), .second, .val (.long m3), .second, .val (.long m4), .second, .val (.long m5), .second, .val (.int p6), .val (.int once97), .val (.long mi99), .second, .val (.long wr101), .second, .val (.long ex103), .second, .val (.int v104), .val .null, .val (.long (0 : Int64)), .second, .unset, .unset, .unset] [(.long (0 : Int64))]))) (fun _ k => XS.icmpNo X103.here hx rfl (hb hby at_75) rfl (teq c105).2 (XS.lconst X103.here hx rfl (hb hby at_78) k)) ?_
            obtain ⟨_, _, ⟨T106, L106, k106, n106⟩, -, X106, ⟨Lc106, hQ106, l106, y106, z106⟩, st106⟩ := Jvm.LawKit.callS X103 hx (y := (⟨"java/lang/Long", "valueOf", "(J)Ljava/lang/Long;"⟩ : MethodName)) hown (mvT hZ (wd hw 32 rfl)) (mvT hZ (wd hw 33 rfl)) (mvT hZ (wd hw 34 rfl)) (mvT hZ (wd hw 35 rfl)) (by decide) (backOf (W := 0) (rm_Long_valueOf l Z a0 hw [] (0 : Int64) wcJ clJ h0 n0 Z0 pr0 pr1 hArJ hszJ helJ) hZ (wd hw 35 rfl) (wd hw 34 rfl) (by decide) (by decide)) (g := (mkF m 79 #[.val (.long m1), .second, .val (.long m2), .second, .val (.long m3), .second, .val (.long m4), .second, .val (.long m5), .second, .val (.int p6), .val (.int once97), .val (.long mi99), .second, .val (.long wr101), .second, .val (.long ex103), .second, .val (.int v104), .val .null, .val (.long (0 : Int64)), .second, .unset, .unset, .unset] [(.long (0 : Int64))])) rfl (by rw [hml]; rfl) (argsL := [(.long (0 : Int64))]) (rest := []) (lenOf pd_3 rfl) rfl (by show 2 * 0 + _ ≤ _; exact Nat.le_of_eq rfl) (hb hby at_79) (fun _ _ => ⟨rfl, e103, Nat.le_of_ble_eq_true rfl, Nat.le_of_ble_eq_true rfl⟩)
            dsimp only [Pt.U, Pt.locs, Pt.cells, Pt.slots] at X106 l106 y106 z106 st106 hQ106
            subst l106 y106 z106
            obtain ⟨b106, rfl, Nq106, K106, p106_0, p106_1⟩ := hQ106
            have N106 := Fr.app N102 Nq106
            have O107 := pr0.keep K106 all0
            have Z107 : n0 ≤ T106.heap.size := Nat.le_trans Z0 K106.1
            refine Go.by (B := (T106.setTop (mkF m 82 #[.val (.long m1), .second, .val (.long m2), .second, .val (.long m3), .second, .val (.long m4), .second, .val (.long m5), .second, .val (.int p6), .val (.int once97), .val (.long mi99), .second, .val (.long wr101), .second, .val (.long ex103), .second, .val (.int v104), .val .null, .val (.long (0 : Int64)), .second, .unset, .unset, .unset] [(.ref b106)]))) (fun _ k => st106 _ k) ?_
            refine Go.by (B := (T106.setTop (mkF m 104 #[.val (.long m1), .second, .val (.long m2), .second, .val (.long m3), .second, .val (.long m4), .second, .val (.long m5), .second, .val (.int p6), .val (.int once97), .val (.long mi99), .second, .val (.long wr101), .second, .val (.long ex103), .second, .val (.int v104), .val (.ref b106), .val (.long (0 : Int64)), .second, .unset, .unset, .unset] []))) (fun _ k => XS.astore X106.here hx rfl (hb hby at_82) rfl rfl (l' := #[.val (.long m1), .second, .val (.long m2), .second, .val (.long m3), .second, .val (.long m4), .second, .val (.long m5), .second, .val (.int p6), .val (.int once97), .val (.long mi99), .second, .val (.long wr101), .second, .val (.long ex103), .second, .val (.int v104), .val (.ref b106), .val (.long (0 : Int64)), .second, .unset, .unset, .unset]) rfl (XS.goto X106.here hx rfl (pc0 := 84) (pc' := 104) rfl (hb hby at_84) (by decide) (by decide) k)) ?_
            obtain ⟨T108, h108, X108, e108, E108, A108, D108, -, st108⟩ := newO X106 hx hZ hown (wd hw 0 rfl) (wd hw 1 rfl) (wd hw 2 rfl) rfl (g := (mkF m 104 #[.val (.long m1), .second, .val (.long m2), .second, .val (.long m3), .second, .val (.long m4), .second, .val (.long m5), .second, .val (.int p6), .val (.int once97), .val (.long mi99), .second, .val (.long wr101), .second, .val (.long ex103), .second, .val (.int v104), .val (.ref b106), .val (.long (0 : Int64)), .second, .unset, .unset, .unset] [])) rfl (hb hby at_104) (by decide) (by decide)
            obtain ⟨b108, g108⟩ : ∃ z, z = T106.heap.size := ⟨_, rfl⟩
            rw [← g108] at A108 D108 st108
            have sz_b108 : T106.heap.size ≤ b108 := Nat.le_of_eq g108.symm
            have O109 := O107.ext E108
            have Z109 : n0 ≤ h108.size := Nat.le_trans Z107 E108.1
            have F110 : Fld Z h108 b108 "com/example/floodgauge/floodgauge/validate/Validation" "expected" "J" (.long (0 : Int64)) := D108 (Or.inr (wd hw 16 rfl)) (ty := .long) (by decide)
            have F111 : Fld Z h108 b108 "com/example/floodgauge/floodgauge/validate/Validation" "matched" "J" (.long (0 : Int64)) := D108 (Or.inr (wd hw 18 rfl)) (ty := .long) (by decide)
            have F112 : Fld Z h108 b108 "com/example/floodgauge/floodgauge/validate/Validation" "missing" "J" (.long (0 : Int64)) := D108 (Or.inr (wd hw 20 rfl)) (ty := .long) (by decide)
            have F113 : Fld Z h108 b108 "com/example/floodgauge/floodgauge/validate/Validation" "wrong" "J" (.long (0 : Int64)) := D108 (Or.inr (wd hw 22 rfl)) (ty := .long) (by decide)
            have F114 : Fld Z h108 b108 "com/example/floodgauge/floodgauge/validate/Validation" "extra" "J" (.long (0 : Int64)) := D108 (Or.inr (wd hw 24 rfl)) (ty := .long) (by decide)
            have F115 : Fld Z h108 b108 "com/example/floodgauge/floodgauge/validate/Validation" "duplicates" "Ljava/lang/Long;" .null := D108 (Or.inr (wd hw 26 rfl)) (ty := (.object "java/lang/Long")) (by decide)
            refine Go.by (B := (T108.setTop (mkF m 107 #[.val (.long m1), .second, .val (.long m2), .second, .val (.long m3), .second, .val (.long m4), .second, .val (.long m5), .second, .val (.int p6), .val (.int once97), .val (.long mi99), .second, .val (.long wr101), .second, .val (.long ex103), .second, .val (.int v104), .val (.ref b106), .val (.long (0 : Int64)), .second, .unset, .unset, .unset] [(.ref b108)]))) st108 ?_
            refine Go.by (B := (T108.setTop (mkF m 122 #[.val (.long m1), .second, .val (.long m2), .second, .val (.long m3), .second, .val (.long m4), .second, .val (.long m5), .second, .val (.int p6), .val (.int once97), .val (.long mi99), .second, .val (.long wr101), .second, .val (.long ex103), .second, .val (.int v104), .val (.ref b106), .val (.long (0 : Int64)), .second, .unset, .unset, .unset] [(.long ex103), (.long wr101), (.long mi99), (.long (m5 ^^^ (-1 : Int64))), (.long m5), (.ref b108), (.ref b108)]))) (fun _ k => XS.dup X108.here hx rfl (hb hby at_107) rfl rfl (XS.lload X108.here hx rfl (hb hby at_108) rfl (XS.lload X108.here hx rfl (hb hby at_110) rfl (X108.ldc2Long hx hown (mvT hZ (wd hw 3 rfl)) (g := (mkF m 112 #[.val (.long m1), .second, .val (.long m2), .second, .val (.long m3), .second, .val (.long m4), .second, .val (.long m5), .second, .val (.int p6), .val (.int once97), .val (.long mi99), .second, .val (.long wr101), .second, .val (.long ex103), .second, .val (.int v104), .val (.ref b106), .val (.long (0 : Int64)), .second, .unset, .unset, .unset] [(.long m5), (.long m5), (.ref b108), (.ref b108)])) rfl (hb hby at_112) _ (XS.lxor X108.here hx rfl (hb hby at_115) rfl (XS.lload X108.here hx rfl (hb hby at_116) rfl (XS.lload X108.here hx rfl (hb hby at_118) rfl (XS.lload X108.here hx rfl (hb hby at_120) rfl k)))))))) ?_
            refine Go.by (B := (T108.setTop (mkF m 124 #[.val (.long m1), .second, .val (.long m2), .second, .val (.long m3), .second, .val (.long m4), .second, .val (.long m5), .second, .val (.int p6), .val (.int once97), .val (.long mi99), .second, .val (.long wr101), .second, .val (.long ex103), .second, .val (.int v104), .val (.ref b106), .val (.long (0 : Int64)), .second, .unset, .unset, .unset] [(.ref b106), (.long ex103), (.long wr101), (.long mi99), (.long (m5 ^^^ (-1 : Int64))), (.long m5), (.ref b108), (.ref b108)]))) (fun _ k => XS.aload X108.here hx rfl (hb hby at_122) rfl rfl k) ?_
            obtain ⟨_, _, ⟨T116, L116, k116, n116⟩, -, X116, ⟨Lc116, hQ116, l116, y116, z116⟩, st116⟩ := X108.specialBack hx (y := (⟨"com/example/floodgauge/floodgauge/validate/Validation", "<init>", "(JJJJJLjava/lang/Long;)V"⟩ : MethodName)) rfl hown (mvT hZ (wd hw 4 rfl)) (mvT hZ (wd hw 5 rfl)) (mvT hZ (wd hw 6 rfl)) (by decide) (backOf (W := 1) (rm_ini_r l Z a0 hw [] b108 m5 (m5 ^^^ (-1 : Int64)) mi99 wr101 ex103 b106 h108 n0 Z109 O109 A108 F110 F111 F112 F113 F114 F115 (Nat.le_trans Z107 sz_b108)) hZ (wd hw 6 rfl) (wd hw 2 rfl) (by decide) (by decide)) (g := (mkF m 124 #[.val (.long m1), .second, .val (.long m2), .second, .val (.long m3), .second, .val (.long m4), .second, .val (.long m5), .second, .val (.int p6), .val (.int once97), .val (.long mi99), .second, .val (.long wr101), .second, .val (.long ex103), .second, .val (.int v104), .val (.ref b106), .val (.long (0 : Int64)), .second, .unset, .unset, .unset] [(.ref b106), (.long ex103), (.long wr101), (.long mi99), (.long (m5 ^^^ (-1 : Int64))), (.long m5), (.ref b108), (.ref b108)])) rfl (by rw [hml]; rfl) (Steps.refl _) (a := b108) (argsL := [(.long m5), (.long (m5 ^^^ (-1 : Int64))), (.long mi99), (.long wr101), (.long ex103), (.ref b106)]) (rest := [(.ref b108)]) (lenOf pd_4 rfl) rfl (by show 2 * 0 + _ ≤ _; exact Nat.le_of_eq rfl) (hb hby at_124) (fun _ _ => ⟨rfl, e108, Nat.le_of_ble_eq_true rfl, Nat.le_of_ble_eq_true rfl⟩)
            dsimp only [Pt.U, Pt.locs, Pt.cells, Pt.slots] at X116 l116 y116 z116 st116 hQ116
            subst l116 y116 z116
            obtain ⟨rfl, Nq116, K116, p116_0, p116_1, p116_2, p116_3, p116_4, p116_5, p116_6⟩ := hQ116
            have N116 := Fr.app N106 Nq116
            have O117 := O109.keep K116 (allS (Nat.le_trans Z107 sz_b108) all0)
            have Z117 : n0 ≤ T116.heap.size := Nat.le_trans Z109 K116.1
            refine Go.by (B := (T116.setTop (mkF m 127 #[.val (.long m1), .second, .val (.long m2), .second, .val (.long m3), .second, .val (.long m4), .second, .val (.long m5), .second, .val (.int p6), .val (.int once97), .val (.long mi99), .second, .val (.long wr101), .second, .val (.long ex103), .second, .val (.int v104), .val (.ref b106), .val (.long (0 : Int64)), .second, .unset, .unset, .unset] [(.ref b108)]))) (fun _ k => st116.trans k) ?_
            refine Go.by (B := (T116.setTop (mkF m 133 #[.val (.long m1), .second, .val (.long m2), .second, .val (.long m3), .second, .val (.long m4), .second, .val (.long m5), .second, .val (.int p6), .val (.int once97), .val (.long mi99), .second, .val (.long wr101), .second, .val (.long ex103), .second, .val (.int v104), .val (.ref b106), .val (.long (0 : Int64)), .second, .val (.ref b108), .unset, .unset] [(.int once97), (.ref b108)]))) (fun _ k => XS.astore X116.here hx rfl (hb hby at_127) rfl rfl (l' := #[.val (.long m1), .second, .val (.long m2), .second, .val (.long m3), .second, .val (.long m4), .second, .val (.long m5), .second, .val (.int p6), .val (.int once97), .val (.long mi99), .second, .val (.long wr101), .second, .val (.long ex103), .second, .val (.int v104), .val (.ref b106), .val (.long (0 : Int64)), .second, .val (.ref b108), .unset, .unset]) rfl (XS.aload X116.here hx rfl (hb hby at_129) rfl rfl (XS.iload X116.here hx rfl (hb hby at_131) rfl k))) ?_
            have f118 := ((p106_1.ext E108).keep K116 (ninS (Nat.ne_of_lt (Nat.lt_of_lt_of_le p106_0.lt sz_b108)) nin0))
            obtain ⟨cq119, kq119, q119a, q119b, q119c⟩ := isOf hZ rfl p116_0
            obtain ⟨_, _, ⟨T119, L119, k119, n119⟩, -, X119, ⟨Lc119, hQ119, l119, y119, z119⟩, st119⟩ := X116.virtualBack hx (y := (⟨"com/example/floodgauge/floodgauge/validate/Validation", "passed", "(Z)Z"⟩ : MethodName)) (z := (⟨"com/example/floodgauge/floodgauge/validate/Validation", "passed", "(Z)Z"⟩ : MethodName)) hown (mvT hZ (wd hw 27 rfl)) (mvT hZ (wd hw 28 rfl)) (notFace_of_selects (args := #[]) (mvT hZ (wd hw 30 rfl))) (mvT hZ (wd hw 30 rfl)) (mvT hZ (wd hw 29 rfl)) (by decide) (backOf (W := 0) (rm_passed_r l Z a0 hw [] b108 once97 mi99 wr101 ex103 b106 (0 : Int64) T116.heap n0 Z117 p116_6 p116_3 p116_4 p116_5 ((p106_0.ext E108).keep K116) f118) hZ (wd hw 31 rfl) (wd hw 2 rfl) (by decide) (by decide)) q119a q119c (g := (mkF m 133 #[.val (.long m1), .second, .val (.long m2), .second, .val (.long m3), .second, .val (.long m4), .second, .val (.long m5), .second, .val (.int p6), .val (.int once97), .val (.long mi99), .second, .val (.long wr101), .second, .val (.long ex103), .second, .val (.int v104), .val (.ref b106), .val (.long (0 : Int64)), .second, .val (.ref b108), .unset, .unset] [(.int once97), (.ref b108)])) rfl (by rw [hml]; rfl) (Steps.refl _) (argsL := [(.int once97)]) (rest := []) (lenOf pd_5 rfl) rfl (by show 2 * 0 + _ ≤ _; exact Nat.le_of_eq rfl) (hb hby at_133) (fun _ _ => ⟨rfl, rfl, Nat.le_of_ble_eq_true rfl, Nat.le_of_ble_eq_true rfl⟩)
            dsimp only [Pt.U, Pt.locs, Pt.cells, Pt.slots] at X119 l119 y119 z119 st119 hQ119
            subst l119 y119 z119
            obtain ⟨rfl, Nq119, hh119⟩ := hQ119
            have N119 := Fr.app N116 Nq119
            refine Go.by (B := (T119.setTop (mkF m 136 #[.val (.long m1), .second, .val (.long m2), .second, .val (.long m3), .second, .val (.long m4), .second, .val (.long m5), .second, .val (.int p6), .val (.int once97), .val (.long mi99), .second, .val (.long wr101), .second, .val (.long ex103), .second, .val (.int v104), .val (.ref b106), .val (.long (0 : Int64)), .second, .val (.ref b108), .unset, .unset] [(.int (if mi99 = 0 ∧ wr101 = 0 ∧ ex103 = 0 ∧ (once97 = 0 ∨ (0 : Int64) = 0) then (1 : Int32) else 0))]))) (fun _ k => st119.trans k) ?_
            obtain ⟨v120, hv120⟩ : ∃ v, v = (if mi99 = 0 ∧ wr101 = 0 ∧ ex103 = 0 ∧ (once97 = 0 ∨ (0 : Int64) = 0) then (1 : Int32) else 0) := ⟨_, rfl⟩
            refine Go.by (B := (T119.setTop (mkF m 142 #[.val (.long m1), .second, .val (.long m2), .second, .val (.long m3), .second, .val (.long m4), .second, .val (.long m5), .second, .val (.int p6), .val (.int once97), .val (.long mi99), .second, .val (.long wr101), .second, .val (.long ex103), .second, .val (.int v104), .val (.ref b106), .val (.long (0 : Int64)), .second, .val (.ref b108), .val (.int v120), .unset] [(.int (lcmpW mi99 (0 : Int64)))]))) (fun _ k => XS.istore (x := v120) (rest := []) X119.here hx rfl (hb hby at_136) (by rw [hv120]) (l' := #[.val (.long m1), .second, .val (.long m2), .second, .val (.long m3), .second, .val (.long m4), .second, .val (.long m5), .second, .val (.int p6), .val (.int once97), .val (.long mi99), .second, .val (.long wr101), .second, .val (.long ex103), .second, .val (.int v104), .val (.ref b106), .val (.long (0 : Int64)), .second, .val (.ref b108), .val (.int v120), .unset]) rfl (XS.lload X119.here hx rfl (hb hby at_138) rfl (XS.lconst X119.here hx rfl (hb hby at_140) (XS.lcmp X119.here hx rfl (hb hby at_141) rfl k)))) ?_
            by_cases c121 : mi99 = (0 : Int64)
            · skip
              refine Go.by (B := (T119.setTop (mkF m 155 #[.val (.long m1), .second, .val (.long m2), .second, .val (.long m3), .second, .val (.long m4), .second, .val (.long m5), .second, .val (.int p6), .val (.int once97), .val (.long mi99), .second, .val (.long wr101), .second, .val (.long ex103), .second, .val (.int v104), .val (.ref b106), .val (.long (0 : Int64)), .second, .val (.ref b108), .val (.int v120), .unset] [(.int (lcmpW wr101 (0 : Int64)))]))) (fun _ k => XS.ifYes X119.here hx rfl (pc0 := 142) (pc' := 151) rfl (hb hby at_142) rfl ((if0 _ _).trans (teq ((lw_eq _ _).mpr c121)).1) (by decide) (by decide) (XS.lload X119.here hx rfl (hb hby at_151) rfl (XS.lconst X119.here hx rfl (hb hby at_153) (XS.lcmp X119.here hx rfl (hb hby at_154) rfl k)))) ?_
              by_cases c122 : wr101 = (0 : Int64)
              · skip
                refine Go.by (B := (T119.setTop (mkF m 168 #[.val (.long m1), .second, .val (.long m2), .second, .val (.long m3), .second, .val (.long m4), .second, .val (.long m5), .second, .val (.int p6), .val (.int once97), .val (.long mi99), .second, .val (.long wr101), .second, .val (.long ex103), .second, .val (.int v104), .val (.ref b106), .val (.long (0 : Int64)), .second, .val (.ref b108), .val (.int v120), .unset] [(.int (lcmpW ex103 (0 : Int64)))]))) (fun _ k => XS.ifYes X119.here hx rfl (pc0 := 155) (pc' := 164) rfl (hb hby at_155) rfl ((if0 _ _).trans (teq ((lw_eq _ _).mpr c122)).1) (by decide) (by decide) (XS.lload X119.here hx rfl (hb hby at_164) rfl (XS.lconst X119.here hx rfl (hb hby at_166) (XS.lcmp X119.here hx rfl (hb hby at_167) rfl k)))) ?_
                by_cases c123 : ex103 = (0 : Int64)
                · skip
                  refine Go.by (B := (T119.setTop (mkF m 179 #[.val (.long m1), .second, .val (.long m2), .second, .val (.long m3), .second, .val (.long m4), .second, .val (.long m5), .second, .val (.int p6), .val (.int once97), .val (.long mi99), .second, .val (.long wr101), .second, .val (.long ex103), .second, .val (.int v104), .val (.ref b106), .val (.long (0 : Int64)), .second, .val (.ref b108), .val (.int v120), .unset] [(.int once97)]))) (fun _ k => XS.ifYes X119.here hx rfl (pc0 := 168) (pc' := 177) rfl (hb hby at_168) rfl ((if0 _ _).trans (teq ((lw_eq _ _).mpr c123)).1) (by decide) (by decide) (XS.iload X119.here hx rfl (hb hby at_177) rfl k)) ?_
                  by_cases c124 : once97 = (0 : Int32)
                  · skip
                    refine Go.by (B := (T119.setTop (mkF m 221 #[.val (.long m1), .second, .val (.long m2), .second, .val (.long m3), .second, .val (.long m4), .second, .val (.long m5), .second, .val (.int p6), .val (.int once97), .val (.long mi99), .second, .val (.long wr101), .second, .val (.long ex103), .second, .val (.int v104), .val (.ref b106), .val (.long (0 : Int64)), .second, .val (.ref b108), .val (.int v120), .val (.int 1)] [(.int 1)]))) (fun _ k => XS.ifNo X119.here hx rfl (hb hby at_179) rfl ((if0 _ _).trans (teq c124).2) (XS.iconst X119.here hx rfl (hb hby at_182) (XS.istore X119.here hx rfl (hb hby at_183) rfl (l' := #[.val (.long m1), .second, .val (.long m2), .second, .val (.long m3), .second, .val (.long m4), .second, .val (.long m5), .second, .val (.int p6), .val (.int once97), .val (.long mi99), .second, .val (.long wr101), .second, .val (.long ex103), .second, .val (.int v104), .val (.ref b106), .val (.long (0 : Int64)), .second, .val (.ref b108), .val (.int v120), .val (.int 1)]) rfl (XS.goto X119.here hx rfl (pc0 := 185) (pc' := 213) rfl (hb hby at_185) (by decide) (by decide) (XS.iload X119.here hx rfl (hb hby at_213) rfl (XS.iload X119.here hx rfl (hb hby at_215) rfl (XS.icmpNo X119.here hx rfl (hb hby at_217) rfl (teq (by rw [hv120]; simp [hszJ, c105, c121, c122, c123, c124] : v120 = (1 : Int32))).2 (XS.iconst X119.here hx rfl (hb hby at_220) k)))))))) ?_
                    refine Go.by (B := (T119.setTop (mkF m 225 #[.val (.long m1), .second, .val (.long m2), .second, .val (.long m3), .second, .val (.long m4), .second, .val (.long m5), .second, .val (.int p6), .val (.int once97), .val (.long mi99), .second, .val (.long wr101), .second, .val (.long ex103), .second, .val (.int v104), .val (.ref b106), .val (.long (0 : Int64)), .second, .val (.ref b108), .val (.int v120), .val (.int 1)] [(.int 1)]))) (fun _ k => XS.goto X119.here hx rfl (pc0 := 221) (pc' := 225) rfl (hb hby at_221) (by decide) (by decide) k) ?_
                    refine Go.ret X119 hx hlk (t := .boolean) hret rfl (Or.inl ⟨rfl, by simp, _, rfl⟩) (hb hby at_225) (by decide) (by decide) ?_
                    exact ⟨rfl, N119⟩
                  · skip
                    refine Go.by (B := (T119.setTop (mkF m 207 #[.val (.long m1), .second, .val (.long m2), .second, .val (.long m3), .second, .val (.long m4), .second, .val (.long m5), .second, .val (.int p6), .val (.int once97), .val (.long mi99), .second, .val (.long wr101), .second, .val (.long ex103), .second, .val (.int v104), .val (.ref b106), .val (.long (0 : Int64)), .second, .val (.ref b108), .val (.int v120), .unset] [(.int 1)]))) (fun _ k => XS.ifYes X119.here hx rfl (pc0 := 179) (pc' := 188) rfl (hb hby at_179) rfl ((if0 _ _).trans (feq c124).2) (by decide) (by decide) (XS.iload X119.here hx rfl (hb hby at_188) rfl (XS.ifYes X119.here hx rfl (pc0 := 190) (pc' := 199) rfl (hb hby at_190) rfl ((if0 _ _).trans (feq (by rw [c105]; decide : ¬ (v104 = (0 : Int32)))).2) (by decide) (by decide) (XS.lload X119.here hx rfl (hb hby at_199) rfl (XS.lconst X119.here hx rfl (hb hby at_201) (XS.lcmp X119.here hx rfl (hb hby at_202) rfl (XS.ifNo X119.here hx rfl (hb hby at_203) rfl ((if0 _ _).trans (teq ((lw_eq _ _).mpr (by decide : (0 : Int64) = (0 : Int64)))).2) (XS.iconst X119.here hx rfl (hb hby at_206) k)))))))) ?_
                    refine Go.by (B := (T119.setTop (mkF m 225 #[.val (.long m1), .second, .val (.long m2), .second, .val (.long m3), .second, .val (.long m4), .second, .val (.long m5), .second, .val (.int p6), .val (.int once97), .val (.long mi99), .second, .val (.long wr101), .second, .val (.long ex103), .second, .val (.int v104), .val (.ref b106), .val (.long (0 : Int64)), .second, .val (.ref b108), .val (.int v120), .val (.int 1)] [(.int 1)]))) (fun _ k => XS.goto X119.here hx rfl (pc0 := 207) (pc' := 211) rfl (hb hby at_207) (by decide) (by decide) (XS.istore X119.here hx rfl (hb hby at_211) rfl (l' := #[.val (.long m1), .second, .val (.long m2), .second, .val (.long m3), .second, .val (.long m4), .second, .val (.long m5), .second, .val (.int p6), .val (.int once97), .val (.long mi99), .second, .val (.long wr101), .second, .val (.long ex103), .second, .val (.int v104), .val (.ref b106), .val (.long (0 : Int64)), .second, .val (.ref b108), .val (.int v120), .val (.int 1)]) rfl (XS.iload X119.here hx rfl (hb hby at_213) rfl (XS.iload X119.here hx rfl (hb hby at_215) rfl (XS.icmpNo X119.here hx rfl (hb hby at_217) rfl (teq (by rw [hv120]; simp [hszJ, c105, c121, c122, c123, c124] : v120 = (1 : Int32))).2 (XS.iconst X119.here hx rfl (hb hby at_220) (XS.goto X119.here hx rfl (pc0 := 221) (pc' := 225) rfl (hb hby at_221) (by decide) (by decide) k))))))) ?_
                    refine Go.ret X119 hx hlk (t := .boolean) hret rfl (Or.inl ⟨rfl, by simp, _, rfl⟩) (hb hby at_225) (by decide) (by decide) ?_
                    exact ⟨rfl, N119⟩
                · skip
                  refine Go.by (B := (T119.setTop (mkF m 221 #[.val (.long m1), .second, .val (.long m2), .second, .val (.long m3), .second, .val (.long m4), .second, .val (.long m5), .second, .val (.int p6), .val (.int once97), .val (.long mi99), .second, .val (.long wr101), .second, .val (.long ex103), .second, .val (.int v104), .val (.ref b106), .val (.long (0 : Int64)), .second, .val (.ref b108), .val (.int v120), .val (.int 0)] [(.int 1)]))) (fun _ k => XS.ifNo X119.here hx rfl (hb hby at_168) rfl ((if0 _ _).trans (feq (fun q => c123 ((lw_eq _ _).mp q))).1) (XS.iconst X119.here hx rfl (hb hby at_171) (XS.istore X119.here hx rfl (hb hby at_172) rfl (l' := #[.val (.long m1), .second, .val (.long m2), .second, .val (.long m3), .second, .val (.long m4), .second, .val (.long m5), .second, .val (.int p6), .val (.int once97), .val (.long mi99), .second, .val (.long wr101), .second, .val (.long ex103), .second, .val (.int v104), .val (.ref b106), .val (.long (0 : Int64)), .second, .val (.ref b108), .val (.int v120), .val (.int 0)]) rfl (XS.goto X119.here hx rfl (pc0 := 174) (pc' := 213) rfl (hb hby at_174) (by decide) (by decide) (XS.iload X119.here hx rfl (hb hby at_213) rfl (XS.iload X119.here hx rfl (hb hby at_215) rfl (XS.icmpNo X119.here hx rfl (hb hby at_217) rfl (teq (by rw [hv120]; simp [hszJ, c105, c121, c122, c123] : v120 = (0 : Int32))).2 (XS.iconst X119.here hx rfl (hb hby at_220) k)))))))) ?_
                  refine Go.by (B := (T119.setTop (mkF m 225 #[.val (.long m1), .second, .val (.long m2), .second, .val (.long m3), .second, .val (.long m4), .second, .val (.long m5), .second, .val (.int p6), .val (.int once97), .val (.long mi99), .second, .val (.long wr101), .second, .val (.long ex103), .second, .val (.int v104), .val (.ref b106), .val (.long (0 : Int64)), .second, .val (.ref b108), .val (.int v120), .val (.int 0)] [(.int 1)]))) (fun _ k => XS.goto X119.here hx rfl (pc0 := 221) (pc' := 225) rfl (hb hby at_221) (by decide) (by decide) k) ?_
                  refine Go.ret X119 hx hlk (t := .boolean) hret rfl (Or.inl ⟨rfl, by simp, _, rfl⟩) (hb hby at_225) (by decide) (by decide) ?_
                  exact ⟨rfl, N119⟩
              · skip
                refine Go.by (B := (T119.setTop (mkF m 221 #[.val (.long m1), .second, .val (.long m2), .second, .val (.long m3), .second, .val (.long m4), .second, .val (.long m5), .second, .val (.int p6), .val (.int once97), .val (.long mi99), .second, .val (.long wr101), .second, .val (.long ex103), .second, .val (.int v104), .val (.ref b106), .val (.long (0 : Int64)), .second, .val (.ref b108), .val (.int v120), .val (.int 0)] [(.int 1)]))) (fun _ k => XS.ifNo X119.here hx rfl (hb hby at_155) rfl ((if0 _ _).trans (feq (fun q => c122 ((lw_eq _ _).mp q))).1) (XS.iconst X119.here hx rfl (hb hby at_158) (XS.istore X119.here hx rfl (hb hby at_159) rfl (l' := #[.val (.long m1), .second, .val (.long m2), .second, .val (.long m3), .second, .val (.long m4), .second, .val (.long m5), .second, .val (.int p6), .val (.int once97), .val (.long mi99), .second, .val (.long wr101), .second, .val (.long ex103), .second, .val (.int v104), .val (.ref b106), .val (.long (0 : Int64)), .second, .val (.ref b108), .val (.int v120), .val (.int 0)]) rfl (XS.goto X119.here hx rfl (pc0 := 161) (pc' := 213) rfl (hb hby at_161) (by decide) (by decide) (XS.iload X119.here hx rfl (hb hby at_213) rfl (XS.iload X119.here hx rfl (hb hby at_215) rfl (XS.icmpNo X119.here hx rfl (hb hby at_217) rfl (teq (by rw [hv120]; simp [hszJ, c105, c121, c122] : v120 = (0 : Int32))).2 (XS.iconst X119.here hx rfl (hb hby at_220) k)))))))) ?_
                refine Go.by (B := (T119.setTop (mkF m 225 #[.val (.long m1), .second, .val (.long m2), .second, .val (.long m3), .second, .val (.long m4), .second, .val (.long m5), .second, .val (.int p6), .val (.int once97), .val (.long mi99), .second, .val (.long wr101), .second, .val (.long ex103), .second, .val (.int v104), .val (.ref b106), .val (.long (0 : Int64)), .second, .val (.ref b108), .val (.int v120), .val (.int 0)] [(.int 1)]))) (fun _ k => XS.goto X119.here hx rfl (pc0 := 221) (pc' := 225) rfl (hb hby at_221) (by decide) (by decide) k) ?_
                refine Go.ret X119 hx hlk (t := .boolean) hret rfl (Or.inl ⟨rfl, by simp, _, rfl⟩) (hb hby at_225) (by decide) (by decide) ?_
                exact ⟨rfl, N119⟩
            · skip
              refine Go.by (B := (T119.setTop (mkF m 221 #[.val (.long m1), .second, .val (.long m2), .second, .val (.long m3), .second, .val (.long m4), .second, .val (.long m5), .second, .val (.int p6), .val (.int once97), .val (.long mi99), .second, .val (.long wr101), .second, .val (.long ex103), .second, .val (.int v104), .val (.ref b106), .val (.long (0 : Int64)), .second, .val (.ref b108), .val (.int v120), .val (.int 0)] [(.int 1)]))) (fun _ k => XS.ifNo X119.here hx rfl (hb hby at_142) rfl ((if0 _ _).trans (feq (fun q => c121 ((lw_eq _ _).mp q))).1) (XS.iconst X119.here hx rfl (hb hby at_145) (XS.istore X119.here hx rfl (hb hby at_146) rfl (l' := #[.val (.long m1), .second, .val (.long m2), .second, .val (.long m3), .second, .val (.long m4), .second, .val (.long m5), .second, .val (.int p6), .val (.int once97), .val (.long mi99), .second, .val (.long wr101), .second, .val (.long ex103), .second, .val (.int v104), .val (.ref b106), .val (.long (0 : Int64)), .second, .val (.ref b108), .val (.int v120), .val (.int 0)]) rfl (XS.goto X119.here hx rfl (pc0 := 148) (pc' := 213) rfl (hb hby at_148) (by decide) (by decide) (XS.iload X119.here hx rfl (hb hby at_213) rfl (XS.iload X119.here hx rfl (hb hby at_215) rfl (XS.icmpNo X119.here hx rfl (hb hby at_217) rfl (teq (by rw [hv120]; simp [hszJ, c105, c121] : v120 = (0 : Int32))).2 (XS.iconst X119.here hx rfl (hb hby at_220) k)))))))) ?_
              refine Go.by (B := (T119.setTop (mkF m 225 #[.val (.long m1), .second, .val (.long m2), .second, .val (.long m3), .second, .val (.long m4), .second, .val (.long m5), .second, .val (.int p6), .val (.int once97), .val (.long mi99), .second, .val (.long wr101), .second, .val (.long ex103), .second, .val (.int v104), .val (.ref b106), .val (.long (0 : Int64)), .second, .val (.ref b108), .val (.int v120), .val (.int 0)] [(.int 1)]))) (fun _ k => XS.goto X119.here hx rfl (pc0 := 221) (pc' := 225) rfl (hb hby at_221) (by decide) (by decide) k) ?_
              refine Go.ret X119 hx hlk (t := .boolean) hret rfl (Or.inl ⟨rfl, by simp, _, rfl⟩) (hb hby at_225) (by decide) (by decide) ?_
              exact ⟨rfl, N119⟩
          · skip
            refine Go.by (B := (T103.setTop (mkF m 90 #[.val (.long m1), .second, .val (.long m2), .second, .val (.long m3), .second, .val (.long m4), .second, .val (.long m5), .second, .val (.int p6), .val (.int once97), .val (.long mi99), .second, .val (.long wr101), .second, .val (.long ex103), .second, .val (.int v104), .val .null, .val (.long (0 : Int64)), .second, .unset, .unset, .unset] [(.int 2), (.int v104)]))) (fun _ k => XS.icmpYes X103.here hx rfl (pc0 := 75) (pc' := 87) rfl (hb hby at_75) rfl (feq c105).2 (by decide) (by decide) (XS.iload X103.here hx rfl (hb hby at_87) rfl (XS.iconst X103.here hx rfl (hb hby at_89) k))) ?_
            by_cases c125 : v104 < (2 : Int32)
            · skip
              refine Go.by (B := (T103.setTop (mkF m 104 #[.val (.long m1), .second, .val (.long m2), .second, .val (.long m3), .second, .val (.long m4), .second, .val (.long m5), .second, .val (.int p6), .val (.int once97), .val (.long mi99), .second, .val (.long wr101), .second, .val (.long ex103), .second, .val (.int v104), .val .null, .val (.long (0 : Int64)), .second, .unset, .unset, .unset] []))) (fun _ k => XS.icmpYes X103.here hx rfl (pc0 := 90) (pc' := 104) rfl (hb hby at_90) rfl (tlt c125).1 (by decide) (by decide) k) ?_
              obtain ⟨T126, h126, X126, e126, E126, A126, D126, -, st126⟩ := newO X103 hx hZ hown (wd hw 0 rfl) (wd hw 1 rfl) (wd hw 2 rfl) e103 (g := (mkF m 104 #[.val (.long m1), .second, .val (.long m2), .second, .val (.long m3), .second, .val (.long m4), .second, .val (.long m5), .second, .val (.int p6), .val (.int once97), .val (.long mi99), .second, .val (.long wr101), .second, .val (.long ex103), .second, .val (.int v104), .val .null, .val (.long (0 : Int64)), .second, .unset, .unset, .unset] [])) rfl (hb hby at_104) (by decide) (by decide)
              obtain ⟨b126, g126⟩ : ∃ z, z = h0.size := ⟨_, rfl⟩
              rw [← g126] at A126 D126 st126
              have sz_b126 : h0.size ≤ b126 := Nat.le_of_eq g126.symm
              have O127 := pr0.ext E126
              have Z127 : n0 ≤ h126.size := Nat.le_trans Z0 E126.1
              have F128 : Fld Z h126 b126 "com/example/floodgauge/floodgauge/validate/Validation" "expected" "J" (.long (0 : Int64)) := D126 (Or.inr (wd hw 16 rfl)) (ty := .long) (by decide)
              have F129 : Fld Z h126 b126 "com/example/floodgauge/floodgauge/validate/Validation" "matched" "J" (.long (0 : Int64)) := D126 (Or.inr (wd hw 18 rfl)) (ty := .long) (by decide)
              have F130 : Fld Z h126 b126 "com/example/floodgauge/floodgauge/validate/Validation" "missing" "J" (.long (0 : Int64)) := D126 (Or.inr (wd hw 20 rfl)) (ty := .long) (by decide)
              have F131 : Fld Z h126 b126 "com/example/floodgauge/floodgauge/validate/Validation" "wrong" "J" (.long (0 : Int64)) := D126 (Or.inr (wd hw 22 rfl)) (ty := .long) (by decide)
              have F132 : Fld Z h126 b126 "com/example/floodgauge/floodgauge/validate/Validation" "extra" "J" (.long (0 : Int64)) := D126 (Or.inr (wd hw 24 rfl)) (ty := .long) (by decide)
              have F133 : Fld Z h126 b126 "com/example/floodgauge/floodgauge/validate/Validation" "duplicates" "Ljava/lang/Long;" .null := D126 (Or.inr (wd hw 26 rfl)) (ty := (.object "java/lang/Long")) (by decide)
              refine Go.by (B := (T126.setTop (mkF m 107 #[.val (.long m1), .second, .val (.long m2), .second, .val (.long m3), .second, .val (.long m4), .second, .val (.long m5), .second, .val (.int p6), .val (.int once97), .val (.long mi99), .second, .val (.long wr101), .second, .val (.long ex103), .second, .val (.int v104), .val .null, .val (.long (0 : Int64)), .second, .unset, .unset, .unset] [(.ref b126)]))) st126 ?_
              refine Go.by (B := (T126.setTop (mkF m 122 #[.val (.long m1), .second, .val (.long m2), .second, .val (.long m3), .second, .val (.long m4), .second, .val (.long m5), .second, .val (.int p6), .val (.int once97), .val (.long mi99), .second, .val (.long wr101), .second, .val (.long ex103), .second, .val (.int v104), .val .null, .val (.long (0 : Int64)), .second, .unset, .unset, .unset] [(.long ex103), (.long wr101), (.long mi99), (.long (m5 ^^^ (-1 : Int64))), (.long m5), (.ref b126), (.ref b126)]))) (fun _ k => XS.dup X126.here hx rfl (hb hby at_107) rfl rfl (XS.lload X126.here hx rfl (hb hby at_108) rfl (XS.lload X126.here hx rfl (hb hby at_110) rfl (X126.ldc2Long hx hown (mvT hZ (wd hw 3 rfl)) (g := (mkF m 112 #[.val (.long m1), .second, .val (.long m2), .second, .val (.long m3), .second, .val (.long m4), .second, .val (.long m5), .second, .val (.int p6), .val (.int once97), .val (.long mi99), .second, .val (.long wr101), .second, .val (.long ex103), .second, .val (.int v104), .val .null, .val (.long (0 : Int64)), .second, .unset, .unset, .unset] [(.long m5), (.long m5), (.ref b126), (.ref b126)])) rfl (hb hby at_112) _ (XS.lxor X126.here hx rfl (hb hby at_115) rfl (XS.lload X126.here hx rfl (hb hby at_116) rfl (XS.lload X126.here hx rfl (hb hby at_118) rfl (XS.lload X126.here hx rfl (hb hby at_120) rfl k)))))))) ?_
              refine Go.by (B := (T126.setTop (mkF m 124 #[.val (.long m1), .second, .val (.long m2), .second, .val (.long m3), .second, .val (.long m4), .second, .val (.long m5), .second, .val (.int p6), .val (.int once97), .val (.long mi99), .second, .val (.long wr101), .second, .val (.long ex103), .second, .val (.int v104), .val .null, .val (.long (0 : Int64)), .second, .unset, .unset, .unset] [.null, (.long ex103), (.long wr101), (.long mi99), (.long (m5 ^^^ (-1 : Int64))), (.long m5), (.ref b126), (.ref b126)]))) (fun _ k => XS.aload X126.here hx rfl (hb hby at_122) rfl rfl k) ?_
              obtain ⟨_, _, ⟨T134, L134, k134, n134⟩, -, X134, ⟨Lc134, hQ134, l134, y134, z134⟩, st134⟩ := X126.specialBack hx (y := (⟨"com/example/floodgauge/floodgauge/validate/Validation", "<init>", "(JJJJJLjava/lang/Long;)V"⟩ : MethodName)) rfl hown (mvT hZ (wd hw 4 rfl)) (mvT hZ (wd hw 5 rfl)) (mvT hZ (wd hw 6 rfl)) (by decide) (backOf (W := 1) (rm_ini_n l Z a0 hw [] b126 m5 (m5 ^^^ (-1 : Int64)) mi99 wr101 ex103 h126 n0 Z127 O127 A126 F128 F129 F130 F131 F132 F133 (Nat.le_trans Z0 sz_b126)) hZ (wd hw 6 rfl) (wd hw 2 rfl) (by decide) (by decide)) (g := (mkF m 124 #[.val (.long m1), .second, .val (.long m2), .second, .val (.long m3), .second, .val (.long m4), .second, .val (.long m5), .second, .val (.int p6), .val (.int once97), .val (.long mi99), .second, .val (.long wr101), .second, .val (.long ex103), .second, .val (.int v104), .val .null, .val (.long (0 : Int64)), .second, .unset, .unset, .unset] [.null, (.long ex103), (.long wr101), (.long mi99), (.long (m5 ^^^ (-1 : Int64))), (.long m5), (.ref b126), (.ref b126)])) rfl (by rw [hml]; rfl) (Steps.refl _) (a := b126) (argsL := [(.long m5), (.long (m5 ^^^ (-1 : Int64))), (.long mi99), (.long wr101), (.long ex103), .null]) (rest := [(.ref b126)]) (lenOf pd_4 rfl) rfl (by show 2 * 0 + _ ≤ _; exact Nat.le_of_eq rfl) (hb hby at_124) (fun _ _ => ⟨rfl, e126, Nat.le_of_ble_eq_true rfl, Nat.le_of_ble_eq_true rfl⟩)
              dsimp only [Pt.U, Pt.locs, Pt.cells, Pt.slots] at X134 l134 y134 z134 st134 hQ134
              subst l134 y134 z134
              obtain ⟨rfl, Nq134, K134, p134_0, p134_1, p134_2, p134_3, p134_4, p134_5, p134_6⟩ := hQ134
              have N134 := Fr.app N102 Nq134
              have O135 := O127.keep K134 (allS (Nat.le_trans Z0 sz_b126) all0)
              have Z135 : n0 ≤ T134.heap.size := Nat.le_trans Z127 K134.1
              refine Go.by (B := (T134.setTop (mkF m 127 #[.val (.long m1), .second, .val (.long m2), .second, .val (.long m3), .second, .val (.long m4), .second, .val (.long m5), .second, .val (.int p6), .val (.int once97), .val (.long mi99), .second, .val (.long wr101), .second, .val (.long ex103), .second, .val (.int v104), .val .null, .val (.long (0 : Int64)), .second, .unset, .unset, .unset] [(.ref b126)]))) (fun _ k => st134.trans k) ?_
              refine Go.by (B := (T134.setTop (mkF m 133 #[.val (.long m1), .second, .val (.long m2), .second, .val (.long m3), .second, .val (.long m4), .second, .val (.long m5), .second, .val (.int p6), .val (.int once97), .val (.long mi99), .second, .val (.long wr101), .second, .val (.long ex103), .second, .val (.int v104), .val .null, .val (.long (0 : Int64)), .second, .val (.ref b126), .unset, .unset] [(.int once97), (.ref b126)]))) (fun _ k => XS.astore X134.here hx rfl (hb hby at_127) rfl rfl (l' := #[.val (.long m1), .second, .val (.long m2), .second, .val (.long m3), .second, .val (.long m4), .second, .val (.long m5), .second, .val (.int p6), .val (.int once97), .val (.long mi99), .second, .val (.long wr101), .second, .val (.long ex103), .second, .val (.int v104), .val .null, .val (.long (0 : Int64)), .second, .val (.ref b126), .unset, .unset]) rfl (XS.aload X134.here hx rfl (hb hby at_129) rfl rfl (XS.iload X134.here hx rfl (hb hby at_131) rfl k))) ?_
              obtain ⟨cq136, kq136, q136a, q136b, q136c⟩ := isOf hZ rfl p134_0
              obtain ⟨_, _, ⟨T136, L136, k136, n136⟩, -, X136, ⟨Lc136, hQ136, l136, y136, z136⟩, st136⟩ := X134.virtualBack hx (y := (⟨"com/example/floodgauge/floodgauge/validate/Validation", "passed", "(Z)Z"⟩ : MethodName)) (z := (⟨"com/example/floodgauge/floodgauge/validate/Validation", "passed", "(Z)Z"⟩ : MethodName)) hown (mvT hZ (wd hw 27 rfl)) (mvT hZ (wd hw 28 rfl)) (notFace_of_selects (args := #[]) (mvT hZ (wd hw 30 rfl))) (mvT hZ (wd hw 30 rfl)) (mvT hZ (wd hw 29 rfl)) (by decide) (backOf (W := 0) (rm_passed_n l Z a0 hw [] b126 once97 mi99 wr101 ex103 T134.heap n0 Z135 p134_6 p134_3 p134_4 p134_5) hZ (wd hw 31 rfl) (wd hw 2 rfl) (by decide) (by decide)) q136a q136c (g := (mkF m 133 #[.val (.long m1), .second, .val (.long m2), .second, .val (.long m3), .second, .val (.long m4), .second, .val (.long m5), .second, .val (.int p6), .val (.int once97), .val (.long mi99), .second, .val (.long wr101), .second, .val (.long ex103), .second, .val (.int v104), .val .null, .val (.long (0 : Int64)), .second, .val (.ref b126), .unset, .unset] [(.int once97), (.ref b126)])) rfl (by rw [hml]; rfl) (Steps.refl _) (argsL := [(.int once97)]) (rest := []) (lenOf pd_5 rfl) rfl (by show 2 * 0 + _ ≤ _; exact Nat.le_of_eq rfl) (hb hby at_133) (fun _ _ => ⟨rfl, rfl, Nat.le_of_ble_eq_true rfl, Nat.le_of_ble_eq_true rfl⟩)
              dsimp only [Pt.U, Pt.locs, Pt.cells, Pt.slots] at X136 l136 y136 z136 st136 hQ136
              subst l136 y136 z136
              obtain ⟨rfl, Nq136, hh136⟩ := hQ136
              have N136 := Fr.app N134 Nq136
              refine Go.by (B := (T136.setTop (mkF m 136 #[.val (.long m1), .second, .val (.long m2), .second, .val (.long m3), .second, .val (.long m4), .second, .val (.long m5), .second, .val (.int p6), .val (.int once97), .val (.long mi99), .second, .val (.long wr101), .second, .val (.long ex103), .second, .val (.int v104), .val .null, .val (.long (0 : Int64)), .second, .val (.ref b126), .unset, .unset] [(.int (if mi99 = 0 ∧ wr101 = 0 ∧ ex103 = 0 then (1 : Int32) else 0))]))) (fun _ k => st136.trans k) ?_
              obtain ⟨v137, hv137⟩ : ∃ v, v = (if mi99 = 0 ∧ wr101 = 0 ∧ ex103 = 0 then (1 : Int32) else 0) := ⟨_, rfl⟩
              refine Go.by (B := (T136.setTop (mkF m 142 #[.val (.long m1), .second, .val (.long m2), .second, .val (.long m3), .second, .val (.long m4), .second, .val (.long m5), .second, .val (.int p6), .val (.int once97), .val (.long mi99), .second, .val (.long wr101), .second, .val (.long ex103), .second, .val (.int v104), .val .null, .val (.long (0 : Int64)), .second, .val (.ref b126), .val (.int v137), .unset] [(.int (lcmpW mi99 (0 : Int64)))]))) (fun _ k => XS.istore (x := v137) (rest := []) X136.here hx rfl (hb hby at_136) (by rw [hv137]) (l' := #[.val (.long m1), .second, .val (.long m2), .second, .val (.long m3), .second, .val (.long m4), .second, .val (.long m5), .second, .val (.int p6), .val (.int once97), .val (.long mi99), .second, .val (.long wr101), .second, .val (.long ex103), .second, .val (.int v104), .val .null, .val (.long (0 : Int64)), .second, .val (.ref b126), .val (.int v137), .unset]) rfl (XS.lload X136.here hx rfl (hb hby at_138) rfl (XS.lconst X136.here hx rfl (hb hby at_140) (XS.lcmp X136.here hx rfl (hb hby at_141) rfl k)))) ?_
              by_cases c138 : mi99 = (0 : Int64)
              · skip
                refine Go.by (B := (T136.setTop (mkF m 155 #[.val (.long m1), .second, .val (.long m2), .second, .val (.long m3), .second, .val (.long m4), .second, .val (.long m5), .second, .val (.int p6), .val (.int once97), .val (.long mi99), .second, .val (.long wr101), .second, .val (.long ex103), .second, .val (.int v104), .val .null, .val (.long (0 : Int64)), .second, .val (.ref b126), .val (.int v137), .unset] [(.int (lcmpW wr101 (0 : Int64)))]))) (fun _ k => XS.ifYes X136.here hx rfl (pc0 := 142) (pc' := 151) rfl (hb hby at_142) rfl ((if0 _ _).trans (teq ((lw_eq _ _).mpr c138)).1) (by decide) (by decide) (XS.lload X136.here hx rfl (hb hby at_151) rfl (XS.lconst X136.here hx rfl (hb hby at_153) (XS.lcmp X136.here hx rfl (hb hby at_154) rfl k)))) ?_
                by_cases c139 : wr101 = (0 : Int64)
                · skip
                  refine Go.by (B := (T136.setTop (mkF m 168 #[.val (.long m1), .second, .val (.long m2), .second, .val (.long m3), .second, .val (.long m4), .second, .val (.long m5), .second, .val (.int p6), .val (.int once97), .val (.long mi99), .second, .val (.long wr101), .second, .val (.long ex103), .second, .val (.int v104), .val .null, .val (.long (0 : Int64)), .second, .val (.ref b126), .val (.int v137), .unset] [(.int (lcmpW ex103 (0 : Int64)))]))) (fun _ k => XS.ifYes X136.here hx rfl (pc0 := 155) (pc' := 164) rfl (hb hby at_155) rfl ((if0 _ _).trans (teq ((lw_eq _ _).mpr c139)).1) (by decide) (by decide) (XS.lload X136.here hx rfl (hb hby at_164) rfl (XS.lconst X136.here hx rfl (hb hby at_166) (XS.lcmp X136.here hx rfl (hb hby at_167) rfl k)))) ?_
                  by_cases c140 : ex103 = (0 : Int64)
                  · skip
                    refine Go.by (B := (T136.setTop (mkF m 179 #[.val (.long m1), .second, .val (.long m2), .second, .val (.long m3), .second, .val (.long m4), .second, .val (.long m5), .second, .val (.int p6), .val (.int once97), .val (.long mi99), .second, .val (.long wr101), .second, .val (.long ex103), .second, .val (.int v104), .val .null, .val (.long (0 : Int64)), .second, .val (.ref b126), .val (.int v137), .unset] [(.int once97)]))) (fun _ k => XS.ifYes X136.here hx rfl (pc0 := 168) (pc' := 177) rfl (hb hby at_168) rfl ((if0 _ _).trans (teq ((lw_eq _ _).mpr c140)).1) (by decide) (by decide) (XS.iload X136.here hx rfl (hb hby at_177) rfl k)) ?_
                    by_cases c141 : once97 = (0 : Int32)
                    · skip
                      refine Go.by (B := (T136.setTop (mkF m 221 #[.val (.long m1), .second, .val (.long m2), .second, .val (.long m3), .second, .val (.long m4), .second, .val (.long m5), .second, .val (.int p6), .val (.int once97), .val (.long mi99), .second, .val (.long wr101), .second, .val (.long ex103), .second, .val (.int v104), .val .null, .val (.long (0 : Int64)), .second, .val (.ref b126), .val (.int v137), .val (.int 1)] [(.int 1)]))) (fun _ k => XS.ifNo X136.here hx rfl (hb hby at_179) rfl ((if0 _ _).trans (teq c141).2) (XS.iconst X136.here hx rfl (hb hby at_182) (XS.istore X136.here hx rfl (hb hby at_183) rfl (l' := #[.val (.long m1), .second, .val (.long m2), .second, .val (.long m3), .second, .val (.long m4), .second, .val (.long m5), .second, .val (.int p6), .val (.int once97), .val (.long mi99), .second, .val (.long wr101), .second, .val (.long ex103), .second, .val (.int v104), .val .null, .val (.long (0 : Int64)), .second, .val (.ref b126), .val (.int v137), .val (.int 1)]) rfl (XS.goto X136.here hx rfl (pc0 := 185) (pc' := 213) rfl (hb hby at_185) (by decide) (by decide) (XS.iload X136.here hx rfl (hb hby at_213) rfl (XS.iload X136.here hx rfl (hb hby at_215) rfl (XS.icmpNo X136.here hx rfl (hb hby at_217) rfl (teq (by rw [hv137]; simp [hszJ, c105, c125, c138, c139, c140, c141] : v137 = (1 : Int32))).2 (XS.iconst X136.here hx rfl (hb hby at_220) k)))))))) ?_
                      refine Go.by (B := (T136.setTop (mkF m 225 #[.val (.long m1), .second, .val (.long m2), .second, .val (.long m3), .second, .val (.long m4), .second, .val (.long m5), .second, .val (.int p6), .val (.int once97), .val (.long mi99), .second, .val (.long wr101), .second, .val (.long ex103), .second, .val (.int v104), .val .null, .val (.long (0 : Int64)), .second, .val (.ref b126), .val (.int v137), .val (.int 1)] [(.int 1)]))) (fun _ k => XS.goto X136.here hx rfl (pc0 := 221) (pc' := 225) rfl (hb hby at_221) (by decide) (by decide) k) ?_
                      refine Go.ret X136 hx hlk (t := .boolean) hret rfl (Or.inl ⟨rfl, by simp, _, rfl⟩) (hb hby at_225) (by decide) (by decide) ?_
                      exact ⟨rfl, N136⟩
                    · skip
                      refine Go.by (B := (T136.setTop (mkF m 190 #[.val (.long m1), .second, .val (.long m2), .second, .val (.long m3), .second, .val (.long m4), .second, .val (.long m5), .second, .val (.int p6), .val (.int once97), .val (.long mi99), .second, .val (.long wr101), .second, .val (.long ex103), .second, .val (.int v104), .val .null, .val (.long (0 : Int64)), .second, .val (.ref b126), .val (.int v137), .unset] [(.int v104)]))) (fun _ k => XS.ifYes X136.here hx rfl (pc0 := 179) (pc' := 188) rfl (hb hby at_179) rfl ((if0 _ _).trans (feq c141).2) (by decide) (by decide) (XS.iload X136.here hx rfl (hb hby at_188) rfl k)) ?_
                      by_cases c142 : v104 = (0 : Int32)
                      · skip
                        refine Go.by (B := (T136.setTop (mkF m 221 #[.val (.long m1), .second, .val (.long m2), .second, .val (.long m3), .second, .val (.long m4), .second, .val (.long m5), .second, .val (.int p6), .val (.int once97), .val (.long mi99), .second, .val (.long wr101), .second, .val (.long ex103), .second, .val (.int v104), .val .null, .val (.long (0 : Int64)), .second, .val (.ref b126), .val (.int v137), .val (.int 1)] [(.int 1)]))) (fun _ k => XS.ifNo X136.here hx rfl (hb hby at_190) rfl ((if0 _ _).trans (teq c142).2) (XS.iconst X136.here hx rfl (hb hby at_193) (XS.istore X136.here hx rfl (hb hby at_194) rfl (l' := #[.val (.long m1), .second, .val (.long m2), .second, .val (.long m3), .second, .val (.long m4), .second, .val (.long m5), .second, .val (.int p6), .val (.int once97), .val (.long mi99), .second, .val (.long wr101), .second, .val (.long ex103), .second, .val (.int v104), .val .null, .val (.long (0 : Int64)), .second, .val (.ref b126), .val (.int v137), .val (.int 1)]) rfl (XS.goto X136.here hx rfl (pc0 := 196) (pc' := 213) rfl (hb hby at_196) (by decide) (by decide) (XS.iload X136.here hx rfl (hb hby at_213) rfl (XS.iload X136.here hx rfl (hb hby at_215) rfl (XS.icmpNo X136.here hx rfl (hb hby at_217) rfl (teq (by rw [hv137]; simp [hszJ, c105, c125, c138, c139, c140, c141, c142] : v137 = (1 : Int32))).2 (XS.iconst X136.here hx rfl (hb hby at_220) k)))))))) ?_
                        refine Go.by (B := (T136.setTop (mkF m 225 #[.val (.long m1), .second, .val (.long m2), .second, .val (.long m3), .second, .val (.long m4), .second, .val (.long m5), .second, .val (.int p6), .val (.int once97), .val (.long mi99), .second, .val (.long wr101), .second, .val (.long ex103), .second, .val (.int v104), .val .null, .val (.long (0 : Int64)), .second, .val (.ref b126), .val (.int v137), .val (.int 1)] [(.int 1)]))) (fun _ k => XS.goto X136.here hx rfl (pc0 := 221) (pc' := 225) rfl (hb hby at_221) (by decide) (by decide) k) ?_
                        refine Go.ret X136 hx hlk (t := .boolean) hret rfl (Or.inl ⟨rfl, by simp, _, rfl⟩) (hb hby at_225) (by decide) (by decide) ?_
                        exact ⟨rfl, N136⟩
                      · skip
                        refine Go.by (B := (T136.setTop (mkF m 213 #[.val (.long m1), .second, .val (.long m2), .second, .val (.long m3), .second, .val (.long m4), .second, .val (.long m5), .second, .val (.int p6), .val (.int once97), .val (.long mi99), .second, .val (.long wr101), .second, .val (.long ex103), .second, .val (.int v104), .val .null, .val (.long (0 : Int64)), .second, .val (.ref b126), .val (.int v137), .val (.int 1)] []))) (fun _ k => XS.ifYes X136.here hx rfl (pc0 := 190) (pc' := 199) rfl (hb hby at_190) rfl ((if0 _ _).trans (feq c142).2) (by decide) (by decide) (XS.lload X136.here hx rfl (hb hby at_199) rfl (XS.lconst X136.here hx rfl (hb hby at_201) (XS.lcmp X136.here hx rfl (hb hby at_202) rfl (XS.ifNo X136.here hx rfl (hb hby at_203) rfl ((if0 _ _).trans (teq ((lw_eq _ _).mpr (by decide : (0 : Int64) = (0 : Int64)))).2) (XS.iconst X136.here hx rfl (hb hby at_206) (XS.goto X136.here hx rfl (pc0 := 207) (pc' := 211) rfl (hb hby at_207) (by decide) (by decide) (XS.istore X136.here hx rfl (hb hby at_211) rfl (l' := #[.val (.long m1), .second, .val (.long m2), .second, .val (.long m3), .second, .val (.long m4), .second, .val (.long m5), .second, .val (.int p6), .val (.int once97), .val (.long mi99), .second, .val (.long wr101), .second, .val (.long ex103), .second, .val (.int v104), .val .null, .val (.long (0 : Int64)), .second, .val (.ref b126), .val (.int v137), .val (.int 1)]) rfl k)))))))) ?_
                        refine Go.by (B := (T136.setTop (mkF m 225 #[.val (.long m1), .second, .val (.long m2), .second, .val (.long m3), .second, .val (.long m4), .second, .val (.long m5), .second, .val (.int p6), .val (.int once97), .val (.long mi99), .second, .val (.long wr101), .second, .val (.long ex103), .second, .val (.int v104), .val .null, .val (.long (0 : Int64)), .second, .val (.ref b126), .val (.int v137), .val (.int 1)] [(.int 1)]))) (fun _ k => XS.iload X136.here hx rfl (hb hby at_213) rfl (XS.iload X136.here hx rfl (hb hby at_215) rfl (XS.icmpNo X136.here hx rfl (hb hby at_217) rfl (teq (by rw [hv137]; simp [hszJ, c105, c125, c138, c139, c140, c141, c142] : v137 = (1 : Int32))).2 (XS.iconst X136.here hx rfl (hb hby at_220) (XS.goto X136.here hx rfl (pc0 := 221) (pc' := 225) rfl (hb hby at_221) (by decide) (by decide) k))))) ?_
                        refine Go.ret X136 hx hlk (t := .boolean) hret rfl (Or.inl ⟨rfl, by simp, _, rfl⟩) (hb hby at_225) (by decide) (by decide) ?_
                        exact ⟨rfl, N136⟩
                  · skip
                    refine Go.by (B := (T136.setTop (mkF m 221 #[.val (.long m1), .second, .val (.long m2), .second, .val (.long m3), .second, .val (.long m4), .second, .val (.long m5), .second, .val (.int p6), .val (.int once97), .val (.long mi99), .second, .val (.long wr101), .second, .val (.long ex103), .second, .val (.int v104), .val .null, .val (.long (0 : Int64)), .second, .val (.ref b126), .val (.int v137), .val (.int 0)] [(.int 1)]))) (fun _ k => XS.ifNo X136.here hx rfl (hb hby at_168) rfl ((if0 _ _).trans (feq (fun q => c140 ((lw_eq _ _).mp q))).1) (XS.iconst X136.here hx rfl (hb hby at_171) (XS.istore X136.here hx rfl (hb hby at_172) rfl (l' := #[.val (.long m1), .second, .val (.long m2), .second, .val (.long m3), .second, .val (.long m4), .second, .val (.long m5), .second, .val (.int p6), .val (.int once97), .val (.long mi99), .second, .val (.long wr101), .second, .val (.long ex103), .second, .val (.int v104), .val .null, .val (.long (0 : Int64)), .second, .val (.ref b126), .val (.int v137), .val (.int 0)]) rfl (XS.goto X136.here hx rfl (pc0 := 174) (pc' := 213) rfl (hb hby at_174) (by decide) (by decide) (XS.iload X136.here hx rfl (hb hby at_213) rfl (XS.iload X136.here hx rfl (hb hby at_215) rfl (XS.icmpNo X136.here hx rfl (hb hby at_217) rfl (teq (by rw [hv137]; simp [hszJ, c105, c125, c138, c139, c140] : v137 = (0 : Int32))).2 (XS.iconst X136.here hx rfl (hb hby at_220) k)))))))) ?_
                    refine Go.by (B := (T136.setTop (mkF m 225 #[.val (.long m1), .second, .val (.long m2), .second, .val (.long m3), .second, .val (.long m4), .second, .val (.long m5), .second, .val (.int p6), .val (.int once97), .val (.long mi99), .second, .val (.long wr101), .second, .val (.long ex103), .second, .val (.int v104), .val .null, .val (.long (0 : Int64)), .second, .val (.ref b126), .val (.int v137), .val (.int 0)] [(.int 1)]))) (fun _ k => XS.goto X136.here hx rfl (pc0 := 221) (pc' := 225) rfl (hb hby at_221) (by decide) (by decide) k) ?_
                    refine Go.ret X136 hx hlk (t := .boolean) hret rfl (Or.inl ⟨rfl, by simp, _, rfl⟩) (hb hby at_225) (by decide) (by decide) ?_
                    exact ⟨rfl, N136⟩
                · skip
                  refine Go.by (B := (T136.setTop (mkF m 221 #[.val (.long m1), .second, .val (.long m2), .second, .val (.long m3), .second, .val (.long m4), .second, .val (.long m5), .second, .val (.int p6), .val (.int once97), .val (.long mi99), .second, .val (.long wr101), .second, .val (.long ex103), .second, .val (.int v104), .val .null, .val (.long (0 : Int64)), .second, .val (.ref b126), .val (.int v137), .val (.int 0)] [(.int 1)]))) (fun _ k => XS.ifNo X136.here hx rfl (hb hby at_155) rfl ((if0 _ _).trans (feq (fun q => c139 ((lw_eq _ _).mp q))).1) (XS.iconst X136.here hx rfl (hb hby at_158) (XS.istore X136.here hx rfl (hb hby at_159) rfl (l' := #[.val (.long m1), .second, .val (.long m2), .second, .val (.long m3), .second, .val (.long m4), .second, .val (.long m5), .second, .val (.int p6), .val (.int once97), .val (.long mi99), .second, .val (.long wr101), .second, .val (.long ex103), .second, .val (.int v104), .val .null, .val (.long (0 : Int64)), .second, .val (.ref b126), .val (.int v137), .val (.int 0)]) rfl (XS.goto X136.here hx rfl (pc0 := 161) (pc' := 213) rfl (hb hby at_161) (by decide) (by decide) (XS.iload X136.here hx rfl (hb hby at_213) rfl (XS.iload X136.here hx rfl (hb hby at_215) rfl (XS.icmpNo X136.here hx rfl (hb hby at_217) rfl (teq (by rw [hv137]; simp [hszJ, c105, c125, c138, c139] : v137 = (0 : Int32))).2 (XS.iconst X136.here hx rfl (hb hby at_220) k)))))))) ?_
                  refine Go.by (B := (T136.setTop (mkF m 225 #[.val (.long m1), .second, .val (.long m2), .second, .val (.long m3), .second, .val (.long m4), .second, .val (.long m5), .second, .val (.int p6), .val (.int once97), .val (.long mi99), .second, .val (.long wr101), .second, .val (.long ex103), .second, .val (.int v104), .val .null, .val (.long (0 : Int64)), .second, .val (.ref b126), .val (.int v137), .val (.int 0)] [(.int 1)]))) (fun _ k => XS.goto X136.here hx rfl (pc0 := 221) (pc' := 225) rfl (hb hby at_221) (by decide) (by decide) k) ?_
                  refine Go.ret X136 hx hlk (t := .boolean) hret rfl (Or.inl ⟨rfl, by simp, _, rfl⟩) (hb hby at_225) (by decide) (by decide) ?_
                  exact ⟨rfl, N136⟩
              · skip
                refine Go.by (B := (T136.setTop (mkF m 221 #[.val (.long m1), .second, .val (.long m2), .second, .val (.long m3), .second, .val (.long m4), .second, .val (.long m5), .second, .val (.int p6), .val (.int once97), .val (.long mi99), .second, .val (.long wr101), .second, .val (.long ex103), .second, .val (.int v104), .val .null, .val (.long (0 : Int64)), .second, .val (.ref b126), .val (.int v137), .val (.int 0)] [(.int 1)]))) (fun _ k => XS.ifNo X136.here hx rfl (hb hby at_142) rfl ((if0 _ _).trans (feq (fun q => c138 ((lw_eq _ _).mp q))).1) (XS.iconst X136.here hx rfl (hb hby at_145) (XS.istore X136.here hx rfl (hb hby at_146) rfl (l' := #[.val (.long m1), .second, .val (.long m2), .second, .val (.long m3), .second, .val (.long m4), .second, .val (.long m5), .second, .val (.int p6), .val (.int once97), .val (.long mi99), .second, .val (.long wr101), .second, .val (.long ex103), .second, .val (.int v104), .val .null, .val (.long (0 : Int64)), .second, .val (.ref b126), .val (.int v137), .val (.int 0)]) rfl (XS.goto X136.here hx rfl (pc0 := 148) (pc' := 213) rfl (hb hby at_148) (by decide) (by decide) (XS.iload X136.here hx rfl (hb hby at_213) rfl (XS.iload X136.here hx rfl (hb hby at_215) rfl (XS.icmpNo X136.here hx rfl (hb hby at_217) rfl (teq (by rw [hv137]; simp [hszJ, c105, c125, c138] : v137 = (0 : Int32))).2 (XS.iconst X136.here hx rfl (hb hby at_220) k)))))))) ?_
                refine Go.by (B := (T136.setTop (mkF m 225 #[.val (.long m1), .second, .val (.long m2), .second, .val (.long m3), .second, .val (.long m4), .second, .val (.long m5), .second, .val (.int p6), .val (.int once97), .val (.long mi99), .second, .val (.long wr101), .second, .val (.long ex103), .second, .val (.int v104), .val .null, .val (.long (0 : Int64)), .second, .val (.ref b126), .val (.int v137), .val (.int 0)] [(.int 1)]))) (fun _ k => XS.goto X136.here hx rfl (pc0 := 221) (pc' := 225) rfl (hb hby at_221) (by decide) (by decide) k) ?_
                refine Go.ret X136 hx hlk (t := .boolean) hret rfl (Or.inl ⟨rfl, by simp, _, rfl⟩) (hb hby at_225) (by decide) (by decide) ?_
                exact ⟨rfl, N136⟩
            · skip
              refine Go.by (B := (T103.setTop (mkF m 95 #[.val (.long m1), .second, .val (.long m2), .second, .val (.long m3), .second, .val (.long m4), .second, .val (.long m5), .second, .val (.int p6), .val (.int once97), .val (.long mi99), .second, .val (.long wr101), .second, .val (.long ex103), .second, .val (.int v104), .val .null, .val (.long (0 : Int64)), .second, .unset, .unset, .unset] [(.long m4)]))) (fun _ k => XS.icmpNo X103.here hx rfl (hb hby at_90) rfl (flt c125).1 (XS.lload X103.here hx rfl (hb hby at_93) rfl k)) ?_
              obtain ⟨_, _, ⟨T143, L143, k143, n143⟩, -, X143, ⟨Lc143, hQ143, l143, y143, z143⟩, st143⟩ := Jvm.LawKit.callS X103 hx (y := (⟨"java/lang/Long", "valueOf", "(J)Ljava/lang/Long;"⟩ : MethodName)) hown (mvT hZ (wd hw 32 rfl)) (mvT hZ (wd hw 33 rfl)) (mvT hZ (wd hw 34 rfl)) (mvT hZ (wd hw 35 rfl)) (by decide) (backOf (W := 0) (rm_Long_valueOf l Z a0 hw [] m4 wcJ clJ h0 n0 Z0 pr0 pr1 hArJ hszJ helJ) hZ (wd hw 35 rfl) (wd hw 34 rfl) (by decide) (by decide)) (g := (mkF m 95 #[.val (.long m1), .second, .val (.long m2), .second, .val (.long m3), .second, .val (.long m4), .second, .val (.long m5), .second, .val (.int p6), .val (.int once97), .val (.long mi99), .second, .val (.long wr101), .second, .val (.long ex103), .second, .val (.int v104), .val .null, .val (.long (0 : Int64)), .second, .unset, .unset, .unset] [(.long m4)])) rfl (by rw [hml]; rfl) (argsL := [(.long m4)]) (rest := []) (lenOf pd_3 rfl) rfl (by show 2 * 0 + _ ≤ _; exact Nat.le_of_eq rfl) (hb hby at_95) (fun _ _ => ⟨rfl, e103, Nat.le_of_ble_eq_true rfl, Nat.le_of_ble_eq_true rfl⟩)
              dsimp only [Pt.U, Pt.locs, Pt.cells, Pt.slots] at X143 l143 y143 z143 st143 hQ143
              subst l143 y143 z143
              obtain ⟨b143, rfl, Nq143, K143, p143_0, p143_1⟩ := hQ143
              have N143 := Fr.app N102 Nq143
              have O144 := pr0.keep K143 all0
              have Z144 : n0 ≤ T143.heap.size := Nat.le_trans Z0 K143.1
              refine Go.by (B := (T143.setTop (mkF m 98 #[.val (.long m1), .second, .val (.long m2), .second, .val (.long m3), .second, .val (.long m4), .second, .val (.long m5), .second, .val (.int p6), .val (.int once97), .val (.long mi99), .second, .val (.long wr101), .second, .val (.long ex103), .second, .val (.int v104), .val .null, .val (.long (0 : Int64)), .second, .unset, .unset, .unset] [(.ref b143)]))) (fun _ k => st143 _ k) ?_
              refine Go.by (B := (T143.setTop (mkF m 104 #[.val (.long m1), .second, .val (.long m2), .second, .val (.long m3), .second, .val (.long m4), .second, .val (.long m5), .second, .val (.int p6), .val (.int once97), .val (.long mi99), .second, .val (.long wr101), .second, .val (.long ex103), .second, .val (.int v104), .val (.ref b143), .val (.long m4), .second, .unset, .unset, .unset] []))) (fun _ k => XS.astore X143.here hx rfl (hb hby at_98) rfl rfl (l' := #[.val (.long m1), .second, .val (.long m2), .second, .val (.long m3), .second, .val (.long m4), .second, .val (.long m5), .second, .val (.int p6), .val (.int once97), .val (.long mi99), .second, .val (.long wr101), .second, .val (.long ex103), .second, .val (.int v104), .val (.ref b143), .val (.long (0 : Int64)), .second, .unset, .unset, .unset]) rfl (XS.lload X143.here hx rfl (hb hby at_100) rfl (XS.lstore X143.here hx rfl (hb hby at_102) rfl (l' := #[.val (.long m1), .second, .val (.long m2), .second, .val (.long m3), .second, .val (.long m4), .second, .val (.long m5), .second, .val (.int p6), .val (.int once97), .val (.long mi99), .second, .val (.long wr101), .second, .val (.long ex103), .second, .val (.int v104), .val (.ref b143), .val (.long m4), .second, .unset, .unset, .unset]) rfl k))) ?_
              obtain ⟨T145, h145, X145, e145, E145, A145, D145, -, st145⟩ := newO X143 hx hZ hown (wd hw 0 rfl) (wd hw 1 rfl) (wd hw 2 rfl) rfl (g := (mkF m 104 #[.val (.long m1), .second, .val (.long m2), .second, .val (.long m3), .second, .val (.long m4), .second, .val (.long m5), .second, .val (.int p6), .val (.int once97), .val (.long mi99), .second, .val (.long wr101), .second, .val (.long ex103), .second, .val (.int v104), .val (.ref b143), .val (.long m4), .second, .unset, .unset, .unset] [])) rfl (hb hby at_104) (by decide) (by decide)
              obtain ⟨b145, g145⟩ : ∃ z, z = T143.heap.size := ⟨_, rfl⟩
              rw [← g145] at A145 D145 st145
              have sz_b145 : T143.heap.size ≤ b145 := Nat.le_of_eq g145.symm
              have O146 := O144.ext E145
              have Z146 : n0 ≤ h145.size := Nat.le_trans Z144 E145.1
              have F147 : Fld Z h145 b145 "com/example/floodgauge/floodgauge/validate/Validation" "expected" "J" (.long (0 : Int64)) := D145 (Or.inr (wd hw 16 rfl)) (ty := .long) (by decide)
              have F148 : Fld Z h145 b145 "com/example/floodgauge/floodgauge/validate/Validation" "matched" "J" (.long (0 : Int64)) := D145 (Or.inr (wd hw 18 rfl)) (ty := .long) (by decide)
              have F149 : Fld Z h145 b145 "com/example/floodgauge/floodgauge/validate/Validation" "missing" "J" (.long (0 : Int64)) := D145 (Or.inr (wd hw 20 rfl)) (ty := .long) (by decide)
              have F150 : Fld Z h145 b145 "com/example/floodgauge/floodgauge/validate/Validation" "wrong" "J" (.long (0 : Int64)) := D145 (Or.inr (wd hw 22 rfl)) (ty := .long) (by decide)
              have F151 : Fld Z h145 b145 "com/example/floodgauge/floodgauge/validate/Validation" "extra" "J" (.long (0 : Int64)) := D145 (Or.inr (wd hw 24 rfl)) (ty := .long) (by decide)
              have F152 : Fld Z h145 b145 "com/example/floodgauge/floodgauge/validate/Validation" "duplicates" "Ljava/lang/Long;" .null := D145 (Or.inr (wd hw 26 rfl)) (ty := (.object "java/lang/Long")) (by decide)
              refine Go.by (B := (T145.setTop (mkF m 107 #[.val (.long m1), .second, .val (.long m2), .second, .val (.long m3), .second, .val (.long m4), .second, .val (.long m5), .second, .val (.int p6), .val (.int once97), .val (.long mi99), .second, .val (.long wr101), .second, .val (.long ex103), .second, .val (.int v104), .val (.ref b143), .val (.long m4), .second, .unset, .unset, .unset] [(.ref b145)]))) st145 ?_
              refine Go.by (B := (T145.setTop (mkF m 122 #[.val (.long m1), .second, .val (.long m2), .second, .val (.long m3), .second, .val (.long m4), .second, .val (.long m5), .second, .val (.int p6), .val (.int once97), .val (.long mi99), .second, .val (.long wr101), .second, .val (.long ex103), .second, .val (.int v104), .val (.ref b143), .val (.long m4), .second, .unset, .unset, .unset] [(.long ex103), (.long wr101), (.long mi99), (.long (m5 ^^^ (-1 : Int64))), (.long m5), (.ref b145), (.ref b145)]))) (fun _ k => XS.dup X145.here hx rfl (hb hby at_107) rfl rfl (XS.lload X145.here hx rfl (hb hby at_108) rfl (XS.lload X145.here hx rfl (hb hby at_110) rfl (X145.ldc2Long hx hown (mvT hZ (wd hw 3 rfl)) (g := (mkF m 112 #[.val (.long m1), .second, .val (.long m2), .second, .val (.long m3), .second, .val (.long m4), .second, .val (.long m5), .second, .val (.int p6), .val (.int once97), .val (.long mi99), .second, .val (.long wr101), .second, .val (.long ex103), .second, .val (.int v104), .val (.ref b143), .val (.long m4), .second, .unset, .unset, .unset] [(.long m5), (.long m5), (.ref b145), (.ref b145)])) rfl (hb hby at_112) _ (XS.lxor X145.here hx rfl (hb hby at_115) rfl (XS.lload X145.here hx rfl (hb hby at_116) rfl (XS.lload X145.here hx rfl (hb hby at_118) rfl (XS.lload X145.here hx rfl (hb hby at_120) rfl k)))))))) ?_
              refine Go.by (B := (T145.setTop (mkF m 124 #[.val (.long m1), .second, .val (.long m2), .second, .val (.long m3), .second, .val (.long m4), .second, .val (.long m5), .second, .val (.int p6), .val (.int once97), .val (.long mi99), .second, .val (.long wr101), .second, .val (.long ex103), .second, .val (.int v104), .val (.ref b143), .val (.long m4), .second, .unset, .unset, .unset] [(.ref b143), (.long ex103), (.long wr101), (.long mi99), (.long (m5 ^^^ (-1 : Int64))), (.long m5), (.ref b145), (.ref b145)]))) (fun _ k => XS.aload X145.here hx rfl (hb hby at_122) rfl rfl k) ?_
              obtain ⟨_, _, ⟨T153, L153, k153, n153⟩, -, X153, ⟨Lc153, hQ153, l153, y153, z153⟩, st153⟩ := X145.specialBack hx (y := (⟨"com/example/floodgauge/floodgauge/validate/Validation", "<init>", "(JJJJJLjava/lang/Long;)V"⟩ : MethodName)) rfl hown (mvT hZ (wd hw 4 rfl)) (mvT hZ (wd hw 5 rfl)) (mvT hZ (wd hw 6 rfl)) (by decide) (backOf (W := 1) (rm_ini_r l Z a0 hw [] b145 m5 (m5 ^^^ (-1 : Int64)) mi99 wr101 ex103 b143 h145 n0 Z146 O146 A145 F147 F148 F149 F150 F151 F152 (Nat.le_trans Z144 sz_b145)) hZ (wd hw 6 rfl) (wd hw 2 rfl) (by decide) (by decide)) (g := (mkF m 124 #[.val (.long m1), .second, .val (.long m2), .second, .val (.long m3), .second, .val (.long m4), .second, .val (.long m5), .second, .val (.int p6), .val (.int once97), .val (.long mi99), .second, .val (.long wr101), .second, .val (.long ex103), .second, .val (.int v104), .val (.ref b143), .val (.long m4), .second, .unset, .unset, .unset] [(.ref b143), (.long ex103), (.long wr101), (.long mi99), (.long (m5 ^^^ (-1 : Int64))), (.long m5), (.ref b145), (.ref b145)])) rfl (by rw [hml]; rfl) (Steps.refl _) (a := b145) (argsL := [(.long m5), (.long (m5 ^^^ (-1 : Int64))), (.long mi99), (.long wr101), (.long ex103), (.ref b143)]) (rest := [(.ref b145)]) (lenOf pd_4 rfl) rfl (by show 2 * 0 + _ ≤ _; exact Nat.le_of_eq rfl) (hb hby at_124) (fun _ _ => ⟨rfl, e145, Nat.le_of_ble_eq_true rfl, Nat.le_of_ble_eq_true rfl⟩)
              dsimp only [Pt.U, Pt.locs, Pt.cells, Pt.slots] at X153 l153 y153 z153 st153 hQ153
              subst l153 y153 z153
              obtain ⟨rfl, Nq153, K153, p153_0, p153_1, p153_2, p153_3, p153_4, p153_5, p153_6⟩ := hQ153
              have N153 := Fr.app N143 Nq153
              have O154 := O146.keep K153 (allS (Nat.le_trans Z144 sz_b145) all0)
              have Z154 : n0 ≤ T153.heap.size := Nat.le_trans Z146 K153.1
              refine Go.by (B := (T153.setTop (mkF m 127 #[.val (.long m1), .second, .val (.long m2), .second, .val (.long m3), .second, .val (.long m4), .second, .val (.long m5), .second, .val (.int p6), .val (.int once97), .val (.long mi99), .second, .val (.long wr101), .second, .val (.long ex103), .second, .val (.int v104), .val (.ref b143), .val (.long m4), .second, .unset, .unset, .unset] [(.ref b145)]))) (fun _ k => st153.trans k) ?_
              refine Go.by (B := (T153.setTop (mkF m 133 #[.val (.long m1), .second, .val (.long m2), .second, .val (.long m3), .second, .val (.long m4), .second, .val (.long m5), .second, .val (.int p6), .val (.int once97), .val (.long mi99), .second, .val (.long wr101), .second, .val (.long ex103), .second, .val (.int v104), .val (.ref b143), .val (.long m4), .second, .val (.ref b145), .unset, .unset] [(.int once97), (.ref b145)]))) (fun _ k => XS.astore X153.here hx rfl (hb hby at_127) rfl rfl (l' := #[.val (.long m1), .second, .val (.long m2), .second, .val (.long m3), .second, .val (.long m4), .second, .val (.long m5), .second, .val (.int p6), .val (.int once97), .val (.long mi99), .second, .val (.long wr101), .second, .val (.long ex103), .second, .val (.int v104), .val (.ref b143), .val (.long m4), .second, .val (.ref b145), .unset, .unset]) rfl (XS.aload X153.here hx rfl (hb hby at_129) rfl rfl (XS.iload X153.here hx rfl (hb hby at_131) rfl k))) ?_
              have f155 := ((p143_1.ext E145).keep K153 (ninS (Nat.ne_of_lt (Nat.lt_of_lt_of_le p143_0.lt sz_b145)) nin0))
              obtain ⟨cq156, kq156, q156a, q156b, q156c⟩ := isOf hZ rfl p153_0
              obtain ⟨_, _, ⟨T156, L156, k156, n156⟩, -, X156, ⟨Lc156, hQ156, l156, y156, z156⟩, st156⟩ := X153.virtualBack hx (y := (⟨"com/example/floodgauge/floodgauge/validate/Validation", "passed", "(Z)Z"⟩ : MethodName)) (z := (⟨"com/example/floodgauge/floodgauge/validate/Validation", "passed", "(Z)Z"⟩ : MethodName)) hown (mvT hZ (wd hw 27 rfl)) (mvT hZ (wd hw 28 rfl)) (notFace_of_selects (args := #[]) (mvT hZ (wd hw 30 rfl))) (mvT hZ (wd hw 30 rfl)) (mvT hZ (wd hw 29 rfl)) (by decide) (backOf (W := 0) (rm_passed_r l Z a0 hw [] b145 once97 mi99 wr101 ex103 b143 m4 T153.heap n0 Z154 p153_6 p153_3 p153_4 p153_5 ((p143_0.ext E145).keep K153) f155) hZ (wd hw 31 rfl) (wd hw 2 rfl) (by decide) (by decide)) q156a q156c (g := (mkF m 133 #[.val (.long m1), .second, .val (.long m2), .second, .val (.long m3), .second, .val (.long m4), .second, .val (.long m5), .second, .val (.int p6), .val (.int once97), .val (.long mi99), .second, .val (.long wr101), .second, .val (.long ex103), .second, .val (.int v104), .val (.ref b143), .val (.long m4), .second, .val (.ref b145), .unset, .unset] [(.int once97), (.ref b145)])) rfl (by rw [hml]; rfl) (Steps.refl _) (argsL := [(.int once97)]) (rest := []) (lenOf pd_5 rfl) rfl (by show 2 * 0 + _ ≤ _; exact Nat.le_of_eq rfl) (hb hby at_133) (fun _ _ => ⟨rfl, rfl, Nat.le_of_ble_eq_true rfl, Nat.le_of_ble_eq_true rfl⟩)
              dsimp only [Pt.U, Pt.locs, Pt.cells, Pt.slots] at X156 l156 y156 z156 st156 hQ156
              subst l156 y156 z156
              obtain ⟨rfl, Nq156, hh156⟩ := hQ156
              have N156 := Fr.app N153 Nq156
              refine Go.by (B := (T156.setTop (mkF m 136 #[.val (.long m1), .second, .val (.long m2), .second, .val (.long m3), .second, .val (.long m4), .second, .val (.long m5), .second, .val (.int p6), .val (.int once97), .val (.long mi99), .second, .val (.long wr101), .second, .val (.long ex103), .second, .val (.int v104), .val (.ref b143), .val (.long m4), .second, .val (.ref b145), .unset, .unset] [(.int (if mi99 = 0 ∧ wr101 = 0 ∧ ex103 = 0 ∧ (once97 = 0 ∨ m4 = 0) then (1 : Int32) else 0))]))) (fun _ k => st156.trans k) ?_
              obtain ⟨v157, hv157⟩ : ∃ v, v = (if mi99 = 0 ∧ wr101 = 0 ∧ ex103 = 0 ∧ (once97 = 0 ∨ m4 = 0) then (1 : Int32) else 0) := ⟨_, rfl⟩
              refine Go.by (B := (T156.setTop (mkF m 142 #[.val (.long m1), .second, .val (.long m2), .second, .val (.long m3), .second, .val (.long m4), .second, .val (.long m5), .second, .val (.int p6), .val (.int once97), .val (.long mi99), .second, .val (.long wr101), .second, .val (.long ex103), .second, .val (.int v104), .val (.ref b143), .val (.long m4), .second, .val (.ref b145), .val (.int v157), .unset] [(.int (lcmpW mi99 (0 : Int64)))]))) (fun _ k => XS.istore (x := v157) (rest := []) X156.here hx rfl (hb hby at_136) (by rw [hv157]) (l' := #[.val (.long m1), .second, .val (.long m2), .second, .val (.long m3), .second, .val (.long m4), .second, .val (.long m5), .second, .val (.int p6), .val (.int once97), .val (.long mi99), .second, .val (.long wr101), .second, .val (.long ex103), .second, .val (.int v104), .val (.ref b143), .val (.long m4), .second, .val (.ref b145), .val (.int v157), .unset]) rfl (XS.lload X156.here hx rfl (hb hby at_138) rfl (XS.lconst X156.here hx rfl (hb hby at_140) (XS.lcmp X156.here hx rfl (hb hby at_141) rfl k)))) ?_
              by_cases c158 : mi99 = (0 : Int64)
              · skip
                refine Go.by (B := (T156.setTop (mkF m 155 #[.val (.long m1), .second, .val (.long m2), .second, .val (.long m3), .second, .val (.long m4), .second, .val (.long m5), .second, .val (.int p6), .val (.int once97), .val (.long mi99), .second, .val (.long wr101), .second, .val (.long ex103), .second, .val (.int v104), .val (.ref b143), .val (.long m4), .second, .val (.ref b145), .val (.int v157), .unset] [(.int (lcmpW wr101 (0 : Int64)))]))) (fun _ k => XS.ifYes X156.here hx rfl (pc0 := 142) (pc' := 151) rfl (hb hby at_142) rfl ((if0 _ _).trans (teq ((lw_eq _ _).mpr c158)).1) (by decide) (by decide) (XS.lload X156.here hx rfl (hb hby at_151) rfl (XS.lconst X156.here hx rfl (hb hby at_153) (XS.lcmp X156.here hx rfl (hb hby at_154) rfl k)))) ?_
                by_cases c159 : wr101 = (0 : Int64)
                · skip
                  refine Go.by (B := (T156.setTop (mkF m 168 #[.val (.long m1), .second, .val (.long m2), .second, .val (.long m3), .second, .val (.long m4), .second, .val (.long m5), .second, .val (.int p6), .val (.int once97), .val (.long mi99), .second, .val (.long wr101), .second, .val (.long ex103), .second, .val (.int v104), .val (.ref b143), .val (.long m4), .second, .val (.ref b145), .val (.int v157), .unset] [(.int (lcmpW ex103 (0 : Int64)))]))) (fun _ k => XS.ifYes X156.here hx rfl (pc0 := 155) (pc' := 164) rfl (hb hby at_155) rfl ((if0 _ _).trans (teq ((lw_eq _ _).mpr c159)).1) (by decide) (by decide) (XS.lload X156.here hx rfl (hb hby at_164) rfl (XS.lconst X156.here hx rfl (hb hby at_166) (XS.lcmp X156.here hx rfl (hb hby at_167) rfl k)))) ?_
                  by_cases c160 : ex103 = (0 : Int64)
                  · skip
                    refine Go.by (B := (T156.setTop (mkF m 179 #[.val (.long m1), .second, .val (.long m2), .second, .val (.long m3), .second, .val (.long m4), .second, .val (.long m5), .second, .val (.int p6), .val (.int once97), .val (.long mi99), .second, .val (.long wr101), .second, .val (.long ex103), .second, .val (.int v104), .val (.ref b143), .val (.long m4), .second, .val (.ref b145), .val (.int v157), .unset] [(.int once97)]))) (fun _ k => XS.ifYes X156.here hx rfl (pc0 := 168) (pc' := 177) rfl (hb hby at_168) rfl ((if0 _ _).trans (teq ((lw_eq _ _).mpr c160)).1) (by decide) (by decide) (XS.iload X156.here hx rfl (hb hby at_177) rfl k)) ?_
                    by_cases c161 : once97 = (0 : Int32)
                    · skip
                      refine Go.by (B := (T156.setTop (mkF m 221 #[.val (.long m1), .second, .val (.long m2), .second, .val (.long m3), .second, .val (.long m4), .second, .val (.long m5), .second, .val (.int p6), .val (.int once97), .val (.long mi99), .second, .val (.long wr101), .second, .val (.long ex103), .second, .val (.int v104), .val (.ref b143), .val (.long m4), .second, .val (.ref b145), .val (.int v157), .val (.int 1)] [(.int 1)]))) (fun _ k => XS.ifNo X156.here hx rfl (hb hby at_179) rfl ((if0 _ _).trans (teq c161).2) (XS.iconst X156.here hx rfl (hb hby at_182) (XS.istore X156.here hx rfl (hb hby at_183) rfl (l' := #[.val (.long m1), .second, .val (.long m2), .second, .val (.long m3), .second, .val (.long m4), .second, .val (.long m5), .second, .val (.int p6), .val (.int once97), .val (.long mi99), .second, .val (.long wr101), .second, .val (.long ex103), .second, .val (.int v104), .val (.ref b143), .val (.long m4), .second, .val (.ref b145), .val (.int v157), .val (.int 1)]) rfl (XS.goto X156.here hx rfl (pc0 := 185) (pc' := 213) rfl (hb hby at_185) (by decide) (by decide) (XS.iload X156.here hx rfl (hb hby at_213) rfl (XS.iload X156.here hx rfl (hb hby at_215) rfl (XS.icmpNo X156.here hx rfl (hb hby at_217) rfl (teq (by rw [hv157]; simp [hszJ, c105, c125, c158, c159, c160, c161] : v157 = (1 : Int32))).2 (XS.iconst X156.here hx rfl (hb hby at_220) k)))))))) ?_
                      refine Go.by (B := (T156.setTop (mkF m 225 #[.val (.long m1), .second, .val (.long m2), .second, .val (.long m3), .second, .val (.long m4), .second, .val (.long m5), .second, .val (.int p6), .val (.int once97), .val (.long mi99), .second, .val (.long wr101), .second, .val (.long ex103), .second, .val (.int v104), .val (.ref b143), .val (.long m4), .second, .val (.ref b145), .val (.int v157), .val (.int 1)] [(.int 1)]))) (fun _ k => XS.goto X156.here hx rfl (pc0 := 221) (pc' := 225) rfl (hb hby at_221) (by decide) (by decide) k) ?_
                      refine Go.ret X156 hx hlk (t := .boolean) hret rfl (Or.inl ⟨rfl, by simp, _, rfl⟩) (hb hby at_225) (by decide) (by decide) ?_
                      exact ⟨rfl, N156⟩
                    · skip
                      refine Go.by (B := (T156.setTop (mkF m 203 #[.val (.long m1), .second, .val (.long m2), .second, .val (.long m3), .second, .val (.long m4), .second, .val (.long m5), .second, .val (.int p6), .val (.int once97), .val (.long mi99), .second, .val (.long wr101), .second, .val (.long ex103), .second, .val (.int v104), .val (.ref b143), .val (.long m4), .second, .val (.ref b145), .val (.int v157), .unset] [(.int (lcmpW m4 (0 : Int64)))]))) (fun _ k => XS.ifYes X156.here hx rfl (pc0 := 179) (pc' := 188) rfl (hb hby at_179) rfl ((if0 _ _).trans (feq c161).2) (by decide) (by decide) (XS.iload X156.here hx rfl (hb hby at_188) rfl (XS.ifYes X156.here hx rfl (pc0 := 190) (pc' := 199) rfl (hb hby at_190) rfl ((if0 _ _).trans (feq (fun q => c125 (by rw [q]; decide) : ¬ (v104 = (0 : Int32)))).2) (by decide) (by decide) (XS.lload X156.here hx rfl (hb hby at_199) rfl (XS.lconst X156.here hx rfl (hb hby at_201) (XS.lcmp X156.here hx rfl (hb hby at_202) rfl k)))))) ?_
                      by_cases c162 : m4 = (0 : Int64)
                      · skip
                        refine Go.by (B := (T156.setTop (mkF m 221 #[.val (.long m1), .second, .val (.long m2), .second, .val (.long m3), .second, .val (.long m4), .second, .val (.long m5), .second, .val (.int p6), .val (.int once97), .val (.long mi99), .second, .val (.long wr101), .second, .val (.long ex103), .second, .val (.int v104), .val (.ref b143), .val (.long m4), .second, .val (.ref b145), .val (.int v157), .val (.int 1)] [(.int 1)]))) (fun _ k => XS.ifNo X156.here hx rfl (hb hby at_203) rfl ((if0 _ _).trans (teq ((lw_eq _ _).mpr c162)).2) (XS.iconst X156.here hx rfl (hb hby at_206) (XS.goto X156.here hx rfl (pc0 := 207) (pc' := 211) rfl (hb hby at_207) (by decide) (by decide) (XS.istore X156.here hx rfl (hb hby at_211) rfl (l' := #[.val (.long m1), .second, .val (.long m2), .second, .val (.long m3), .second, .val (.long m4), .second, .val (.long m5), .second, .val (.int p6), .val (.int once97), .val (.long mi99), .second, .val (.long wr101), .second, .val (.long ex103), .second, .val (.int v104), .val (.ref b143), .val (.long m4), .second, .val (.ref b145), .val (.int v157), .val (.int 1)]) rfl (XS.iload X156.here hx rfl (hb hby at_213) rfl (XS.iload X156.here hx rfl (hb hby at_215) rfl (XS.icmpNo X156.here hx rfl (hb hby at_217) rfl (teq (by rw [hv157]; simp [hszJ, c105, c125, c158, c159, c160, c161, c162] : v157 = (1 : Int32))).2 (XS.iconst X156.here hx rfl (hb hby at_220) k)))))))) ?_
                        refine Go.by (B := (T156.setTop (mkF m 225 #[.val (.long m1), .second, .val (.long m2), .second, .val (.long m3), .second, .val (.long m4), .second, .val (.long m5), .second, .val (.int p6), .val (.int once97), .val (.long mi99), .second, .val (.long wr101), .second, .val (.long ex103), .second, .val (.int v104), .val (.ref b143), .val (.long m4), .second, .val (.ref b145), .val (.int v157), .val (.int 1)] [(.int 1)]))) (fun _ k => XS.goto X156.here hx rfl (pc0 := 221) (pc' := 225) rfl (hb hby at_221) (by decide) (by decide) k) ?_
                        refine Go.ret X156 hx hlk (t := .boolean) hret rfl (Or.inl ⟨rfl, by simp, _, rfl⟩) (hb hby at_225) (by decide) (by decide) ?_
                        exact ⟨rfl, N156⟩
                      · skip
                        refine Go.by (B := (T156.setTop (mkF m 225 #[.val (.long m1), .second, .val (.long m2), .second, .val (.long m3), .second, .val (.long m4), .second, .val (.long m5), .second, .val (.int p6), .val (.int once97), .val (.long mi99), .second, .val (.long wr101), .second, .val (.long ex103), .second, .val (.int v104), .val (.ref b143), .val (.long m4), .second, .val (.ref b145), .val (.int v157), .val (.int 0)] [(.int 1)]))) (fun _ k => XS.ifYes X156.here hx rfl (pc0 := 203) (pc' := 210) rfl (hb hby at_203) rfl ((if0 _ _).trans (feq (fun q => c162 ((lw_eq _ _).mp q))).2) (by decide) (by decide) (XS.iconst X156.here hx rfl (hb hby at_210) (XS.istore X156.here hx rfl (hb hby at_211) rfl (l' := #[.val (.long m1), .second, .val (.long m2), .second, .val (.long m3), .second, .val (.long m4), .second, .val (.long m5), .second, .val (.int p6), .val (.int once97), .val (.long mi99), .second, .val (.long wr101), .second, .val (.long ex103), .second, .val (.int v104), .val (.ref b143), .val (.long m4), .second, .val (.ref b145), .val (.int v157), .val (.int 0)]) rfl (XS.iload X156.here hx rfl (hb hby at_213) rfl (XS.iload X156.here hx rfl (hb hby at_215) rfl (XS.icmpNo X156.here hx rfl (hb hby at_217) rfl (teq (by rw [hv157]; simp [hszJ, c105, c125, c158, c159, c160, c161, c162] : v157 = (0 : Int32))).2 (XS.iconst X156.here hx rfl (hb hby at_220) (XS.goto X156.here hx rfl (pc0 := 221) (pc' := 225) rfl (hb hby at_221) (by decide) (by decide) k)))))))) ?_
                        refine Go.ret X156 hx hlk (t := .boolean) hret rfl (Or.inl ⟨rfl, by simp, _, rfl⟩) (hb hby at_225) (by decide) (by decide) ?_
                        exact ⟨rfl, N156⟩
                  · skip
                    refine Go.by (B := (T156.setTop (mkF m 221 #[.val (.long m1), .second, .val (.long m2), .second, .val (.long m3), .second, .val (.long m4), .second, .val (.long m5), .second, .val (.int p6), .val (.int once97), .val (.long mi99), .second, .val (.long wr101), .second, .val (.long ex103), .second, .val (.int v104), .val (.ref b143), .val (.long m4), .second, .val (.ref b145), .val (.int v157), .val (.int 0)] [(.int 1)]))) (fun _ k => XS.ifNo X156.here hx rfl (hb hby at_168) rfl ((if0 _ _).trans (feq (fun q => c160 ((lw_eq _ _).mp q))).1) (XS.iconst X156.here hx rfl (hb hby at_171) (XS.istore X156.here hx rfl (hb hby at_172) rfl (l' := #[.val (.long m1), .second, .val (.long m2), .second, .val (.long m3), .second, .val (.long m4), .second, .val (.long m5), .second, .val (.int p6), .val (.int once97), .val (.long mi99), .second, .val (.long wr101), .second, .val (.long ex103), .second, .val (.int v104), .val (.ref b143), .val (.long m4), .second, .val (.ref b145), .val (.int v157), .val (.int 0)]) rfl (XS.goto X156.here hx rfl (pc0 := 174) (pc' := 213) rfl (hb hby at_174) (by decide) (by decide) (XS.iload X156.here hx rfl (hb hby at_213) rfl (XS.iload X156.here hx rfl (hb hby at_215) rfl (XS.icmpNo X156.here hx rfl (hb hby at_217) rfl (teq (by rw [hv157]; simp [hszJ, c105, c125, c158, c159, c160] : v157 = (0 : Int32))).2 (XS.iconst X156.here hx rfl (hb hby at_220) k)))))))) ?_
                    refine Go.by (B := (T156.setTop (mkF m 225 #[.val (.long m1), .second, .val (.long m2), .second, .val (.long m3), .second, .val (.long m4), .second, .val (.long m5), .second, .val (.int p6), .val (.int once97), .val (.long mi99), .second, .val (.long wr101), .second, .val (.long ex103), .second, .val (.int v104), .val (.ref b143), .val (.long m4), .second, .val (.ref b145), .val (.int v157), .val (.int 0)] [(.int 1)]))) (fun _ k => XS.goto X156.here hx rfl (pc0 := 221) (pc' := 225) rfl (hb hby at_221) (by decide) (by decide) k) ?_
                    refine Go.ret X156 hx hlk (t := .boolean) hret rfl (Or.inl ⟨rfl, by simp, _, rfl⟩) (hb hby at_225) (by decide) (by decide) ?_
                    exact ⟨rfl, N156⟩
                · skip
                  refine Go.by (B := (T156.setTop (mkF m 221 #[.val (.long m1), .second, .val (.long m2), .second, .val (.long m3), .second, .val (.long m4), .second, .val (.long m5), .second, .val (.int p6), .val (.int once97), .val (.long mi99), .second, .val (.long wr101), .second, .val (.long ex103), .second, .val (.int v104), .val (.ref b143), .val (.long m4), .second, .val (.ref b145), .val (.int v157), .val (.int 0)] [(.int 1)]))) (fun _ k => XS.ifNo X156.here hx rfl (hb hby at_155) rfl ((if0 _ _).trans (feq (fun q => c159 ((lw_eq _ _).mp q))).1) (XS.iconst X156.here hx rfl (hb hby at_158) (XS.istore X156.here hx rfl (hb hby at_159) rfl (l' := #[.val (.long m1), .second, .val (.long m2), .second, .val (.long m3), .second, .val (.long m4), .second, .val (.long m5), .second, .val (.int p6), .val (.int once97), .val (.long mi99), .second, .val (.long wr101), .second, .val (.long ex103), .second, .val (.int v104), .val (.ref b143), .val (.long m4), .second, .val (.ref b145), .val (.int v157), .val (.int 0)]) rfl (XS.goto X156.here hx rfl (pc0 := 161) (pc' := 213) rfl (hb hby at_161) (by decide) (by decide) (XS.iload X156.here hx rfl (hb hby at_213) rfl (XS.iload X156.here hx rfl (hb hby at_215) rfl (XS.icmpNo X156.here hx rfl (hb hby at_217) rfl (teq (by rw [hv157]; simp [hszJ, c105, c125, c158, c159] : v157 = (0 : Int32))).2 (XS.iconst X156.here hx rfl (hb hby at_220) k)))))))) ?_
                  refine Go.by (B := (T156.setTop (mkF m 225 #[.val (.long m1), .second, .val (.long m2), .second, .val (.long m3), .second, .val (.long m4), .second, .val (.long m5), .second, .val (.int p6), .val (.int once97), .val (.long mi99), .second, .val (.long wr101), .second, .val (.long ex103), .second, .val (.int v104), .val (.ref b143), .val (.long m4), .second, .val (.ref b145), .val (.int v157), .val (.int 0)] [(.int 1)]))) (fun _ k => XS.goto X156.here hx rfl (pc0 := 221) (pc' := 225) rfl (hb hby at_221) (by decide) (by decide) k) ?_
                  refine Go.ret X156 hx hlk (t := .boolean) hret rfl (Or.inl ⟨rfl, by simp, _, rfl⟩) (hb hby at_225) (by decide) (by decide) ?_
                  exact ⟨rfl, N156⟩
              · skip
                refine Go.by (B := (T156.setTop (mkF m 221 #[.val (.long m1), .second, .val (.long m2), .second, .val (.long m3), .second, .val (.long m4), .second, .val (.long m5), .second, .val (.int p6), .val (.int once97), .val (.long mi99), .second, .val (.long wr101), .second, .val (.long ex103), .second, .val (.int v104), .val (.ref b143), .val (.long m4), .second, .val (.ref b145), .val (.int v157), .val (.int 0)] [(.int 1)]))) (fun _ k => XS.ifNo X156.here hx rfl (hb hby at_142) rfl ((if0 _ _).trans (feq (fun q => c158 ((lw_eq _ _).mp q))).1) (XS.iconst X156.here hx rfl (hb hby at_145) (XS.istore X156.here hx rfl (hb hby at_146) rfl (l' := #[.val (.long m1), .second, .val (.long m2), .second, .val (.long m3), .second, .val (.long m4), .second, .val (.long m5), .second, .val (.int p6), .val (.int once97), .val (.long mi99), .second, .val (.long wr101), .second, .val (.long ex103), .second, .val (.int v104), .val (.ref b143), .val (.long m4), .second, .val (.ref b145), .val (.int v157), .val (.int 0)]) rfl (XS.goto X156.here hx rfl (pc0 := 148) (pc' := 213) rfl (hb hby at_148) (by decide) (by decide) (XS.iload X156.here hx rfl (hb hby at_213) rfl (XS.iload X156.here hx rfl (hb hby at_215) rfl (XS.icmpNo X156.here hx rfl (hb hby at_217) rfl (teq (by rw [hv157]; simp [hszJ, c105, c125, c158] : v157 = (0 : Int32))).2 (XS.iconst X156.here hx rfl (hb hby at_220) k)))))))) ?_
                refine Go.by (B := (T156.setTop (mkF m 225 #[.val (.long m1), .second, .val (.long m2), .second, .val (.long m3), .second, .val (.long m4), .second, .val (.long m5), .second, .val (.int p6), .val (.int once97), .val (.long mi99), .second, .val (.long wr101), .second, .val (.long ex103), .second, .val (.int v104), .val (.ref b143), .val (.long m4), .second, .val (.ref b145), .val (.int v157), .val (.int 0)] [(.int 1)]))) (fun _ k => XS.goto X156.here hx rfl (pc0 := 221) (pc' := 225) rfl (hb hby at_221) (by decide) (by decide) k) ?_
                refine Go.ret X156 hx hlk (t := .boolean) hret rfl (Or.inl ⟨rfl, by simp, _, rfl⟩) (hb hby at_225) (by decide) (by decide) ?_
                exact ⟨rfl, N156⟩
        refine Go.by (B := (T101.setTop (mkF m 47 #[.val (.long m1), .second, .val (.long m2), .second, .val (.long m3), .second, .val (.long m4), .second, .val (.long m5), .second, .val (.int p6), .val (.int once97), .val (.long mi99), .second, .val (.long wr101), .second, .unset, .unset, .unset, .unset, .unset, .unset, .unset, .unset, .unset] [(.int (p6 &&& (8 : Int32)))]))) (fun _ k => XS.iload X102.here hx rfl (hb hby at_42) rfl (XS.bipush X102.here hx rfl (hb hby at_44) (XS.iand X102.here hx rfl (hb hby at_46) rfl k))) ?_
        by_cases c163 : (p6 &&& (8 : Int32)) = (0 : Int32)
        · skip
          refine Go.by (B := (T101.setTop (mkF m 56 #[.val (.long m1), .second, .val (.long m2), .second, .val (.long m3), .second, .val (.long m4), .second, .val (.long m5), .second, .val (.int p6), .val (.int once97), .val (.long mi99), .second, .val (.long wr101), .second, .unset, .unset, .unset, .unset, .unset, .unset, .unset, .unset, .unset] [(.long (0 : Int64))]))) (fun _ k => XS.ifYes X102.here hx rfl (pc0 := 47) (pc' := 55) rfl (hb hby at_47) rfl ((if0 _ _).trans (teq c163).1) (by decide) (by decide) (XS.lconst X102.here hx rfl (hb hby at_55) k)) ?_
          exact J102 T101 X102 e102 (0 : Int64)
        · skip
          refine Go.by (B := (T101.setTop (mkF m 56 #[.val (.long m1), .second, .val (.long m2), .second, .val (.long m3), .second, .val (.long m4), .second, .val (.long m5), .second, .val (.int p6), .val (.int once97), .val (.long mi99), .second, .val (.long wr101), .second, .unset, .unset, .unset, .unset, .unset, .unset, .unset, .unset, .unset] [(.long m3)]))) (fun _ k => XS.ifNo X102.here hx rfl (hb hby at_47) rfl ((if0 _ _).trans (feq c163).1) (XS.lload X102.here hx rfl (hb hby at_50) rfl (XS.goto X102.here hx rfl (pc0 := 52) (pc' := 56) rfl (hb hby at_52) (by decide) (by decide) k))) ?_
          exact J102 T101 X102 e102 m3
      refine Go.by (B := (T99.setTop (mkF m 32 #[.val (.long m1), .second, .val (.long m2), .second, .val (.long m3), .second, .val (.long m4), .second, .val (.long m5), .second, .val (.int p6), .val (.int once97), .val (.long mi99), .second, .unset, .unset, .unset, .unset, .unset, .unset, .unset, .unset, .unset, .unset, .unset] [(.int (p6 &&& (4 : Int32)))]))) (fun _ k => XS.iload X100.here hx rfl (hb hby at_28) rfl (XS.iconst X100.here hx rfl (hb hby at_30) (XS.iand X100.here hx rfl (hb hby at_31) rfl k))) ?_
      by_cases c164 : (p6 &&& (4 : Int32)) = (0 : Int32)
      · skip
        refine Go.by (B := (T99.setTop (mkF m 40 #[.val (.long m1), .second, .val (.long m2), .second, .val (.long m3), .second, .val (.long m4), .second, .val (.long m5), .second, .val (.int p6), .val (.int once97), .val (.long mi99), .second, .unset, .unset, .unset, .unset, .unset, .unset, .unset, .unset, .unset, .unset, .unset] [(.long (0 : Int64))]))) (fun _ k => XS.ifYes X100.here hx rfl (pc0 := 32) (pc' := 39) rfl (hb hby at_32) rfl ((if0 _ _).trans (teq c164).1) (by decide) (by decide) (XS.lconst X100.here hx rfl (hb hby at_39) k)) ?_
        exact J100 T99 X100 e100 (0 : Int64)
      · skip
        refine Go.by (B := (T99.setTop (mkF m 40 #[.val (.long m1), .second, .val (.long m2), .second, .val (.long m3), .second, .val (.long m4), .second, .val (.long m5), .second, .val (.int p6), .val (.int once97), .val (.long mi99), .second, .unset, .unset, .unset, .unset, .unset, .unset, .unset, .unset, .unset, .unset, .unset] [(.long m2)]))) (fun _ k => XS.ifNo X100.here hx rfl (hb hby at_32) rfl ((if0 _ _).trans (feq c164).1) (XS.lloadN X100.here hx rfl (hb hby at_35) rfl (XS.goto X100.here hx rfl (pc0 := 36) (pc' := 40) rfl (hb hby at_36) (by decide) (by decide) k))) ?_
        exact J100 T99 X100 e100 m2
    refine Go.by (B := (T97.setTop (mkF m 18 #[.val (.long m1), .second, .val (.long m2), .second, .val (.long m3), .second, .val (.long m4), .second, .val (.long m5), .second, .val (.int p6), .val (.int once97), .unset, .unset, .unset, .unset, .unset, .unset, .unset, .unset, .unset, .unset, .unset, .unset, .unset] [(.int (p6 &&& (2 : Int32)))]))) (fun _ k => XS.iload X98.here hx rfl (hb hby at_14) rfl (XS.iconst X98.here hx rfl (hb hby at_16) (XS.iand X98.here hx rfl (hb hby at_17) rfl k))) ?_
    by_cases c165 : (p6 &&& (2 : Int32)) = (0 : Int32)
    · skip
      refine Go.by (B := (T97.setTop (mkF m 26 #[.val (.long m1), .second, .val (.long m2), .second, .val (.long m3), .second, .val (.long m4), .second, .val (.long m5), .second, .val (.int p6), .val (.int once97), .unset, .unset, .unset, .unset, .unset, .unset, .unset, .unset, .unset, .unset, .unset, .unset, .unset] [(.long (0 : Int64))]))) (fun _ k => XS.ifYes X98.here hx rfl (pc0 := 18) (pc' := 25) rfl (hb hby at_18) rfl ((if0 _ _).trans (teq c165).1) (by decide) (by decide) (XS.lconst X98.here hx rfl (hb hby at_25) k)) ?_
      exact J98 T97 X98 e98 (0 : Int64)
    · skip
      refine Go.by (B := (T97.setTop (mkF m 26 #[.val (.long m1), .second, .val (.long m2), .second, .val (.long m3), .second, .val (.long m4), .second, .val (.long m5), .second, .val (.int p6), .val (.int once97), .unset, .unset, .unset, .unset, .unset, .unset, .unset, .unset, .unset, .unset, .unset, .unset, .unset] [(.long m1)]))) (fun _ k => XS.ifNo X98.here hx rfl (hb hby at_18) rfl ((if0 _ _).trans (feq c165).1) (XS.lloadN X98.here hx rfl (hb hby at_21) rfl (XS.goto X98.here hx rfl (pc0 := 22) (pc' := 26) rfl (hb hby at_22) (by decide) (by decide) k))) ?_
      exact J98 T97 X98 e98 m1
  refine Go.by (B := (s₁.setTop (mkF m 4 #[.val (.long m1), .second, .val (.long m2), .second, .val (.long m3), .second, .val (.long m4), .second, .val (.long m5), .second, .val (.int p6), .unset, .unset, .unset, .unset, .unset, .unset, .unset, .unset, .unset, .unset, .unset, .unset, .unset, .unset] [(.int (p6 &&& (1 : Int32)))]))) (fun _ k => XS.iload X96.here hx rfl (hb hby at_0) rfl (XS.iconst X96.here hx rfl (hb hby at_2) (XS.iand X96.here hx rfl (hb hby at_3) rfl k))) ?_
  by_cases c166 : (p6 &&& (1 : Int32)) = (0 : Int32)
  · skip
    refine Go.by (B := (s₁.setTop (mkF m 12 #[.val (.long m1), .second, .val (.long m2), .second, .val (.long m3), .second, .val (.long m4), .second, .val (.long m5), .second, .val (.int p6), .unset, .unset, .unset, .unset, .unset, .unset, .unset, .unset, .unset, .unset, .unset, .unset, .unset, .unset] [(.int 0)]))) (fun _ k => XS.ifYes X96.here hx rfl (pc0 := 4) (pc' := 11) rfl (hb hby at_4) rfl ((if0 _ _).trans (teq c166).1) (by decide) (by decide) (XS.iconst X96.here hx rfl (hb hby at_11) k)) ?_
    exact J96 s₁ X96 e96 (0 : Int32)
  · skip
    refine Go.by (B := (s₁.setTop (mkF m 12 #[.val (.long m1), .second, .val (.long m2), .second, .val (.long m3), .second, .val (.long m4), .second, .val (.long m5), .second, .val (.int p6), .unset, .unset, .unset, .unset, .unset, .unset, .unset, .unset, .unset, .unset, .unset, .unset, .unset, .unset] [(.int 1)]))) (fun _ k => XS.ifNo X96.here hx rfl (hb hby at_4) rfl ((if0 _ _).trans (feq c166).1) (XS.iconst X96.here hx rfl (hb hby at_7) (XS.goto X96.here hx rfl (pc0 := 8) (pc' := 12) rfl (hb hby at_8) (by decide) (by decide) k))) ?_
    exact J96 s₁ X96 e96 (1 : Int32)
set_option maxRecDepth 65536 in
set_option maxHeartbeats 40000000 in
theorem comes_1 {Post : Tables → Env → Array Value → State → Outcome → State → Prop} (hpost : ∀ tb e args s v u, (limb_1_1.after args s (.returned v) u = true ∧ limb_1_2.after args s (.returned v) u = true ∧ True) → FrameEnd s (.returned v) u (Jvm.fieldLocs frame_1_writes args s ++ Jvm.arrayLocs frame_1_arrays args s ++ Jvm.staticLocs frame_1_statics s) 16 128 → Post tb e args s (.returned v) u) :
    ArmFor flags0 classFile x code maxLocals ret World_1 tables_1 room_1 Calls_1 rest_1 Pre_1 Post := by
  intro l hfl _ _ p e ha hc hk s m args below hf hA hF happ hP
  obtain ⟨hcalls, hrest, hpre⟩ := hP
  obtain ⟨-, -, -, hnamed, -, -, -, hat⟩ := (Spec.applies_iff hf).mp happ
  obtain ⟨hg, hn⟩ := and_e (Cond.before_iff.mp (show (Jvm.Cond.and given_1 narrow_1).before args s = true from hpre))
  obtain ⟨hg0, hgr0⟩ := and_e hg
  obtain ⟨ga0, hgr1⟩ := and_e hgr0
  obtain ⟨ga1, hgr2⟩ := and_e hgr1
  obtain ⟨ga2, hgr3⟩ := and_e hgr2
  obtain ⟨ga3, hgr4⟩ := and_e hgr3
  obtain ⟨ga4, hgr5⟩ := and_e hgr4
  obtain ⟨w0, w1, w2, w3, w4, w5, rfl⟩ : ∃ w0 w1 w2 w3 w4 w5 : Value, args = #[w0, w1, w2, w3, w4, w5] := by
    have hs : args.size = 6 := by simpa [Cond.value, given_1] using hg0
    obtain ⟨L⟩ := args
    match L, hs with
    | [w0, w1, w2, w3, w4, w5], _ => exact ⟨w0, w1, w2, w3, w4, w5, rfl⟩
  have hw := fun d (hd : d ∈ tables_1) => atoms_spec (ws := Jvm.Cond.code x code maxLocals ret :: tables_1) hat d (List.mem_cons_of_mem _ hd)
  have hfit : Fit s := fun {y c} hc i hi => by
    obtain ⟨ha, rfl⟩ := Array.getElem?_eq_some_iff.mp hc
    have q := List.all_eq_true.mp ((Array.all_eq_true_iff_forall_mem.mp hF) _ (Array.getElem_mem ha)) i (List.mem_range.mpr hi)
    simpa [Array.getElem?_eq_getElem hi] using q
  obtain ⟨hsets, hown0⟩ := atoms_of _ (rest_1_c_eq ▸ (show rest_1_c.before _ s = true from hrest))
  have hr0 := Cond.before_iff.mp hown0
  obtain ⟨i0, ei0⟩ := isL_v ga0
  obtain rfl : w0 = (.long i0) := Option.some.inj ei0
  obtain ⟨i1, ei1⟩ := isL_v ga1
  obtain rfl : w1 = (.long i1) := Option.some.inj ei1
  obtain ⟨i2, ei2⟩ := isL_v ga2
  obtain rfl : w2 = (.long i2) := Option.some.inj ei2
  obtain ⟨i3, ei3⟩ := isL_v ga3
  obtain rfl : w3 = (.long i3) := Option.some.inj ei3
  obtain ⟨i4, ei4⟩ := isL_v ga4
  obtain rfl : w4 = (.long i4) := Option.some.inj ei4
  obtain ⟨i5, ei5⟩ := is_v hgr5
  obtain rfl : w5 = (.int i5) := Option.some.inj ei5
  obtain ⟨wc_L, ev_L⟩ := exa_v (Cond.before_iff.mp (hsets _ (List.mem_of_getElem? (i := 3) rfl)))
  have S_L : Sta s s.heap "java/lang/Long$LongCache" "cache" "[Ljava/lang/Long;" (.ref wc_L) := Sta.start ev_L (Or.inl (hsets _ (List.mem_of_getElem? (i := 1) rfl)))
  obtain ⟨cl_L, A_L⟩ := Arr.start ev_L (Cond.before_iff.mp (hsets _ (List.mem_of_getElem? (i := 2) rfl)))
  have sz_L := own_size256 ev_L A_L (Cond.before_iff.mp (hsets _ (List.mem_of_getElem? (i := 4) rfl)))
  have at_L : s.arrayAt? wc_L = some cl_L := A_L.fin (State.Warmed39.refl s).alike
  have el_L : ∀ j : Int32, ¬ j < 0 → j.toNatClampNeg < 256 → ∃ b, cl_L.slots[j.toNatClampNeg]? = some (.ref b) ∧ Exa s s.heap b "java/lang/Long" ∧ Fld s s.heap b "java/lang/Long" "value" "J" (.long (j - 128).toInt64) := fun j hj hj1 => by
    have q := Cond.all_elim ev_L at_L (Cond.before_iff.mp (hsets _ (List.mem_of_getElem? (i := 5) rfl))) j.toNatClampNeg (by rw [sz_L]; exact hj1)
    obtain ⟨q1, q2⟩ := and_e q
    obtain ⟨b, eb⟩ := exa_v q1
    have hi : ∀ A : Array Value, (Term.index 0).eval A s none [j.toNatClampNeg] s = some (.int j) := fun A => idx_at hj
    have hu := own_eqL (k := (j - 128).toInt64) q2 (by simp [Term.eval, hi, Unary.apply, (back32 hj).1])
    exact ⟨b, (elem_in eb ev_L (hi _) A_L.1).2, exa_at eb q1, Fld.start ((fld_at eb).symm.trans hu)⟩
  obtain ⟨n, o, h1, h2, h3, _, L, rfl, ⟨rfl, N⟩, hq⟩ := rm0 l s _ hw tables_1 i0 i1 i2 i3 i4 i5 wc_L cl_L s.heap s.heap.size (Nat.le_refl _) (Old.start s) S_L A_L sz_L el_L p e ha hc hk s m _ below hf ((Spec.applies_iff_loose hf).mp happ).1 ⟨rfl, State.Warmed39.refl s, rfl⟩ trivial
  refine ⟨n, _, h1, h2, h3, hpost _ _ _ _ _ _ ⟨Cond.after_iff.mpr rfl, Cond.after_iff.mpr (eq_i res_at (Term.int_eval (1)) rfl), trivial⟩ ⟨hq.1, hq.2.1, (hq.2.2.sift fun y hy => Or.inr (N y hy)).mono (by decide) (by decide)⟩⟩
theorem main_1_1 : Claimed_1_1 := comes_1 fun _ _ _ _ _ _ h hF => ⟨h.1, hF⟩
theorem main_1_2 : Claimed_1_2 := comes_1 fun _ _ _ _ _ _ h hF => ⟨h.2.1, hF⟩
end Jvm.Pilot.@@N@@
namespace Jvm.Pilot.@@N@@
open Jvm Jvm.ClassFile Sem Op Lib Jvm.Free Jvm.Stand Jvm.Pilot.@@N@@.Jvm.D
/-! MADE BY PROGRAM (witnessworld.py) out of the Statement's table words and the real class files: 17 classes; the members and pool entries that the words name. The judged class is class 1, her method 1. -/
namespace start1
open Jvm.ClassFile
def u (s : String) : CpInfo := .utf8 (stringToUtf16 s)
/-- a pool by its gaps: so many unusable entries, then the entry; so many at the end -/
def gap : Nat → List CpInfo → List CpInfo
  | 0, r => r
  | n + 1, r => .unusable :: gap n r
def poolList (es : List (Nat × CpInfo)) (last : Nat) : List CpInfo := es.foldr (fun e r => gap e.1 (e.2 :: r)) (gap last [])
def pool (es : List (Nat × CpInfo)) (last : Nat) : Array CpInfo := ⟨poolList es last⟩
def fileOf (pool : Array CpInfo) (this : Nat) (attrs : Array Attribute := #[]) (ms : Array MethodInfo := #[]) (fl : Nat := 33) (sup : Nat := 0) (ifs : Array Nat := #[]) (fds : Array FieldInfo := #[]) : ClassFile where
  minorVersion := 0
  majorVersion := 65
  constantPool := pool
  accessFlags := fl
  thisClass := this
  superClass := sup
  interfaces := ifs
  fields := fds
  methods := ms
  attributes := attrs
def plain (name : String) (sup : Option ClassId) : Class where
  name := name
  kind := .ordinary
  loader := none
  accessFlags := 33
  super := sup
  interfaces := #[]
  cf := none
  fields := #[]
  methods := #[]
  instanceTypes := #[]
  staticTypes := #[]
  resolved := #[]
  callSites := []
  init := .initialized
  statics := none
  mirror := none

def pool0 : Array CpInfo := pool [(5, u "<init>"), (0, u "()V"), (1, .class_ 10), (1, u "java/lang/Object")] 113

def k0c0 : Code := { maxStack := 0, maxLocals := 1, code := object_method_1_code, exceptionTable := #[], attributes := #[] }
def k0m0 : Method := { name := "<init>", desc := "()V", sig := { parameters := [], returnType := none }, accessFlags := 1, code := some k0c0 }
/-- java/lang/Object -/
def k0 : Class := { plain "java/lang/Object" none with
  accessFlags := 33
  interfaces := #[]
  cf := some (fileOf pool0 8 #[] #[{ accessFlags := 1, nameIndex := 5, descriptorIndex := 6, attributes := #[] }] 33 0 #[] #[])
  fields := #[]
  methods := #[k0m0]
  instanceTypes := #[]
  staticTypes := #[]
  resolved := Array.replicate 124 none
  statics := none }

def pool1 : Array CpInfo := pool [(2, .class_ 4), (1, u "java/lang/Object"), (0, u "<init>"), (0, u "()V"), (0, .methodref 8 9), (0, .class_ 10), (0, .nameAndType 11 12), (0, u "java/lang/Long"), (0, u "valueOf"), (0, u "(J)Ljava/lang/Long;"), (0, .class_ 14), (0, u "com/example/floodgauge/floodgauge/validate/Validation"), (0, .long 18446744073709551615), (1, .methodref 13 18), (0, .nameAndType 5 19), (0, u "(JJJJJLjava/lang/Long;)V"), (0, .methodref 13 21), (0, .nameAndType 22 23), (0, u "passed"), (0, u "(Z)Z"), (0, .class_ 25), (0, u "com/example/floodgauge/floodgauge/validate/ValidationPassedPinLaw"), (2, u "law"), (0, u "(JJJJJI)Z")] 3

def k1m0 : Method := { name := "<init>", desc := "()V", sig := { parameters := [], returnType := none }, accessFlags := 1, code := none }
def k1c1 : Code := { maxStack := 13, maxLocals := 25, code := code, exceptionTable := #[], attributes := #[] }
def k1m1 : Method := { name := "law", desc := "(JJJJJI)Z", sig := { parameters := [.long, .long, .long, .long, .long, .int], returnType := some .boolean }, accessFlags := 9, code := some k1c1 }
/-- com/example/floodgauge/floodgauge/validate/ValidationPassedPinLaw -/
def k1 : Class := { plain "com/example/floodgauge/floodgauge/validate/ValidationPassedPinLaw" (some 0) with
  accessFlags := 49
  interfaces := #[]
  cf := some (fileOf pool1 24 #[] #[{ accessFlags := 1, nameIndex := 5, descriptorIndex := 6, attributes := #[] }, { accessFlags := 9, nameIndex := 28, descriptorIndex := 29, attributes := #[] }] 49 2 #[] #[])
  fields := #[]
  methods := #[k1m0, k1m1]
  instanceTypes := #[]
  staticTypes := #[]
  resolved := Array.replicate 33 none
  statics := none }

def pool2 : Array CpInfo := pool [(1, .methodref 2 3), (0, .class_ 4), (0, .nameAndType 5 6), (0, u "java/lang/Object"), (0, u "<init>"), (0, u "()V"), (0, .class_ 8), (0, u "java/lang/Record")] 13

def k2c0 : Code := { maxStack := 1, maxLocals := 1, code := jdk_30_method_1_code, exceptionTable := #[], attributes := #[] }
def k2m0 : Method := { name := "<init>", desc := "()V", sig := { parameters := [], returnType := none }, accessFlags := 4, code := some k2c0 }
/-- java/lang/Record -/
def k2 : Class := { plain "java/lang/Record" (some 0) with
  accessFlags := 1057
  interfaces := #[]
  cf := some (fileOf pool2 7 #[] #[{ accessFlags := 4, nameIndex := 5, descriptorIndex := 6, attributes := #[] }] 1057 2 #[] #[])
  fields := #[]
  methods := #[k2m0]
  instanceTypes := #[]
  staticTypes := #[]
  resolved := Array.replicate 22 none
  statics := none }

def pool3 : Array CpInfo := pool [(1, .methodref 2 3), (0, .class_ 4), (0, .nameAndType 5 6), (0, u "java/lang/Record"), (0, u "<init>"), (0, u "()V"), (0, .fieldref 8 9), (0, .class_ 10), (0, .nameAndType 11 12), (0, u "com/example/floodgauge/floodgauge/validate/Validation"), (0, u "expected"), (0, u "J"), (0, .fieldref 8 14), (0, .nameAndType 15 12), (0, u "matched"), (0, .fieldref 8 17), (0, .nameAndType 18 12), (0, u "missing"), (0, .fieldref 8 20), (0, .nameAndType 21 12), (0, u "wrong"), (0, .fieldref 8 23), (0, .nameAndType 24 12), (0, u "extra"), (0, .fieldref 8 26), (0, .nameAndType 27 28), (0, u "duplicates"), (0, u "Ljava/lang/Long;"), (0, .methodref 30 31), (0, .class_ 32), (0, .nameAndType 33 34), (0, u "java/lang/Long"), (0, u "longValue"), (0, u "()J"), (31, u "(JJJJJLjava/lang/Long;)V"), (3, u "passed"), (0, u "(Z)Z")] 34

def k3c0 : Code := { maxStack := 3, maxLocals := 12, code := prog_19_method_1_code, exceptionTable := #[], attributes := #[] }
def k3m0 : Method := { name := "<init>", desc := "(JJJJJLjava/lang/Long;)V", sig := { parameters := [.long, .long, .long, .long, .long, (.object "java/lang/Long")], returnType := none }, accessFlags := 1, code := some k3c0 }
def k3c1 : Code := { maxStack := 4, maxLocals := 3, code := prog_19_method_2_code, exceptionTable := #[], attributes := #[] }
def k3m1 : Method := { name := "passed", desc := "(Z)Z", sig := { parameters := [.boolean], returnType := some .boolean }, accessFlags := 1, code := some k3c1 }
/-- com/example/floodgauge/floodgauge/validate/Validation -/
def k3 : Class := { plain "com/example/floodgauge/floodgauge/validate/Validation" (some 2) with
  accessFlags := 49
  interfaces := #[]
  cf := some (fileOf pool3 8 #[] #[{ accessFlags := 1, nameIndex := 5, descriptorIndex := 66, attributes := #[] }, { accessFlags := 1, nameIndex := 70, descriptorIndex := 71, attributes := #[] }] 49 2 #[] #[{ accessFlags := 18, nameIndex := 11, descriptorIndex := 12, attributes := #[] }, { accessFlags := 18, nameIndex := 15, descriptorIndex := 12, attributes := #[] }, { accessFlags := 18, nameIndex := 18, descriptorIndex := 12, attributes := #[] }, { accessFlags := 18, nameIndex := 21, descriptorIndex := 12, attributes := #[] }, { accessFlags := 18, nameIndex := 24, descriptorIndex := 12, attributes := #[] }, { accessFlags := 18, nameIndex := 27, descriptorIndex := 28, attributes := #[] }])
  fields := #[{ name := "expected", type := .long, accessFlags := 18, slot := 0, constantValue := 0 }, { name := "matched", type := .long, accessFlags := 18, slot := 1, constantValue := 0 }, { name := "missing", type := .long, accessFlags := 18, slot := 2, constantValue := 0 }, { name := "wrong", type := .long, accessFlags := 18, slot := 3, constantValue := 0 }, { name := "extra", type := .long, accessFlags := 18, slot := 4, constantValue := 0 }, { name := "duplicates", type := (.object "java/lang/Long"), accessFlags := 18, slot := 5, constantValue := 0 }]
  methods := #[k3m0, k3m1]
  instanceTypes := #[.long, .long, .long, .long, .long, (.object "java/lang/Long")]
  staticTypes := #[]
  resolved := Array.replicate 106 none
  statics := none }

def pool4 : Array CpInfo := pool [(1, .class_ 2), (0, u "java/io/Serializable"), (0, .class_ 4), (0, u "java/lang/Object")] 2

/-- java/io/Serializable -/
def k4 : Class := { plain "java/io/Serializable" (some 0) with
  accessFlags := 1537
  interfaces := #[]
  cf := some (fileOf pool4 1 #[] #[] 1537 3 #[] #[])
  fields := #[]
  methods := #[]
  instanceTypes := #[]
  staticTypes := #[]
  resolved := Array.replicate 7 none
  statics := none }

def pool5 : Array CpInfo := pool [(1, .methodref 2 3), (0, .class_ 4), (0, .nameAndType 5 6), (0, u "java/lang/Object"), (0, u "<init>"), (0, u "()V"), (1, .class_ 10), (1, u "java/lang/Number"), (2, .class_ 14), (0, u "java/io/Serializable"), (0, u "serialVersionUID"), (0, u "J")] 20

def k5c0 : Code := { maxStack := 1, maxLocals := 1, code := jdk_18_method_1_code, exceptionTable := #[], attributes := #[] }
def k5m0 : Method := { name := "<init>", desc := "()V", sig := { parameters := [], returnType := none }, accessFlags := 1, code := some k5c0 }
/-- java/lang/Number -/
def k5 : Class := { plain "java/lang/Number" (some 0) with
  accessFlags := 1057
  interfaces := #[4]
  cf := some (fileOf pool5 8 #[] #[{ accessFlags := 1, nameIndex := 5, descriptorIndex := 6, attributes := #[] }] 1057 2 #[13] #[{ accessFlags := 26, nameIndex := 15, descriptorIndex := 16, attributes := #[] }])
  fields := #[{ name := "serialVersionUID", type := .long, accessFlags := 26, slot := 0, constantValue := 0 }]
  methods := #[k5m0]
  instanceTypes := #[]
  staticTypes := #[.long]
  resolved := Array.replicate 37 none
  statics := none }

def pool6 : Array CpInfo := pool [(1, .class_ 2), (0, u "java/lang/Comparable"), (0, .class_ 4), (0, u "java/lang/Object")] 7

/-- java/lang/Comparable -/
def k6 : Class := { plain "java/lang/Comparable" (some 0) with
  accessFlags := 1537
  interfaces := #[]
  cf := some (fileOf pool6 1 #[] #[] 1537 3 #[] #[])
  fields := #[]
  methods := #[]
  instanceTypes := #[]
  staticTypes := #[]
  resolved := Array.replicate 12 none
  statics := none }

def pool7 : Array CpInfo := pool [(1, .class_ 2), (0, u "java/lang/constant/Constable"), (0, .class_ 4), (0, u "java/lang/Object")] 6

/-- java/lang/constant/Constable -/
def k7 : Class := { plain "java/lang/constant/Constable" (some 0) with
  accessFlags := 1537
  interfaces := #[]
  cf := some (fileOf pool7 1 #[] #[] 1537 3 #[] #[])
  fields := #[]
  methods := #[]
  instanceTypes := #[]
  staticTypes := #[]
  resolved := Array.replicate 11 none
  statics := none }

def pool8 : Array CpInfo := pool [(1, .class_ 2), (0, u "java/lang/constant/ConstantDesc"), (0, .class_ 4), (0, u "java/lang/Object")] 32

/-- java/lang/constant/ConstantDesc -/
def k8 : Class := { plain "java/lang/constant/ConstantDesc" (some 0) with
  accessFlags := 1537
  interfaces := #[]
  cf := some (fileOf pool8 1 #[] #[] 1537 3 #[] #[])
  fields := #[]
  methods := #[]
  instanceTypes := #[]
  staticTypes := #[]
  resolved := Array.replicate 37 none
  statics := none }

def pool9 : Array CpInfo := pool [(1, .class_ 2), (0, u "java/lang/Long"), (55, .nameAndType 59 60), (0, u "<init>"), (0, u "()V"), (24, u "valueOf"), (143, u "(J)Ljava/lang/Long;"), (0, .long 18446744073709551488), (1, .long 127), (1, .fieldref 235 236), (0, .class_ 237), (0, .nameAndType 238 239), (0, u "java/lang/Long$LongCache"), (0, u "cache"), (0, u "[Ljava/lang/Long;"), (0, .methodref 1 241), (0, .nameAndType 59 242), (0, u "(J)V"), (27, .methodref 271 58), (0, .class_ 272), (0, u "java/lang/Number"), (0, .fieldref 1 274), (0, .nameAndType 275 276), (0, u "value"), (0, u "J"), (5, u "longValue"), (0, u "()J"), (77, u "TYPE"), (0, u "Ljava/lang/Class;"), (0, .class_ 364), (0, u "java/lang/Comparable"), (0, .class_ 366), (0, u "java/lang/constant/Constable"), (0, .class_ 368), (0, u "java/lang/constant/ConstantDesc"), (0, u "MIN_VALUE"), (1, u "MAX_VALUE"), (4, u "SIZE"), (0, u "I"), (1, u "BYTES"), (1, u "serialVersionUID")] 142

def k9c0 : Code := { maxStack := 4, maxLocals := 3, code := jdk_35_method_24_code, exceptionTable := #[], attributes := #[] }
def k9m0 : Method := { name := "valueOf", desc := "(J)Ljava/lang/Long;", sig := { parameters := [.long], returnType := some (.object "java/lang/Long") }, accessFlags := 9, code := some k9c0 }
def k9c1 : Code := { maxStack := 3, maxLocals := 3, code := jdk_35_method_26_code, exceptionTable := #[], attributes := #[] }
def k9m1 : Method := { name := "<init>", desc := "(J)V", sig := { parameters := [.long], returnType := none }, accessFlags := 1, code := some k9c1 }
def k9c2 : Code := { maxStack := 2, maxLocals := 1, code := jdk_35_method_31_code, exceptionTable := #[], attributes := #[] }
def k9m2 : Method := { name := "longValue", desc := "()J", sig := { parameters := [], returnType := some .long }, accessFlags := 1, code := some k9c2 }
/-- java/lang/Long -/
def k9 : Class := { plain "java/lang/Long" (some 5) with
  accessFlags := 49
  interfaces := #[6, 7, 8]
  cf := some (fileOf pool9 1 #[.nestMembers #[235]] #[{ accessFlags := 9, nameIndex := 85, descriptorIndex := 229, attributes := #[] }, { accessFlags := 1, nameIndex := 59, descriptorIndex := 242, attributes := #[] }, { accessFlags := 1, nameIndex := 282, descriptorIndex := 283, attributes := #[] }] 49 271 #[363, 365, 367] #[{ accessFlags := 25, nameIndex := 369, descriptorIndex := 276, attributes := #[] }, { accessFlags := 25, nameIndex := 371, descriptorIndex := 276, attributes := #[] }, { accessFlags := 25, nameIndex := 361, descriptorIndex := 362, attributes := #[] }, { accessFlags := 18, nameIndex := 275, descriptorIndex := 276, attributes := #[] }, { accessFlags := 25, nameIndex := 376, descriptorIndex := 377, attributes := #[] }, { accessFlags := 25, nameIndex := 379, descriptorIndex := 377, attributes := #[] }, { accessFlags := 26, nameIndex := 381, descriptorIndex := 276, attributes := #[] }])
  fields := #[{ name := "MIN_VALUE", type := .long, accessFlags := 25, slot := 0, constantValue := 0 }, { name := "MAX_VALUE", type := .long, accessFlags := 25, slot := 1, constantValue := 0 }, { name := "TYPE", type := (.object "java/lang/Class"), accessFlags := 25, slot := 2, constantValue := 0 }, { name := "value", type := .long, accessFlags := 18, slot := 0, constantValue := 0 }, { name := "SIZE", type := .int, accessFlags := 25, slot := 3, constantValue := 0 }, { name := "BYTES", type := .int, accessFlags := 25, slot := 4, constantValue := 0 }, { name := "serialVersionUID", type := .long, accessFlags := 26, slot := 5, constantValue := 0 }]
  methods := #[k9m0, k9m1, k9m2]
  instanceTypes := #[.long]
  staticTypes := #[.long, .long, (.object "java/lang/Class"), .int, .int, .long]
  resolved := Array.replicate 524 none
  statics := none }

def pool10 : Array CpInfo := pool [(2, .class_ 4), (1, u "java/lang/Object"), (0, u "<init>"), (0, u "()V"), (0, .class_ 8), (0, u "java/lang/Long"), (7, .class_ 18), (1, u "java/lang/Long$LongCache"), (0, u "$assertionsDisabled"), (0, u "Z"), (8, u "archivedCache"), (0, u "[Ljava/lang/Long;"), (7, u "cache")] 24

def k10m0 : Method := { name := "<init>", desc := "()V", sig := { parameters := [], returnType := none }, accessFlags := 2, code := none }
/-- java/lang/Long$LongCache -/
def k10 : Class := { plain "java/lang/Long$LongCache" (some 0) with
  accessFlags := 48
  interfaces := #[]
  cf := some (fileOf pool10 16 #[.nestHost 7] #[{ accessFlags := 2, nameIndex := 5, descriptorIndex := 6, attributes := #[] }] 48 2 #[] #[{ accessFlags := 24, nameIndex := 38, descriptorIndex := 30, attributes := #[] }, { accessFlags := 8, nameIndex := 29, descriptorIndex := 30, attributes := #[] }, { accessFlags := 4120, nameIndex := 19, descriptorIndex := 20, attributes := #[] }])
  fields := #[{ name := "cache", type := (.array (.object "java/lang/Long")), accessFlags := 24, slot := 0, constantValue := 0 }, { name := "archivedCache", type := (.array (.object "java/lang/Long")), accessFlags := 8, slot := 1, constantValue := 0 }, { name := "$assertionsDisabled", type := .boolean, accessFlags := 4120, slot := 2, constantValue := 0 }]
  methods := #[k10m0]
  instanceTypes := #[]
  staticTypes := #[(.array (.object "java/lang/Long")), (.array (.object "java/lang/Long")), .boolean]
  resolved := Array.replicate 63 none
  statics := some 0 }

def pool11 : Array CpInfo := pool [(1, u "java/lang/Cloneable"), (0, .class_ 1), (0, u "java/lang/Object"), (0, .class_ 3)] 3

/-- java/lang/Cloneable -/
def k11 : Class := { plain "java/lang/Cloneable" (some 0) with
  accessFlags := 1537
  interfaces := #[]
  cf := some (fileOf pool11 2 #[] #[] 1537 4 #[] #[])
  fields := #[]
  methods := #[]
  instanceTypes := #[]
  staticTypes := #[]
  resolved := Array.replicate 8 none
  statics := none }

/-- the primitive byte -/
def k12 : Class := { plain "byte" none with kind := .primitive 'B', accessFlags := 0x411 }
/-- [B -/
def k13 : Class := { plain "[B" (some 0) with kind := .array 12 .byte, interfaces := #[11, 4], accessFlags := 1041 }

/-- the primitive int -/
def k14 : Class := { plain "int" none with kind := .primitive 'I', accessFlags := 0x411 }
/-- [I -/
def k15 : Class := { plain "[I" (some 0) with kind := .array 14 .int, interfaces := #[11, 4], accessFlags := 1041 }

/-- [Ljava/lang/Long; -/
def k16 : Class := { plain "[Ljava/lang/Long;" (some 0) with kind := .array 9 (.object "java/lang/Long"), interfaces := #[11, 4], accessFlags := 1041 }

def heap : Heap := #[{ cls := 10, slots := #[.ref 1, .null, .int 0], vm := .statics 10 },
  { cls := 16, slots := #[.ref 2, .ref 3, .ref 4, .ref 5, .ref 6, .ref 7, .ref 8, .ref 9, .ref 10, .ref 11, .ref 12, .ref 13, .ref 14, .ref 15, .ref 16, .ref 17, .ref 18, .ref 19, .ref 20, .ref 21, .ref 22, .ref 23, .ref 24, .ref 25, .ref 26, .ref 27, .ref 28, .ref 29, .ref 30, .ref 31, .ref 32, .ref 33, .ref 34, .ref 35, .ref 36, .ref 37, .ref 38, .ref 39, .ref 40, .ref 41, .ref 42, .ref 43, .ref 44, .ref 45, .ref 46, .ref 47, .ref 48, .ref 49, .ref 50, .ref 51, .ref 52, .ref 53, .ref 54, .ref 55, .ref 56, .ref 57, .ref 58, .ref 59, .ref 60, .ref 61, .ref 62, .ref 63, .ref 64, .ref 65, .ref 66, .ref 67, .ref 68, .ref 69, .ref 70, .ref 71, .ref 72, .ref 73, .ref 74, .ref 75, .ref 76, .ref 77, .ref 78, .ref 79, .ref 80, .ref 81, .ref 82, .ref 83, .ref 84, .ref 85, .ref 86, .ref 87, .ref 88, .ref 89, .ref 90, .ref 91, .ref 92, .ref 93, .ref 94, .ref 95, .ref 96, .ref 97, .ref 98, .ref 99, .ref 100, .ref 101, .ref 102, .ref 103, .ref 104, .ref 105, .ref 106, .ref 107, .ref 108, .ref 109, .ref 110, .ref 111, .ref 112, .ref 113, .ref 114, .ref 115, .ref 116, .ref 117, .ref 118, .ref 119, .ref 120, .ref 121, .ref 122, .ref 123, .ref 124, .ref 125, .ref 126, .ref 127, .ref 128, .ref 129, .ref 130, .ref 131, .ref 132, .ref 133, .ref 134, .ref 135, .ref 136, .ref 137, .ref 138, .ref 139, .ref 140, .ref 141, .ref 142, .ref 143, .ref 144, .ref 145, .ref 146, .ref 147, .ref 148, .ref 149, .ref 150, .ref 151, .ref 152, .ref 153, .ref 154, .ref 155, .ref 156, .ref 157, .ref 158, .ref 159, .ref 160, .ref 161, .ref 162, .ref 163, .ref 164, .ref 165, .ref 166, .ref 167, .ref 168, .ref 169, .ref 170, .ref 171, .ref 172, .ref 173, .ref 174, .ref 175, .ref 176, .ref 177, .ref 178, .ref 179, .ref 180, .ref 181, .ref 182, .ref 183, .ref 184, .ref 185, .ref 186, .ref 187, .ref 188, .ref 189, .ref 190, .ref 191, .ref 192, .ref 193, .ref 194, .ref 195, .ref 196, .ref 197, .ref 198, .ref 199, .ref 200, .ref 201, .ref 202, .ref 203, .ref 204, .ref 205, .ref 206, .ref 207, .ref 208, .ref 209, .ref 210, .ref 211, .ref 212, .ref 213, .ref 214, .ref 215, .ref 216, .ref 217, .ref 218, .ref 219, .ref 220, .ref 221, .ref 222, .ref 223, .ref 224, .ref 225, .ref 226, .ref 227, .ref 228, .ref 229, .ref 230, .ref 231, .ref 232, .ref 233, .ref 234, .ref 235, .ref 236, .ref 237, .ref 238, .ref 239, .ref 240, .ref 241, .ref 242, .ref 243, .ref 244, .ref 245, .ref 246, .ref 247, .ref 248, .ref 249, .ref 250, .ref 251, .ref 252, .ref 253, .ref 254, .ref 255, .ref 256, .ref 257], vm := .none },
  { cls := 9, slots := #[.long (-128)], vm := .none },
  { cls := 9, slots := #[.long (-127)], vm := .none },
  { cls := 9, slots := #[.long (-126)], vm := .none },
  { cls := 9, slots := #[.long (-125)], vm := .none },
  { cls := 9, slots := #[.long (-124)], vm := .none },
  { cls := 9, slots := #[.long (-123)], vm := .none },
  { cls := 9, slots := #[.long (-122)], vm := .none },
  { cls := 9, slots := #[.long (-121)], vm := .none },
  { cls := 9, slots := #[.long (-120)], vm := .none },
  { cls := 9, slots := #[.long (-119)], vm := .none },
  { cls := 9, slots := #[.long (-118)], vm := .none },
  { cls := 9, slots := #[.long (-117)], vm := .none },
  { cls := 9, slots := #[.long (-116)], vm := .none },
  { cls := 9, slots := #[.long (-115)], vm := .none },
  { cls := 9, slots := #[.long (-114)], vm := .none },
  { cls := 9, slots := #[.long (-113)], vm := .none },
  { cls := 9, slots := #[.long (-112)], vm := .none },
  { cls := 9, slots := #[.long (-111)], vm := .none },
  { cls := 9, slots := #[.long (-110)], vm := .none },
  { cls := 9, slots := #[.long (-109)], vm := .none },
  { cls := 9, slots := #[.long (-108)], vm := .none },
  { cls := 9, slots := #[.long (-107)], vm := .none },
  { cls := 9, slots := #[.long (-106)], vm := .none },
  { cls := 9, slots := #[.long (-105)], vm := .none },
  { cls := 9, slots := #[.long (-104)], vm := .none },
  { cls := 9, slots := #[.long (-103)], vm := .none },
  { cls := 9, slots := #[.long (-102)], vm := .none },
  { cls := 9, slots := #[.long (-101)], vm := .none },
  { cls := 9, slots := #[.long (-100)], vm := .none },
  { cls := 9, slots := #[.long (-99)], vm := .none },
  { cls := 9, slots := #[.long (-98)], vm := .none },
  { cls := 9, slots := #[.long (-97)], vm := .none },
  { cls := 9, slots := #[.long (-96)], vm := .none },
  { cls := 9, slots := #[.long (-95)], vm := .none },
  { cls := 9, slots := #[.long (-94)], vm := .none },
  { cls := 9, slots := #[.long (-93)], vm := .none },
  { cls := 9, slots := #[.long (-92)], vm := .none },
  { cls := 9, slots := #[.long (-91)], vm := .none },
  { cls := 9, slots := #[.long (-90)], vm := .none },
  { cls := 9, slots := #[.long (-89)], vm := .none },
  { cls := 9, slots := #[.long (-88)], vm := .none },
  { cls := 9, slots := #[.long (-87)], vm := .none },
  { cls := 9, slots := #[.long (-86)], vm := .none },
  { cls := 9, slots := #[.long (-85)], vm := .none },
  { cls := 9, slots := #[.long (-84)], vm := .none },
  { cls := 9, slots := #[.long (-83)], vm := .none },
  { cls := 9, slots := #[.long (-82)], vm := .none },
  { cls := 9, slots := #[.long (-81)], vm := .none },
  { cls := 9, slots := #[.long (-80)], vm := .none },
  { cls := 9, slots := #[.long (-79)], vm := .none },
  { cls := 9, slots := #[.long (-78)], vm := .none },
  { cls := 9, slots := #[.long (-77)], vm := .none },
  { cls := 9, slots := #[.long (-76)], vm := .none },
  { cls := 9, slots := #[.long (-75)], vm := .none },
  { cls := 9, slots := #[.long (-74)], vm := .none },
  { cls := 9, slots := #[.long (-73)], vm := .none },
  { cls := 9, slots := #[.long (-72)], vm := .none },
  { cls := 9, slots := #[.long (-71)], vm := .none },
  { cls := 9, slots := #[.long (-70)], vm := .none },
  { cls := 9, slots := #[.long (-69)], vm := .none },
  { cls := 9, slots := #[.long (-68)], vm := .none },
  { cls := 9, slots := #[.long (-67)], vm := .none },
  { cls := 9, slots := #[.long (-66)], vm := .none },
  { cls := 9, slots := #[.long (-65)], vm := .none },
  { cls := 9, slots := #[.long (-64)], vm := .none },
  { cls := 9, slots := #[.long (-63)], vm := .none },
  { cls := 9, slots := #[.long (-62)], vm := .none },
  { cls := 9, slots := #[.long (-61)], vm := .none },
  { cls := 9, slots := #[.long (-60)], vm := .none },
  { cls := 9, slots := #[.long (-59)], vm := .none },
  { cls := 9, slots := #[.long (-58)], vm := .none },
  { cls := 9, slots := #[.long (-57)], vm := .none },
  { cls := 9, slots := #[.long (-56)], vm := .none },
  { cls := 9, slots := #[.long (-55)], vm := .none },
  { cls := 9, slots := #[.long (-54)], vm := .none },
  { cls := 9, slots := #[.long (-53)], vm := .none },
  { cls := 9, slots := #[.long (-52)], vm := .none },
  { cls := 9, slots := #[.long (-51)], vm := .none },
  { cls := 9, slots := #[.long (-50)], vm := .none },
  { cls := 9, slots := #[.long (-49)], vm := .none },
  { cls := 9, slots := #[.long (-48)], vm := .none },
  { cls := 9, slots := #[.long (-47)], vm := .none },
  { cls := 9, slots := #[.long (-46)], vm := .none },
  { cls := 9, slots := #[.long (-45)], vm := .none },
  { cls := 9, slots := #[.long (-44)], vm := .none },
  { cls := 9, slots := #[.long (-43)], vm := .none },
  { cls := 9, slots := #[.long (-42)], vm := .none },
  { cls := 9, slots := #[.long (-41)], vm := .none },
  { cls := 9, slots := #[.long (-40)], vm := .none },
  { cls := 9, slots := #[.long (-39)], vm := .none },
  { cls := 9, slots := #[.long (-38)], vm := .none },
  { cls := 9, slots := #[.long (-37)], vm := .none },
  { cls := 9, slots := #[.long (-36)], vm := .none },
  { cls := 9, slots := #[.long (-35)], vm := .none },
  { cls := 9, slots := #[.long (-34)], vm := .none },
  { cls := 9, slots := #[.long (-33)], vm := .none },
  { cls := 9, slots := #[.long (-32)], vm := .none },
  { cls := 9, slots := #[.long (-31)], vm := .none },
  { cls := 9, slots := #[.long (-30)], vm := .none },
  { cls := 9, slots := #[.long (-29)], vm := .none },
  { cls := 9, slots := #[.long (-28)], vm := .none },
  { cls := 9, slots := #[.long (-27)], vm := .none },
  { cls := 9, slots := #[.long (-26)], vm := .none },
  { cls := 9, slots := #[.long (-25)], vm := .none },
  { cls := 9, slots := #[.long (-24)], vm := .none },
  { cls := 9, slots := #[.long (-23)], vm := .none },
  { cls := 9, slots := #[.long (-22)], vm := .none },
  { cls := 9, slots := #[.long (-21)], vm := .none },
  { cls := 9, slots := #[.long (-20)], vm := .none },
  { cls := 9, slots := #[.long (-19)], vm := .none },
  { cls := 9, slots := #[.long (-18)], vm := .none },
  { cls := 9, slots := #[.long (-17)], vm := .none },
  { cls := 9, slots := #[.long (-16)], vm := .none },
  { cls := 9, slots := #[.long (-15)], vm := .none },
  { cls := 9, slots := #[.long (-14)], vm := .none },
  { cls := 9, slots := #[.long (-13)], vm := .none },
  { cls := 9, slots := #[.long (-12)], vm := .none },
  { cls := 9, slots := #[.long (-11)], vm := .none },
  { cls := 9, slots := #[.long (-10)], vm := .none },
  { cls := 9, slots := #[.long (-9)], vm := .none },
  { cls := 9, slots := #[.long (-8)], vm := .none },
  { cls := 9, slots := #[.long (-7)], vm := .none },
  { cls := 9, slots := #[.long (-6)], vm := .none },
  { cls := 9, slots := #[.long (-5)], vm := .none },
  { cls := 9, slots := #[.long (-4)], vm := .none },
  { cls := 9, slots := #[.long (-3)], vm := .none },
  { cls := 9, slots := #[.long (-2)], vm := .none },
  { cls := 9, slots := #[.long (-1)], vm := .none },
  { cls := 9, slots := #[.long 0], vm := .none },
  { cls := 9, slots := #[.long 1], vm := .none },
  { cls := 9, slots := #[.long 2], vm := .none },
  { cls := 9, slots := #[.long 3], vm := .none },
  { cls := 9, slots := #[.long 4], vm := .none },
  { cls := 9, slots := #[.long 5], vm := .none },
  { cls := 9, slots := #[.long 6], vm := .none },
  { cls := 9, slots := #[.long 7], vm := .none },
  { cls := 9, slots := #[.long 8], vm := .none },
  { cls := 9, slots := #[.long 9], vm := .none },
  { cls := 9, slots := #[.long 10], vm := .none },
  { cls := 9, slots := #[.long 11], vm := .none },
  { cls := 9, slots := #[.long 12], vm := .none },
  { cls := 9, slots := #[.long 13], vm := .none },
  { cls := 9, slots := #[.long 14], vm := .none },
  { cls := 9, slots := #[.long 15], vm := .none },
  { cls := 9, slots := #[.long 16], vm := .none },
  { cls := 9, slots := #[.long 17], vm := .none },
  { cls := 9, slots := #[.long 18], vm := .none },
  { cls := 9, slots := #[.long 19], vm := .none },
  { cls := 9, slots := #[.long 20], vm := .none },
  { cls := 9, slots := #[.long 21], vm := .none },
  { cls := 9, slots := #[.long 22], vm := .none },
  { cls := 9, slots := #[.long 23], vm := .none },
  { cls := 9, slots := #[.long 24], vm := .none },
  { cls := 9, slots := #[.long 25], vm := .none },
  { cls := 9, slots := #[.long 26], vm := .none },
  { cls := 9, slots := #[.long 27], vm := .none },
  { cls := 9, slots := #[.long 28], vm := .none },
  { cls := 9, slots := #[.long 29], vm := .none },
  { cls := 9, slots := #[.long 30], vm := .none },
  { cls := 9, slots := #[.long 31], vm := .none },
  { cls := 9, slots := #[.long 32], vm := .none },
  { cls := 9, slots := #[.long 33], vm := .none },
  { cls := 9, slots := #[.long 34], vm := .none },
  { cls := 9, slots := #[.long 35], vm := .none },
  { cls := 9, slots := #[.long 36], vm := .none },
  { cls := 9, slots := #[.long 37], vm := .none },
  { cls := 9, slots := #[.long 38], vm := .none },
  { cls := 9, slots := #[.long 39], vm := .none },
  { cls := 9, slots := #[.long 40], vm := .none },
  { cls := 9, slots := #[.long 41], vm := .none },
  { cls := 9, slots := #[.long 42], vm := .none },
  { cls := 9, slots := #[.long 43], vm := .none },
  { cls := 9, slots := #[.long 44], vm := .none },
  { cls := 9, slots := #[.long 45], vm := .none },
  { cls := 9, slots := #[.long 46], vm := .none },
  { cls := 9, slots := #[.long 47], vm := .none },
  { cls := 9, slots := #[.long 48], vm := .none },
  { cls := 9, slots := #[.long 49], vm := .none },
  { cls := 9, slots := #[.long 50], vm := .none },
  { cls := 9, slots := #[.long 51], vm := .none },
  { cls := 9, slots := #[.long 52], vm := .none },
  { cls := 9, slots := #[.long 53], vm := .none },
  { cls := 9, slots := #[.long 54], vm := .none },
  { cls := 9, slots := #[.long 55], vm := .none },
  { cls := 9, slots := #[.long 56], vm := .none },
  { cls := 9, slots := #[.long 57], vm := .none },
  { cls := 9, slots := #[.long 58], vm := .none },
  { cls := 9, slots := #[.long 59], vm := .none },
  { cls := 9, slots := #[.long 60], vm := .none },
  { cls := 9, slots := #[.long 61], vm := .none },
  { cls := 9, slots := #[.long 62], vm := .none },
  { cls := 9, slots := #[.long 63], vm := .none },
  { cls := 9, slots := #[.long 64], vm := .none },
  { cls := 9, slots := #[.long 65], vm := .none },
  { cls := 9, slots := #[.long 66], vm := .none },
  { cls := 9, slots := #[.long 67], vm := .none },
  { cls := 9, slots := #[.long 68], vm := .none },
  { cls := 9, slots := #[.long 69], vm := .none },
  { cls := 9, slots := #[.long 70], vm := .none },
  { cls := 9, slots := #[.long 71], vm := .none },
  { cls := 9, slots := #[.long 72], vm := .none },
  { cls := 9, slots := #[.long 73], vm := .none },
  { cls := 9, slots := #[.long 74], vm := .none },
  { cls := 9, slots := #[.long 75], vm := .none },
  { cls := 9, slots := #[.long 76], vm := .none },
  { cls := 9, slots := #[.long 77], vm := .none },
  { cls := 9, slots := #[.long 78], vm := .none },
  { cls := 9, slots := #[.long 79], vm := .none },
  { cls := 9, slots := #[.long 80], vm := .none },
  { cls := 9, slots := #[.long 81], vm := .none },
  { cls := 9, slots := #[.long 82], vm := .none },
  { cls := 9, slots := #[.long 83], vm := .none },
  { cls := 9, slots := #[.long 84], vm := .none },
  { cls := 9, slots := #[.long 85], vm := .none },
  { cls := 9, slots := #[.long 86], vm := .none },
  { cls := 9, slots := #[.long 87], vm := .none },
  { cls := 9, slots := #[.long 88], vm := .none },
  { cls := 9, slots := #[.long 89], vm := .none },
  { cls := 9, slots := #[.long 90], vm := .none },
  { cls := 9, slots := #[.long 91], vm := .none },
  { cls := 9, slots := #[.long 92], vm := .none },
  { cls := 9, slots := #[.long 93], vm := .none },
  { cls := 9, slots := #[.long 94], vm := .none },
  { cls := 9, slots := #[.long 95], vm := .none },
  { cls := 9, slots := #[.long 96], vm := .none },
  { cls := 9, slots := #[.long 97], vm := .none },
  { cls := 9, slots := #[.long 98], vm := .none },
  { cls := 9, slots := #[.long 99], vm := .none },
  { cls := 9, slots := #[.long 100], vm := .none },
  { cls := 9, slots := #[.long 101], vm := .none },
  { cls := 9, slots := #[.long 102], vm := .none },
  { cls := 9, slots := #[.long 103], vm := .none },
  { cls := 9, slots := #[.long 104], vm := .none },
  { cls := 9, slots := #[.long 105], vm := .none },
  { cls := 9, slots := #[.long 106], vm := .none },
  { cls := 9, slots := #[.long 107], vm := .none },
  { cls := 9, slots := #[.long 108], vm := .none },
  { cls := 9, slots := #[.long 109], vm := .none },
  { cls := 9, slots := #[.long 110], vm := .none },
  { cls := 9, slots := #[.long 111], vm := .none },
  { cls := 9, slots := #[.long 112], vm := .none },
  { cls := 9, slots := #[.long 113], vm := .none },
  { cls := 9, slots := #[.long 114], vm := .none },
  { cls := 9, slots := #[.long 115], vm := .none },
  { cls := 9, slots := #[.long 116], vm := .none },
  { cls := 9, slots := #[.long 117], vm := .none },
  { cls := 9, slots := #[.long 118], vm := .none },
  { cls := 9, slots := #[.long 119], vm := .none },
  { cls := 9, slots := #[.long 120], vm := .none },
  { cls := 9, slots := #[.long 121], vm := .none },
  { cls := 9, slots := #[.long 122], vm := .none },
  { cls := 9, slots := #[.long 123], vm := .none },
  { cls := 9, slots := #[.long 124], vm := .none },
  { cls := 9, slots := #[.long 125], vm := .none },
  { cls := 9, slots := #[.long 126], vm := .none },
  { cls := 9, slots := #[.long 127], vm := .none }]
def classes : Array Class := #[k0, k1, k2, k3, k4, k5, k6, k7, k8, k9, k10, k11, k12, k13, k14, k15, k16]
def interned : List (Array UInt16 × Addr) := []
def slotsUsed : Nat := 515
def theMethod : MethodId := ⟨1, 1⟩
def args0 : Array Value := #[.long 5, .long 6, .long 7, .long 8, .long 9, .int 10]
def aboutOver (below : List Frame) : State where
  vm := { classes := classes, interned := interned.toArray }
  heap := heap
  slotsUsed := slotsUsed
  threads := #[{ frames := .invoking theMethod args0 :: below }]
def below0 : List Frame := [.native { method := ⟨0, 0⟩, args := #[] }]
def about1 : State := aboutOver below0
def p0 : Program := .bare "" "" ""
def e0 : Env := launch0.env 0 0 0
theorem w_frames : about1.frames = Frame.invoking theMethod args0 :: below0 := rfl
set_option maxRecDepth 65536 in
theorem w_args : argsFit about1.vm theMethod args0 = true := by decide +kernel
set_option maxRecDepth 65536 in
theorem w_heap : heapFits about1 = true := by decide +kernel
set_option maxRecDepth 65536 in
theorem w_runnable : about1.curStatus? = some .runnable := by decide +kernel
set_option maxRecDepth 65536 in
theorem w_alone : about1.alone = true := by decide +kernel
set_option maxRecDepth 65536 in
theorem w_named : about1.methodNamed? x = some theMethod := by decide +kernel
set_option maxRecDepth 65536 in
theorem w_hears : about1.hears theMethod below0 = true := by decide +kernel
set_option maxRecDepth 65536 in
theorem w_ripe : about1.ripe theMethod args0 below0 = true := by decide +kernel
theorem w_running : about1.status = .running := rfl
set_option maxRecDepth 65536 in
theorem w_room : about1.hasRoom e0.platform room_1 = true :=
  launch0.hasRoom_least _ room_1 (by decide +kernel) (by decide +kernel) (by decide +kernel) (by decide +kernel) (by decide +kernel) (by decide +kernel)
theorem allAtoms_all (ts : List Jvm.Cond) (a : Array Jvm.Value) (st : Jvm.State) : (allAtoms ts).before a st = ts.all (fun c => c.before a st) := by
  induction ts with
  | nil => rfl
  | cons c t ih =>
    show (Jvm.Cond.and c (allAtoms t)).before a st = _
    rw [Jvm.Cond.before_and, ih, List.all_cons]
def words1 : List Jvm.Cond := Jvm.Cond.code x code maxLocals ret :: tables_1
/-- a 'code' word, met by the world's own term for the bytes: nothing is compared byte by byte -/
theorem code_word {y : MethodName} {bytes : ByteArray} {mx : Nat} {rt : Option FieldType} {a : Array Value} {s : State} {m : MethodId} {meth : Method} {c : Code} (h1 : s.methodNamed? y = some m) (h2 : s.vm.method? m = some meth) (h3 : meth.code = some c) (h4 : c.code = bytes)
    (h5 : (c.maxLocals == mx && c.exceptionTable.isEmpty && decide (c.maxStack ≤ mostOperands) && decide (meth.sig.returnType = rt) && !meth.locks && decide (parseMethodDescriptor y.desc = some meth.sig)) = true) : (Jvm.Cond.code y bytes mx rt).before a s = true := by
  simp only [Bool.and_eq_true, beq_iff_eq, Bool.not_eq_true', decide_eq_true_eq] at h5
  obtain ⟨⟨⟨⟨⟨g1, g2⟩, g3⟩, g4⟩, g5⟩, g6⟩ := h5
  simp [Cond.before, Cond.holds, Cond.value, h1, h2, h3, h4, g1, g2, g3, g4, g5, g6]
def isCode : Jvm.Cond → Bool
  | .code _ _ _ _ => true
  | _ => false
theorem all_split {L : List Jvm.Cond} {P : Jvm.Cond → Bool} (h1 : L.all (fun c => isCode c || P c) = true) (h2 : ∀ c ∈ L.filter isCode, P c = true) : L.all P = true := by
  refine List.all_eq_true.mpr fun c hc => ?_
  have h := List.all_eq_true.mp h1 c hc
  rcases Bool.eq_false_or_eq_true (isCode c) with hi | hi
  · exact h2 c (List.mem_filter.mpr ⟨hc, hi⟩)
  · simpa [hi] using h
set_option maxRecDepth 65536 in
theorem w_c0 : (Jvm.Cond.code x code maxLocals ret).before args0 about1 = true := code_word (m := ⟨1, 1⟩) (meth := k1m1) (c := k1c1) (by decide +kernel) rfl rfl rfl (by decide +kernel)
set_option maxRecDepth 65536 in
theorem w_c1 : (Jvm.Cond.code ({ cls := "com/example/floodgauge/floodgauge/validate/Validation", name := "<init>", desc := "(JJJJJLjava/lang/Long;)V" } : Jvm.MethodName) prog_19_method_1_code (12 : Nat) (Option.none : Option Jvm.ClassFile.FieldType)).before args0 about1 = true := code_word (m := ⟨3, 0⟩) (meth := k3m0) (c := k3c0) (by decide +kernel) rfl rfl rfl (by decide +kernel)
set_option maxRecDepth 65536 in
theorem w_c2 : (Jvm.Cond.code ({ cls := "java/lang/Record", name := "<init>", desc := "()V" } : Jvm.MethodName) jdk_30_method_1_code (1 : Nat) (Option.none : Option Jvm.ClassFile.FieldType)).before args0 about1 = true := code_word (m := ⟨2, 0⟩) (meth := k2m0) (c := k2c0) (by decide +kernel) rfl rfl rfl (by decide +kernel)
set_option maxRecDepth 65536 in
theorem w_c3 : (Jvm.Cond.code ({ cls := "java/lang/Object", name := "<init>", desc := "()V" } : Jvm.MethodName) object_method_1_code (1 : Nat) (Option.none : Option Jvm.ClassFile.FieldType)).before args0 about1 = true := code_word (m := ⟨0, 0⟩) (meth := k0m0) (c := k0c0) (by decide +kernel) rfl rfl rfl (by decide +kernel)
set_option maxRecDepth 65536 in
theorem w_c4 : (Jvm.Cond.code ({ cls := "com/example/floodgauge/floodgauge/validate/Validation", name := "passed", desc := "(Z)Z" } : Jvm.MethodName) prog_19_method_2_code (3 : Nat) (Option.some Jvm.ClassFile.FieldType.boolean)).before args0 about1 = true := code_word (m := ⟨3, 1⟩) (meth := k3m1) (c := k3c1) (by decide +kernel) rfl rfl rfl (by decide +kernel)
set_option maxRecDepth 65536 in
theorem w_c5 : (Jvm.Cond.code ({ cls := "java/lang/Long", name := "valueOf", desc := "(J)Ljava/lang/Long;" } : Jvm.MethodName) jdk_35_method_24_code (3 : Nat) (Option.some (Jvm.ClassFile.FieldType.object "java/lang/Long"))).before args0 about1 = true := code_word (m := ⟨9, 0⟩) (meth := k9m0) (c := k9c0) (by decide +kernel) rfl rfl rfl (by decide +kernel)
set_option maxRecDepth 65536 in
theorem w_c6 : (Jvm.Cond.code ({ cls := "java/lang/Long", name := "<init>", desc := "(J)V" } : Jvm.MethodName) jdk_35_method_26_code (3 : Nat) (Option.none : Option Jvm.ClassFile.FieldType)).before args0 about1 = true := code_word (m := ⟨9, 1⟩) (meth := k9m1) (c := k9c1) (by decide +kernel) rfl rfl rfl (by decide +kernel)
set_option maxRecDepth 65536 in
theorem w_c7 : (Jvm.Cond.code ({ cls := "java/lang/Number", name := "<init>", desc := "()V" } : Jvm.MethodName) jdk_18_method_1_code (1 : Nat) (Option.none : Option Jvm.ClassFile.FieldType)).before args0 about1 = true := code_word (m := ⟨5, 0⟩) (meth := k5m0) (c := k5c0) (by decide +kernel) rfl rfl rfl (by decide +kernel)
set_option maxRecDepth 65536 in
theorem w_c8 : (Jvm.Cond.code ({ cls := "java/lang/Long", name := "longValue", desc := "()J" } : Jvm.MethodName) jdk_35_method_31_code (1 : Nat) (Option.some Jvm.ClassFile.FieldType.long)).before args0 about1 = true := code_word (m := ⟨9, 2⟩) (meth := k9m2) (c := k9c2) (by decide +kernel) rfl rfl rfl (by decide +kernel)
def codes1 : List Jvm.Cond := [Jvm.Cond.code x code maxLocals ret, Jvm.Cond.code ({ cls := "com/example/floodgauge/floodgauge/validate/Validation", name := "<init>", desc := "(JJJJJLjava/lang/Long;)V" } : Jvm.MethodName) prog_19_method_1_code (12 : Nat) (Option.none : Option Jvm.ClassFile.FieldType), Jvm.Cond.code ({ cls := "java/lang/Record", name := "<init>", desc := "()V" } : Jvm.MethodName) jdk_30_method_1_code (1 : Nat) (Option.none : Option Jvm.ClassFile.FieldType), Jvm.Cond.code ({ cls := "java/lang/Object", name := "<init>", desc := "()V" } : Jvm.MethodName) object_method_1_code (1 : Nat) (Option.none : Option Jvm.ClassFile.FieldType), Jvm.Cond.code ({ cls := "com/example/floodgauge/floodgauge/validate/Validation", name := "passed", desc := "(Z)Z" } : Jvm.MethodName) prog_19_method_2_code (3 : Nat) (Option.some Jvm.ClassFile.FieldType.boolean), Jvm.Cond.code ({ cls := "java/lang/Long", name := "valueOf", desc := "(J)Ljava/lang/Long;" } : Jvm.MethodName) jdk_35_method_24_code (3 : Nat) (Option.some (Jvm.ClassFile.FieldType.object "java/lang/Long")), Jvm.Cond.code ({ cls := "java/lang/Long", name := "<init>", desc := "(J)V" } : Jvm.MethodName) jdk_35_method_26_code (3 : Nat) (Option.none : Option Jvm.ClassFile.FieldType), Jvm.Cond.code ({ cls := "java/lang/Number", name := "<init>", desc := "()V" } : Jvm.MethodName) jdk_18_method_1_code (1 : Nat) (Option.none : Option Jvm.ClassFile.FieldType), Jvm.Cond.code ({ cls := "java/lang/Long", name := "longValue", desc := "()J" } : Jvm.MethodName) jdk_35_method_31_code (1 : Nat) (Option.some Jvm.ClassFile.FieldType.long)]
set_option maxRecDepth 65536 in
theorem codes_eq : words1.filter isCode = codes1 := rfl
theorem w_codes : ∀ c ∈ words1.filter isCode, c.before args0 about1 = true := by
  rw [codes_eq]
  intro c hc
  simp only [codes1, List.mem_cons, List.not_mem_nil, or_false] at hc
  rcases hc with rfl | rfl | rfl | rfl | rfl | rfl | rfl | rfl | rfl
  · exact w_c0
  · exact w_c1
  · exact w_c2
  · exact w_c3
  · exact w_c4
  · exact w_c5
  · exact w_c6
  · exact w_c7
  · exact w_c8
set_option maxRecDepth 65536 in
theorem w_t1 : (words1.take 24).all (fun c => isCode c || c.before args0 about1) = true := by decide +kernel
set_option maxRecDepth 65536 in
theorem w_t2 : ((words1.drop 24).take 24).all (fun c => isCode c || c.before args0 about1) = true := by decide +kernel
set_option maxRecDepth 65536 in
theorem w_t3 : ((words1.drop 24).drop 24).all (fun c => isCode c || c.before args0 about1) = true := by decide +kernel
theorem w_tables : (allAtoms (Jvm.Cond.code x code maxLocals ret :: tables_1)).before args0 about1 = true := by
  rw [allAtoms_all]
  show words1.all (fun c => c.before args0 about1) = true
  refine all_split ?_ w_codes
  rw [← List.take_append_drop 24 words1, List.all_append, w_t1, ← List.take_append_drop 24 (words1.drop 24), List.all_append, w_t2, w_t3]
  rfl
set_option maxRecDepth 65536 in
theorem w_rest : rest_1_c.before args0 about1 = true := by decide +kernel
set_option maxRecDepth 65536 in
theorem w_case : (Jvm.Cond.and given_1 narrow_1).before args0 about1 = true := by decide +kernel
theorem w_applies : (headSpec (Jvm.Cond.code x code maxLocals ret :: tables_1) room_1).applies x e0.platform about1 = true :=
  (Spec.applies_iff w_frames).mpr ⟨w_running, w_runnable, w_alone, w_named, w_hears, w_ripe, w_room, w_tables⟩
theorem atStart : AtStart classFile x code maxLocals ret World_1 tables_1 room_1 Calls_1 rest_1 Pre_1 launch0 p0 e0 about1 theMethod args0 below0 :=
  ⟨lists_1, trivial, launch0.admits_env _ _ _, launch0.least_env, fairChoices_fair.cas, fairChoices_fair.clock, w_frames, w_args, w_heap, w_applies, trivial, w_rest, w_case⟩
end start1
theorem witness_1 : WitnessClaimed_1 := ⟨start1.p0, start1.e0, start1.about1, start1.theMethod, start1.args0, start1.below0, start1.atStart⟩
end Jvm.Pilot.@@N@@
