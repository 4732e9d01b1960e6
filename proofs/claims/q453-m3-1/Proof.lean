import JvmDerived
import JvmDerived.Pilot.@@N@@Statement
import JvmDerived.Pilot.@@N@@Code
set_option linter.unusedVariables false
set_option linter.unusedSimpArgs false
namespace Jvm.RoadKit
open Sem ClassFile Op Lib Jvm.Stand Jvm.Free Jvm.LawKit
section Own
variable {p : Program} {l : Launch} {e : Env} {R : Room} {s : State} {m : MethodId} {args : Array Value} {below : List Frame} {meth : Method} {c : Code} {T A B : State} {locs : List Loc} {cells slots K N : Nat} {P : State → Outcome → Prop} {Q : Option Value → Heap → List Loc → Prop}
/-- the run that stands at A comes to an end of which P holds -/
def Go (p : Program) (e : Env) (below : List Frame) (P : State → Outcome → Prop) (A : State) : Prop := ∃ s₂ o, Steps p.tables e below A s₂ ∧ s₂.status = .running ∧ Ended s₂ below o ∧ P s₂ o
def PostW (s : State) (K N : Nat) (Q : Option Value → Heap → List Loc → Prop) : State → Outcome → Prop := fun s₂ o => ∃ v L, o = .returned v ∧ Q v s₂.heap L ∧ FrameEnd s o s₂ L K N
theorem Go.by (h : ∀ t, Steps p.tables e below B t → Steps p.tables e below A t) (k : Go p e below P B) : Go p e below P A := by
  obtain ⟨s₂, o, h1, h2⟩ := k
  exact ⟨s₂, o, h _ h1, h2⟩
theorem Go.to (h : Steps p.tables e below A B) (k : Go p e below P B) : Go p e below P A := Go.by (fun _ q => h.trans q) k
theorem Go.cast {g g' : JFrame} (q : g = g') (k : Go p e below P (T.setTop g')) : Go p e below P (T.setTop g) := q ▸ k
theorem Go.ret (X : Stand p l e R s m args below meth c T locs cells slots) (hx : p.tables.exec = Jvm.exec) (hlk : meth.locks = false) {pc : Nat} {Ls : Array Slot} {w : Value} {t : FieldType} {i : Instr} {rest : List Value} (hret : meth.sig.returnType = some t) (hn : narrow t w = w)
    (hi : (i = .ireturn ∧ (t = .int ∨ t = .boolean ∨ t = .byte ∨ t = .char ∨ t = .short) ∧ ∃ z, w = .int z) ∨ (i = .lreturn ∧ t = .long ∧ ∃ z, w = .long z) ∨ (i = .dreturn ∧ t = .double ∧ ∃ z, w = .double z) ∨ (i = .freturn ∧ t = .float ∧ ∃ z, w = .float z) ∨ (i = .areturn ∧ t.isReference = true ∧ w.isRef = true))
    (hd : decode c.code pc = .ok (i, 1)) (hc : cells ≤ K) (hs : slots ≤ N) (hQ : Q (some w) T.heap locs) : Go p e below (PostW s K N Q) (T.setTop (mkF m pc Ls (w :: rest))) := by
  obtain ⟨fs, hr, hrun, hended, hW, hsame⟩ := X.leave (v := some w) (fun h => by rw [hret] at h; cases h) hlk
  exact ⟨_, _, retOut X hx hret hn hi hd hr, hrun, hended, _, _, rfl, hQ, ⟨_, rfl⟩, hW, hsame.mono hc hs⟩
theorem Go.retZ (X : Stand p l e R s m args below meth c T locs cells slots) (hx : p.tables.exec = Jvm.exec) (hlk : meth.locks = false) {pc : Nat} {Ls : Array Slot} {z : Int32} {t : FieldType} {rest : List Value} (hret : meth.sig.returnType = some t) (ht : t = .boolean ∨ t = .byte ∨ t = .char ∨ t = .short)
    (hd : decode c.code pc = .ok (.ireturn, 1)) (hc : cells ≤ K) (hs : slots ≤ N) (hQ : Q (some (.int (nar t z))) T.heap locs) : Go p e below (PostW s K N Q) (T.setTop (mkF m pc Ls (.int z :: rest))) := by
  obtain ⟨fs, hr, hrun, hended, hW, hsame⟩ := X.leave (v := some (.int (nar t z))) (fun h => by rw [hret] at h; cases h) hlk
  exact ⟨_, _, retN X hx hret ht hd hr, hrun, hended, _, _, rfl, hQ, ⟨_, rfl⟩, hW, hsame.mono hc hs⟩
theorem own_cat {w : Value} (h : w.isRef = true) : w.category = 1 := by cases w <;> first | rfl | (simp [Value.isRef] at h)
theorem own_narR {w : Value} {t : FieldType} (h : w.isRef = true) (ht : t.isReference = true) : narrow t w = w := by cases t <;> first | (cases ht; done) | (cases w <;> first | rfl | (simp [Value.isRef] at h))
theorem own_fitR {w : Value} {t : FieldType} (h : w.isRef = true) (ht : t.isReference = true) : fits t w = true := by cases t <;> first | (cases ht; done) | (cases w <;> first | rfl | (simp [Value.isRef] at h))
theorem Go.retV (X : Stand p l e R s m args below meth c T locs cells slots) (hx : p.tables.exec = Jvm.exec) (hlk : meth.locks = false) {pc : Nat} {Ls : Array Slot} (hret : meth.sig.returnType = none)
    (hd : decode c.code pc = .ok (.return_, 1)) (hc : cells ≤ K) (hs : slots ≤ N) (hQ : Q none T.heap locs) : Go p e below (PostW s K N Q) (T.setTop (mkF m pc Ls [])) := by
  obtain ⟨fs, hr, hrun, hended, hW, hsame⟩ := X.leave (v := none) (fun _ => rfl) hlk
  exact ⟨_, _, X.returnOut hx hret hd hr, hrun, hended, _, _, rfl, hQ, ⟨_, rfl⟩, hW, hsame.mono hc hs⟩
theorem wd {L : List Cond} {a0 : Array Value} {Z : State} (hw : ∀ d ∈ L, d.before a0 Z = true) (i : Nat) {d : Cond} (h : L[i]? = some d) : d.before a0 Z = true := hw d (List.mem_of_getElem? h)
/-- a callee's contract, as the walks here say it -/
abbrev Met (l : Launch) (Z : State) (y : MethodName) (bytes : ByteArray) (maxL : Nat) (ret : Option FieldType) (ws : List Cond) (rm : Room) (as' : Array Value) (h0 : Heap) (Q : Option Value → Heap → List Loc → Prop) : Prop :=
  MetFree l y (head1 (Cond.code y bytes maxL ret :: ws) rm) (fun a U => a = as' ∧ Z.Warmed39 U.vm ∧ U.heap = h0) (fun _ _ _ _ _ => True) (fun _ U o U' => ∃ v L, o = .returned v ∧ Q v U'.heap L ∧ FrameEnd U o U' L rm.cells rm.slots)
theorem Met.enter {Z : State} {y : MethodName} {bytes : ByteArray} {maxL : Nat} {ret : Option FieldType} {ws : List Cond} {rm : Room} {as' : Array Value} {h0 : Heap} {f0 : MethodId → JFrame} (hpl : plainFor y = true) (hf0 : ∀ m, entryFrame m as' maxL = f0 m)
    (body : ∀ (p : Program) (e : Env) (s : State) (m : MethodId) (below : List Frame) (meth : Method) (c : Code) (s₁ : State), p.tables.exec = Jvm.exec → c.code = bytes → c.maxLocals = maxL → s.vm.findClass y.cls = some m.cls → meth.name = y.name → meth.sig.returnType = ret → meth.locks = false → Z.Warmed39 s.vm → Stand p l e rm s m as' below meth c s₁ [] 0 0 → s₁.heap = h0 → Go p e below (PostW s rm.cells rm.slots Q) (s₁.setTop (f0 m))) : Met l Z y bytes maxL ret ws rm as' h0 Q := by
  refine MetFree.of_bodySF hpl hisR ?_
  intro p e s m args below meth c s₁ Bd hml0 hP hK
  obtain ⟨rfl, hZ, hh⟩ := hP
  have q := body p e s m below meth c s₁ Bd.exec Bd.bytes hml0 (findClass_of_methodNamed Bd.named) (name_of_methodNamed Bd.named Bd.method).1 Bd.returns Bd.notSynchronized hZ (Stand.of_body Bd) (by rw [← hh, Bd.state]; rfl)
  rw [← hf0] at q
  exact q
end Own
end Jvm.RoadKit
namespace Jvm.Pilot.@@N@@
open Jvm Jvm.ClassFile Sem Op Lib Jvm.Free Jvm.Stand Jvm.LawKit Jvm.RoadKit Bundle Jvm.Pilot.@@N@@.Jvm.D
theorem own_eqk {args : Array Value} {first s : State} {o : Option Outcome} {idx : List Nat} {t : Term} {k : Int32} (h : (Jvm.Cond.eq t (Term.int k)).value args first o s idx = some true) : t.eval args first o idx s = some (.int k) := by
  obtain ⟨x, y, ex, ey, -, k2⟩ := cmp_v (Or.inl h)
  have e2 : y = .int k := Option.some.inj (ey.symm.trans (Term.int_eval k))
  subst e2
  obtain ⟨z, rfl⟩ := k2
  have := gotT (Cond.eq_ints ex (Term.int_eval k)) h
  rw [ex, this]

theorem own_placeJ {q : Int64} (h1 : ¬ q < (-128 : Int64)) (h2 : ¬ (127 : Int64) < q) : ¬ (q.toInt32 + (128 : Int32)) < 0 ∧ (q.toInt32 + (128 : Int32)).toNatClampNeg < 256 ∧ ((q.toInt32 + (128 : Int32)) - 128).toInt64 = q := by
  have a1 : (-128 : Int64).toInt = -128 := by decide
  have a2 : (127 : Int64).toInt = 127 := by decide
  have a3 : (128 : Int32).toInt = 128 := by decide
  have a4 : (0 : Int32).toInt = 0 := by decide
  rw [Int64.lt_iff_toInt_lt, a1] at h1
  rw [Int64.lt_iff_toInt_lt, a2] at h2
  have b1 := c_l2i q
  have b2 := rng32 q.toInt32
  have e1 : q.toInt32.toInt = q.toInt := by omega
  have b3 := c_iadd q.toInt32 128
  have b4 := rng32 (q.toInt32 + 128)
  have e2 : (q.toInt32 + (128 : Int32)).toInt = q.toInt + 128 := by omega
  have hn : ¬ (q.toInt32 + (128 : Int32)) < 0 := by rw [Int32.lt_iff_toInt_lt, a4]; omega
  refine ⟨hn, ?_, ?_⟩
  · have := nat_of hn
    omega
  · rw [Int32.add_sub_cancel, ← Int64.toInt_inj, c_i2l, e1]
theorem own_placeI {q : Int32} (h1 : ¬ q < (-128 : Int32)) (h2 : ¬ (127 : Int32) < q) : ¬ (q + (128 : Int32)) < 0 ∧ (q + (128 : Int32)).toNatClampNeg < 256 ∧ ((q + (128 : Int32)) - 128) = q := by
  have a1 : (-128 : Int32).toInt = -128 := by decide
  have a2 : (127 : Int32).toInt = 127 := by decide
  have a3 : (128 : Int32).toInt = 128 := by decide
  have a4 : (0 : Int32).toInt = 0 := by decide
  rw [Int32.lt_iff_toInt_lt, a1] at h1
  rw [Int32.lt_iff_toInt_lt, a2] at h2
  have b3 := c_iadd q 128
  have b4 := rng32 (q + 128)
  have b2 := rng32 q
  have e2 : (q + (128 : Int32)).toInt = q.toInt + 128 := by omega
  have hn : ¬ (q + (128 : Int32)) < 0 := by rw [Int32.lt_iff_toInt_lt, a4]; omega
  refine ⟨hn, ?_, ?_⟩
  · have := nat_of hn
    omega
  · exact Int32.add_sub_cancel _ _
theorem own_size256 {cl : Cell} {args : Array Value} {s : State} {t : Term} {a : Addr} {ty : FieldType} (ht : t.eval args s none [] s = some (.ref a)) (A : Arr s s.heap a cl ty) (h : (Jvm.Cond.eq (Term.length t) (Term.int 256)).value args s none s [] = some true) : cl.slots.size = 256 := by
  have e := own_eqk h
  have hat : s.arrayAt? a = some cl := A.fin (State.Warmed39.refl s).alike
  by_cases q : cl.slots.size < 2 ^ 31
  · have e7 : cl.slots.size.toInt32 = 256 := Value.int.inj (Option.some.inj ((len_f ht hat q).symm.trans e))
    have e5 : (256 : Int32).toInt = 256 := by decide
    have e6 : cl.slots.size.toInt32.toInt = cl.slots.size := len_toInt q
    rw [e7, e5] at e6
    omega
  · simp [Term.eval, ht, hat, q] at e
theorem own_eqL {args : Array Value} {first s : State} {o : Option Outcome} {idx : List Nat} {t u : Term} {k : Int64} (h : (Jvm.Cond.eq t u).value args first o s idx = some true) (hu : u.eval args first o idx s = some (.long k)) : t.eval args first o idx s = some (.long k) := by
  obtain ⟨x, y, ex, ey, -, k2⟩ := cmp_v (Or.inl h)
  have e2 : y = .long k := Option.some.inj (ey.symm.trans hu)
  subst e2
  obtain ⟨z, rfl⟩ := k2
  have := gotT (eq_L ex hu) h
  rw [ex, this]
theorem own_eqI {args : Array Value} {first s : State} {o : Option Outcome} {idx : List Nat} {t u : Term} {k : Int32} (h : (Jvm.Cond.eq t u).value args first o s idx = some true) (hu : u.eval args first o idx s = some (.int k)) : t.eval args first o idx s = some (.int k) := by
  obtain ⟨x, y, ex, ey, -, k2⟩ := cmp_v (Or.inl h)
  have e2 : y = .int k := Option.some.inj (ey.symm.trans hu)
  subst e2
  obtain ⟨z, rfl⟩ := k2
  have := gotT (Cond.eq_ints ex hu) h
  rw [ex, this]

theorem ef_rm_Number_init (m : MethodId) (x0 : Addr) : entryFrame m #[(.ref x0)] 1 = mkF m 0 #[.val (.ref x0)] [] := by first | (simp [entryFrame, mkF, argsToLocals, Value.category]; done) | rfl
theorem d9_0 : decode jdk_18_method_1_code 0 = .ok (.aload_n 0, 1) := by decide +kernel
theorem d9_1 : decode jdk_18_method_1_code 1 = .ok (.invokespecial 1, 3) := by decide +kernel
theorem d9_4 : decode jdk_18_method_1_code 4 = .ok (.return_, 1) := by decide +kernel
theorem pn_java_lang_Number : plainName "java/lang/Number" = true := by first | (simp [plainName, overriddenIn]; done) | decide +kernel
def Q_rm_Number_init (Z : State) (a1 : Addr) (h0 : Heap) (n0 : Nat) (v : Option Value) (h : Heap) (L : List Loc) : Prop := v = none ∧ Fr n0 L ∧ h = h0
set_option maxRecDepth 65536 in
set_option maxHeartbeats 40000000 in
theorem rm_Number_init (l : Launch) (Z : State) (a0 : Array Value) (hw : ∀ d ∈ tables_1, d.before a0 Z = true) (ws : List Jvm.Cond) (a1 : Addr) (h0 : Heap) (n0 : Nat) (Z0 : n0 ≤ h0.size) :
    Met l Z (⟨"java/lang/Number", "<init>", "()V"⟩ : MethodName) jdk_18_method_1_code 1 none ws ({ frames := 1, cells := 0, slots := 0, locals := 12 } : Room) #[(.ref a1)] h0 (Q_rm_Number_init Z a1 h0 n0) := by
  refine Met.enter (f0 := fun m => mkF m 0 #[.val (.ref a1)] []) (plainFor_of_name pn_java_lang_Number) (fun m => ef_rm_Number_init m a1) ?_
  intro p e s m below meth c s₁ hx hby hml hown hnm hret hlk hZ X0 e0
  have hown : s.vm.findClass "java/lang/Number" = some m.cls := hown
  have hnm : meth.name = "<init>" := hnm
  have hml : c.maxLocals = 1 := hml
  have hby : c.code = jdk_18_method_1_code := hby
  have N0 := Fr.nil n0
  refine Go.by (B := (s₁.setTop (mkF m 1 #[.val (.ref a1)] [(.ref a1)]))) (fun _ k => XS.aloadN X0.here hx rfl (hb hby d9_0) rfl rfl k) ?_
  obtain ⟨T1, X1, e1, st1⟩ := initO X0 hx hZ hown (wd hw 65 rfl) (wd hw 15 rfl) (wd hw 16 rfl) e0 (g := (mkF m 1 #[.val (.ref a1)] [(.ref a1)])) rfl (by rw [hml]; rfl) rfl (hb hby d9_1) (by decide) (W := 0) (by show 2 * 0 + _ ≤ _; exact Nat.le_of_eq rfl) (by decide)
  refine Go.by (B := (T1.setTop (mkF m 4 #[.val (.ref a1)] []))) st1 ?_
  refine Go.retV X1 hx hlk hret (hb hby d9_4) (by decide) (by decide) ?_
  rw [e1]
  exact ⟨rfl, N0, rfl⟩
theorem ef_rm_Integer_init (m : MethodId) (x0 : Addr) (x1 : Int32) : entryFrame m #[(.ref x0), (.int x1)] 2 = mkF m 0 #[.val (.ref x0), .val (.int x1)] [] := by first | (simp [entryFrame, mkF, argsToLocals, Value.category]; done) | rfl
theorem d10_0 : decode jdk_33_method_23_code 0 = .ok (.aload_n 0, 1) := by decide +kernel
theorem d10_1 : decode jdk_33_method_23_code 1 = .ok (.invokespecial 202, 3) := by decide +kernel
theorem pd_0 : parseMethodDescriptor "()V" = some ⟨[], none⟩ := by decide +kernel
theorem d10_4 : decode jdk_33_method_23_code 4 = .ok (.aload_n 0, 1) := by decide +kernel
theorem d10_5 : decode jdk_33_method_23_code 5 = .ok (.iload_n 1, 1) := by decide +kernel
theorem d10_6 : decode jdk_33_method_23_code 6 = .ok (.putfield 205, 3) := by decide +kernel
theorem d10_9 : decode jdk_33_method_23_code 9 = .ok (.return_, 1) := by decide +kernel
theorem pn_java_lang_Integer : plainName "java/lang/Integer" = true := by first | (simp [plainName, overriddenIn]; done) | decide +kernel
def Q_rm_Integer_init (Z : State) (a1 : Addr) (q1 : Int32) (h0 : Heap) (n0 : Nat) (v : Option Value) (h : Heap) (L : List Loc) : Prop := v = none ∧ Fr n0 L ∧ Keep h0 h [a1] ∧ Exa Z h a1 "java/lang/Integer" ∧ Fld Z h a1 "java/lang/Integer" "value" "I" (.int q1)
set_option maxRecDepth 65536 in
set_option maxHeartbeats 40000000 in
theorem rm_Integer_init (l : Launch) (Z : State) (a0 : Array Value) (hw : ∀ d ∈ tables_1, d.before a0 Z = true) (ws : List Jvm.Cond) (a1 : Addr) (q1 : Int32) (h0 : Heap) (n0 : Nat) (Z0 : n0 ≤ h0.size) (pr0 : Old Z n0 h0) (pr1 : Exa Z h0 a1 "java/lang/Integer") (pr2 : Fld Z h0 a1 "java/lang/Integer" "value" "I" (.int 0)) (pr3 : n0 ≤ a1) :
    Met l Z (⟨"java/lang/Integer", "<init>", "(I)V"⟩ : MethodName) jdk_33_method_23_code 2 none ws ({ frames := 2, cells := 0, slots := 0, locals := 24 } : Room) #[(.ref a1), (.int q1)] h0 (Q_rm_Integer_init Z a1 q1 h0 n0) := by
  refine Met.enter (f0 := fun m => mkF m 0 #[.val (.ref a1), .val (.int q1)] []) (plainFor_of_name pn_java_lang_Integer) (fun m => ef_rm_Integer_init m a1 q1) ?_
  intro p e s m below meth c s₁ hx hby hml hown hnm hret hlk hZ X0 e0
  have hown : s.vm.findClass "java/lang/Integer" = some m.cls := hown
  have hnm : meth.name = "<init>" := hnm
  have hml : c.maxLocals = 2 := hml
  have hby : c.code = jdk_33_method_23_code := hby
  have N0 := Fr.nil n0
  refine Go.by (B := (s₁.setTop (mkF m 1 #[.val (.ref a1), .val (.int q1)] [(.ref a1)]))) (fun _ k => XS.aloadN X0.here hx rfl (hb hby d10_0) rfl rfl k) ?_
  obtain ⟨_, _, ⟨T2, L2, k2, n2⟩, -, X2, ⟨Lc2, hQ2, l2, y2, z2⟩, st2⟩ := X0.specialBack hx (y := (⟨"java/lang/Number", "<init>", "()V"⟩ : MethodName)) rfl hown (mvT hZ (wd hw 76 rfl)) (mvT hZ (wd hw 60 rfl)) (mvT hZ (wd hw 64 rfl)) (by decide) (backOf (W := 0) (rm_Number_init l Z a0 hw [] a1 h0 n0 Z0 ) hZ (wd hw 64 rfl) (wd hw 63 rfl) (by decide) (by decide)) (g := (mkF m 1 #[.val (.ref a1), .val (.int q1)] [(.ref a1)])) rfl (by rw [hml]; rfl) (Steps.refl _) (a := a1) (argsL := []) (rest := []) (lenOf pd_0 rfl) rfl (by show 2 * 0 + _ ≤ _; exact Nat.le_of_eq rfl) (hb hby d10_1) (fun _ _ => ⟨rfl, e0, Nat.le_of_ble_eq_true rfl, Nat.le_of_ble_eq_true rfl⟩)
  dsimp only [Pt.U, Pt.locs, Pt.cells, Pt.slots] at X2 l2 y2 z2 st2 hQ2
  subst l2 y2 z2
  obtain ⟨rfl, Nq2, hh2⟩ := hQ2
  have N2 := Fr.app N0 Nq2
  refine Go.by (B := (T2.setTop (mkF m 4 #[.val (.ref a1), .val (.int q1)] []))) (fun _ k => st2.trans k) ?_
  refine Go.by (B := (T2.setTop (mkF m 6 #[.val (.ref a1), .val (.int q1)] [(.int q1), (.ref a1)]))) (fun _ k => XS.aloadN X2.here hx rfl (hb hby d10_4) rfl rfl (XS.iloadN X2.here hx rfl (hb hby d10_5) rfl k)) ?_
  obtain ⟨T3, h3, X3, e3, W3, st3⟩ := putF X2 hx hZ hown (host := "") (Or.inl (wd hw 78 rfl)) Via.refl hh2 pr2 pr1 (Or.inr ⟨(wd hw 79 rfl), rfl, hnm⟩) (wd hw 71 rfl) (ty := .int) (by decide) rfl rfl (g := (mkF m 6 #[.val (.ref a1), .val (.int q1)] [(.int q1), (.ref a1)])) rfl rfl (hb hby d10_6)
  have N3 := Fr.snoc X3 N2 pr3
  have O4 := pr0.wr W3 pr3
  have Z4 : n0 ≤ h3.size := Nat.le_trans Z0 (Keep.of_wr W3).1
  have F3 := pr2.same W3
  refine Go.by (B := (T3.setTop (mkF m 9 #[.val (.ref a1), .val (.int q1)] []))) st3 ?_
  refine Go.retV X3 hx hlk hret (hb hby d10_9) (by decide) (by decide) ?_
  rw [e3]
  exact ⟨rfl, N3, ((Keep.refl h0 [a1]).wr W3 (Or.inl (List.mem_of_getElem? (i := 0) rfl))), (pr1.wr W3), F3⟩
theorem ef_rm_Integer_valueOf (m : MethodId) (x0 : Int32) : entryFrame m #[(.int x0)] 1 = mkF m 0 #[.val (.int x0)] [] := by first | (simp [entryFrame, mkF, argsToLocals, Value.category]; done) | rfl
theorem d6_0 : decode jdk_33_method_22_code 0 = .ok (.iload_n 0, 1) := by decide +kernel
theorem d6_1 : decode jdk_33_method_22_code 1 = .ok (.bipush (-128), 2) := by decide +kernel
theorem d6_3 : decode jdk_33_method_22_code 3 = .ok (.if_icmp .lt 20, 3) := by decide +kernel
theorem d6_23 : decode jdk_33_method_22_code 23 = .ok (.new 1, 3) := by decide +kernel
theorem d6_26 : decode jdk_33_method_22_code 26 = .ok (.dup, 1) := by decide +kernel
theorem d6_27 : decode jdk_33_method_22_code 27 = .ok (.iload_n 0, 1) := by decide +kernel
theorem d6_28 : decode jdk_33_method_22_code 28 = .ok (.invokespecial 199, 3) := by decide +kernel
theorem pd_1 : parseMethodDescriptor "(I)V" = some ⟨[.int], none⟩ := by decide +kernel
theorem d6_31 : decode jdk_33_method_22_code 31 = .ok (.areturn, 1) := by decide +kernel
theorem d6_6 : decode jdk_33_method_22_code 6 = .ok (.iload_n 0, 1) := by decide +kernel
theorem d6_7 : decode jdk_33_method_22_code 7 = .ok (.getstatic 191, 3) := by decide +kernel
theorem d6_10 : decode jdk_33_method_22_code 10 = .ok (.if_icmp .gt 13, 3) := by decide +kernel
theorem d6_13 : decode jdk_33_method_22_code 13 = .ok (.getstatic 195, 3) := by decide +kernel
theorem d6_16 : decode jdk_33_method_22_code 16 = .ok (.iload_n 0, 1) := by decide +kernel
theorem d6_17 : decode jdk_33_method_22_code 17 = .ok (.sipush 128, 3) := by decide +kernel
theorem d6_20 : decode jdk_33_method_22_code 20 = .ok (.iadd, 1) := by decide +kernel
theorem d6_21 : decode jdk_33_method_22_code 21 = .ok (.aaload, 1) := by decide +kernel
theorem d6_22 : decode jdk_33_method_22_code 22 = .ok (.areturn, 1) := by decide +kernel
def Q_rm_Integer_valueOf (Z : State) (q1 : Int32) (wcI : Addr) (clI : Cell) (h0 : Heap) (n0 : Nat) (v : Option Value) (h : Heap) (L : List Loc) : Prop := ∃ b : Addr, v = some (.ref b) ∧ Fr n0 L ∧ Keep h0 h [] ∧ Exa Z h b "java/lang/Integer" ∧ Fld Z h b "java/lang/Integer" "value" "I" (.int q1)
set_option maxRecDepth 65536 in
set_option maxHeartbeats 40000000 in
theorem rm_Integer_valueOf (l : Launch) (Z : State) (a0 : Array Value) (hw : ∀ d ∈ tables_1, d.before a0 Z = true) (ws : List Jvm.Cond) (q1 : Int32) (wcI : Addr) (clI : Cell) (h0 : Heap) (n0 : Nat) (Z0 : n0 ≤ h0.size) (pr0 : Old Z n0 h0) (pr1 : Sta Z Z.heap "java/lang/Integer$IntegerCache" "cache" "[Ljava/lang/Integer;" (.ref wcI)) (hArI : Arr Z Z.heap wcI clI (.object "java/lang/Integer")) (hszI : clI.slots.size = 256) (helI : ∀ j : Int32, ¬ j < 0 → j.toNatClampNeg < 256 → ∃ b, clI.slots[j.toNatClampNeg]? = some (.ref b) ∧ Exa Z Z.heap b "java/lang/Integer" ∧ Fld Z Z.heap b "java/lang/Integer" "value" "I" (.int (j - 128))) (pr5 : Sta Z Z.heap "java/lang/Integer$IntegerCache" "high" "I" (.int 127)) :
    Met l Z (⟨"java/lang/Integer", "valueOf", "(I)Ljava/lang/Integer;"⟩ : MethodName) jdk_33_method_22_code 1 (some (.object "java/lang/Integer")) ws ({ frames := 3, cells := 1, slots := 1, locals := 38 } : Room) #[(.int q1)] h0 (Q_rm_Integer_valueOf Z q1 wcI clI h0 n0) := by
  refine Met.enter (f0 := fun m => mkF m 0 #[.val (.int q1)] []) (plainFor_of_name pn_java_lang_Integer) (fun m => ef_rm_Integer_valueOf m q1) ?_
  intro p e s m below meth c s₁ hx hby hml hown hnm hret hlk hZ X0 e0
  have hown : s.vm.findClass "java/lang/Integer" = some m.cls := hown
  have hnm : meth.name = "valueOf" := hnm
  have hml : c.maxLocals = 1 := hml
  have hby : c.code = jdk_33_method_22_code := hby
  have N0 := Fr.nil n0
  refine Go.by (B := (s₁.setTop (mkF m 3 #[.val (.int q1)] [(.int (-128 : Int32)), (.int q1)]))) (fun _ k => XS.iloadN X0.here hx rfl (hb hby d6_0) rfl (XS.bipush X0.here hx rfl (hb hby d6_1) k)) ?_
  by_cases c5 : q1 < (-128 : Int32)
  · skip
    refine Go.by (B := (s₁.setTop (mkF m 23 #[.val (.int q1)] []))) (fun _ k => XS.icmpYes X0.here hx rfl (pc0 := 3) (pc' := 23) rfl (hb hby d6_3) rfl (tlt c5).1 (by decide) (by decide) k) ?_
    obtain ⟨T6, h6, X6, e6, E6, A6, D6, -, st6⟩ := newO X0 hx hZ hown (wd hw 70 rfl) (wd hw 71 rfl) (wd hw 42 rfl) e0 (g := (mkF m 23 #[.val (.int q1)] [])) rfl (hb hby d6_23) (by decide) (by decide)
    obtain ⟨b6, g6⟩ : ∃ z, z = h0.size := ⟨_, rfl⟩
    rw [← g6] at A6 D6 st6
    have sz_b6 : h0.size ≤ b6 := Nat.le_of_eq g6.symm
    have O7 := pr0.ext E6
    have Z7 : n0 ≤ h6.size := Nat.le_trans Z0 E6.1
    have F8 : Fld Z h6 b6 "java/lang/Integer" "value" "I" (.int 0) := D6 (Or.inr (wd hw 79 rfl)) (ty := .int) (by decide)
    refine Go.by (B := (T6.setTop (mkF m 26 #[.val (.int q1)] [(.ref b6)]))) st6 ?_
    refine Go.by (B := (T6.setTop (mkF m 28 #[.val (.int q1)] [(.int q1), (.ref b6), (.ref b6)]))) (fun _ k => XS.dup X6.here hx rfl (hb hby d6_26) rfl rfl (XS.iloadN X6.here hx rfl (hb hby d6_27) rfl k)) ?_
    obtain ⟨_, _, ⟨T9, L9, k9, n9⟩, -, X9, ⟨Lc9, hQ9, l9, y9, z9⟩, st9⟩ := X6.specialBack hx (y := (⟨"java/lang/Integer", "<init>", "(I)V"⟩ : MethodName)) rfl hown (mvT hZ (wd hw 72 rfl)) (mvT hZ (wd hw 73 rfl)) (mvT hZ (wd hw 75 rfl)) (by decide) (backOf (W := 1) (rm_Integer_init l Z a0 hw [] b6 q1 h6 n0 Z7 O7 A6 F8 (Nat.le_trans Z0 sz_b6)) hZ (wd hw 75 rfl) (wd hw 42 rfl) (by decide) (by decide)) (g := (mkF m 28 #[.val (.int q1)] [(.int q1), (.ref b6), (.ref b6)])) rfl (by rw [hml]; rfl) (Steps.refl _) (a := b6) (argsL := [(.int q1)]) (rest := [(.ref b6)]) (lenOf pd_1 rfl) rfl (by show 2 * 0 + _ ≤ _; exact Nat.le_of_eq rfl) (hb hby d6_28) (fun _ _ => ⟨rfl, e6, Nat.le_of_ble_eq_true rfl, Nat.le_of_ble_eq_true rfl⟩)
    dsimp only [Pt.U, Pt.locs, Pt.cells, Pt.slots] at X9 l9 y9 z9 st9 hQ9
    subst l9 y9 z9
    obtain ⟨rfl, Nq9, K9, p9_0, p9_1⟩ := hQ9
    have N9 := Fr.app N0 Nq9
    have O10 := O7.keep K9 (allS (Nat.le_trans Z0 sz_b6) all0)
    have Z10 : n0 ≤ T9.heap.size := Nat.le_trans Z7 K9.1
    refine Go.by (B := (T9.setTop (mkF m 31 #[.val (.int q1)] [(.ref b6)]))) (fun _ k => st9.trans k) ?_
    refine Go.ret X9 hx hlk (t := (.object "java/lang/Integer")) hret rfl (Or.inr (Or.inr (Or.inr (Or.inr ⟨rfl, rfl, rfl⟩)))) (hb hby d6_31) (by decide) (by decide) ?_
    exact ⟨b6, rfl, N9, (((Keep.refl h0 []).ext E6).trans K9 (allS (Or.inr (Nat.le_trans (Nat.le_refl _) sz_b6)) all0)), p9_0, p9_1⟩
  · skip
    refine Go.by (B := (s₁.setTop (mkF m 7 #[.val (.int q1)] [(.int q1)]))) (fun _ k => XS.icmpNo X0.here hx rfl (hb hby d6_3) rfl (flt c5).1 (XS.iloadN X0.here hx rfl (hb hby d6_6) rfl k)) ?_
    obtain ⟨T11, X11, e11, st11⟩ := getS2 X0 hx hZ hown (host := "") (Or.inl (wd hw 44 rfl)) Via.refl e0 (pr5.ext pr0.2) (g := (mkF m 7 #[.val (.int q1)] [(.int q1)])) rfl (hb hby d6_7)
    refine Go.by (B := (T11.setTop (mkF m 10 #[.val (.int q1)] [(.int 127), (.int q1)]))) st11 ?_
    by_cases c12 : (127 : Int32) < q1
    · skip
      refine Go.by (B := (T11.setTop (mkF m 23 #[.val (.int q1)] []))) (fun _ k => XS.icmpYes X11.here hx rfl (pc0 := 10) (pc' := 23) rfl (hb hby d6_10) rfl (tlt c12).2.2.1 (by decide) (by decide) k) ?_
      obtain ⟨T13, h13, X13, e13, E13, A13, D13, -, st13⟩ := newO X11 hx hZ hown (wd hw 70 rfl) (wd hw 71 rfl) (wd hw 42 rfl) e11 (g := (mkF m 23 #[.val (.int q1)] [])) rfl (hb hby d6_23) (by decide) (by decide)
      obtain ⟨b13, g13⟩ : ∃ z, z = h0.size := ⟨_, rfl⟩
      rw [← g13] at A13 D13 st13
      have sz_b13 : h0.size ≤ b13 := Nat.le_of_eq g13.symm
      have O14 := pr0.ext E13
      have Z14 : n0 ≤ h13.size := Nat.le_trans Z0 E13.1
      have F15 : Fld Z h13 b13 "java/lang/Integer" "value" "I" (.int 0) := D13 (Or.inr (wd hw 79 rfl)) (ty := .int) (by decide)
      refine Go.by (B := (T13.setTop (mkF m 26 #[.val (.int q1)] [(.ref b13)]))) st13 ?_
      refine Go.by (B := (T13.setTop (mkF m 28 #[.val (.int q1)] [(.int q1), (.ref b13), (.ref b13)]))) (fun _ k => XS.dup X13.here hx rfl (hb hby d6_26) rfl rfl (XS.iloadN X13.here hx rfl (hb hby d6_27) rfl k)) ?_
      obtain ⟨_, _, ⟨T16, L16, k16, n16⟩, -, X16, ⟨Lc16, hQ16, l16, y16, z16⟩, st16⟩ := X13.specialBack hx (y := (⟨"java/lang/Integer", "<init>", "(I)V"⟩ : MethodName)) rfl hown (mvT hZ (wd hw 72 rfl)) (mvT hZ (wd hw 73 rfl)) (mvT hZ (wd hw 75 rfl)) (by decide) (backOf (W := 1) (rm_Integer_init l Z a0 hw [] b13 q1 h13 n0 Z14 O14 A13 F15 (Nat.le_trans Z0 sz_b13)) hZ (wd hw 75 rfl) (wd hw 42 rfl) (by decide) (by decide)) (g := (mkF m 28 #[.val (.int q1)] [(.int q1), (.ref b13), (.ref b13)])) rfl (by rw [hml]; rfl) (Steps.refl _) (a := b13) (argsL := [(.int q1)]) (rest := [(.ref b13)]) (lenOf pd_1 rfl) rfl (by show 2 * 0 + _ ≤ _; exact Nat.le_of_eq rfl) (hb hby d6_28) (fun _ _ => ⟨rfl, e13, Nat.le_of_ble_eq_true rfl, Nat.le_of_ble_eq_true rfl⟩)
      dsimp only [Pt.U, Pt.locs, Pt.cells, Pt.slots] at X16 l16 y16 z16 st16 hQ16
      subst l16 y16 z16
      obtain ⟨rfl, Nq16, K16, p16_0, p16_1⟩ := hQ16
      have N16 := Fr.app N0 Nq16
      have O17 := O14.keep K16 (allS (Nat.le_trans Z0 sz_b13) all0)
      have Z17 : n0 ≤ T16.heap.size := Nat.le_trans Z14 K16.1
      refine Go.by (B := (T16.setTop (mkF m 31 #[.val (.int q1)] [(.ref b13)]))) (fun _ k => st16.trans k) ?_
      refine Go.ret X16 hx hlk (t := (.object "java/lang/Integer")) hret rfl (Or.inr (Or.inr (Or.inr (Or.inr ⟨rfl, rfl, rfl⟩)))) (hb hby d6_31) (by decide) (by decide) ?_
      exact ⟨b13, rfl, N16, (((Keep.refl h0 []).ext E13).trans K16 (allS (Or.inr (Nat.le_trans (Nat.le_refl _) sz_b13)) all0)), p16_0, p16_1⟩
    · skip
      refine Go.by (B := (T11.setTop (mkF m 13 #[.val (.int q1)] []))) (fun _ k => XS.icmpNo X11.here hx rfl (hb hby d6_10) rfl (flt c12).2.2.1 k) ?_
      obtain ⟨T18, X18, e18, st18⟩ := getS2 X11 hx hZ hown (host := "") (Or.inl (wd hw 46 rfl)) Via.refl e11 (pr1.ext pr0.2) (g := (mkF m 13 #[.val (.int q1)] [])) rfl (hb hby d6_13)
      refine Go.by (B := (T18.setTop (mkF m 16 #[.val (.int q1)] [(.ref wcI)]))) st18 ?_
      refine Go.by (B := (T18.setTop (mkF m 21 #[.val (.int q1)] [(.int (q1 + (128 : Int32))), (.ref wcI)]))) (fun _ k => XS.iloadN X18.here hx rfl (hb hby d6_16) rfl (XS.sipush X18.here hx rfl (hb hby d6_17) (XS.iadd X18.here hx rfl (hb hby d6_20) rfl k))) ?_
      obtain ⟨hj019, hj119, hj219⟩ := own_placeI c5 c12
      obtain ⟨b19, hb19, E19, F19⟩ := helI _ hj019 hj119
      have Ar19 := hArI.ext pr0.2
      have hin19 : ¬ ((q1 + (128 : Int32)) < 0 ∨ clI.slots.size ≤ ((q1 + (128 : Int32))).toNatClampNeg) := fun q => q.elim hj019 (fun q => by rw [hszI] at q; omega)
      refine Go.by (B := (T18.setTop (mkF m 22 #[.val (.int q1)] [(.ref b19)]))) (fun _ k => X18.aaload hx (j := (q1 + (128 : Int32))) (v := (.ref b19)) (by rw [e18]; exact Ar19.1) (State.isArrayOf_alike hZ.alike Ar19.2.1) rfl Ar19.2.2 hin19 hb19 (g := (mkF m 21 #[.val (.int q1)] [(.int (q1 + (128 : Int32))), (.ref wcI)])) rfl rfl (hb hby d6_21) _ k) ?_
      rw [hj219] at F19
      refine Go.ret X18 hx hlk (t := (.object "java/lang/Integer")) hret rfl (Or.inr (Or.inr (Or.inr (Or.inr ⟨rfl, rfl, rfl⟩)))) (hb hby d6_22) (by decide) (by decide) ?_
      rw [e18]
      exact ⟨b19, rfl, N0, (Keep.refl h0 []), (E19.ext pr0.2), (F19.ext pr0.2)⟩
theorem ef_rm_Long_init (m : MethodId) (x0 : Addr) (x1 : Int64) : entryFrame m #[(.ref x0), (.long x1)] 3 = mkF m 0 #[.val (.ref x0), .val (.long x1), .second] [] := by first | (simp [entryFrame, mkF, argsToLocals, Value.category]; done) | rfl
theorem d8_0 : decode jdk_35_method_26_code 0 = .ok (.aload_n 0, 1) := by decide +kernel
theorem d8_1 : decode jdk_35_method_26_code 1 = .ok (.invokespecial 270, 3) := by decide +kernel
theorem d8_4 : decode jdk_35_method_26_code 4 = .ok (.aload_n 0, 1) := by decide +kernel
theorem d8_5 : decode jdk_35_method_26_code 5 = .ok (.lload_n 1, 1) := by decide +kernel
theorem d8_6 : decode jdk_35_method_26_code 6 = .ok (.putfield 273, 3) := by decide +kernel
theorem d8_9 : decode jdk_35_method_26_code 9 = .ok (.return_, 1) := by decide +kernel
theorem pn_java_lang_Long : plainName "java/lang/Long" = true := by first | (simp [plainName, overriddenIn]; done) | decide +kernel
def Q_rm_Long_init (Z : State) (a1 : Addr) (q1 : Int64) (h0 : Heap) (n0 : Nat) (v : Option Value) (h : Heap) (L : List Loc) : Prop := v = none ∧ Fr n0 L ∧ Keep h0 h [a1] ∧ Exa Z h a1 "java/lang/Long" ∧ Fld Z h a1 "java/lang/Long" "value" "J" (.long q1)
set_option maxRecDepth 65536 in
set_option maxHeartbeats 40000000 in
theorem rm_Long_init (l : Launch) (Z : State) (a0 : Array Value) (hw : ∀ d ∈ tables_1, d.before a0 Z = true) (ws : List Jvm.Cond) (a1 : Addr) (q1 : Int64) (h0 : Heap) (n0 : Nat) (Z0 : n0 ≤ h0.size) (pr0 : Old Z n0 h0) (pr1 : Exa Z h0 a1 "java/lang/Long") (pr2 : Fld Z h0 a1 "java/lang/Long" "value" "J" (.long (0 : Int64))) (pr3 : n0 ≤ a1) :
    Met l Z (⟨"java/lang/Long", "<init>", "(J)V"⟩ : MethodName) jdk_35_method_26_code 3 none ws ({ frames := 2, cells := 0, slots := 0, locals := 24 } : Room) #[(.ref a1), (.long q1)] h0 (Q_rm_Long_init Z a1 q1 h0 n0) := by
  refine Met.enter (f0 := fun m => mkF m 0 #[.val (.ref a1), .val (.long q1), .second] []) (plainFor_of_name pn_java_lang_Long) (fun m => ef_rm_Long_init m a1 q1) ?_
  intro p e s m below meth c s₁ hx hby hml hown hnm hret hlk hZ X0 e0
  have hown : s.vm.findClass "java/lang/Long" = some m.cls := hown
  have hnm : meth.name = "<init>" := hnm
  have hml : c.maxLocals = 3 := hml
  have hby : c.code = jdk_35_method_26_code := hby
  have N0 := Fr.nil n0
  refine Go.by (B := (s₁.setTop (mkF m 1 #[.val (.ref a1), .val (.long q1), .second] [(.ref a1)]))) (fun _ k => XS.aloadN X0.here hx rfl (hb hby d8_0) rfl rfl k) ?_
  obtain ⟨_, _, ⟨T20, L20, k20, n20⟩, -, X20, ⟨Lc20, hQ20, l20, y20, z20⟩, st20⟩ := X0.specialBack hx (y := (⟨"java/lang/Number", "<init>", "()V"⟩ : MethodName)) rfl hown (mvT hZ (wd hw 59 rfl)) (mvT hZ (wd hw 60 rfl)) (mvT hZ (wd hw 64 rfl)) (by decide) (backOf (W := 0) (rm_Number_init l Z a0 hw [] a1 h0 n0 Z0 ) hZ (wd hw 64 rfl) (wd hw 63 rfl) (by decide) (by decide)) (g := (mkF m 1 #[.val (.ref a1), .val (.long q1), .second] [(.ref a1)])) rfl (by rw [hml]; rfl) (Steps.refl _) (a := a1) (argsL := []) (rest := []) (lenOf pd_0 rfl) rfl (by show 2 * 0 + _ ≤ _; exact Nat.le_of_eq rfl) (hb hby d8_1) (fun _ _ => ⟨rfl, e0, Nat.le_of_ble_eq_true rfl, Nat.le_of_ble_eq_true rfl⟩)
  dsimp only [Pt.U, Pt.locs, Pt.cells, Pt.slots] at X20 l20 y20 z20 st20 hQ20
  subst l20 y20 z20
  obtain ⟨rfl, Nq20, hh20⟩ := hQ20
  have N20 := Fr.app N0 Nq20
  refine Go.by (B := (T20.setTop (mkF m 4 #[.val (.ref a1), .val (.long q1), .second] []))) (fun _ k => st20.trans k) ?_
  refine Go.by (B := (T20.setTop (mkF m 6 #[.val (.ref a1), .val (.long q1), .second] [(.long q1), (.ref a1)]))) (fun _ k => XS.aloadN X20.here hx rfl (hb hby d8_4) rfl rfl (XS.lloadN X20.here hx rfl (hb hby d8_5) rfl k)) ?_
  obtain ⟨T21, h21, X21, e21, W21, st21⟩ := putF X20 hx hZ hown (host := "") (Or.inl (wd hw 66 rfl)) Via.refl hh20 pr2 pr1 (Or.inr ⟨(wd hw 67 rfl), rfl, hnm⟩) (wd hw 54 rfl) (ty := .long) (by decide) rfl rfl (g := (mkF m 6 #[.val (.ref a1), .val (.long q1), .second] [(.long q1), (.ref a1)])) rfl rfl (hb hby d8_6)
  have N21 := Fr.snoc X21 N20 pr3
  have O22 := pr0.wr W21 pr3
  have Z22 : n0 ≤ h21.size := Nat.le_trans Z0 (Keep.of_wr W21).1
  have F21 := pr2.same W21
  refine Go.by (B := (T21.setTop (mkF m 9 #[.val (.ref a1), .val (.long q1), .second] []))) st21 ?_
  refine Go.retV X21 hx hlk hret (hb hby d8_9) (by decide) (by decide) ?_
  rw [e21]
  exact ⟨rfl, N21, ((Keep.refl h0 [a1]).wr W21 (Or.inl (List.mem_of_getElem? (i := 0) rfl))), (pr1.wr W21), F21⟩
theorem ef_rm_Long_valueOf (m : MethodId) (x0 : Int64) : entryFrame m #[(.long x0)] 3 = mkF m 0 #[.val (.long x0), .second, .unset] [] := by first | (simp [entryFrame, mkF, argsToLocals, Value.category]; done) | rfl
theorem d7_0 : decode jdk_35_method_24_code 0 = .ok (.sipush 128, 3) := by decide +kernel
theorem d7_3 : decode jdk_35_method_24_code 3 = .ok (.istore_n 2, 1) := by decide +kernel
theorem d7_4 : decode jdk_35_method_24_code 4 = .ok (.lload_n 0, 1) := by decide +kernel
theorem d7_5 : decode jdk_35_method_24_code 5 = .ok (.ldc2_w 230, 3) := by decide +kernel
theorem d7_8 : decode jdk_35_method_24_code 8 = .ok (.lcmp, 1) := by decide +kernel
theorem d7_9 : decode jdk_35_method_24_code 9 = .ok (.ifCond .lt 22, 3) := by decide +kernel
theorem d7_31 : decode jdk_35_method_24_code 31 = .ok (.new 1, 3) := by decide +kernel
theorem d7_34 : decode jdk_35_method_24_code 34 = .ok (.dup, 1) := by decide +kernel
theorem d7_35 : decode jdk_35_method_24_code 35 = .ok (.lload_n 0, 1) := by decide +kernel
theorem d7_36 : decode jdk_35_method_24_code 36 = .ok (.invokespecial 240, 3) := by decide +kernel
theorem pd_2 : parseMethodDescriptor "(J)V" = some ⟨[.long], none⟩ := by decide +kernel
theorem d7_39 : decode jdk_35_method_24_code 39 = .ok (.areturn, 1) := by decide +kernel
theorem d7_12 : decode jdk_35_method_24_code 12 = .ok (.lload_n 0, 1) := by decide +kernel
theorem d7_13 : decode jdk_35_method_24_code 13 = .ok (.ldc2_w 232, 3) := by decide +kernel
theorem d7_16 : decode jdk_35_method_24_code 16 = .ok (.lcmp, 1) := by decide +kernel
theorem d7_17 : decode jdk_35_method_24_code 17 = .ok (.ifCond .gt 14, 3) := by decide +kernel
theorem d7_20 : decode jdk_35_method_24_code 20 = .ok (.getstatic 234, 3) := by decide +kernel
theorem d7_23 : decode jdk_35_method_24_code 23 = .ok (.lload_n 0, 1) := by decide +kernel
theorem d7_24 : decode jdk_35_method_24_code 24 = .ok (.l2i, 1) := by decide +kernel
theorem d7_25 : decode jdk_35_method_24_code 25 = .ok (.sipush 128, 3) := by decide +kernel
theorem d7_28 : decode jdk_35_method_24_code 28 = .ok (.iadd, 1) := by decide +kernel
theorem d7_29 : decode jdk_35_method_24_code 29 = .ok (.aaload, 1) := by decide +kernel
theorem d7_30 : decode jdk_35_method_24_code 30 = .ok (.areturn, 1) := by decide +kernel
def Q_rm_Long_valueOf (Z : State) (q1 : Int64) (wcJ : Addr) (clJ : Cell) (h0 : Heap) (n0 : Nat) (v : Option Value) (h : Heap) (L : List Loc) : Prop := ∃ b : Addr, v = some (.ref b) ∧ Fr n0 L ∧ Keep h0 h [] ∧ Exa Z h b "java/lang/Long" ∧ Fld Z h b "java/lang/Long" "value" "J" (.long q1)
set_option maxRecDepth 65536 in
set_option maxHeartbeats 40000000 in
theorem rm_Long_valueOf (l : Launch) (Z : State) (a0 : Array Value) (hw : ∀ d ∈ tables_1, d.before a0 Z = true) (ws : List Jvm.Cond) (q1 : Int64) (wcJ : Addr) (clJ : Cell) (h0 : Heap) (n0 : Nat) (Z0 : n0 ≤ h0.size) (pr0 : Old Z n0 h0) (pr1 : Sta Z Z.heap "java/lang/Long$LongCache" "cache" "[Ljava/lang/Long;" (.ref wcJ)) (hArJ : Arr Z Z.heap wcJ clJ (.object "java/lang/Long")) (hszJ : clJ.slots.size = 256) (helJ : ∀ j : Int32, ¬ j < 0 → j.toNatClampNeg < 256 → ∃ b, clJ.slots[j.toNatClampNeg]? = some (.ref b) ∧ Exa Z Z.heap b "java/lang/Long" ∧ Fld Z Z.heap b "java/lang/Long" "value" "J" (.long (j - 128).toInt64)) :
    Met l Z (⟨"java/lang/Long", "valueOf", "(J)Ljava/lang/Long;"⟩ : MethodName) jdk_35_method_24_code 3 (some (.object "java/lang/Long")) ws ({ frames := 3, cells := 1, slots := 1, locals := 39 } : Room) #[(.long q1)] h0 (Q_rm_Long_valueOf Z q1 wcJ clJ h0 n0) := by
  refine Met.enter (f0 := fun m => mkF m 0 #[.val (.long q1), .second, .unset] []) (plainFor_of_name pn_java_lang_Long) (fun m => ef_rm_Long_valueOf m q1) ?_
  intro p e s m below meth c s₁ hx hby hml hown hnm hret hlk hZ X0 e0
  have hown : s.vm.findClass "java/lang/Long" = some m.cls := hown
  have hnm : meth.name = "valueOf" := hnm
  have hml : c.maxLocals = 3 := hml
  have hby : c.code = jdk_35_method_24_code := hby
  have N0 := Fr.nil n0
  refine Go.by (B := (s₁.setTop (mkF m 9 #[.val (.long q1), .second, .val (.int 128)] [(.int (lcmpW q1 (-128 : Int64)))]))) (fun _ k => XS.sipush X0.here hx rfl (hb hby d7_0) (XS.istoreN X0.here hx rfl (hb hby d7_3) rfl (l' := #[.val (.long q1), .second, .val (.int 128)]) rfl (XS.lloadN X0.here hx rfl (hb hby d7_4) rfl (X0.ldc2Long hx hown (mvT hZ (wd hw 51 rfl)) (g := (mkF m 5 #[.val (.long q1), .second, .val (.int 128)] [(.long q1)])) rfl (hb hby d7_5) _ (XS.lcmp X0.here hx rfl (hb hby d7_8) rfl k))))) ?_
  by_cases c23 : q1 < (-128 : Int64)
  · skip
    refine Go.by (B := (s₁.setTop (mkF m 31 #[.val (.long q1), .second, .val (.int 128)] []))) (fun _ k => XS.ifYes X0.here hx rfl (pc0 := 9) (pc' := 31) rfl (hb hby d7_9) rfl ((if0 _ _).trans (tlt ((lw_lt _ _).mpr c23)).1) (by decide) (by decide) k) ?_
    obtain ⟨T24, h24, X24, e24, E24, A24, D24, -, st24⟩ := newO X0 hx hZ hown (wd hw 53 rfl) (wd hw 54 rfl) (wd hw 49 rfl) e0 (g := (mkF m 31 #[.val (.long q1), .second, .val (.int 128)] [])) rfl (hb hby d7_31) (by decide) (by decide)
    obtain ⟨b24, g24⟩ : ∃ z, z = h0.size := ⟨_, rfl⟩
    rw [← g24] at A24 D24 st24
    have sz_b24 : h0.size ≤ b24 := Nat.le_of_eq g24.symm
    have O25 := pr0.ext E24
    have Z25 : n0 ≤ h24.size := Nat.le_trans Z0 E24.1
    have F26 : Fld Z h24 b24 "java/lang/Long" "value" "J" (.long (0 : Int64)) := D24 (Or.inr (wd hw 67 rfl)) (ty := .long) (by decide)
    refine Go.by (B := (T24.setTop (mkF m 34 #[.val (.long q1), .second, .val (.int 128)] [(.ref b24)]))) st24 ?_
    refine Go.by (B := (T24.setTop (mkF m 36 #[.val (.long q1), .second, .val (.int 128)] [(.long q1), (.ref b24), (.ref b24)]))) (fun _ k => XS.dup X24.here hx rfl (hb hby d7_34) rfl rfl (XS.lloadN X24.here hx rfl (hb hby d7_35) rfl k)) ?_
    obtain ⟨_, _, ⟨T27, L27, k27, n27⟩, -, X27, ⟨Lc27, hQ27, l27, y27, z27⟩, st27⟩ := X24.specialBack hx (y := (⟨"java/lang/Long", "<init>", "(J)V"⟩ : MethodName)) rfl hown (mvT hZ (wd hw 55 rfl)) (mvT hZ (wd hw 56 rfl)) (mvT hZ (wd hw 58 rfl)) (by decide) (backOf (W := 1) (rm_Long_init l Z a0 hw [] b24 q1 h24 n0 Z25 O25 A24 F26 (Nat.le_trans Z0 sz_b24)) hZ (wd hw 58 rfl) (wd hw 49 rfl) (by decide) (by decide)) (g := (mkF m 36 #[.val (.long q1), .second, .val (.int 128)] [(.long q1), (.ref b24), (.ref b24)])) rfl (by rw [hml]; rfl) (Steps.refl _) (a := b24) (argsL := [(.long q1)]) (rest := [(.ref b24)]) (lenOf pd_2 rfl) rfl (by show 2 * 0 + _ ≤ _; exact Nat.le_of_eq rfl) (hb hby d7_36) (fun _ _ => ⟨rfl, e24, Nat.le_of_ble_eq_true rfl, Nat.le_of_ble_eq_true rfl⟩)
    dsimp only [Pt.U, Pt.locs, Pt.cells, Pt.slots] at X27 l27 y27 z27 st27 hQ27
    subst l27 y27 z27
    obtain ⟨rfl, Nq27, K27, p27_0, p27_1⟩ := hQ27
    have N27 := Fr.app N0 Nq27
    have O28 := O25.keep K27 (allS (Nat.le_trans Z0 sz_b24) all0)
    have Z28 : n0 ≤ T27.heap.size := Nat.le_trans Z25 K27.1
    refine Go.by (B := (T27.setTop (mkF m 39 #[.val (.long q1), .second, .val (.int 128)] [(.ref b24)]))) (fun _ k => st27.trans k) ?_
    refine Go.ret X27 hx hlk (t := (.object "java/lang/Long")) hret rfl (Or.inr (Or.inr (Or.inr (Or.inr ⟨rfl, rfl, rfl⟩)))) (hb hby d7_39) (by decide) (by decide) ?_
    exact ⟨b24, rfl, N27, (((Keep.refl h0 []).ext E24).trans K27 (allS (Or.inr (Nat.le_trans (Nat.le_refl _) sz_b24)) all0)), p27_0, p27_1⟩
  · skip
    refine Go.by (B := (s₁.setTop (mkF m 17 #[.val (.long q1), .second, .val (.int 128)] [(.int (lcmpW q1 (127 : Int64)))]))) (fun _ k => XS.ifNo X0.here hx rfl (hb hby d7_9) rfl ((if0 _ _).trans (flt (fun q => c23 ((lw_lt _ _).mp q))).1) (XS.lloadN X0.here hx rfl (hb hby d7_12) rfl (X0.ldc2Long hx hown (mvT hZ (wd hw 52 rfl)) (g := (mkF m 13 #[.val (.long q1), .second, .val (.int 128)] [(.long q1)])) rfl (hb hby d7_13) _ (XS.lcmp X0.here hx rfl (hb hby d7_16) rfl k)))) ?_
    by_cases c29 : (127 : Int64) < q1
    · skip
      refine Go.by (B := (s₁.setTop (mkF m 31 #[.val (.long q1), .second, .val (.int 128)] []))) (fun _ k => XS.ifYes X0.here hx rfl (pc0 := 17) (pc' := 31) rfl (hb hby d7_17) rfl ((if0 _ _).trans (tlt ((lw_gt _ _).mpr c29)).2.2.1) (by decide) (by decide) k) ?_
      obtain ⟨T30, h30, X30, e30, E30, A30, D30, -, st30⟩ := newO X0 hx hZ hown (wd hw 53 rfl) (wd hw 54 rfl) (wd hw 49 rfl) e0 (g := (mkF m 31 #[.val (.long q1), .second, .val (.int 128)] [])) rfl (hb hby d7_31) (by decide) (by decide)
      obtain ⟨b30, g30⟩ : ∃ z, z = h0.size := ⟨_, rfl⟩
      rw [← g30] at A30 D30 st30
      have sz_b30 : h0.size ≤ b30 := Nat.le_of_eq g30.symm
      have O31 := pr0.ext E30
      have Z31 : n0 ≤ h30.size := Nat.le_trans Z0 E30.1
      have F32 : Fld Z h30 b30 "java/lang/Long" "value" "J" (.long (0 : Int64)) := D30 (Or.inr (wd hw 67 rfl)) (ty := .long) (by decide)
      refine Go.by (B := (T30.setTop (mkF m 34 #[.val (.long q1), .second, .val (.int 128)] [(.ref b30)]))) st30 ?_
      refine Go.by (B := (T30.setTop (mkF m 36 #[.val (.long q1), .second, .val (.int 128)] [(.long q1), (.ref b30), (.ref b30)]))) (fun _ k => XS.dup X30.here hx rfl (hb hby d7_34) rfl rfl (XS.lloadN X30.here hx rfl (hb hby d7_35) rfl k)) ?_
      obtain ⟨_, _, ⟨T33, L33, k33, n33⟩, -, X33, ⟨Lc33, hQ33, l33, y33, z33⟩, st33⟩ := X30.specialBack hx (y := (⟨"java/lang/Long", "<init>", "(J)V"⟩ : MethodName)) rfl hown (mvT hZ (wd hw 55 rfl)) (mvT hZ (wd hw 56 rfl)) (mvT hZ (wd hw 58 rfl)) (by decide) (backOf (W := 1) (rm_Long_init l Z a0 hw [] b30 q1 h30 n0 Z31 O31 A30 F32 (Nat.le_trans Z0 sz_b30)) hZ (wd hw 58 rfl) (wd hw 49 rfl) (by decide) (by decide)) (g := (mkF m 36 #[.val (.long q1), .second, .val (.int 128)] [(.long q1), (.ref b30), (.ref b30)])) rfl (by rw [hml]; rfl) (Steps.refl _) (a := b30) (argsL := [(.long q1)]) (rest := [(.ref b30)]) (lenOf pd_2 rfl) rfl (by show 2 * 0 + _ ≤ _; exact Nat.le_of_eq rfl) (hb hby d7_36) (fun _ _ => ⟨rfl, e30, Nat.le_of_ble_eq_true rfl, Nat.le_of_ble_eq_true rfl⟩)
      dsimp only [Pt.U, Pt.locs, Pt.cells, Pt.slots] at X33 l33 y33 z33 st33 hQ33
      subst l33 y33 z33
      obtain ⟨rfl, Nq33, K33, p33_0, p33_1⟩ := hQ33
      have N33 := Fr.app N0 Nq33
      have O34 := O31.keep K33 (allS (Nat.le_trans Z0 sz_b30) all0)
      have Z34 : n0 ≤ T33.heap.size := Nat.le_trans Z31 K33.1
      refine Go.by (B := (T33.setTop (mkF m 39 #[.val (.long q1), .second, .val (.int 128)] [(.ref b30)]))) (fun _ k => st33.trans k) ?_
      refine Go.ret X33 hx hlk (t := (.object "java/lang/Long")) hret rfl (Or.inr (Or.inr (Or.inr (Or.inr ⟨rfl, rfl, rfl⟩)))) (hb hby d7_39) (by decide) (by decide) ?_
      exact ⟨b30, rfl, N33, (((Keep.refl h0 []).ext E30).trans K33 (allS (Or.inr (Nat.le_trans (Nat.le_refl _) sz_b30)) all0)), p33_0, p33_1⟩
    · skip
      refine Go.by (B := (s₁.setTop (mkF m 20 #[.val (.long q1), .second, .val (.int 128)] []))) (fun _ k => XS.ifNo X0.here hx rfl (hb hby d7_17) rfl ((if0 _ _).trans (flt (fun q => c29 ((lw_gt _ _).mp q))).2.2.1) k) ?_
      obtain ⟨T35, X35, e35, st35⟩ := getS2 X0 hx hZ hown (host := "") (Or.inl (wd hw 84 rfl)) Via.refl e0 (pr1.ext pr0.2) (g := (mkF m 20 #[.val (.long q1), .second, .val (.int 128)] [])) rfl (hb hby d7_20)
      refine Go.by (B := (T35.setTop (mkF m 23 #[.val (.long q1), .second, .val (.int 128)] [(.ref wcJ)]))) st35 ?_
      refine Go.by (B := (T35.setTop (mkF m 29 #[.val (.long q1), .second, .val (.int 128)] [(.int ((q1.toInt32) + (128 : Int32))), (.ref wcJ)]))) (fun _ k => XS.lloadN X35.here hx rfl (hb hby d7_23) rfl (XS.l2i X35.here hx rfl (hb hby d7_24) rfl (XS.sipush X35.here hx rfl (hb hby d7_25) (XS.iadd X35.here hx rfl (hb hby d7_28) rfl k)))) ?_
      obtain ⟨hj036, hj136, hj236⟩ := own_placeJ c23 c29
      obtain ⟨b36, hb36, E36, F36⟩ := helJ _ hj036 hj136
      have Ar36 := hArJ.ext pr0.2
      have hin36 : ¬ (((q1.toInt32) + (128 : Int32)) < 0 ∨ clJ.slots.size ≤ (((q1.toInt32) + (128 : Int32))).toNatClampNeg) := fun q => q.elim hj036 (fun q => by rw [hszJ] at q; omega)
      refine Go.by (B := (T35.setTop (mkF m 30 #[.val (.long q1), .second, .val (.int 128)] [(.ref b36)]))) (fun _ k => X35.aaload hx (j := ((q1.toInt32) + (128 : Int32))) (v := (.ref b36)) (by rw [e35]; exact Ar36.1) (State.isArrayOf_alike hZ.alike Ar36.2.1) rfl Ar36.2.2 hin36 hb36 (g := (mkF m 29 #[.val (.long q1), .second, .val (.int 128)] [(.int ((q1.toInt32) + (128 : Int32))), (.ref wcJ)])) rfl rfl (hb hby d7_29) _ k) ?_
      rw [hj236] at F36
      refine Go.ret X35 hx hlk (t := (.object "java/lang/Long")) hret rfl (Or.inr (Or.inr (Or.inr (Or.inr ⟨rfl, rfl, rfl⟩)))) (hb hby d7_30) (by decide) (by decide) ?_
      rw [e35]
      exact ⟨b36, rfl, N0, (Keep.refl h0 []), (E36.ext pr0.2), (F36.ext pr0.2)⟩
theorem ef_rm_pick (m : MethodId) (x0 : Int32) : entryFrame m #[(.int x0)] 1 = mkF m 0 #[.val (.int x0)] [] := by first | (simp [entryFrame, mkF, argsToLocals, Value.category]; done) | rfl
theorem d1_0 : decode method_2_code 0 = .ok (.iload_n 0, 1) := by decide +kernel
theorem d1_1 : decode method_2_code 1 = .ok (.ifCond .ne 7, 3) := by decide +kernel
theorem d1_4 : decode method_2_code 4 = .ok (.getstatic 7, 3) := by decide +kernel
theorem d1_7 : decode method_2_code 7 = .ok (.areturn, 1) := by decide +kernel
theorem d1_8 : decode method_2_code 8 = .ok (.iload_n 0, 1) := by decide +kernel
theorem d1_9 : decode method_2_code 9 = .ok (.iconst 1, 1) := by decide +kernel
theorem d1_10 : decode method_2_code 10 = .ok (.if_icmp .ne 7, 3) := by decide +kernel
theorem d1_13 : decode method_2_code 13 = .ok (.getstatic 13, 3) := by decide +kernel
theorem d1_16 : decode method_2_code 16 = .ok (.areturn, 1) := by decide +kernel
theorem d1_17 : decode method_2_code 17 = .ok (.iload_n 0, 1) := by decide +kernel
theorem d1_18 : decode method_2_code 18 = .ok (.iconst 2, 1) := by decide +kernel
theorem d1_19 : decode method_2_code 19 = .ok (.if_icmp .ne 7, 3) := by decide +kernel
theorem d1_22 : decode method_2_code 22 = .ok (.getstatic 16, 3) := by decide +kernel
theorem d1_25 : decode method_2_code 25 = .ok (.areturn, 1) := by decide +kernel
theorem d1_26 : decode method_2_code 26 = .ok (.iload_n 0, 1) := by decide +kernel
theorem d1_27 : decode method_2_code 27 = .ok (.iconst 3, 1) := by decide +kernel
theorem d1_28 : decode method_2_code 28 = .ok (.if_icmp .ne 7, 3) := by decide +kernel
theorem d1_31 : decode method_2_code 31 = .ok (.getstatic 19, 3) := by decide +kernel
theorem d1_34 : decode method_2_code 34 = .ok (.areturn, 1) := by decide +kernel
theorem d1_35 : decode method_2_code 35 = .ok (.iload_n 0, 1) := by decide +kernel
theorem d1_36 : decode method_2_code 36 = .ok (.iconst 4, 1) := by decide +kernel
theorem d1_37 : decode method_2_code 37 = .ok (.if_icmp .ne 7, 3) := by decide +kernel
theorem d1_40 : decode method_2_code 40 = .ok (.getstatic 22, 3) := by decide +kernel
theorem d1_43 : decode method_2_code 43 = .ok (.areturn, 1) := by decide +kernel
theorem d1_44 : decode method_2_code 44 = .ok (.getstatic 25, 3) := by decide +kernel
theorem d1_47 : decode method_2_code 47 = .ok (.areturn, 1) := by decide +kernel
theorem pn_com_example_breakwater_breakwater_engine_ResultIsDeliveredPinLaw : plainName "com/example/breakwater/breakwater/engine/ResultIsDeliveredPinLaw" = true := by first | (simp [plainName, overriddenIn]; done) | decide +kernel
def Q_rm_pick (Z : State) (p1 : Int32) (w0 : Addr) (w1 : Addr) (w2 : Addr) (w3 : Addr) (w4 : Addr) (w5 : Addr) (h0 : Heap) (n0 : Nat) (v : Option Value) (h : Heap) (L : List Loc) : Prop := ∃ o : Addr, v = some (.ref o) ∧ Fr n0 L ∧ h = h0 ∧ ((p1 = (0 : Int32) ∧ o = w0) ∨ (¬ p1 = (0 : Int32) ∧ o ≠ w0))
set_option maxRecDepth 65536 in
set_option maxHeartbeats 40000000 in
theorem rm_pick (l : Launch) (Z : State) (a0 : Array Value) (hw : ∀ d ∈ tables_1, d.before a0 Z = true) (ws : List Jvm.Cond) (p1 : Int32) (w0 : Addr) (w1 : Addr) (w2 : Addr) (w3 : Addr) (w4 : Addr) (w5 : Addr) (h0 : Heap) (n0 : Nat) (Z0 : n0 ≤ h0.size) (pr0 : Old Z n0 h0) (pr1 : Sta Z Z.heap "com/example/breakwater/breakwater/engine/Outcome" "OK" "Lcom/example/breakwater/breakwater/engine/Outcome;" (.ref w0)) (pr2 : Sta Z Z.heap "com/example/breakwater/breakwater/engine/Outcome" "CIRCUIT_OPEN" "Lcom/example/breakwater/breakwater/engine/Outcome;" (.ref w1)) (pr3 : Sta Z Z.heap "com/example/breakwater/breakwater/engine/Outcome" "UNAVAILABLE" "Lcom/example/breakwater/breakwater/engine/Outcome;" (.ref w2)) (pr4 : Sta Z Z.heap "com/example/breakwater/breakwater/engine/Outcome" "TIMEOUT" "Lcom/example/breakwater/breakwater/engine/Outcome;" (.ref w3)) (pr5 : Sta Z Z.heap "com/example/breakwater/breakwater/engine/Outcome" "TEMPORARY" "Lcom/example/breakwater/breakwater/engine/Outcome;" (.ref w4)) (pr6 : Sta Z Z.heap "com/example/breakwater/breakwater/engine/Outcome" "PERMANENT" "Lcom/example/breakwater/breakwater/engine/Outcome;" (.ref w5)) (pr7 : w1 ≠ w0) (pr8 : w2 ≠ w0) (pr9 : w3 ≠ w0) (pr10 : w4 ≠ w0) (pr11 : w5 ≠ w0) :
    Met l Z (⟨"com/example/breakwater/breakwater/engine/ResultIsDeliveredPinLaw", "pick", "(I)Lcom/example/breakwater/breakwater/engine/Outcome;"⟩ : MethodName) method_2_code 1 (some (.object "com/example/breakwater/breakwater/engine/Outcome")) ws ({ frames := 0, cells := 0, slots := 0, locals := 0 } : Room) #[(.int p1)] h0 (Q_rm_pick Z p1 w0 w1 w2 w3 w4 w5 h0 n0) := by
  refine Met.enter (f0 := fun m => mkF m 0 #[.val (.int p1)] []) (plainFor_of_name pn_com_example_breakwater_breakwater_engine_ResultIsDeliveredPinLaw) (fun m => ef_rm_pick m p1) ?_
  intro p e s m below meth c s₁ hx hby hml hown hnm hret hlk hZ X0 e0
  have hown : s.vm.findClass "com/example/breakwater/breakwater/engine/ResultIsDeliveredPinLaw" = some m.cls := hown
  have hnm : meth.name = "pick" := hnm
  have hml : c.maxLocals = 1 := hml
  have hby : c.code = method_2_code := hby
  have N0 := Fr.nil n0
  refine Go.by (B := (s₁.setTop (mkF m 1 #[.val (.int p1)] [(.int p1)]))) (fun _ k => XS.iloadN X0.here hx rfl (hb hby d1_0) rfl k) ?_
  by_cases c37 : p1 = (0 : Int32)
  · skip
    refine Go.by (B := (s₁.setTop (mkF m 4 #[.val (.int p1)] []))) (fun _ k => XS.ifNo X0.here hx rfl (hb hby d1_1) rfl ((if0 _ _).trans (teq c37).2) k) ?_
    obtain ⟨T38, X38, e38, st38⟩ := getS2 X0 hx hZ hown (host := "") (Or.inl (wd hw 5 rfl)) Via.refl e0 (pr1.ext pr0.2) (g := (mkF m 4 #[.val (.int p1)] [])) rfl (hb hby d1_4)
    refine Go.by (B := (T38.setTop (mkF m 7 #[.val (.int p1)] [(.ref w0)]))) st38 ?_
    refine Go.ret X38 hx hlk (t := (.object "com/example/breakwater/breakwater/engine/Outcome")) hret rfl (Or.inr (Or.inr (Or.inr (Or.inr ⟨rfl, rfl, rfl⟩)))) (hb hby d1_7) (by decide) (by decide) ?_
    rw [e38]
    exact ⟨w0, rfl, N0, rfl, (Or.inl ⟨c37, rfl⟩)⟩
  · skip
    refine Go.by (B := (s₁.setTop (mkF m 10 #[.val (.int p1)] [(.int 1), (.int p1)]))) (fun _ k => XS.ifYes X0.here hx rfl (pc0 := 1) (pc' := 8) rfl (hb hby d1_1) rfl ((if0 _ _).trans (feq c37).2) (by decide) (by decide) (XS.iloadN X0.here hx rfl (hb hby d1_8) rfl (XS.iconst X0.here hx rfl (hb hby d1_9) k))) ?_
    by_cases c39 : p1 = (1 : Int32)
    · skip
      refine Go.by (B := (s₁.setTop (mkF m 13 #[.val (.int p1)] []))) (fun _ k => XS.icmpNo X0.here hx rfl (hb hby d1_10) rfl (teq c39).2 k) ?_
      obtain ⟨T40, X40, e40, st40⟩ := getS2 X0 hx hZ hown (host := "") (Or.inl (wd hw 82 rfl)) Via.refl e0 (pr2.ext pr0.2) (g := (mkF m 13 #[.val (.int p1)] [])) rfl (hb hby d1_13)
      refine Go.by (B := (T40.setTop (mkF m 16 #[.val (.int p1)] [(.ref w1)]))) st40 ?_
      refine Go.ret X40 hx hlk (t := (.object "com/example/breakwater/breakwater/engine/Outcome")) hret rfl (Or.inr (Or.inr (Or.inr (Or.inr ⟨rfl, rfl, rfl⟩)))) (hb hby d1_16) (by decide) (by decide) ?_
      rw [e40]
      exact ⟨w1, rfl, N0, rfl, (Or.inr ⟨c37, pr7⟩)⟩
    · skip
      refine Go.by (B := (s₁.setTop (mkF m 19 #[.val (.int p1)] [(.int 2), (.int p1)]))) (fun _ k => XS.icmpYes X0.here hx rfl (pc0 := 10) (pc' := 17) rfl (hb hby d1_10) rfl (feq c39).2 (by decide) (by decide) (XS.iloadN X0.here hx rfl (hb hby d1_17) rfl (XS.iconst X0.here hx rfl (hb hby d1_18) k))) ?_
      by_cases c41 : p1 = (2 : Int32)
      · skip
        refine Go.by (B := (s₁.setTop (mkF m 22 #[.val (.int p1)] []))) (fun _ k => XS.icmpNo X0.here hx rfl (hb hby d1_19) rfl (teq c41).2 k) ?_
        obtain ⟨T42, X42, e42, st42⟩ := getS2 X0 hx hZ hown (host := "") (Or.inl (wd hw 80 rfl)) Via.refl e0 (pr3.ext pr0.2) (g := (mkF m 22 #[.val (.int p1)] [])) rfl (hb hby d1_22)
        refine Go.by (B := (T42.setTop (mkF m 25 #[.val (.int p1)] [(.ref w2)]))) st42 ?_
        refine Go.ret X42 hx hlk (t := (.object "com/example/breakwater/breakwater/engine/Outcome")) hret rfl (Or.inr (Or.inr (Or.inr (Or.inr ⟨rfl, rfl, rfl⟩)))) (hb hby d1_25) (by decide) (by decide) ?_
        rw [e42]
        exact ⟨w2, rfl, N0, rfl, (Or.inr ⟨c37, pr8⟩)⟩
      · skip
        refine Go.by (B := (s₁.setTop (mkF m 28 #[.val (.int p1)] [(.int 3), (.int p1)]))) (fun _ k => XS.icmpYes X0.here hx rfl (pc0 := 19) (pc' := 26) rfl (hb hby d1_19) rfl (feq c41).2 (by decide) (by decide) (XS.iloadN X0.here hx rfl (hb hby d1_26) rfl (XS.iconst X0.here hx rfl (hb hby d1_27) k))) ?_
        by_cases c43 : p1 = (3 : Int32)
        · skip
          refine Go.by (B := (s₁.setTop (mkF m 31 #[.val (.int p1)] []))) (fun _ k => XS.icmpNo X0.here hx rfl (hb hby d1_28) rfl (teq c43).2 k) ?_
          obtain ⟨T44, X44, e44, st44⟩ := getS2 X0 hx hZ hown (host := "") (Or.inl (wd hw 86 rfl)) Via.refl e0 (pr4.ext pr0.2) (g := (mkF m 31 #[.val (.int p1)] [])) rfl (hb hby d1_31)
          refine Go.by (B := (T44.setTop (mkF m 34 #[.val (.int p1)] [(.ref w3)]))) st44 ?_
          refine Go.ret X44 hx hlk (t := (.object "com/example/breakwater/breakwater/engine/Outcome")) hret rfl (Or.inr (Or.inr (Or.inr (Or.inr ⟨rfl, rfl, rfl⟩)))) (hb hby d1_34) (by decide) (by decide) ?_
          rw [e44]
          exact ⟨w3, rfl, N0, rfl, (Or.inr ⟨c37, pr9⟩)⟩
        · skip
          refine Go.by (B := (s₁.setTop (mkF m 37 #[.val (.int p1)] [(.int 4), (.int p1)]))) (fun _ k => XS.icmpYes X0.here hx rfl (pc0 := 28) (pc' := 35) rfl (hb hby d1_28) rfl (feq c43).2 (by decide) (by decide) (XS.iloadN X0.here hx rfl (hb hby d1_35) rfl (XS.iconst X0.here hx rfl (hb hby d1_36) k))) ?_
          by_cases c45 : p1 = (4 : Int32)
          · skip
            refine Go.by (B := (s₁.setTop (mkF m 40 #[.val (.int p1)] []))) (fun _ k => XS.icmpNo X0.here hx rfl (hb hby d1_37) rfl (teq c45).2 k) ?_
            obtain ⟨T46, X46, e46, st46⟩ := getS2 X0 hx hZ hown (host := "") (Or.inl (wd hw 38 rfl)) Via.refl e0 (pr5.ext pr0.2) (g := (mkF m 40 #[.val (.int p1)] [])) rfl (hb hby d1_40)
            refine Go.by (B := (T46.setTop (mkF m 43 #[.val (.int p1)] [(.ref w4)]))) st46 ?_
            refine Go.ret X46 hx hlk (t := (.object "com/example/breakwater/breakwater/engine/Outcome")) hret rfl (Or.inr (Or.inr (Or.inr (Or.inr ⟨rfl, rfl, rfl⟩)))) (hb hby d1_43) (by decide) (by decide) ?_
            rw [e46]
            exact ⟨w4, rfl, N0, rfl, (Or.inr ⟨c37, pr10⟩)⟩
          · skip
            refine Go.by (B := (s₁.setTop (mkF m 44 #[.val (.int p1)] []))) (fun _ k => XS.icmpYes X0.here hx rfl (pc0 := 37) (pc' := 44) rfl (hb hby d1_37) rfl (feq c45).2 (by decide) (by decide) k) ?_
            obtain ⟨T47, X47, e47, st47⟩ := getS2 X0 hx hZ hown (host := "") (Or.inl (wd hw 68 rfl)) Via.refl e0 (pr6.ext pr0.2) (g := (mkF m 44 #[.val (.int p1)] [])) rfl (hb hby d1_44)
            refine Go.by (B := (T47.setTop (mkF m 47 #[.val (.int p1)] [(.ref w5)]))) st47 ?_
            refine Go.ret X47 hx hlk (t := (.object "com/example/breakwater/breakwater/engine/Outcome")) hret rfl (Or.inr (Or.inr (Or.inr (Or.inr ⟨rfl, rfl, rfl⟩)))) (hb hby d1_47) (by decide) (by decide) ?_
            rw [e47]
            exact ⟨w5, rfl, N0, rfl, (Or.inr ⟨c37, pr11⟩)⟩
theorem ef_rm_res0 (m : MethodId) (x0 : Addr) (x1 : Addr) (x3 : Int32) : entryFrame m #[(.ref x0), (.ref x1), .null, (.int x3), .null, .null] 6 = mkF m 0 #[.val (.ref x0), .val (.ref x1), .val .null, .val (.int x3), .val .null, .val .null] [] := by first | (simp [entryFrame, mkF, argsToLocals, Value.category]; done) | rfl
theorem d2_0 : decode prog_18_method_1_code 0 = .ok (.aload_n 0, 1) := by decide +kernel
theorem d2_1 : decode prog_18_method_1_code 1 = .ok (.invokespecial 1, 3) := by decide +kernel
theorem d2_4 : decode prog_18_method_1_code 4 = .ok (.aload_n 0, 1) := by decide +kernel
theorem d2_5 : decode prog_18_method_1_code 5 = .ok (.aload_n 1, 1) := by decide +kernel
theorem d2_6 : decode prog_18_method_1_code 6 = .ok (.putfield 7, 3) := by decide +kernel
theorem d2_9 : decode prog_18_method_1_code 9 = .ok (.aload_n 0, 1) := by decide +kernel
theorem d2_10 : decode prog_18_method_1_code 10 = .ok (.aload_n 2, 1) := by decide +kernel
theorem d2_11 : decode prog_18_method_1_code 11 = .ok (.putfield 13, 3) := by decide +kernel
theorem d2_14 : decode prog_18_method_1_code 14 = .ok (.aload_n 0, 1) := by decide +kernel
theorem d2_15 : decode prog_18_method_1_code 15 = .ok (.iload_n 3, 1) := by decide +kernel
theorem d2_16 : decode prog_18_method_1_code 16 = .ok (.putfield 17, 3) := by decide +kernel
theorem d2_19 : decode prog_18_method_1_code 19 = .ok (.aload_n 0, 1) := by decide +kernel
theorem d2_20 : decode prog_18_method_1_code 20 = .ok (.aload 4, 2) := by decide +kernel
theorem d2_22 : decode prog_18_method_1_code 22 = .ok (.putfield 21, 3) := by decide +kernel
theorem d2_25 : decode prog_18_method_1_code 25 = .ok (.aload_n 0, 1) := by decide +kernel
theorem d2_26 : decode prog_18_method_1_code 26 = .ok (.aload 5, 2) := by decide +kernel
theorem d2_28 : decode prog_18_method_1_code 28 = .ok (.putfield 25, 3) := by decide +kernel
theorem d2_31 : decode prog_18_method_1_code 31 = .ok (.return_, 1) := by decide +kernel
theorem pn_com_example_breakwater_breakwater_engine_Result : plainName "com/example/breakwater/breakwater/engine/Result" = true := by first | (simp [plainName, overriddenIn]; done) | decide +kernel
def Q_rm_res0 (Z : State) (a1 : Addr) (o1 : Addr) (p3 : Int32) (h0 : Heap) (n0 : Nat) (v : Option Value) (h : Heap) (L : List Loc) : Prop := v = none ∧ Fr n0 L ∧ Keep h0 h [a1] ∧ Exa Z h a1 "com/example/breakwater/breakwater/engine/Result" ∧ Fld Z h a1 "com/example/breakwater/breakwater/engine/Result" "outcome" "Lcom/example/breakwater/breakwater/engine/Outcome;" (.ref o1) ∧ Fld Z h a1 "com/example/breakwater/breakwater/engine/Result" "destination" "Lcom/example/breakwater/breakwater/engine/Address;" .null ∧ Fld Z h a1 "com/example/breakwater/breakwater/engine/Result" "attempts" "I" (.int p3) ∧ Fld Z h a1 "com/example/breakwater/breakwater/engine/Result" "value" "Ljava/lang/Object;" .null ∧ Fld Z h a1 "com/example/breakwater/breakwater/engine/Result" "error" "Ljava/lang/Object;" .null
set_option maxRecDepth 65536 in
set_option maxHeartbeats 40000000 in
theorem rm_res0 (l : Launch) (Z : State) (a0 : Array Value) (hw : ∀ d ∈ tables_1, d.before a0 Z = true) (ws : List Jvm.Cond) (a1 : Addr) (o1 : Addr) (p3 : Int32) (h0 : Heap) (n0 : Nat) (Z0 : n0 ≤ h0.size) (pr0 : Old Z n0 h0) (pr1 : Exa Z h0 a1 "com/example/breakwater/breakwater/engine/Result") (pr2 : Fld Z h0 a1 "com/example/breakwater/breakwater/engine/Result" "outcome" "Lcom/example/breakwater/breakwater/engine/Outcome;" .null) (pr3 : Fld Z h0 a1 "com/example/breakwater/breakwater/engine/Result" "destination" "Lcom/example/breakwater/breakwater/engine/Address;" .null) (pr4 : Fld Z h0 a1 "com/example/breakwater/breakwater/engine/Result" "attempts" "I" (.int 0)) (pr5 : Fld Z h0 a1 "com/example/breakwater/breakwater/engine/Result" "value" "Ljava/lang/Object;" .null) (pr6 : Fld Z h0 a1 "com/example/breakwater/breakwater/engine/Result" "error" "Ljava/lang/Object;" .null) (pr7 : n0 ≤ a1) :
    Met l Z (⟨"com/example/breakwater/breakwater/engine/Result", "<init>", "(Lcom/example/breakwater/breakwater/engine/Outcome;Lcom/example/breakwater/breakwater/engine/Address;ILjava/lang/Object;Ljava/lang/Object;)V"⟩ : MethodName) prog_18_method_1_code 6 none ws ({ frames := 1, cells := 0, slots := 0, locals := 12 } : Room) #[(.ref a1), (.ref o1), .null, (.int p3), .null, .null] h0 (Q_rm_res0 Z a1 o1 p3 h0 n0) := by
  refine Met.enter (f0 := fun m => mkF m 0 #[.val (.ref a1), .val (.ref o1), .val .null, .val (.int p3), .val .null, .val .null] []) (plainFor_of_name pn_com_example_breakwater_breakwater_engine_Result) (fun m => ef_rm_res0 m a1 o1 p3) ?_
  intro p e s m below meth c s₁ hx hby hml hown hnm hret hlk hZ X0 e0
  have hown : s.vm.findClass "com/example/breakwater/breakwater/engine/Result" = some m.cls := hown
  have hnm : meth.name = "<init>" := hnm
  have hml : c.maxLocals = 6 := hml
  have hby : c.code = prog_18_method_1_code := hby
  have N0 := Fr.nil n0
  refine Go.by (B := (s₁.setTop (mkF m 1 #[.val (.ref a1), .val (.ref o1), .val .null, .val (.int p3), .val .null, .val .null] [(.ref a1)]))) (fun _ k => XS.aloadN X0.here hx rfl (hb hby d2_0) rfl rfl k) ?_
  obtain ⟨T48, X48, e48, st48⟩ := initO X0 hx hZ hown (wd hw 14 rfl) (wd hw 15 rfl) (wd hw 16 rfl) e0 (g := (mkF m 1 #[.val (.ref a1), .val (.ref o1), .val .null, .val (.int p3), .val .null, .val .null] [(.ref a1)])) rfl (by rw [hml]; rfl) rfl (hb hby d2_1) (by decide) (W := 0) (by show 2 * 0 + _ ≤ _; exact Nat.le_of_eq rfl) (by decide)
  refine Go.by (B := (T48.setTop (mkF m 4 #[.val (.ref a1), .val (.ref o1), .val .null, .val (.int p3), .val .null, .val .null] []))) st48 ?_
  refine Go.by (B := (T48.setTop (mkF m 6 #[.val (.ref a1), .val (.ref o1), .val .null, .val (.int p3), .val .null, .val .null] [(.ref o1), (.ref a1)]))) (fun _ k => XS.aloadN X48.here hx rfl (hb hby d2_4) rfl rfl (XS.aloadN X48.here hx rfl (hb hby d2_5) rfl rfl k)) ?_
  obtain ⟨T49, h49, X49, e49, W49, st49⟩ := putF X48 hx hZ hown (host := "") (Or.inl (wd hw 17 rfl)) Via.refl e48 pr2 pr1 (Or.inr ⟨(wd hw 18 rfl), rfl, hnm⟩) (wd hw 9 rfl) (ty := (.object "com/example/breakwater/breakwater/engine/Outcome")) (by decide) rfl rfl (g := (mkF m 6 #[.val (.ref a1), .val (.ref o1), .val .null, .val (.int p3), .val .null, .val .null] [(.ref o1), (.ref a1)])) rfl rfl (hb hby d2_6)
  have N49 := Fr.snoc X49 N0 pr7
  have O50 := pr0.wr W49 pr7
  have Z50 : n0 ≤ h49.size := Nat.le_trans Z0 (Keep.of_wr W49).1
  have F49 := pr2.same W49
  refine Go.by (B := (T49.setTop (mkF m 9 #[.val (.ref a1), .val (.ref o1), .val .null, .val (.int p3), .val .null, .val .null] []))) st49 ?_
  refine Go.by (B := (T49.setTop (mkF m 11 #[.val (.ref a1), .val (.ref o1), .val .null, .val (.int p3), .val .null, .val .null] [.null, (.ref a1)]))) (fun _ k => XS.aloadN X49.here hx rfl (hb hby d2_9) rfl rfl (XS.aloadN X49.here hx rfl (hb hby d2_10) rfl rfl k)) ?_
  have f51 := (pr3.other W49 (Or.inr (slot_ne (Or.inr (wd hw 20 rfl)) (Or.inr (wd hw 18 rfl)) (by decide) (t := (.object "com/example/breakwater/breakwater/engine/Address")) (t' := (.object "com/example/breakwater/breakwater/engine/Outcome")) (by decide) (by decide))))
  obtain ⟨T52, h52, X52, e52, W52, st52⟩ := putF X49 hx hZ hown (host := "") (Or.inl (wd hw 19 rfl)) Via.refl e49 f51 (pr1.wr W49) (Or.inr ⟨(wd hw 20 rfl), rfl, hnm⟩) (wd hw 9 rfl) (ty := (.object "com/example/breakwater/breakwater/engine/Address")) (by decide) rfl rfl (g := (mkF m 11 #[.val (.ref a1), .val (.ref o1), .val .null, .val (.int p3), .val .null, .val .null] [.null, (.ref a1)])) rfl rfl (hb hby d2_11)
  have N52 := Fr.snoc X52 N49 pr7
  have O53 := O50.wr W52 pr7
  have Z53 : n0 ≤ h52.size := Nat.le_trans Z50 (Keep.of_wr W52).1
  have F52 := f51.same W52
  refine Go.by (B := (T52.setTop (mkF m 14 #[.val (.ref a1), .val (.ref o1), .val .null, .val (.int p3), .val .null, .val .null] []))) st52 ?_
  refine Go.by (B := (T52.setTop (mkF m 16 #[.val (.ref a1), .val (.ref o1), .val .null, .val (.int p3), .val .null, .val .null] [(.int p3), (.ref a1)]))) (fun _ k => XS.aloadN X52.here hx rfl (hb hby d2_14) rfl rfl (XS.iloadN X52.here hx rfl (hb hby d2_15) rfl k)) ?_
  have f54 := ((pr4.other W49 (Or.inr (slot_ne (Or.inr (wd hw 22 rfl)) (Or.inr (wd hw 18 rfl)) (by decide) (t := .int) (t' := (.object "com/example/breakwater/breakwater/engine/Outcome")) (by decide) (by decide)))).other W52 (Or.inr (slot_ne (Or.inr (wd hw 22 rfl)) (Or.inr (wd hw 20 rfl)) (by decide) (t := .int) (t' := (.object "com/example/breakwater/breakwater/engine/Address")) (by decide) (by decide))))
  obtain ⟨T55, h55, X55, e55, W55, st55⟩ := putF X52 hx hZ hown (host := "") (Or.inl (wd hw 21 rfl)) Via.refl e52 f54 ((pr1.wr W49).wr W52) (Or.inr ⟨(wd hw 22 rfl), rfl, hnm⟩) (wd hw 9 rfl) (ty := .int) (by decide) rfl rfl (g := (mkF m 16 #[.val (.ref a1), .val (.ref o1), .val .null, .val (.int p3), .val .null, .val .null] [(.int p3), (.ref a1)])) rfl rfl (hb hby d2_16)
  have N55 := Fr.snoc X55 N52 pr7
  have O56 := O53.wr W55 pr7
  have Z56 : n0 ≤ h55.size := Nat.le_trans Z53 (Keep.of_wr W55).1
  have F55 := f54.same W55
  refine Go.by (B := (T55.setTop (mkF m 19 #[.val (.ref a1), .val (.ref o1), .val .null, .val (.int p3), .val .null, .val .null] []))) st55 ?_
  refine Go.by (B := (T55.setTop (mkF m 22 #[.val (.ref a1), .val (.ref o1), .val .null, .val (.int p3), .val .null, .val .null] [.null, (.ref a1)]))) (fun _ k => XS.aloadN X55.here hx rfl (hb hby d2_19) rfl rfl (XS.aload X55.here hx rfl (hb hby d2_20) rfl rfl k)) ?_
  have f57 := (((pr5.other W49 (Or.inr (slot_ne (Or.inr (wd hw 24 rfl)) (Or.inr (wd hw 18 rfl)) (by decide) (t := (.object "java/lang/Object")) (t' := (.object "com/example/breakwater/breakwater/engine/Outcome")) (by decide) (by decide)))).other W52 (Or.inr (slot_ne (Or.inr (wd hw 24 rfl)) (Or.inr (wd hw 20 rfl)) (by decide) (t := (.object "java/lang/Object")) (t' := (.object "com/example/breakwater/breakwater/engine/Address")) (by decide) (by decide)))).other W55 (Or.inr (slot_ne (Or.inr (wd hw 24 rfl)) (Or.inr (wd hw 22 rfl)) (by decide) (t := (.object "java/lang/Object")) (t' := .int) (by decide) (by decide))))
  obtain ⟨T58, h58, X58, e58, W58, st58⟩ := putF X55 hx hZ hown (host := "") (Or.inl (wd hw 23 rfl)) Via.refl e55 f57 (((pr1.wr W49).wr W52).wr W55) (Or.inr ⟨(wd hw 24 rfl), rfl, hnm⟩) (wd hw 9 rfl) (ty := (.object "java/lang/Object")) (by decide) rfl rfl (g := (mkF m 22 #[.val (.ref a1), .val (.ref o1), .val .null, .val (.int p3), .val .null, .val .null] [.null, (.ref a1)])) rfl rfl (hb hby d2_22)
  have N58 := Fr.snoc X58 N55 pr7
  have O59 := O56.wr W58 pr7
  have Z59 : n0 ≤ h58.size := Nat.le_trans Z56 (Keep.of_wr W58).1
  have F58 := f57.same W58
  refine Go.by (B := (T58.setTop (mkF m 25 #[.val (.ref a1), .val (.ref o1), .val .null, .val (.int p3), .val .null, .val .null] []))) st58 ?_
  refine Go.by (B := (T58.setTop (mkF m 28 #[.val (.ref a1), .val (.ref o1), .val .null, .val (.int p3), .val .null, .val .null] [.null, (.ref a1)]))) (fun _ k => XS.aloadN X58.here hx rfl (hb hby d2_25) rfl rfl (XS.aload X58.here hx rfl (hb hby d2_26) rfl rfl k)) ?_
  have f60 := ((((pr6.other W49 (Or.inr (slot_ne (Or.inr (wd hw 26 rfl)) (Or.inr (wd hw 18 rfl)) (by decide) (t := (.object "java/lang/Object")) (t' := (.object "com/example/breakwater/breakwater/engine/Outcome")) (by decide) (by decide)))).other W52 (Or.inr (slot_ne (Or.inr (wd hw 26 rfl)) (Or.inr (wd hw 20 rfl)) (by decide) (t := (.object "java/lang/Object")) (t' := (.object "com/example/breakwater/breakwater/engine/Address")) (by decide) (by decide)))).other W55 (Or.inr (slot_ne (Or.inr (wd hw 26 rfl)) (Or.inr (wd hw 22 rfl)) (by decide) (t := (.object "java/lang/Object")) (t' := .int) (by decide) (by decide)))).other W58 (Or.inr (slot_ne (Or.inr (wd hw 26 rfl)) (Or.inr (wd hw 24 rfl)) (by decide) (t := (.object "java/lang/Object")) (t' := (.object "java/lang/Object")) (by decide) (by decide))))
  have f61 := ((((pr1.wr W49).wr W52).wr W55).wr W58)
  obtain ⟨T62, h62, X62, e62, W62, st62⟩ := putF X58 hx hZ hown (host := "") (Or.inl (wd hw 25 rfl)) Via.refl e58 f60 f61 (Or.inr ⟨(wd hw 26 rfl), rfl, hnm⟩) (wd hw 9 rfl) (ty := (.object "java/lang/Object")) (by decide) rfl rfl (g := (mkF m 28 #[.val (.ref a1), .val (.ref o1), .val .null, .val (.int p3), .val .null, .val .null] [.null, (.ref a1)])) rfl rfl (hb hby d2_28)
  have N62 := Fr.snoc X62 N58 pr7
  have O63 := O59.wr W62 pr7
  have Z63 : n0 ≤ h62.size := Nat.le_trans Z59 (Keep.of_wr W62).1
  have F62 := f60.same W62
  refine Go.by (B := (T62.setTop (mkF m 31 #[.val (.ref a1), .val (.ref o1), .val .null, .val (.int p3), .val .null, .val .null] []))) st62 ?_
  refine Go.retV X62 hx hlk hret (hb hby d2_31) (by decide) (by decide) ?_
  rw [e62]
  exact ⟨rfl, N62, ((((((Keep.refl h0 [a1]).wr W49 (Or.inl (List.mem_of_getElem? (i := 0) rfl))).wr W52 (Or.inl (List.mem_of_getElem? (i := 0) rfl))).wr W55 (Or.inl (List.mem_of_getElem? (i := 0) rfl))).wr W58 (Or.inl (List.mem_of_getElem? (i := 0) rfl))).wr W62 (Or.inl (List.mem_of_getElem? (i := 0) rfl))), (f61.wr W62), ((((F49.other W52 (Or.inr (slot_ne (Or.inr (wd hw 18 rfl)) (Or.inr (wd hw 20 rfl)) (by decide) (t := (.object "com/example/breakwater/breakwater/engine/Outcome")) (t' := (.object "com/example/breakwater/breakwater/engine/Address")) (by decide) (by decide)))).other W55 (Or.inr (slot_ne (Or.inr (wd hw 18 rfl)) (Or.inr (wd hw 22 rfl)) (by decide) (t := (.object "com/example/breakwater/breakwater/engine/Outcome")) (t' := .int) (by decide) (by decide)))).other W58 (Or.inr (slot_ne (Or.inr (wd hw 18 rfl)) (Or.inr (wd hw 24 rfl)) (by decide) (t := (.object "com/example/breakwater/breakwater/engine/Outcome")) (t' := (.object "java/lang/Object")) (by decide) (by decide)))).other W62 (Or.inr (slot_ne (Or.inr (wd hw 18 rfl)) (Or.inr (wd hw 26 rfl)) (by decide) (t := (.object "com/example/breakwater/breakwater/engine/Outcome")) (t' := (.object "java/lang/Object")) (by decide) (by decide)))), (((F52.other W55 (Or.inr (slot_ne (Or.inr (wd hw 20 rfl)) (Or.inr (wd hw 22 rfl)) (by decide) (t := (.object "com/example/breakwater/breakwater/engine/Address")) (t' := .int) (by decide) (by decide)))).other W58 (Or.inr (slot_ne (Or.inr (wd hw 20 rfl)) (Or.inr (wd hw 24 rfl)) (by decide) (t := (.object "com/example/breakwater/breakwater/engine/Address")) (t' := (.object "java/lang/Object")) (by decide) (by decide)))).other W62 (Or.inr (slot_ne (Or.inr (wd hw 20 rfl)) (Or.inr (wd hw 26 rfl)) (by decide) (t := (.object "com/example/breakwater/breakwater/engine/Address")) (t' := (.object "java/lang/Object")) (by decide) (by decide)))), ((F55.other W58 (Or.inr (slot_ne (Or.inr (wd hw 22 rfl)) (Or.inr (wd hw 24 rfl)) (by decide) (t := .int) (t' := (.object "java/lang/Object")) (by decide) (by decide)))).other W62 (Or.inr (slot_ne (Or.inr (wd hw 22 rfl)) (Or.inr (wd hw 26 rfl)) (by decide) (t := .int) (t' := (.object "java/lang/Object")) (by decide) (by decide)))), (F58.other W62 (Or.inr (slot_ne (Or.inr (wd hw 24 rfl)) (Or.inr (wd hw 26 rfl)) (by decide) (t := (.object "java/lang/Object")) (t' := (.object "java/lang/Object")) (by decide) (by decide)))), F62⟩
theorem ef_rm_res1 (m : MethodId) (x0 : Addr) (x1 : Addr) (x3 : Int32) (x5 : Addr) : entryFrame m #[(.ref x0), (.ref x1), .null, (.int x3), .null, (.ref x5)] 6 = mkF m 0 #[.val (.ref x0), .val (.ref x1), .val .null, .val (.int x3), .val .null, .val (.ref x5)] [] := by first | (simp [entryFrame, mkF, argsToLocals, Value.category]; done) | rfl
def Q_rm_res1 (Z : State) (a1 : Addr) (o1 : Addr) (p3 : Int32) (e5 : Addr) (h0 : Heap) (n0 : Nat) (v : Option Value) (h : Heap) (L : List Loc) : Prop := v = none ∧ Fr n0 L ∧ Keep h0 h [a1] ∧ Exa Z h a1 "com/example/breakwater/breakwater/engine/Result" ∧ Fld Z h a1 "com/example/breakwater/breakwater/engine/Result" "outcome" "Lcom/example/breakwater/breakwater/engine/Outcome;" (.ref o1) ∧ Fld Z h a1 "com/example/breakwater/breakwater/engine/Result" "destination" "Lcom/example/breakwater/breakwater/engine/Address;" .null ∧ Fld Z h a1 "com/example/breakwater/breakwater/engine/Result" "attempts" "I" (.int p3) ∧ Fld Z h a1 "com/example/breakwater/breakwater/engine/Result" "value" "Ljava/lang/Object;" .null ∧ Fld Z h a1 "com/example/breakwater/breakwater/engine/Result" "error" "Ljava/lang/Object;" (.ref e5)
set_option maxRecDepth 65536 in
set_option maxHeartbeats 40000000 in
theorem rm_res1 (l : Launch) (Z : State) (a0 : Array Value) (hw : ∀ d ∈ tables_1, d.before a0 Z = true) (ws : List Jvm.Cond) (a1 : Addr) (o1 : Addr) (p3 : Int32) (e5 : Addr) (h0 : Heap) (n0 : Nat) (Z0 : n0 ≤ h0.size) (pr0 : Old Z n0 h0) (pr1 : Exa Z h0 a1 "com/example/breakwater/breakwater/engine/Result") (pr2 : Fld Z h0 a1 "com/example/breakwater/breakwater/engine/Result" "outcome" "Lcom/example/breakwater/breakwater/engine/Outcome;" .null) (pr3 : Fld Z h0 a1 "com/example/breakwater/breakwater/engine/Result" "destination" "Lcom/example/breakwater/breakwater/engine/Address;" .null) (pr4 : Fld Z h0 a1 "com/example/breakwater/breakwater/engine/Result" "attempts" "I" (.int 0)) (pr5 : Fld Z h0 a1 "com/example/breakwater/breakwater/engine/Result" "value" "Ljava/lang/Object;" .null) (pr6 : Fld Z h0 a1 "com/example/breakwater/breakwater/engine/Result" "error" "Ljava/lang/Object;" .null) (pr7 : n0 ≤ a1) :
    Met l Z (⟨"com/example/breakwater/breakwater/engine/Result", "<init>", "(Lcom/example/breakwater/breakwater/engine/Outcome;Lcom/example/breakwater/breakwater/engine/Address;ILjava/lang/Object;Ljava/lang/Object;)V"⟩ : MethodName) prog_18_method_1_code 6 none ws ({ frames := 1, cells := 0, slots := 0, locals := 12 } : Room) #[(.ref a1), (.ref o1), .null, (.int p3), .null, (.ref e5)] h0 (Q_rm_res1 Z a1 o1 p3 e5 h0 n0) := by
  refine Met.enter (f0 := fun m => mkF m 0 #[.val (.ref a1), .val (.ref o1), .val .null, .val (.int p3), .val .null, .val (.ref e5)] []) (plainFor_of_name pn_com_example_breakwater_breakwater_engine_Result) (fun m => ef_rm_res1 m a1 o1 p3 e5) ?_
  intro p e s m below meth c s₁ hx hby hml hown hnm hret hlk hZ X0 e0
  have hown : s.vm.findClass "com/example/breakwater/breakwater/engine/Result" = some m.cls := hown
  have hnm : meth.name = "<init>" := hnm
  have hml : c.maxLocals = 6 := hml
  have hby : c.code = prog_18_method_1_code := hby
  have N0 := Fr.nil n0
  refine Go.by (B := (s₁.setTop (mkF m 1 #[.val (.ref a1), .val (.ref o1), .val .null, .val (.int p3), .val .null, .val (.ref e5)] [(.ref a1)]))) (fun _ k => XS.aloadN X0.here hx rfl (hb hby d2_0) rfl rfl k) ?_
  obtain ⟨T64, X64, e64, st64⟩ := initO X0 hx hZ hown (wd hw 14 rfl) (wd hw 15 rfl) (wd hw 16 rfl) e0 (g := (mkF m 1 #[.val (.ref a1), .val (.ref o1), .val .null, .val (.int p3), .val .null, .val (.ref e5)] [(.ref a1)])) rfl (by rw [hml]; rfl) rfl (hb hby d2_1) (by decide) (W := 0) (by show 2 * 0 + _ ≤ _; exact Nat.le_of_eq rfl) (by decide)
  refine Go.by (B := (T64.setTop (mkF m 4 #[.val (.ref a1), .val (.ref o1), .val .null, .val (.int p3), .val .null, .val (.ref e5)] []))) st64 ?_
  refine Go.by (B := (T64.setTop (mkF m 6 #[.val (.ref a1), .val (.ref o1), .val .null, .val (.int p3), .val .null, .val (.ref e5)] [(.ref o1), (.ref a1)]))) (fun _ k => XS.aloadN X64.here hx rfl (hb hby d2_4) rfl rfl (XS.aloadN X64.here hx rfl (hb hby d2_5) rfl rfl k)) ?_
  obtain ⟨T65, h65, X65, e65, W65, st65⟩ := putF X64 hx hZ hown (host := "") (Or.inl (wd hw 17 rfl)) Via.refl e64 pr2 pr1 (Or.inr ⟨(wd hw 18 rfl), rfl, hnm⟩) (wd hw 9 rfl) (ty := (.object "com/example/breakwater/breakwater/engine/Outcome")) (by decide) rfl rfl (g := (mkF m 6 #[.val (.ref a1), .val (.ref o1), .val .null, .val (.int p3), .val .null, .val (.ref e5)] [(.ref o1), (.ref a1)])) rfl rfl (hb hby d2_6)
  have N65 := Fr.snoc X65 N0 pr7
  have O66 := pr0.wr W65 pr7
  have Z66 : n0 ≤ h65.size := Nat.le_trans Z0 (Keep.of_wr W65).1
  have F65 := pr2.same W65
  refine Go.by (B := (T65.setTop (mkF m 9 #[.val (.ref a1), .val (.ref o1), .val .null, .val (.int p3), .val .null, .val (.ref e5)] []))) st65 ?_
  refine Go.by (B := (T65.setTop (mkF m 11 #[.val (.ref a1), .val (.ref o1), .val .null, .val (.int p3), .val .null, .val (.ref e5)] [.null, (.ref a1)]))) (fun _ k => XS.aloadN X65.here hx rfl (hb hby d2_9) rfl rfl (XS.aloadN X65.here hx rfl (hb hby d2_10) rfl rfl k)) ?_
  have f67 := (pr3.other W65 (Or.inr (slot_ne (Or.inr (wd hw 20 rfl)) (Or.inr (wd hw 18 rfl)) (by decide) (t := (.object "com/example/breakwater/breakwater/engine/Address")) (t' := (.object "com/example/breakwater/breakwater/engine/Outcome")) (by decide) (by decide))))
  obtain ⟨T68, h68, X68, e68, W68, st68⟩ := putF X65 hx hZ hown (host := "") (Or.inl (wd hw 19 rfl)) Via.refl e65 f67 (pr1.wr W65) (Or.inr ⟨(wd hw 20 rfl), rfl, hnm⟩) (wd hw 9 rfl) (ty := (.object "com/example/breakwater/breakwater/engine/Address")) (by decide) rfl rfl (g := (mkF m 11 #[.val (.ref a1), .val (.ref o1), .val .null, .val (.int p3), .val .null, .val (.ref e5)] [.null, (.ref a1)])) rfl rfl (hb hby d2_11)
  have N68 := Fr.snoc X68 N65 pr7
  have O69 := O66.wr W68 pr7
  have Z69 : n0 ≤ h68.size := Nat.le_trans Z66 (Keep.of_wr W68).1
  have F68 := f67.same W68
  refine Go.by (B := (T68.setTop (mkF m 14 #[.val (.ref a1), .val (.ref o1), .val .null, .val (.int p3), .val .null, .val (.ref e5)] []))) st68 ?_
  refine Go.by (B := (T68.setTop (mkF m 16 #[.val (.ref a1), .val (.ref o1), .val .null, .val (.int p3), .val .null, .val (.ref e5)] [(.int p3), (.ref a1)]))) (fun _ k => XS.aloadN X68.here hx rfl (hb hby d2_14) rfl rfl (XS.iloadN X68.here hx rfl (hb hby d2_15) rfl k)) ?_
  have f70 := ((pr4.other W65 (Or.inr (slot_ne (Or.inr (wd hw 22 rfl)) (Or.inr (wd hw 18 rfl)) (by decide) (t := .int) (t' := (.object "com/example/breakwater/breakwater/engine/Outcome")) (by decide) (by decide)))).other W68 (Or.inr (slot_ne (Or.inr (wd hw 22 rfl)) (Or.inr (wd hw 20 rfl)) (by decide) (t := .int) (t' := (.object "com/example/breakwater/breakwater/engine/Address")) (by decide) (by decide))))
  obtain ⟨T71, h71, X71, e71, W71, st71⟩ := putF X68 hx hZ hown (host := "") (Or.inl (wd hw 21 rfl)) Via.refl e68 f70 ((pr1.wr W65).wr W68) (Or.inr ⟨(wd hw 22 rfl), rfl, hnm⟩) (wd hw 9 rfl) (ty := .int) (by decide) rfl rfl (g := (mkF m 16 #[.val (.ref a1), .val (.ref o1), .val .null, .val (.int p3), .val .null, .val (.ref e5)] [(.int p3), (.ref a1)])) rfl rfl (hb hby d2_16)
  have N71 := Fr.snoc X71 N68 pr7
  have O72 := O69.wr W71 pr7
  have Z72 : n0 ≤ h71.size := Nat.le_trans Z69 (Keep.of_wr W71).1
  have F71 := f70.same W71
  refine Go.by (B := (T71.setTop (mkF m 19 #[.val (.ref a1), .val (.ref o1), .val .null, .val (.int p3), .val .null, .val (.ref e5)] []))) st71 ?_
  refine Go.by (B := (T71.setTop (mkF m 22 #[.val (.ref a1), .val (.ref o1), .val .null, .val (.int p3), .val .null, .val (.ref e5)] [.null, (.ref a1)]))) (fun _ k => XS.aloadN X71.here hx rfl (hb hby d2_19) rfl rfl (XS.aload X71.here hx rfl (hb hby d2_20) rfl rfl k)) ?_
  have f73 := (((pr5.other W65 (Or.inr (slot_ne (Or.inr (wd hw 24 rfl)) (Or.inr (wd hw 18 rfl)) (by decide) (t := (.object "java/lang/Object")) (t' := (.object "com/example/breakwater/breakwater/engine/Outcome")) (by decide) (by decide)))).other W68 (Or.inr (slot_ne (Or.inr (wd hw 24 rfl)) (Or.inr (wd hw 20 rfl)) (by decide) (t := (.object "java/lang/Object")) (t' := (.object "com/example/breakwater/breakwater/engine/Address")) (by decide) (by decide)))).other W71 (Or.inr (slot_ne (Or.inr (wd hw 24 rfl)) (Or.inr (wd hw 22 rfl)) (by decide) (t := (.object "java/lang/Object")) (t' := .int) (by decide) (by decide))))
  obtain ⟨T74, h74, X74, e74, W74, st74⟩ := putF X71 hx hZ hown (host := "") (Or.inl (wd hw 23 rfl)) Via.refl e71 f73 (((pr1.wr W65).wr W68).wr W71) (Or.inr ⟨(wd hw 24 rfl), rfl, hnm⟩) (wd hw 9 rfl) (ty := (.object "java/lang/Object")) (by decide) rfl rfl (g := (mkF m 22 #[.val (.ref a1), .val (.ref o1), .val .null, .val (.int p3), .val .null, .val (.ref e5)] [.null, (.ref a1)])) rfl rfl (hb hby d2_22)
  have N74 := Fr.snoc X74 N71 pr7
  have O75 := O72.wr W74 pr7
  have Z75 : n0 ≤ h74.size := Nat.le_trans Z72 (Keep.of_wr W74).1
  have F74 := f73.same W74
  refine Go.by (B := (T74.setTop (mkF m 25 #[.val (.ref a1), .val (.ref o1), .val .null, .val (.int p3), .val .null, .val (.ref e5)] []))) st74 ?_
  refine Go.by (B := (T74.setTop (mkF m 28 #[.val (.ref a1), .val (.ref o1), .val .null, .val (.int p3), .val .null, .val (.ref e5)] [(.ref e5), (.ref a1)]))) (fun _ k => XS.aloadN X74.here hx rfl (hb hby d2_25) rfl rfl (XS.aload X74.here hx rfl (hb hby d2_26) rfl rfl k)) ?_
  have f76 := ((((pr6.other W65 (Or.inr (slot_ne (Or.inr (wd hw 26 rfl)) (Or.inr (wd hw 18 rfl)) (by decide) (t := (.object "java/lang/Object")) (t' := (.object "com/example/breakwater/breakwater/engine/Outcome")) (by decide) (by decide)))).other W68 (Or.inr (slot_ne (Or.inr (wd hw 26 rfl)) (Or.inr (wd hw 20 rfl)) (by decide) (t := (.object "java/lang/Object")) (t' := (.object "com/example/breakwater/breakwater/engine/Address")) (by decide) (by decide)))).other W71 (Or.inr (slot_ne (Or.inr (wd hw 26 rfl)) (Or.inr (wd hw 22 rfl)) (by decide) (t := (.object "java/lang/Object")) (t' := .int) (by decide) (by decide)))).other W74 (Or.inr (slot_ne (Or.inr (wd hw 26 rfl)) (Or.inr (wd hw 24 rfl)) (by decide) (t := (.object "java/lang/Object")) (t' := (.object "java/lang/Object")) (by decide) (by decide))))
  have f77 := ((((pr1.wr W65).wr W68).wr W71).wr W74)
  obtain ⟨T78, h78, X78, e78, W78, st78⟩ := putF X74 hx hZ hown (host := "") (Or.inl (wd hw 25 rfl)) Via.refl e74 f76 f77 (Or.inr ⟨(wd hw 26 rfl), rfl, hnm⟩) (wd hw 9 rfl) (ty := (.object "java/lang/Object")) (by decide) rfl rfl (g := (mkF m 28 #[.val (.ref a1), .val (.ref o1), .val .null, .val (.int p3), .val .null, .val (.ref e5)] [(.ref e5), (.ref a1)])) rfl rfl (hb hby d2_28)
  have N78 := Fr.snoc X78 N74 pr7
  have O79 := O75.wr W78 pr7
  have Z79 : n0 ≤ h78.size := Nat.le_trans Z75 (Keep.of_wr W78).1
  have F78 := f76.same W78
  refine Go.by (B := (T78.setTop (mkF m 31 #[.val (.ref a1), .val (.ref o1), .val .null, .val (.int p3), .val .null, .val (.ref e5)] []))) st78 ?_
  refine Go.retV X78 hx hlk hret (hb hby d2_31) (by decide) (by decide) ?_
  rw [e78]
  exact ⟨rfl, N78, ((((((Keep.refl h0 [a1]).wr W65 (Or.inl (List.mem_of_getElem? (i := 0) rfl))).wr W68 (Or.inl (List.mem_of_getElem? (i := 0) rfl))).wr W71 (Or.inl (List.mem_of_getElem? (i := 0) rfl))).wr W74 (Or.inl (List.mem_of_getElem? (i := 0) rfl))).wr W78 (Or.inl (List.mem_of_getElem? (i := 0) rfl))), (f77.wr W78), ((((F65.other W68 (Or.inr (slot_ne (Or.inr (wd hw 18 rfl)) (Or.inr (wd hw 20 rfl)) (by decide) (t := (.object "com/example/breakwater/breakwater/engine/Outcome")) (t' := (.object "com/example/breakwater/breakwater/engine/Address")) (by decide) (by decide)))).other W71 (Or.inr (slot_ne (Or.inr (wd hw 18 rfl)) (Or.inr (wd hw 22 rfl)) (by decide) (t := (.object "com/example/breakwater/breakwater/engine/Outcome")) (t' := .int) (by decide) (by decide)))).other W74 (Or.inr (slot_ne (Or.inr (wd hw 18 rfl)) (Or.inr (wd hw 24 rfl)) (by decide) (t := (.object "com/example/breakwater/breakwater/engine/Outcome")) (t' := (.object "java/lang/Object")) (by decide) (by decide)))).other W78 (Or.inr (slot_ne (Or.inr (wd hw 18 rfl)) (Or.inr (wd hw 26 rfl)) (by decide) (t := (.object "com/example/breakwater/breakwater/engine/Outcome")) (t' := (.object "java/lang/Object")) (by decide) (by decide)))), (((F68.other W71 (Or.inr (slot_ne (Or.inr (wd hw 20 rfl)) (Or.inr (wd hw 22 rfl)) (by decide) (t := (.object "com/example/breakwater/breakwater/engine/Address")) (t' := .int) (by decide) (by decide)))).other W74 (Or.inr (slot_ne (Or.inr (wd hw 20 rfl)) (Or.inr (wd hw 24 rfl)) (by decide) (t := (.object "com/example/breakwater/breakwater/engine/Address")) (t' := (.object "java/lang/Object")) (by decide) (by decide)))).other W78 (Or.inr (slot_ne (Or.inr (wd hw 20 rfl)) (Or.inr (wd hw 26 rfl)) (by decide) (t := (.object "com/example/breakwater/breakwater/engine/Address")) (t' := (.object "java/lang/Object")) (by decide) (by decide)))), ((F71.other W74 (Or.inr (slot_ne (Or.inr (wd hw 22 rfl)) (Or.inr (wd hw 24 rfl)) (by decide) (t := .int) (t' := (.object "java/lang/Object")) (by decide) (by decide)))).other W78 (Or.inr (slot_ne (Or.inr (wd hw 22 rfl)) (Or.inr (wd hw 26 rfl)) (by decide) (t := .int) (t' := (.object "java/lang/Object")) (by decide) (by decide)))), (F74.other W78 (Or.inr (slot_ne (Or.inr (wd hw 24 rfl)) (Or.inr (wd hw 26 rfl)) (by decide) (t := (.object "java/lang/Object")) (t' := (.object "java/lang/Object")) (by decide) (by decide)))), F78⟩
theorem ef_rm_res2 (m : MethodId) (x0 : Addr) (x1 : Addr) (x3 : Int32) (x4 : Addr) : entryFrame m #[(.ref x0), (.ref x1), .null, (.int x3), (.ref x4), .null] 6 = mkF m 0 #[.val (.ref x0), .val (.ref x1), .val .null, .val (.int x3), .val (.ref x4), .val .null] [] := by first | (simp [entryFrame, mkF, argsToLocals, Value.category]; done) | rfl
def Q_rm_res2 (Z : State) (a1 : Addr) (o1 : Addr) (p3 : Int32) (v4 : Addr) (h0 : Heap) (n0 : Nat) (v : Option Value) (h : Heap) (L : List Loc) : Prop := v = none ∧ Fr n0 L ∧ Keep h0 h [a1] ∧ Exa Z h a1 "com/example/breakwater/breakwater/engine/Result" ∧ Fld Z h a1 "com/example/breakwater/breakwater/engine/Result" "outcome" "Lcom/example/breakwater/breakwater/engine/Outcome;" (.ref o1) ∧ Fld Z h a1 "com/example/breakwater/breakwater/engine/Result" "destination" "Lcom/example/breakwater/breakwater/engine/Address;" .null ∧ Fld Z h a1 "com/example/breakwater/breakwater/engine/Result" "attempts" "I" (.int p3) ∧ Fld Z h a1 "com/example/breakwater/breakwater/engine/Result" "value" "Ljava/lang/Object;" (.ref v4) ∧ Fld Z h a1 "com/example/breakwater/breakwater/engine/Result" "error" "Ljava/lang/Object;" .null
set_option maxRecDepth 65536 in
set_option maxHeartbeats 40000000 in
theorem rm_res2 (l : Launch) (Z : State) (a0 : Array Value) (hw : ∀ d ∈ tables_1, d.before a0 Z = true) (ws : List Jvm.Cond) (a1 : Addr) (o1 : Addr) (p3 : Int32) (v4 : Addr) (h0 : Heap) (n0 : Nat) (Z0 : n0 ≤ h0.size) (pr0 : Old Z n0 h0) (pr1 : Exa Z h0 a1 "com/example/breakwater/breakwater/engine/Result") (pr2 : Fld Z h0 a1 "com/example/breakwater/breakwater/engine/Result" "outcome" "Lcom/example/breakwater/breakwater/engine/Outcome;" .null) (pr3 : Fld Z h0 a1 "com/example/breakwater/breakwater/engine/Result" "destination" "Lcom/example/breakwater/breakwater/engine/Address;" .null) (pr4 : Fld Z h0 a1 "com/example/breakwater/breakwater/engine/Result" "attempts" "I" (.int 0)) (pr5 : Fld Z h0 a1 "com/example/breakwater/breakwater/engine/Result" "value" "Ljava/lang/Object;" .null) (pr6 : Fld Z h0 a1 "com/example/breakwater/breakwater/engine/Result" "error" "Ljava/lang/Object;" .null) (pr7 : n0 ≤ a1) :
    Met l Z (⟨"com/example/breakwater/breakwater/engine/Result", "<init>", "(Lcom/example/breakwater/breakwater/engine/Outcome;Lcom/example/breakwater/breakwater/engine/Address;ILjava/lang/Object;Ljava/lang/Object;)V"⟩ : MethodName) prog_18_method_1_code 6 none ws ({ frames := 1, cells := 0, slots := 0, locals := 12 } : Room) #[(.ref a1), (.ref o1), .null, (.int p3), (.ref v4), .null] h0 (Q_rm_res2 Z a1 o1 p3 v4 h0 n0) := by
  refine Met.enter (f0 := fun m => mkF m 0 #[.val (.ref a1), .val (.ref o1), .val .null, .val (.int p3), .val (.ref v4), .val .null] []) (plainFor_of_name pn_com_example_breakwater_breakwater_engine_Result) (fun m => ef_rm_res2 m a1 o1 p3 v4) ?_
  intro p e s m below meth c s₁ hx hby hml hown hnm hret hlk hZ X0 e0
  have hown : s.vm.findClass "com/example/breakwater/breakwater/engine/Result" = some m.cls := hown
  have hnm : meth.name = "<init>" := hnm
  have hml : c.maxLocals = 6 := hml
  have hby : c.code = prog_18_method_1_code := hby
  have N0 := Fr.nil n0
  refine Go.by (B := (s₁.setTop (mkF m 1 #[.val (.ref a1), .val (.ref o1), .val .null, .val (.int p3), .val (.ref v4), .val .null] [(.ref a1)]))) (fun _ k => XS.aloadN X0.here hx rfl (hb hby d2_0) rfl rfl k) ?_
  obtain ⟨T80, X80, e80, st80⟩ := initO X0 hx hZ hown (wd hw 14 rfl) (wd hw 15 rfl) (wd hw 16 rfl) e0 (g := (mkF m 1 #[.val (.ref a1), .val (.ref o1), .val .null, .val (.int p3), .val (.ref v4), .val .null] [(.ref a1)])) rfl (by rw [hml]; rfl) rfl (hb hby d2_1) (by decide) (W := 0) (by show 2 * 0 + _ ≤ _; exact Nat.le_of_eq rfl) (by decide)
  refine Go.by (B := (T80.setTop (mkF m 4 #[.val (.ref a1), .val (.ref o1), .val .null, .val (.int p3), .val (.ref v4), .val .null] []))) st80 ?_
  refine Go.by (B := (T80.setTop (mkF m 6 #[.val (.ref a1), .val (.ref o1), .val .null, .val (.int p3), .val (.ref v4), .val .null] [(.ref o1), (.ref a1)]))) (fun _ k => XS.aloadN X80.here hx rfl (hb hby d2_4) rfl rfl (XS.aloadN X80.here hx rfl (hb hby d2_5) rfl rfl k)) ?_
  obtain ⟨T81, h81, X81, e81, W81, st81⟩ := putF X80 hx hZ hown (host := "") (Or.inl (wd hw 17 rfl)) Via.refl e80 pr2 pr1 (Or.inr ⟨(wd hw 18 rfl), rfl, hnm⟩) (wd hw 9 rfl) (ty := (.object "com/example/breakwater/breakwater/engine/Outcome")) (by decide) rfl rfl (g := (mkF m 6 #[.val (.ref a1), .val (.ref o1), .val .null, .val (.int p3), .val (.ref v4), .val .null] [(.ref o1), (.ref a1)])) rfl rfl (hb hby d2_6)
  have N81 := Fr.snoc X81 N0 pr7
  have O82 := pr0.wr W81 pr7
  have Z82 : n0 ≤ h81.size := Nat.le_trans Z0 (Keep.of_wr W81).1
  have F81 := pr2.same W81
  refine Go.by (B := (T81.setTop (mkF m 9 #[.val (.ref a1), .val (.ref o1), .val .null, .val (.int p3), .val (.ref v4), .val .null] []))) st81 ?_
  refine Go.by (B := (T81.setTop (mkF m 11 #[.val (.ref a1), .val (.ref o1), .val .null, .val (.int p3), .val (.ref v4), .val .null] [.null, (.ref a1)]))) (fun _ k => XS.aloadN X81.here hx rfl (hb hby d2_9) rfl rfl (XS.aloadN X81.here hx rfl (hb hby d2_10) rfl rfl k)) ?_
  have f83 := (pr3.other W81 (Or.inr (slot_ne (Or.inr (wd hw 20 rfl)) (Or.inr (wd hw 18 rfl)) (by decide) (t := (.object "com/example/breakwater/breakwater/engine/Address")) (t' := (.object "com/example/breakwater/breakwater/engine/Outcome")) (by decide) (by decide))))
  obtain ⟨T84, h84, X84, e84, W84, st84⟩ := putF X81 hx hZ hown (host := "") (Or.inl (wd hw 19 rfl)) Via.refl e81 f83 (pr1.wr W81) (Or.inr ⟨(wd hw 20 rfl), rfl, hnm⟩) (wd hw 9 rfl) (ty := (.object "com/example/breakwater/breakwater/engine/Address")) (by decide) rfl rfl (g := (mkF m 11 #[.val (.ref a1), .val (.ref o1), .val .null, .val (.int p3), .val (.ref v4), .val .null] [.null, (.ref a1)])) rfl rfl (hb hby d2_11)
  have N84 := Fr.snoc X84 N81 pr7
  have O85 := O82.wr W84 pr7
  have Z85 : n0 ≤ h84.size := Nat.le_trans Z82 (Keep.of_wr W84).1
  have F84 := f83.same W84
  refine Go.by (B := (T84.setTop (mkF m 14 #[.val (.ref a1), .val (.ref o1), .val .null, .val (.int p3), .val (.ref v4), .val .null] []))) st84 ?_
  refine Go.by (B := (T84.setTop (mkF m 16 #[.val (.ref a1), .val (.ref o1), .val .null, .val (.int p3), .val (.ref v4), .val .null] [(.int p3), (.ref a1)]))) (fun _ k => XS.aloadN X84.here hx rfl (hb hby d2_14) rfl rfl (XS.iloadN X84.here hx rfl (hb hby d2_15) rfl k)) ?_
  have f86 := ((pr4.other W81 (Or.inr (slot_ne (Or.inr (wd hw 22 rfl)) (Or.inr (wd hw 18 rfl)) (by decide) (t := .int) (t' := (.object "com/example/breakwater/breakwater/engine/Outcome")) (by decide) (by decide)))).other W84 (Or.inr (slot_ne (Or.inr (wd hw 22 rfl)) (Or.inr (wd hw 20 rfl)) (by decide) (t := .int) (t' := (.object "com/example/breakwater/breakwater/engine/Address")) (by decide) (by decide))))
  obtain ⟨T87, h87, X87, e87, W87, st87⟩ := putF X84 hx hZ hown (host := "") (Or.inl (wd hw 21 rfl)) Via.refl e84 f86 ((pr1.wr W81).wr W84) (Or.inr ⟨(wd hw 22 rfl), rfl, hnm⟩) (wd hw 9 rfl) (ty := .int) (by decide) rfl rfl (g := (mkF m 16 #[.val (.ref a1), .val (.ref o1), .val .null, .val (.int p3), .val (.ref v4), .val .null] [(.int p3), (.ref a1)])) rfl rfl (hb hby d2_16)
  have N87 := Fr.snoc X87 N84 pr7
  have O88 := O85.wr W87 pr7
  have Z88 : n0 ≤ h87.size := Nat.le_trans Z85 (Keep.of_wr W87).1
  have F87 := f86.same W87
  refine Go.by (B := (T87.setTop (mkF m 19 #[.val (.ref a1), .val (.ref o1), .val .null, .val (.int p3), .val (.ref v4), .val .null] []))) st87 ?_
  refine Go.by (B := (T87.setTop (mkF m 22 #[.val (.ref a1), .val (.ref o1), .val .null, .val (.int p3), .val (.ref v4), .val .null] [(.ref v4), (.ref a1)]))) (fun _ k => XS.aloadN X87.here hx rfl (hb hby d2_19) rfl rfl (XS.aload X87.here hx rfl (hb hby d2_20) rfl rfl k)) ?_
  have f89 := (((pr5.other W81 (Or.inr (slot_ne (Or.inr (wd hw 24 rfl)) (Or.inr (wd hw 18 rfl)) (by decide) (t := (.object "java/lang/Object")) (t' := (.object "com/example/breakwater/breakwater/engine/Outcome")) (by decide) (by decide)))).other W84 (Or.inr (slot_ne (Or.inr (wd hw 24 rfl)) (Or.inr (wd hw 20 rfl)) (by decide) (t := (.object "java/lang/Object")) (t' := (.object "com/example/breakwater/breakwater/engine/Address")) (by decide) (by decide)))).other W87 (Or.inr (slot_ne (Or.inr (wd hw 24 rfl)) (Or.inr (wd hw 22 rfl)) (by decide) (t := (.object "java/lang/Object")) (t' := .int) (by decide) (by decide))))
  obtain ⟨T90, h90, X90, e90, W90, st90⟩ := putF X87 hx hZ hown (host := "") (Or.inl (wd hw 23 rfl)) Via.refl e87 f89 (((pr1.wr W81).wr W84).wr W87) (Or.inr ⟨(wd hw 24 rfl), rfl, hnm⟩) (wd hw 9 rfl) (ty := (.object "java/lang/Object")) (by decide) rfl rfl (g := (mkF m 22 #[.val (.ref a1), .val (.ref o1), .val .null, .val (.int p3), .val (.ref v4), .val .null] [(.ref v4), (.ref a1)])) rfl rfl (hb hby d2_22)
  have N90 := Fr.snoc X90 N87 pr7
  have O91 := O88.wr W90 pr7
  have Z91 : n0 ≤ h90.size := Nat.le_trans Z88 (Keep.of_wr W90).1
  have F90 := f89.same W90
  refine Go.by (B := (T90.setTop (mkF m 25 #[.val (.ref a1), .val (.ref o1), .val .null, .val (.int p3), .val (.ref v4), .val .null] []))) st90 ?_
  refine Go.by (B := (T90.setTop (mkF m 28 #[.val (.ref a1), .val (.ref o1), .val .null, .val (.int p3), .val (.ref v4), .val .null] [.null, (.ref a1)]))) (fun _ k => XS.aloadN X90.here hx rfl (hb hby d2_25) rfl rfl (XS.aload X90.here hx rfl (hb hby d2_26) rfl rfl k)) ?_
  have f92 := ((((pr6.other W81 (Or.inr (slot_ne (Or.inr (wd hw 26 rfl)) (Or.inr (wd hw 18 rfl)) (by decide) (t := (.object "java/lang/Object")) (t' := (.object "com/example/breakwater/breakwater/engine/Outcome")) (by decide) (by decide)))).other W84 (Or.inr (slot_ne (Or.inr (wd hw 26 rfl)) (Or.inr (wd hw 20 rfl)) (by decide) (t := (.object "java/lang/Object")) (t' := (.object "com/example/breakwater/breakwater/engine/Address")) (by decide) (by decide)))).other W87 (Or.inr (slot_ne (Or.inr (wd hw 26 rfl)) (Or.inr (wd hw 22 rfl)) (by decide) (t := (.object "java/lang/Object")) (t' := .int) (by decide) (by decide)))).other W90 (Or.inr (slot_ne (Or.inr (wd hw 26 rfl)) (Or.inr (wd hw 24 rfl)) (by decide) (t := (.object "java/lang/Object")) (t' := (.object "java/lang/Object")) (by decide) (by decide))))
  have f93 := ((((pr1.wr W81).wr W84).wr W87).wr W90)
  obtain ⟨T94, h94, X94, e94, W94, st94⟩ := putF X90 hx hZ hown (host := "") (Or.inl (wd hw 25 rfl)) Via.refl e90 f92 f93 (Or.inr ⟨(wd hw 26 rfl), rfl, hnm⟩) (wd hw 9 rfl) (ty := (.object "java/lang/Object")) (by decide) rfl rfl (g := (mkF m 28 #[.val (.ref a1), .val (.ref o1), .val .null, .val (.int p3), .val (.ref v4), .val .null] [.null, (.ref a1)])) rfl rfl (hb hby d2_28)
  have N94 := Fr.snoc X94 N90 pr7
  have O95 := O91.wr W94 pr7
  have Z95 : n0 ≤ h94.size := Nat.le_trans Z91 (Keep.of_wr W94).1
  have F94 := f92.same W94
  refine Go.by (B := (T94.setTop (mkF m 31 #[.val (.ref a1), .val (.ref o1), .val .null, .val (.int p3), .val (.ref v4), .val .null] []))) st94 ?_
  refine Go.retV X94 hx hlk hret (hb hby d2_31) (by decide) (by decide) ?_
  rw [e94]
  exact ⟨rfl, N94, ((((((Keep.refl h0 [a1]).wr W81 (Or.inl (List.mem_of_getElem? (i := 0) rfl))).wr W84 (Or.inl (List.mem_of_getElem? (i := 0) rfl))).wr W87 (Or.inl (List.mem_of_getElem? (i := 0) rfl))).wr W90 (Or.inl (List.mem_of_getElem? (i := 0) rfl))).wr W94 (Or.inl (List.mem_of_getElem? (i := 0) rfl))), (f93.wr W94), ((((F81.other W84 (Or.inr (slot_ne (Or.inr (wd hw 18 rfl)) (Or.inr (wd hw 20 rfl)) (by decide) (t := (.object "com/example/breakwater/breakwater/engine/Outcome")) (t' := (.object "com/example/breakwater/breakwater/engine/Address")) (by decide) (by decide)))).other W87 (Or.inr (slot_ne (Or.inr (wd hw 18 rfl)) (Or.inr (wd hw 22 rfl)) (by decide) (t := (.object "com/example/breakwater/breakwater/engine/Outcome")) (t' := .int) (by decide) (by decide)))).other W90 (Or.inr (slot_ne (Or.inr (wd hw 18 rfl)) (Or.inr (wd hw 24 rfl)) (by decide) (t := (.object "com/example/breakwater/breakwater/engine/Outcome")) (t' := (.object "java/lang/Object")) (by decide) (by decide)))).other W94 (Or.inr (slot_ne (Or.inr (wd hw 18 rfl)) (Or.inr (wd hw 26 rfl)) (by decide) (t := (.object "com/example/breakwater/breakwater/engine/Outcome")) (t' := (.object "java/lang/Object")) (by decide) (by decide)))), (((F84.other W87 (Or.inr (slot_ne (Or.inr (wd hw 20 rfl)) (Or.inr (wd hw 22 rfl)) (by decide) (t := (.object "com/example/breakwater/breakwater/engine/Address")) (t' := .int) (by decide) (by decide)))).other W90 (Or.inr (slot_ne (Or.inr (wd hw 20 rfl)) (Or.inr (wd hw 24 rfl)) (by decide) (t := (.object "com/example/breakwater/breakwater/engine/Address")) (t' := (.object "java/lang/Object")) (by decide) (by decide)))).other W94 (Or.inr (slot_ne (Or.inr (wd hw 20 rfl)) (Or.inr (wd hw 26 rfl)) (by decide) (t := (.object "com/example/breakwater/breakwater/engine/Address")) (t' := (.object "java/lang/Object")) (by decide) (by decide)))), ((F87.other W90 (Or.inr (slot_ne (Or.inr (wd hw 22 rfl)) (Or.inr (wd hw 24 rfl)) (by decide) (t := .int) (t' := (.object "java/lang/Object")) (by decide) (by decide)))).other W94 (Or.inr (slot_ne (Or.inr (wd hw 22 rfl)) (Or.inr (wd hw 26 rfl)) (by decide) (t := .int) (t' := (.object "java/lang/Object")) (by decide) (by decide)))), (F90.other W94 (Or.inr (slot_ne (Or.inr (wd hw 24 rfl)) (Or.inr (wd hw 26 rfl)) (by decide) (t := (.object "java/lang/Object")) (t' := (.object "java/lang/Object")) (by decide) (by decide)))), F94⟩
theorem ef_rm_res3 (m : MethodId) (x0 : Addr) (x1 : Addr) (x3 : Int32) (x4 : Addr) (x5 : Addr) : entryFrame m #[(.ref x0), (.ref x1), .null, (.int x3), (.ref x4), (.ref x5)] 6 = mkF m 0 #[.val (.ref x0), .val (.ref x1), .val .null, .val (.int x3), .val (.ref x4), .val (.ref x5)] [] := by first | (simp [entryFrame, mkF, argsToLocals, Value.category]; done) | rfl
def Q_rm_res3 (Z : State) (a1 : Addr) (o1 : Addr) (p3 : Int32) (v4 : Addr) (e5 : Addr) (h0 : Heap) (n0 : Nat) (v : Option Value) (h : Heap) (L : List Loc) : Prop := v = none ∧ Fr n0 L ∧ Keep h0 h [a1] ∧ Exa Z h a1 "com/example/breakwater/breakwater/engine/Result" ∧ Fld Z h a1 "com/example/breakwater/breakwater/engine/Result" "outcome" "Lcom/example/breakwater/breakwater/engine/Outcome;" (.ref o1) ∧ Fld Z h a1 "com/example/breakwater/breakwater/engine/Result" "destination" "Lcom/example/breakwater/breakwater/engine/Address;" .null ∧ Fld Z h a1 "com/example/breakwater/breakwater/engine/Result" "attempts" "I" (.int p3) ∧ Fld Z h a1 "com/example/breakwater/breakwater/engine/Result" "value" "Ljava/lang/Object;" (.ref v4) ∧ Fld Z h a1 "com/example/breakwater/breakwater/engine/Result" "error" "Ljava/lang/Object;" (.ref e5)
set_option maxRecDepth 65536 in
set_option maxHeartbeats 40000000 in
theorem rm_res3 (l : Launch) (Z : State) (a0 : Array Value) (hw : ∀ d ∈ tables_1, d.before a0 Z = true) (ws : List Jvm.Cond) (a1 : Addr) (o1 : Addr) (p3 : Int32) (v4 : Addr) (e5 : Addr) (h0 : Heap) (n0 : Nat) (Z0 : n0 ≤ h0.size) (pr0 : Old Z n0 h0) (pr1 : Exa Z h0 a1 "com/example/breakwater/breakwater/engine/Result") (pr2 : Fld Z h0 a1 "com/example/breakwater/breakwater/engine/Result" "outcome" "Lcom/example/breakwater/breakwater/engine/Outcome;" .null) (pr3 : Fld Z h0 a1 "com/example/breakwater/breakwater/engine/Result" "destination" "Lcom/example/breakwater/breakwater/engine/Address;" .null) (pr4 : Fld Z h0 a1 "com/example/breakwater/breakwater/engine/Result" "attempts" "I" (.int 0)) (pr5 : Fld Z h0 a1 "com/example/breakwater/breakwater/engine/Result" "value" "Ljava/lang/Object;" .null) (pr6 : Fld Z h0 a1 "com/example/breakwater/breakwater/engine/Result" "error" "Ljava/lang/Object;" .null) (pr7 : n0 ≤ a1) :
    Met l Z (⟨"com/example/breakwater/breakwater/engine/Result", "<init>", "(Lcom/example/breakwater/breakwater/engine/Outcome;Lcom/example/breakwater/breakwater/engine/Address;ILjava/lang/Object;Ljava/lang/Object;)V"⟩ : MethodName) prog_18_method_1_code 6 none ws ({ frames := 1, cells := 0, slots := 0, locals := 12 } : Room) #[(.ref a1), (.ref o1), .null, (.int p3), (.ref v4), (.ref e5)] h0 (Q_rm_res3 Z a1 o1 p3 v4 e5 h0 n0) := by
  refine Met.enter (f0 := fun m => mkF m 0 #[.val (.ref a1), .val (.ref o1), .val .null, .val (.int p3), .val (.ref v4), .val (.ref e5)] []) (plainFor_of_name pn_com_example_breakwater_breakwater_engine_Result) (fun m => ef_rm_res3 m a1 o1 p3 v4 e5) ?_
  intro p e s m below meth c s₁ hx hby hml hown hnm hret hlk hZ X0 e0
  have hown : s.vm.findClass "com/example/breakwater/breakwater/engine/Result" = some m.cls := hown
  have hnm : meth.name = "<init>" := hnm
  have hml : c.maxLocals = 6 := hml
  have hby : c.code = prog_18_method_1_code := hby
  have N0 := Fr.nil n0
  refine Go.by (B := (s₁.setTop (mkF m 1 #[.val (.ref a1), .val (.ref o1), .val .null, .val (.int p3), .val (.ref v4), .val (.ref e5)] [(.ref a1)]))) (fun _ k => XS.aloadN X0.here hx rfl (hb hby d2_0) rfl rfl k) ?_
  obtain ⟨T96, X96, e96, st96⟩ := initO X0 hx hZ hown (wd hw 14 rfl) (wd hw 15 rfl) (wd hw 16 rfl) e0 (g := (mkF m 1 #[.val (.ref a1), .val (.ref o1), .val .null, .val (.int p3), .val (.ref v4), .val (.ref e5)] [(.ref a1)])) rfl (by rw [hml]; rfl) rfl (hb hby d2_1) (by decide) (W := 0) (by show 2 * 0 + _ ≤ _; exact Nat.le_of_eq rfl) (by decide)
  refine Go.by (B := (T96.setTop (mkF m 4 #[.val (.ref a1), .val (.ref o1), .val .null, .val (.int p3), .val (.ref v4), .val (.ref e5)] []))) st96 ?_
  refine Go.by (B := (T96.setTop (mkF m 6 #[.val (.ref a1), .val (.ref o1), .val .null, .val (.int p3), .val (.ref v4), .val (.ref e5)] [(.ref o1), (.ref a1)]))) (fun _ k => XS.aloadN X96.here hx rfl (hb hby d2_4) rfl rfl (XS.aloadN X96.here hx rfl (hb hby d2_5) rfl rfl k)) ?_
  obtain ⟨T97, h97, X97, e97, W97, st97⟩ := putF X96 hx hZ hown (host := "") (Or.inl (wd hw 17 rfl)) Via.refl e96 pr2 pr1 (Or.inr ⟨(wd hw 18 rfl), rfl, hnm⟩) (wd hw 9 rfl) (ty := (.object "com/example/breakwater/breakwater/engine/Outcome")) (by decide) rfl rfl (g := (mkF m 6 #[.val (.ref a1), .val (.ref o1), .val .null, .val (.int p3), .val (.ref v4), .val (.ref e5)] [(.ref o1), (.ref a1)])) rfl rfl (hb hby d2_6)
  have N97 := Fr.snoc X97 N0 pr7
  have O98 := pr0.wr W97 pr7
  have Z98 : n0 ≤ h97.size := Nat.le_trans Z0 (Keep.of_wr W97).1
  have F97 := pr2.same W97
  refine Go.by (B := (T97.setTop (mkF m 9 #[.val (.ref a1), .val (.ref o1), .val .null, .val (.int p3), .val (.ref v4), .val (.ref e5)] []))) st97 ?_
  refine Go.by (B := (T97.setTop (mkF m 11 #[.val (.ref a1), .val (.ref o1), .val .null, .val (.int p3), .val (.ref v4), .val (.ref e5)] [.null, (.ref a1)]))) (fun _ k => XS.aloadN X97.here hx rfl (hb hby d2_9) rfl rfl (XS.aloadN X97.here hx rfl (hb hby d2_10) rfl rfl k)) ?_
  have f99 := (pr3.other W97 (Or.inr (slot_ne (Or.inr (wd hw 20 rfl)) (Or.inr (wd hw 18 rfl)) (by decide) (t := (.object "com/example/breakwater/breakwater/engine/Address")) (t' := (.object "com/example/breakwater/breakwater/engine/Outcome")) (by decide) (by decide))))
  obtain ⟨T100, h100, X100, e100, W100, st100⟩ := putF X97 hx hZ hown (host := "") (Or.inl (wd hw 19 rfl)) Via.refl e97 f99 (pr1.wr W97) (Or.inr ⟨(wd hw 20 rfl), rfl, hnm⟩) (wd hw 9 rfl) (ty := (.object "com/example/breakwater/breakwater/engine/Address")) (by decide) rfl rfl (g := (mkF m 11 #[.val (.ref a1), .val (.ref o1), .val .null, .val (.int p3), .val (.ref v4), .val (.ref e5)] [.null, (.ref a1)])) rfl rfl (hb hby d2_11)
  have N100 := Fr.snoc X100 N97 pr7
  have O101 := O98.wr W100 pr7
  have Z101 : n0 ≤ h100.size := Nat.le_trans Z98 (Keep.of_wr W100).1
  have F100 := f99.same W100
  refine Go.by (B := (T100.setTop (mkF m 14 #[.val (.ref a1), .val (.ref o1), .val .null, .val (.int p3), .val (.ref v4), .val (.ref e5)] []))) st100 ?_
  refine Go.by (B := (T100.setTop (mkF m 16 #[.val (.ref a1), .val (.ref o1), .val .null, .val (.int p3), .val (.ref v4), .val (.ref e5)] [(.int p3), (.ref a1)]))) (fun _ k => XS.aloadN X100.here hx rfl (hb hby d2_14) rfl rfl (XS.iloadN X100.here hx rfl (hb hby d2_15) rfl k)) ?_
  have f102 := ((pr4.other W97 (Or.inr (slot_ne (Or.inr (wd hw 22 rfl)) (Or.inr (wd hw 18 rfl)) (by decide) (t := .int) (t' := (.object "com/example/breakwater/breakwater/engine/Outcome")) (by decide) (by decide)))).other W100 (Or.inr (slot_ne (Or.inr (wd hw 22 rfl)) (Or.inr (wd hw 20 rfl)) (by decide) (t := .int) (t' := (.object "com/example/breakwater/breakwater/engine/Address")) (by decide) (by decide))))
  obtain ⟨T103, h103, X103, e103, W103, st103⟩ := putF X100 hx hZ hown (host := "") (Or.inl (wd hw 21 rfl)) Via.refl e100 f102 ((pr1.wr W97).wr W100) (Or.inr ⟨(wd hw 22 rfl), rfl, hnm⟩) (wd hw 9 rfl) (ty := .int) (by decide) rfl rfl (g := (mkF m 16 #[.val (.ref a1), .val (.ref o1), .val .null, .val (.int p3), .val (.ref v4), .val (.ref e5)] [(.int p3), (.ref a1)])) rfl rfl (hb hby d2_16)
  have N103 := Fr.snoc X103 N100 pr7
  have O104 := O101.wr W103 pr7
  have Z104 : n0 ≤ h103.size := Nat.le_trans Z101 (Keep.of_wr W103).1
  have F103 := f102.same W103
  refine Go.by (B := (T103.setTop (mkF m 19 #[.val (.ref a1), .val (.ref o1), .val .null, .val (.int p3), .val (.ref v4), .val (.ref e5)] []))) st103 ?_
  refine Go.by (B := (T103.setTop (mkF m 22 #[.val (.ref a1), .val (.ref o1), .val .null, .val (.int p3), .val (.ref v4), .val (.ref e5)] [(.ref v4), (.ref a1)]))) (fun _ k => XS.aloadN X103.here hx rfl (hb hby d2_19) rfl rfl (XS.aload X103.here hx rfl (hb hby d2_20) rfl rfl k)) ?_
  have f105 := (((pr5.other W97 (Or.inr (slot_ne (Or.inr (wd hw 24 rfl)) (Or.inr (wd hw 18 rfl)) (by decide) (t := (.object "java/lang/Object")) (t' := (.object "com/example/breakwater/breakwater/engine/Outcome")) (by decide) (by decide)))).other W100 (Or.inr (slot_ne (Or.inr (wd hw 24 rfl)) (Or.inr (wd hw 20 rfl)) (by decide) (t := (.object "java/lang/Object")) (t' := (.object "com/example/breakwater/breakwater/engine/Address")) (by decide) (by decide)))).other W103 (Or.inr (slot_ne (Or.inr (wd hw 24 rfl)) (Or.inr (wd hw 22 rfl)) (by decide) (t := (.object "java/lang/Object")) (t' := .int) (by decide) (by decide))))
  have f106 := (((pr1.wr W97).wr W100).wr W103)
  obtain ⟨T107, h107, X107, e107, W107, st107⟩ := putF X103 hx hZ hown (host := "") (Or.inl (wd hw 23 rfl)) Via.refl e103 f105 f106 (Or.inr ⟨(wd hw 24 rfl), rfl, hnm⟩) (wd hw 9 rfl) (ty := (.object "java/lang/Object")) (by decide) rfl rfl (g := (mkF m 22 #[.val (.ref a1), .val (.ref o1), .val .null, .val (.int p3), .val (.ref v4), .val (.ref e5)] [(.ref v4), (.ref a1)])) rfl rfl (hb hby d2_22)
  have N107 := Fr.snoc X107 N103 pr7
  have O108 := O104.wr W107 pr7
  have Z108 : n0 ≤ h107.size := Nat.le_trans Z104 (Keep.of_wr W107).1
  have F107 := f105.same W107
  refine Go.by (B := (T107.setTop (mkF m 25 #[.val (.ref a1), .val (.ref o1), .val .null, .val (.int p3), .val (.ref v4), .val (.ref e5)] []))) st107 ?_
  refine Go.by (B := (T107.setTop (mkF m 28 #[.val (.ref a1), .val (.ref o1), .val .null, .val (.int p3), .val (.ref v4), .val (.ref e5)] [(.ref e5), (.ref a1)]))) (fun _ k => XS.aloadN X107.here hx rfl (hb hby d2_25) rfl rfl (XS.aload X107.here hx rfl (hb hby d2_26) rfl rfl k)) ?_
  have f109 := ((((pr6.other W97 (Or.inr (slot_ne (Or.inr (wd hw 26 rfl)) (Or.inr (wd hw 18 rfl)) (by decide) (t := (.object "java/lang/Object")) (t' := (.object "com/example/breakwater/breakwater/engine/Outcome")) (by decide) (by decide)))).other W100 (Or.inr (slot_ne (Or.inr (wd hw 26 rfl)) (Or.inr (wd hw 20 rfl)) (by decide) (t := (.object "java/lang/Object")) (t' := (.object "com/example/breakwater/breakwater/engine/Address")) (by decide) (by decide)))).other W103 (Or.inr (slot_ne (Or.inr (wd hw 26 rfl)) (Or.inr (wd hw 22 rfl)) (by decide) (t := (.object "java/lang/Object")) (t' := .int) (by decide) (by decide)))).other W107 (Or.inr (slot_ne (Or.inr (wd hw 26 rfl)) (Or.inr (wd hw 24 rfl)) (by decide) (t := (.object "java/lang/Object")) (t' := (.object "java/lang/Object")) (by decide) (by decide))))
  obtain ⟨T110, h110, X110, e110, W110, st110⟩ := putF X107 hx hZ hown (host := "") (Or.inl (wd hw 25 rfl)) Via.refl e107 f109 (f106.wr W107) (Or.inr ⟨(wd hw 26 rfl), rfl, hnm⟩) (wd hw 9 rfl) (ty := (.object "java/lang/Object")) (by decide) rfl rfl (g := (mkF m 28 #[.val (.ref a1), .val (.ref o1), .val .null, .val (.int p3), .val (.ref v4), .val (.ref e5)] [(.ref e5), (.ref a1)])) rfl rfl (hb hby d2_28)
  have N110 := Fr.snoc X110 N107 pr7
  have O111 := O108.wr W110 pr7
  have Z111 : n0 ≤ h110.size := Nat.le_trans Z108 (Keep.of_wr W110).1
  have F110 := f109.same W110
  refine Go.by (B := (T110.setTop (mkF m 31 #[.val (.ref a1), .val (.ref o1), .val .null, .val (.int p3), .val (.ref v4), .val (.ref e5)] []))) st110 ?_
  refine Go.retV X110 hx hlk hret (hb hby d2_31) (by decide) (by decide) ?_
  rw [e110]
  exact ⟨rfl, N110, ((((((Keep.refl h0 [a1]).wr W97 (Or.inl (List.mem_of_getElem? (i := 0) rfl))).wr W100 (Or.inl (List.mem_of_getElem? (i := 0) rfl))).wr W103 (Or.inl (List.mem_of_getElem? (i := 0) rfl))).wr W107 (Or.inl (List.mem_of_getElem? (i := 0) rfl))).wr W110 (Or.inl (List.mem_of_getElem? (i := 0) rfl))), ((f106.wr W107).wr W110), ((((F97.other W100 (Or.inr (slot_ne (Or.inr (wd hw 18 rfl)) (Or.inr (wd hw 20 rfl)) (by decide) (t := (.object "com/example/breakwater/breakwater/engine/Outcome")) (t' := (.object "com/example/breakwater/breakwater/engine/Address")) (by decide) (by decide)))).other W103 (Or.inr (slot_ne (Or.inr (wd hw 18 rfl)) (Or.inr (wd hw 22 rfl)) (by decide) (t := (.object "com/example/breakwater/breakwater/engine/Outcome")) (t' := .int) (by decide) (by decide)))).other W107 (Or.inr (slot_ne (Or.inr (wd hw 18 rfl)) (Or.inr (wd hw 24 rfl)) (by decide) (t := (.object "com/example/breakwater/breakwater/engine/Outcome")) (t' := (.object "java/lang/Object")) (by decide) (by decide)))).other W110 (Or.inr (slot_ne (Or.inr (wd hw 18 rfl)) (Or.inr (wd hw 26 rfl)) (by decide) (t := (.object "com/example/breakwater/breakwater/engine/Outcome")) (t' := (.object "java/lang/Object")) (by decide) (by decide)))), (((F100.other W103 (Or.inr (slot_ne (Or.inr (wd hw 20 rfl)) (Or.inr (wd hw 22 rfl)) (by decide) (t := (.object "com/example/breakwater/breakwater/engine/Address")) (t' := .int) (by decide) (by decide)))).other W107 (Or.inr (slot_ne (Or.inr (wd hw 20 rfl)) (Or.inr (wd hw 24 rfl)) (by decide) (t := (.object "com/example/breakwater/breakwater/engine/Address")) (t' := (.object "java/lang/Object")) (by decide) (by decide)))).other W110 (Or.inr (slot_ne (Or.inr (wd hw 20 rfl)) (Or.inr (wd hw 26 rfl)) (by decide) (t := (.object "com/example/breakwater/breakwater/engine/Address")) (t' := (.object "java/lang/Object")) (by decide) (by decide)))), ((F103.other W107 (Or.inr (slot_ne (Or.inr (wd hw 22 rfl)) (Or.inr (wd hw 24 rfl)) (by decide) (t := .int) (t' := (.object "java/lang/Object")) (by decide) (by decide)))).other W110 (Or.inr (slot_ne (Or.inr (wd hw 22 rfl)) (Or.inr (wd hw 26 rfl)) (by decide) (t := .int) (t' := (.object "java/lang/Object")) (by decide) (by decide)))), (F107.other W110 (Or.inr (slot_ne (Or.inr (wd hw 24 rfl)) (Or.inr (wd hw 26 rfl)) (by decide) (t := (.object "java/lang/Object")) (t' := (.object "java/lang/Object")) (by decide) (by decide)))), F110⟩
theorem ef_rm_del_y (m : MethodId) (x0 : Addr) : entryFrame m #[(.ref x0)] 1 = mkF m 0 #[.val (.ref x0)] [] := by first | (simp [entryFrame, mkF, argsToLocals, Value.category]; done) | rfl
theorem d4_0 : decode prog_18_method_3_code 0 = .ok (.aload_n 0, 1) := by decide +kernel
theorem d4_1 : decode prog_18_method_3_code 1 = .ok (.getfield 7, 3) := by decide +kernel
theorem d4_4 : decode prog_18_method_3_code 4 = .ok (.getstatic 28, 3) := by decide +kernel
theorem d4_7 : decode prog_18_method_3_code 7 = .ok (.if_acmp .ne 7, 3) := by decide +kernel
theorem d4_10 : decode prog_18_method_3_code 10 = .ok (.iconst 1, 1) := by decide +kernel
theorem d4_11 : decode prog_18_method_3_code 11 = .ok (.goto 4, 3) := by decide +kernel
theorem d4_15 : decode prog_18_method_3_code 15 = .ok (.ireturn, 1) := by decide +kernel
def Q_rm_del_y (Z : State) (a1 : Addr) (o1 : Addr) (w0 : Addr) (h0 : Heap) (n0 : Nat) (v : Option Value) (h : Heap) (L : List Loc) : Prop := v = some (.int 1) ∧ Fr n0 L ∧ h = h0
set_option maxRecDepth 65536 in
set_option maxHeartbeats 40000000 in
theorem rm_del_y (l : Launch) (Z : State) (a0 : Array Value) (hw : ∀ d ∈ tables_1, d.before a0 Z = true) (ws : List Jvm.Cond) (a1 : Addr) (o1 : Addr) (w0 : Addr) (h0 : Heap) (n0 : Nat) (Z0 : n0 ≤ h0.size) (pr0 : Old Z n0 h0) (pr1 : Fld Z h0 a1 "com/example/breakwater/breakwater/engine/Result" "outcome" "Lcom/example/breakwater/breakwater/engine/Outcome;" (.ref o1)) (pr2 : Sta Z Z.heap "com/example/breakwater/breakwater/engine/Outcome" "OK" "Lcom/example/breakwater/breakwater/engine/Outcome;" (.ref w0)) (q0 : o1 = w0) :
    Met l Z (⟨"com/example/breakwater/breakwater/engine/Result", "isDelivered", "()Z"⟩ : MethodName) prog_18_method_3_code 1 (some .boolean) ws ({ frames := 0, cells := 0, slots := 0, locals := 0 } : Room) #[(.ref a1)] h0 (Q_rm_del_y Z a1 o1 w0 h0 n0) := by
  refine Met.enter (f0 := fun m => mkF m 0 #[.val (.ref a1)] []) (plainFor_of_name pn_com_example_breakwater_breakwater_engine_Result) (fun m => ef_rm_del_y m a1) ?_
  intro p e s m below meth c s₁ hx hby hml hown hnm hret hlk hZ X0 e0
  have hown : s.vm.findClass "com/example/breakwater/breakwater/engine/Result" = some m.cls := hown
  have hnm : meth.name = "isDelivered" := hnm
  have hml : c.maxLocals = 1 := hml
  have hby : c.code = prog_18_method_3_code := hby
  have N0 := Fr.nil n0
  refine Go.by (B := (s₁.setTop (mkF m 1 #[.val (.ref a1)] [(.ref a1)]))) (fun _ k => XS.aloadN X0.here hx rfl (hb hby d4_0) rfl rfl k) ?_
  obtain ⟨T112, X112, e112, st112⟩ := getF X0 hx hZ hown (host := "") (Or.inl (wd hw 17 rfl)) Via.refl e0 pr1 (g := (mkF m 1 #[.val (.ref a1)] [(.ref a1)])) rfl rfl (hb hby d4_1)
  refine Go.by (B := (T112.setTop (mkF m 4 #[.val (.ref a1)] [(.ref o1)]))) st112 ?_
  obtain ⟨T113, X113, e113, st113⟩ := getS2 X112 hx hZ hown (host := "") (Or.inl (wd hw 32 rfl)) Via.refl e112 (pr2.ext pr0.2) (g := (mkF m 4 #[.val (.ref a1)] [(.ref o1)])) rfl (hb hby d4_4)
  refine Go.by (B := (T113.setTop (mkF m 7 #[.val (.ref a1)] [(.ref w0), (.ref o1)]))) st113 ?_
  refine Go.by (B := (T113.setTop (mkF m 15 #[.val (.ref a1)] [(.int 1)]))) (fun _ k => Jvm.RoadKit.acmp (g := (mkF m 7 #[.val (.ref a1)] [(.ref w0), (.ref o1)])) X113 hx rfl rfl rfl (pc0 := 7) (pc' := 10) (same := true) rfl (hb hby d4_7) rfl (decide_eq_true (congrArg Value.ref q0)) (by decide) (by decide) (XS.iconst X113.here hx rfl (hb hby d4_10) (XS.goto X113.here hx rfl (pc0 := 11) (pc' := 15) rfl (hb hby d4_11) (by decide) (by decide) k))) ?_
  refine Go.ret X113 hx hlk (t := .boolean) hret rfl (Or.inl ⟨rfl, by simp, _, rfl⟩) (hb hby d4_15) (by decide) (by decide) ?_
  rw [e113]
  exact ⟨rfl, N0, rfl⟩
theorem ef_rm_del_n (m : MethodId) (x0 : Addr) : entryFrame m #[(.ref x0)] 1 = mkF m 0 #[.val (.ref x0)] [] := by first | (simp [entryFrame, mkF, argsToLocals, Value.category]; done) | rfl
theorem d4_14 : decode prog_18_method_3_code 14 = .ok (.iconst 0, 1) := by decide +kernel
def Q_rm_del_n (Z : State) (a1 : Addr) (o1 : Addr) (w0 : Addr) (h0 : Heap) (n0 : Nat) (v : Option Value) (h : Heap) (L : List Loc) : Prop := v = some (.int 0) ∧ Fr n0 L ∧ h = h0
set_option maxRecDepth 65536 in
set_option maxHeartbeats 40000000 in
theorem rm_del_n (l : Launch) (Z : State) (a0 : Array Value) (hw : ∀ d ∈ tables_1, d.before a0 Z = true) (ws : List Jvm.Cond) (a1 : Addr) (o1 : Addr) (w0 : Addr) (h0 : Heap) (n0 : Nat) (Z0 : n0 ≤ h0.size) (pr0 : Old Z n0 h0) (pr1 : Fld Z h0 a1 "com/example/breakwater/breakwater/engine/Result" "outcome" "Lcom/example/breakwater/breakwater/engine/Outcome;" (.ref o1)) (pr2 : Sta Z Z.heap "com/example/breakwater/breakwater/engine/Outcome" "OK" "Lcom/example/breakwater/breakwater/engine/Outcome;" (.ref w0)) (q0 : ¬ (o1 = w0)) :
    Met l Z (⟨"com/example/breakwater/breakwater/engine/Result", "isDelivered", "()Z"⟩ : MethodName) prog_18_method_3_code 1 (some .boolean) ws ({ frames := 0, cells := 0, slots := 0, locals := 0 } : Room) #[(.ref a1)] h0 (Q_rm_del_n Z a1 o1 w0 h0 n0) := by
  refine Met.enter (f0 := fun m => mkF m 0 #[.val (.ref a1)] []) (plainFor_of_name pn_com_example_breakwater_breakwater_engine_Result) (fun m => ef_rm_del_n m a1) ?_
  intro p e s m below meth c s₁ hx hby hml hown hnm hret hlk hZ X0 e0
  have hown : s.vm.findClass "com/example/breakwater/breakwater/engine/Result" = some m.cls := hown
  have hnm : meth.name = "isDelivered" := hnm
  have hml : c.maxLocals = 1 := hml
  have hby : c.code = prog_18_method_3_code := hby
  have N0 := Fr.nil n0
  refine Go.by (B := (s₁.setTop (mkF m 1 #[.val (.ref a1)] [(.ref a1)]))) (fun _ k => XS.aloadN X0.here hx rfl (hb hby d4_0) rfl rfl k) ?_
  obtain ⟨T114, X114, e114, st114⟩ := getF X0 hx hZ hown (host := "") (Or.inl (wd hw 17 rfl)) Via.refl e0 pr1 (g := (mkF m 1 #[.val (.ref a1)] [(.ref a1)])) rfl rfl (hb hby d4_1)
  refine Go.by (B := (T114.setTop (mkF m 4 #[.val (.ref a1)] [(.ref o1)]))) st114 ?_
  obtain ⟨T115, X115, e115, st115⟩ := getS2 X114 hx hZ hown (host := "") (Or.inl (wd hw 32 rfl)) Via.refl e114 (pr2.ext pr0.2) (g := (mkF m 4 #[.val (.ref a1)] [(.ref o1)])) rfl (hb hby d4_4)
  refine Go.by (B := (T115.setTop (mkF m 7 #[.val (.ref a1)] [(.ref w0), (.ref o1)]))) st115 ?_
  refine Go.by (B := (T115.setTop (mkF m 15 #[.val (.ref a1)] [(.int 0)]))) (fun _ k => Jvm.RoadKit.acmp (g := (mkF m 7 #[.val (.ref a1)] [(.ref w0), (.ref o1)])) X115 hx rfl rfl rfl (pc0 := 7) (pc' := 14) (same := false) rfl (hb hby d4_7) rfl (decide_eq_false fun q => q0 (Value.ref.inj q)) (by decide) (by decide) (XS.iconst X115.here hx rfl (hb hby d4_14) k)) ?_
  refine Go.ret X115 hx hlk (t := .boolean) hret rfl (Or.inl ⟨rfl, by simp, _, rfl⟩) (hb hby d4_15) (by decide) (by decide) ?_
  rw [e115]
  exact ⟨rfl, N0, rfl⟩
theorem ef_rm_getO (m : MethodId) (x0 : Addr) : entryFrame m #[(.ref x0)] 1 = mkF m 0 #[.val (.ref x0)] [] := by first | (simp [entryFrame, mkF, argsToLocals, Value.category]; done) | rfl
theorem d5_0 : decode prog_18_method_2_code 0 = .ok (.aload_n 0, 1) := by decide +kernel
theorem d5_1 : decode prog_18_method_2_code 1 = .ok (.getfield 7, 3) := by decide +kernel
theorem d5_4 : decode prog_18_method_2_code 4 = .ok (.areturn, 1) := by decide +kernel
def Q_rm_getO (Z : State) (a1 : Addr) (o1 : Addr) (h0 : Heap) (n0 : Nat) (v : Option Value) (h : Heap) (L : List Loc) : Prop := v = some (.ref o1) ∧ Fr n0 L ∧ h = h0
set_option maxRecDepth 65536 in
set_option maxHeartbeats 40000000 in
theorem rm_getO (l : Launch) (Z : State) (a0 : Array Value) (hw : ∀ d ∈ tables_1, d.before a0 Z = true) (ws : List Jvm.Cond) (a1 : Addr) (o1 : Addr) (h0 : Heap) (n0 : Nat) (Z0 : n0 ≤ h0.size) (pr0 : Fld Z h0 a1 "com/example/breakwater/breakwater/engine/Result" "outcome" "Lcom/example/breakwater/breakwater/engine/Outcome;" (.ref o1)) :
    Met l Z (⟨"com/example/breakwater/breakwater/engine/Result", "getOutcome", "()Lcom/example/breakwater/breakwater/engine/Outcome;"⟩ : MethodName) prog_18_method_2_code 1 (some (.object "com/example/breakwater/breakwater/engine/Outcome")) ws ({ frames := 0, cells := 0, slots := 0, locals := 0 } : Room) #[(.ref a1)] h0 (Q_rm_getO Z a1 o1 h0 n0) := by
  refine Met.enter (f0 := fun m => mkF m 0 #[.val (.ref a1)] []) (plainFor_of_name pn_com_example_breakwater_breakwater_engine_Result) (fun m => ef_rm_getO m a1) ?_
  intro p e s m below meth c s₁ hx hby hml hown hnm hret hlk hZ X0 e0
  have hown : s.vm.findClass "com/example/breakwater/breakwater/engine/Result" = some m.cls := hown
  have hnm : meth.name = "getOutcome" := hnm
  have hml : c.maxLocals = 1 := hml
  have hby : c.code = prog_18_method_2_code := hby
  have N0 := Fr.nil n0
  refine Go.by (B := (s₁.setTop (mkF m 1 #[.val (.ref a1)] [(.ref a1)]))) (fun _ k => XS.aloadN X0.here hx rfl (hb hby d5_0) rfl rfl k) ?_
  obtain ⟨T116, X116, e116, st116⟩ := getF X0 hx hZ hown (host := "") (Or.inl (wd hw 17 rfl)) Via.refl e0 pr0 (g := (mkF m 1 #[.val (.ref a1)] [(.ref a1)])) rfl rfl (hb hby d5_1)
  refine Go.by (B := (T116.setTop (mkF m 4 #[.val (.ref a1)] [(.ref o1)]))) st116 ?_
  refine Go.ret X116 hx hlk (t := (.object "com/example/breakwater/breakwater/engine/Outcome")) hret rfl (Or.inr (Or.inr (Or.inr (Or.inr ⟨rfl, rfl, rfl⟩)))) (hb hby d5_4) (by decide) (by decide) ?_
  rw [e116]
  exact ⟨rfl, N0, rfl⟩
theorem ef_rm0 (m : MethodId) (x0 : Int32) (x1 : Int32) (x2 : Int32) (x3 : Int64) (x4 : Int32) : entryFrame m #[(.int x0), (.int x1), (.int x2), (.long x3), (.int x4)] maxLocals = mkF m 0 #[.val (.int x0), .val (.int x1), .val (.int x2), .val (.long x3), .second, .val (.int x4), .unset, .unset, .unset, .unset, .unset, .unset] [] := by first | (simp [entryFrame, mkF, argsToLocals, Value.category, maxLocals]; done) | rfl
theorem pd_3 : parseMethodDescriptor "(I)Lcom/example/breakwater/breakwater/engine/Outcome;" = some ⟨[.int], some (.object "com/example/breakwater/breakwater/engine/Outcome")⟩ := by decide +kernel
theorem pd_4 : parseMethodDescriptor "(Lcom/example/breakwater/breakwater/engine/Outcome;Lcom/example/breakwater/breakwater/engine/Address;ILjava/lang/Object;Ljava/lang/Object;)V" = some ⟨[(.object "com/example/breakwater/breakwater/engine/Outcome"), (.object "com/example/breakwater/breakwater/engine/Address"), .int, (.object "java/lang/Object"), (.object "java/lang/Object")], none⟩ := by decide +kernel
theorem pd_5 : parseMethodDescriptor "()Z" = some ⟨[], some .boolean⟩ := by decide +kernel
theorem pd_6 : parseMethodDescriptor "()Lcom/example/breakwater/breakwater/engine/Outcome;" = some ⟨[], some (.object "com/example/breakwater/breakwater/engine/Outcome")⟩ := by decide +kernel
theorem pd_7 : parseMethodDescriptor "(J)Ljava/lang/Long;" = some ⟨[.long], some (.object "java/lang/Long")⟩ := by decide +kernel
theorem pd_8 : parseMethodDescriptor "(I)Ljava/lang/Integer;" = some ⟨[.int], some (.object "java/lang/Integer")⟩ := by decide +kernel
def Q_rm0 (Z : State) (p1 : Int32) (p2 : Int32) (p3 : Int32) (q4 : Int64) (p5 : Int32) (w0 : Addr) (w1 : Addr) (w2 : Addr) (w3 : Addr) (w4 : Addr) (w5 : Addr) (wcI : Addr) (clI : Cell) (wcJ : Addr) (clJ : Cell) (h0 : Heap) (n0 : Nat) (v : Option Value) (h : Heap) (L : List Loc) : Prop := v = some (.int 1) ∧ Fr n0 L
set_option maxRecDepth 65536 in
set_option maxHeartbeats 40000000 in
theorem rm0 (l : Launch) (Z : State) (a0 : Array Value) (hw : ∀ d ∈ tables_1, d.before a0 Z = true) (ws : List Jvm.Cond) (p1 : Int32) (p2 : Int32) (p3 : Int32) (q4 : Int64) (p5 : Int32) (w0 : Addr) (w1 : Addr) (w2 : Addr) (w3 : Addr) (w4 : Addr) (w5 : Addr) (wcI : Addr) (clI : Cell) (wcJ : Addr) (clJ : Cell) (h0 : Heap) (n0 : Nat) (Z0 : n0 ≤ h0.size) (pr0 : Old Z n0 h0) (pr1 : Sta Z Z.heap "com/example/breakwater/breakwater/engine/Outcome" "OK" "Lcom/example/breakwater/breakwater/engine/Outcome;" (.ref w0)) (pr2 : Sta Z Z.heap "com/example/breakwater/breakwater/engine/Outcome" "CIRCUIT_OPEN" "Lcom/example/breakwater/breakwater/engine/Outcome;" (.ref w1)) (pr3 : Sta Z Z.heap "com/example/breakwater/breakwater/engine/Outcome" "UNAVAILABLE" "Lcom/example/breakwater/breakwater/engine/Outcome;" (.ref w2)) (pr4 : Sta Z Z.heap "com/example/breakwater/breakwater/engine/Outcome" "TIMEOUT" "Lcom/example/breakwater/breakwater/engine/Outcome;" (.ref w3)) (pr5 : Sta Z Z.heap "com/example/breakwater/breakwater/engine/Outcome" "TEMPORARY" "Lcom/example/breakwater/breakwater/engine/Outcome;" (.ref w4)) (pr6 : Sta Z Z.heap "com/example/breakwater/breakwater/engine/Outcome" "PERMANENT" "Lcom/example/breakwater/breakwater/engine/Outcome;" (.ref w5)) (pr7 : w1 ≠ w0) (pr8 : w2 ≠ w0) (pr9 : w3 ≠ w0) (pr10 : w4 ≠ w0) (pr11 : w5 ≠ w0) (pr12 : Sta Z Z.heap "java/lang/Integer$IntegerCache" "cache" "[Ljava/lang/Integer;" (.ref wcI)) (hArI : Arr Z Z.heap wcI clI (.object "java/lang/Integer")) (hszI : clI.slots.size = 256) (helI : ∀ j : Int32, ¬ j < 0 → j.toNatClampNeg < 256 → ∃ b, clI.slots[j.toNatClampNeg]? = some (.ref b) ∧ Exa Z Z.heap b "java/lang/Integer" ∧ Fld Z Z.heap b "java/lang/Integer" "value" "I" (.int (j - 128))) (pr16 : Sta Z Z.heap "java/lang/Integer$IntegerCache" "high" "I" (.int 127)) (pr17 : Sta Z Z.heap "java/lang/Long$LongCache" "cache" "[Ljava/lang/Long;" (.ref wcJ)) (hArJ : Arr Z Z.heap wcJ clJ (.object "java/lang/Long")) (hszJ : clJ.slots.size = 256) (helJ : ∀ j : Int32, ¬ j < 0 → j.toNatClampNeg < 256 → ∃ b, clJ.slots[j.toNatClampNeg]? = some (.ref b) ∧ Exa Z Z.heap b "java/lang/Long" ∧ Fld Z Z.heap b "java/lang/Long" "value" "J" (.long (j - 128).toInt64)) :
    Met l Z x code maxLocals ret ws room_1 #[(.int p1), (.int p2), (.int p3), (.long q4), (.int p5)] h0 (Q_rm0 Z p1 p2 p3 q4 p5 w0 w1 w2 w3 w4 w5 wcI clI wcJ clJ h0 n0) := by
  refine Met.enter (f0 := fun m => mkF m 0 #[.val (.int p1), .val (.int p2), .val (.int p3), .val (.long q4), .second, .val (.int p5), .unset, .unset, .unset, .unset, .unset, .unset] []) (plainFor_of_name pn_com_example_breakwater_breakwater_engine_ResultIsDeliveredPinLaw) (fun m => ef_rm0 m p1 p2 p3 q4 p5) ?_
  intro p e s m below meth c s₁ hx hby hml hown hnm hret hlk hZ X0 e0
  have hown : s.vm.findClass "com/example/breakwater/breakwater/engine/ResultIsDeliveredPinLaw" = some m.cls := hown
  have hnm : meth.name = "law" := hnm
  have hml : c.maxLocals = 12 := hml
  have hby : c.code = code := hby
  have N0 := Fr.nil n0
  refine Go.by (B := (s₁.setTop (mkF m 7 #[.val (.int p1), .val (.int p2), .val (.int p3), .val (.long q4), .second, .val (.int p5), .unset, .unset, .unset, .unset, .unset, .unset] [(.int ((p1 &&& (2147483647 : Int32)) % (6 : Int32)))]))) (fun _ k => XS.iloadN X0.here hx rfl (hb hby at_0) rfl (X0.ldcInt hx hown (mvT hZ (wd hw 0 rfl)) (g := (mkF m 1 #[.val (.int p1), .val (.int p2), .val (.int p3), .val (.long q4), .second, .val (.int p5), .unset, .unset, .unset, .unset, .unset, .unset] [(.int p1)])) rfl (hb hby at_1) _ (XS.iand X0.here hx rfl (hb hby at_3) rfl (XS.bipush X0.here hx rfl (hb hby at_4) (iremM X0 hx (g := (mkF m 6 #[.val (.int p1), .val (.int p2), .val (.int p3), .val (.long q4), .second, .val (.int p5), .unset, .unset, .unset, .unset, .unset, .unset] [(.int 6), (.int (p1 &&& (2147483647 : Int32)))])) rfl (hb hby at_6) rfl (by decide) k))))) ?_
  obtain ⟨v117, hv117⟩ : ∃ v, v = ((p1 &&& (2147483647 : Int32)) % (6 : Int32)) := ⟨_, rfl⟩
  refine Go.by (B := (s₁.setTop (mkF m 11 #[.val (.int p1), .val (.int p2), .val (.int p3), .val (.long q4), .second, .val (.int p5), .val (.int v117), .unset, .unset, .unset, .unset, .unset] [(.int v117)]))) (fun _ k => XS.istore (x := v117) (rest := []) X0.here hx rfl (hb hby at_7) (by rw [hv117]) (l' := #[.val (.int p1), .val (.int p2), .val (.int p3), .val (.long q4), .second, .val (.int p5), .val (.int v117), .unset, .unset, .unset, .unset, .unset]) rfl (XS.iload X0.here hx rfl (hb hby at_9) rfl k)) ?_
  obtain ⟨_, _, ⟨T118, L118, k118, n118⟩, -, X118, ⟨Lc118, hQ118, l118, y118, z118⟩, st118⟩ := Jvm.LawKit.callS X0 hx (y := (⟨"com/example/breakwater/breakwater/engine/ResultIsDeliveredPinLaw", "pick", "(I)Lcom/example/breakwater/breakwater/engine/Outcome;"⟩ : MethodName)) hown (mvT hZ (wd hw 1 rfl)) (mvT hZ (wd hw 2 rfl)) (mvT hZ (wd hw 3 rfl)) (mvT hZ (wd hw 4 rfl)) (by decide) (backOf (W := 0) (rm_pick l Z a0 hw [] v117 w0 w1 w2 w3 w4 w5 h0 n0 Z0 pr0 pr1 pr2 pr3 pr4 pr5 pr6 pr7 pr8 pr9 pr10 pr11) hZ (wd hw 4 rfl) (wd hw 3 rfl) (by decide) (by decide)) (g := (mkF m 11 #[.val (.int p1), .val (.int p2), .val (.int p3), .val (.long q4), .second, .val (.int p5), .val (.int v117), .unset, .unset, .unset, .unset, .unset] [(.int v117)])) rfl (by rw [hml]; rfl) (argsL := [(.int v117)]) (rest := []) (lenOf pd_3 rfl) rfl (by show 2 * 0 + _ ≤ _; exact Nat.le_of_eq rfl) (hb hby at_11) (fun _ _ => ⟨rfl, e0, Nat.le_of_ble_eq_true rfl, Nat.le_of_ble_eq_true rfl⟩)
  dsimp only [Pt.U, Pt.locs, Pt.cells, Pt.slots] at X118 l118 y118 z118 st118 hQ118
  subst l118 y118 z118
  obtain ⟨o118, rfl, Nq118, hh118, p118_0⟩ := hQ118
  have N118 := Fr.app N0 Nq118
  refine Go.by (B := (T118.setTop (mkF m 14 #[.val (.int p1), .val (.int p2), .val (.int p3), .val (.long q4), .second, .val (.int p5), .val (.int v117), .unset, .unset, .unset, .unset, .unset] [(.ref o118)]))) (fun _ k => st118 _ k) ?_
  rcases p118_0 with ⟨c119, d120⟩ | ⟨c119, d120⟩
  · skip
    refine Go.by (B := (T118.setTop (mkF m 20 #[.val (.int p1), .val (.int p2), .val (.int p3), .val (.long q4), .second, .val (.int p5), .val (.int v117), .val (.ref o118), .unset, .unset, .unset, .unset] [(.int (p5 &&& (1 : Int32)))]))) (fun _ k => XS.astore X118.here hx rfl (hb hby at_14) rfl rfl (l' := #[.val (.int p1), .val (.int p2), .val (.int p3), .val (.long q4), .second, .val (.int p5), .val (.int v117), .val (.ref o118), .unset, .unset, .unset, .unset]) rfl (XS.iload X118.here hx rfl (hb hby at_16) rfl (XS.iconst X118.here hx rfl (hb hby at_18) (XS.iand X118.here hx rfl (hb hby at_19) rfl k)))) ?_
    by_cases c121 : (p5 &&& (1 : Int32)) = (0 : Int32)
    · skip
      refine Go.by (B := (T118.setTop (mkF m 37 #[.val (.int p1), .val (.int p2), .val (.int p3), .val (.long q4), .second, .val (.int p5), .val (.int v117), .val (.ref o118), .val .null, .unset, .unset, .unset] [(.int (p5 &&& (2 : Int32)))]))) (fun _ k => XS.ifYes X118.here hx rfl (pc0 := 20) (pc' := 30) rfl (hb hby at_20) rfl ((if0 _ _).trans (teq c121).1) (by decide) (by decide) (XS.aconstNull X118.here hx rfl (hb hby at_30) (XS.astore X118.here hx rfl (hb hby at_31) rfl rfl (l' := #[.val (.int p1), .val (.int p2), .val (.int p3), .val (.long q4), .second, .val (.int p5), .val (.int v117), .val (.ref o118), .val .null, .unset, .unset, .unset]) rfl (XS.iload X118.here hx rfl (hb hby at_33) rfl (XS.iconst X118.here hx rfl (hb hby at_35) (XS.iand X118.here hx rfl (hb hby at_36) rfl k)))))) ?_
      by_cases c122 : (p5 &&& (2 : Int32)) = (0 : Int32)
      · skip
        refine Go.by (B := (T118.setTop (mkF m 50 #[.val (.int p1), .val (.int p2), .val (.int p3), .val (.long q4), .second, .val (.int p5), .val (.int v117), .val (.ref o118), .val .null, .val .null, .unset, .unset] []))) (fun _ k => XS.ifYes X118.here hx rfl (pc0 := 37) (pc' := 47) rfl (hb hby at_37) rfl ((if0 _ _).trans (teq c122).1) (by decide) (by decide) (XS.aconstNull X118.here hx rfl (hb hby at_47) (XS.astore X118.here hx rfl (hb hby at_48) rfl rfl (l' := #[.val (.int p1), .val (.int p2), .val (.int p3), .val (.long q4), .second, .val (.int p5), .val (.int v117), .val (.ref o118), .val .null, .val .null, .unset, .unset]) rfl k))) ?_
        obtain ⟨T123, h123, X123, e123, E123, A123, D123, -, st123⟩ := newO X118 hx hZ hown (wd hw 8 rfl) (wd hw 9 rfl) (wd hw 10 rfl) hh118 (g := (mkF m 50 #[.val (.int p1), .val (.int p2), .val (.int p3), .val (.long q4), .second, .val (.int p5), .val (.int v117), .val (.ref o118), .val .null, .val .null, .unset, .unset] [])) rfl (hb hby at_50) (by decide) (by decide)
        obtain ⟨b123, g123⟩ : ∃ z, z = h0.size := ⟨_, rfl⟩
        rw [← g123] at A123 D123 st123
        have sz_b123 : h0.size ≤ b123 := Nat.le_of_eq g123.symm
        have O124 := pr0.ext E123
        have Z124 : n0 ≤ h123.size := Nat.le_trans Z0 E123.1
        have F125 : Fld Z h123 b123 "com/example/breakwater/breakwater/engine/Result" "outcome" "Lcom/example/breakwater/breakwater/engine/Outcome;" .null := D123 (Or.inr (wd hw 18 rfl)) (ty := (.object "com/example/breakwater/breakwater/engine/Outcome")) (by decide)
        have F126 : Fld Z h123 b123 "com/example/breakwater/breakwater/engine/Result" "destination" "Lcom/example/breakwater/breakwater/engine/Address;" .null := D123 (Or.inr (wd hw 20 rfl)) (ty := (.object "com/example/breakwater/breakwater/engine/Address")) (by decide)
        have F127 : Fld Z h123 b123 "com/example/breakwater/breakwater/engine/Result" "attempts" "I" (.int 0) := D123 (Or.inr (wd hw 22 rfl)) (ty := .int) (by decide)
        have F128 : Fld Z h123 b123 "com/example/breakwater/breakwater/engine/Result" "value" "Ljava/lang/Object;" .null := D123 (Or.inr (wd hw 24 rfl)) (ty := (.object "java/lang/Object")) (by decide)
        have F129 : Fld Z h123 b123 "com/example/breakwater/breakwater/engine/Result" "error" "Ljava/lang/Object;" .null := D123 (Or.inr (wd hw 26 rfl)) (ty := (.object "java/lang/Object")) (by decide)
        refine Go.by (B := (T123.setTop (mkF m 53 #[.val (.int p1), .val (.int p2), .val (.int p3), .val (.long q4), .second, .val (.int p5), .val (.int v117), .val (.ref o118), .val .null, .val .null, .unset, .unset] [(.ref b123)]))) st123 ?_
        refine Go.by (B := (T123.setTop (mkF m 62 #[.val (.int p1), .val (.int p2), .val (.int p3), .val (.long q4), .second, .val (.int p5), .val (.int v117), .val (.ref o118), .val .null, .val .null, .unset, .unset] [.null, .null, (.int p2), .null, (.ref o118), (.ref b123), (.ref b123)]))) (fun _ k => XS.dup X123.here hx rfl (hb hby at_53) rfl rfl (XS.aload X123.here hx rfl (hb hby at_54) rfl rfl (XS.aconstNull X123.here hx rfl (hb hby at_56) (XS.iloadN X123.here hx rfl (hb hby at_57) rfl (XS.aload X123.here hx rfl (hb hby at_58) rfl rfl (XS.aload X123.here hx rfl (hb hby at_60) rfl rfl k)))))) ?_
        obtain ⟨_, _, ⟨T130, L130, k130, n130⟩, -, X130, ⟨Lc130, hQ130, l130, y130, z130⟩, st130⟩ := X123.specialBack hx (y := (⟨"com/example/breakwater/breakwater/engine/Result", "<init>", "(Lcom/example/breakwater/breakwater/engine/Outcome;Lcom/example/breakwater/breakwater/engine/Address;ILjava/lang/Object;Ljava/lang/Object;)V"⟩ : MethodName)) rfl hown (mvT hZ (wd hw 11 rfl)) (mvT hZ (wd hw 12 rfl)) (mvT hZ (wd hw 13 rfl)) (by decide) (backOf (W := 1) (rm_res0 l Z a0 hw [] b123 o118 p2 h123 n0 Z124 O124 A123 F125 F126 F127 F128 F129 (Nat.le_trans Z0 sz_b123)) hZ (wd hw 13 rfl) (wd hw 10 rfl) (by decide) (by decide)) (g := (mkF m 62 #[.val (.int p1), .val (.int p2), .val (.int p3), .val (.long q4), .second, .val (.int p5), .val (.int v117), .val (.ref o118), .val .null, .val .null, .unset, .unset] [.null, .null, (.int p2), .null, (.ref o118), (.ref b123), (.ref b123)])) rfl (by rw [hml]; rfl) (Steps.refl _) (a := b123) (argsL := [(.ref o118), .null, (.int p2), .null, .null]) (rest := [(.ref b123)]) (lenOf pd_4 rfl) rfl (by show 2 * 0 + _ ≤ _; exact Nat.le_of_eq rfl) (hb hby at_62) (fun _ _ => ⟨rfl, e123, Nat.le_of_ble_eq_true rfl, Nat.le_of_ble_eq_true rfl⟩)
        dsimp only [Pt.U, Pt.locs, Pt.cells, Pt.slots] at X130 l130 y130 z130 st130 hQ130
        subst l130 y130 z130
        obtain ⟨rfl, Nq130, K130, p130_0, p130_1, p130_2, p130_3, p130_4, p130_5⟩ := hQ130
        have N130 := Fr.app N118 Nq130
        have O131 := O124.keep K130 (allS (Nat.le_trans Z0 sz_b123) all0)
        have Z131 : n0 ≤ T130.heap.size := Nat.le_trans Z124 K130.1
        refine Go.by (B := (T130.setTop (mkF m 65 #[.val (.int p1), .val (.int p2), .val (.int p3), .val (.long q4), .second, .val (.int p5), .val (.int v117), .val (.ref o118), .val .null, .val .null, .unset, .unset] [(.ref b123)]))) (fun _ k => st130.trans k) ?_
        refine Go.by (B := (T130.setTop (mkF m 81 #[.val (.int p1), .val (.int p2), .val (.int p3), .val (.long q4), .second, .val (.int p5), .val (.int v117), .val (.ref o118), .val .null, .val .null, .val (.ref b123), .val (.int 1)] [(.ref b123)]))) (fun _ k => XS.astore X130.here hx rfl (hb hby at_65) rfl rfl (l' := #[.val (.int p1), .val (.int p2), .val (.int p3), .val (.long q4), .second, .val (.int p5), .val (.int v117), .val (.ref o118), .val .null, .val .null, .val (.ref b123), .unset]) rfl (XS.iload X130.here hx rfl (hb hby at_67) rfl (XS.ifNo X130.here hx rfl (hb hby at_69) rfl ((if0 _ _).trans (teq c119).2) (XS.iconst X130.here hx rfl (hb hby at_72) (XS.goto X130.here hx rfl (pc0 := 73) (pc' := 77) rfl (hb hby at_73) (by decide) (by decide) (XS.istore X130.here hx rfl (hb hby at_77) rfl (l' := #[.val (.int p1), .val (.int p2), .val (.int p3), .val (.long q4), .second, .val (.int p5), .val (.int v117), .val (.ref o118), .val .null, .val .null, .val (.ref b123), .val (.int 1)]) rfl (XS.aload X130.here hx rfl (hb hby at_79) rfl rfl k))))))) ?_
        obtain ⟨cq132, kq132, q132a, q132b, q132c⟩ := isOf hZ rfl p130_0
        obtain ⟨_, _, ⟨T132, L132, k132, n132⟩, -, X132, ⟨Lc132, hQ132, l132, y132, z132⟩, st132⟩ := X130.virtualBack hx (y := (⟨"com/example/breakwater/breakwater/engine/Result", "isDelivered", "()Z"⟩ : MethodName)) (z := (⟨"com/example/breakwater/breakwater/engine/Result", "isDelivered", "()Z"⟩ : MethodName)) hown (mvT hZ (wd hw 27 rfl)) (mvT hZ (wd hw 28 rfl)) (notFace_of_selects (args := #[]) (mvT hZ (wd hw 30 rfl))) (mvT hZ (wd hw 30 rfl)) (mvT hZ (wd hw 29 rfl)) (by decide) (backOf (W := 0) (rm_del_y l Z a0 hw [] b123 o118 w0 T130.heap n0 Z131 O131 p130_1 pr1 d120) hZ (wd hw 31 rfl) (wd hw 10 rfl) (by decide) (by decide)) q132a q132c (g := (mkF m 81 #[.val (.int p1), .val (.int p2), .val (.int p3), .val (.long q4), .second, .val (.int p5), .val (.int v117), .val (.ref o118), .val .null, .val .null, .val (.ref b123), .val (.int 1)] [(.ref b123)])) rfl (by rw [hml]; rfl) (Steps.refl _) (argsL := []) (rest := []) (lenOf pd_5 rfl) rfl (by show 2 * 0 + _ ≤ _; exact Nat.le_of_eq rfl) (hb hby at_81) (fun _ _ => ⟨rfl, rfl, Nat.le_of_ble_eq_true rfl, Nat.le_of_ble_eq_true rfl⟩)
        dsimp only [Pt.U, Pt.locs, Pt.cells, Pt.slots] at X132 l132 y132 z132 st132 hQ132
        subst l132 y132 z132
        obtain ⟨rfl, Nq132, hh132⟩ := hQ132
        have N132 := Fr.app N130 Nq132
        refine Go.by (B := (T132.setTop (mkF m 84 #[.val (.int p1), .val (.int p2), .val (.int p3), .val (.long q4), .second, .val (.int p5), .val (.int v117), .val (.ref o118), .val .null, .val .null, .val (.ref b123), .val (.int 1)] [(.int 1)]))) (fun _ k => st132.trans k) ?_
        refine Go.by (B := (T132.setTop (mkF m 91 #[.val (.int p1), .val (.int p2), .val (.int p3), .val (.long q4), .second, .val (.int p5), .val (.int v117), .val (.ref o118), .val .null, .val .null, .val (.ref b123), .val (.int 1)] [(.ref b123)]))) (fun _ k => XS.iload X132.here hx rfl (hb hby at_84) rfl (XS.icmpNo X132.here hx rfl (hb hby at_86) rfl (teq (by decide : (1 : Int32) = (1 : Int32))).2 (XS.aload X132.here hx rfl (hb hby at_89) rfl rfl k))) ?_
        obtain ⟨cq133, kq133, q133a, q133b, q133c⟩ := isOf hZ hh132 p130_0
        obtain ⟨_, _, ⟨T133, L133, k133, n133⟩, -, X133, ⟨Lc133, hQ133, l133, y133, z133⟩, st133⟩ := X132.virtualBack hx (y := (⟨"com/example/breakwater/breakwater/engine/Result", "getOutcome", "()Lcom/example/breakwater/breakwater/engine/Outcome;"⟩ : MethodName)) (z := (⟨"com/example/breakwater/breakwater/engine/Result", "getOutcome", "()Lcom/example/breakwater/breakwater/engine/Outcome;"⟩ : MethodName)) hown (mvT hZ (wd hw 33 rfl)) (mvT hZ (wd hw 34 rfl)) (notFace_of_selects (args := #[]) (mvT hZ (wd hw 36 rfl))) (mvT hZ (wd hw 36 rfl)) (mvT hZ (wd hw 35 rfl)) (by decide) (backOf (W := 0) (rm_getO l Z a0 hw [] b123 o118 T130.heap n0 Z131 p130_1) hZ (wd hw 37 rfl) (wd hw 10 rfl) (by decide) (by decide)) q133a q133c (g := (mkF m 91 #[.val (.int p1), .val (.int p2), .val (.int p3), .val (.long q4), .second, .val (.int p5), .val (.int v117), .val (.ref o118), .val .null, .val .null, .val (.ref b123), .val (.int 1)] [(.ref b123)])) rfl (by rw [hml]; rfl) (Steps.refl _) (argsL := []) (rest := []) (lenOf pd_6 rfl) rfl (by show 2 * 0 + _ ≤ _; exact Nat.le_of_eq rfl) (hb hby at_91) (fun _ _ => ⟨rfl, hh132, Nat.le_of_ble_eq_true rfl, Nat.le_of_ble_eq_true rfl⟩)
        dsimp only [Pt.U, Pt.locs, Pt.cells, Pt.slots] at X133 l133 y133 z133 st133 hQ133
        subst l133 y133 z133
        obtain ⟨rfl, Nq133, hh133⟩ := hQ133
        have N133 := Fr.app N132 Nq133
        refine Go.by (B := (T133.setTop (mkF m 94 #[.val (.int p1), .val (.int p2), .val (.int p3), .val (.long q4), .second, .val (.int p5), .val (.int v117), .val (.ref o118), .val .null, .val .null, .val (.ref b123), .val (.int 1)] [(.ref o118)]))) (fun _ k => st133.trans k) ?_
        refine Go.by (B := (T133.setTop (mkF m 104 #[.val (.int p1), .val (.int p2), .val (.int p3), .val (.long q4), .second, .val (.int p5), .val (.int v117), .val (.ref o118), .val .null, .val .null, .val (.ref b123), .val (.int 1)] [(.int 1)]))) (fun _ k => XS.aload X133.here hx rfl (hb hby at_94) rfl rfl (Jvm.RoadKit.acmp (g := (mkF m 96 #[.val (.int p1), .val (.int p2), .val (.int p3), .val (.long q4), .second, .val (.int p5), .val (.int v117), .val (.ref o118), .val .null, .val .null, .val (.ref b123), .val (.int 1)] [(.ref o118), (.ref o118)])) X133 hx rfl rfl rfl (pc0 := 96) (pc' := 99) (same := true) rfl (hb hby at_96) rfl (decide_eq_true rfl) (by decide) (by decide) (XS.iconst X133.here hx rfl (hb hby at_99) (XS.goto X133.here hx rfl (pc0 := 100) (pc' := 104) rfl (hb hby at_100) (by decide) (by decide) k)))) ?_
        refine Go.ret X133 hx hlk (t := .boolean) hret rfl (Or.inl ⟨rfl, by simp, _, rfl⟩) (hb hby at_104) (by decide) (by decide) ?_
        exact ⟨rfl, N133⟩
      · skip
        refine Go.by (B := (T118.setTop (mkF m 41 #[.val (.int p1), .val (.int p2), .val (.int p3), .val (.long q4), .second, .val (.int p5), .val (.int v117), .val (.ref o118), .val .null, .unset, .unset, .unset] [(.long q4)]))) (fun _ k => XS.ifNo X118.here hx rfl (hb hby at_37) rfl ((if0 _ _).trans (feq c122).1) (XS.lloadN X118.here hx rfl (hb hby at_40) rfl k)) ?_
        obtain ⟨_, _, ⟨T134, L134, k134, n134⟩, -, X134, ⟨Lc134, hQ134, l134, y134, z134⟩, st134⟩ := Jvm.LawKit.callS X118 hx (y := (⟨"java/lang/Long", "valueOf", "(J)Ljava/lang/Long;"⟩ : MethodName)) hown (mvT hZ (wd hw 47 rfl)) (mvT hZ (wd hw 48 rfl)) (mvT hZ (wd hw 49 rfl)) (mvT hZ (wd hw 50 rfl)) (by decide) (backOf (W := 0) (rm_Long_valueOf l Z a0 hw [] q4 wcJ clJ h0 n0 Z0 pr0 pr17 hArJ hszJ helJ) hZ (wd hw 50 rfl) (wd hw 49 rfl) (by decide) (by decide)) (g := (mkF m 41 #[.val (.int p1), .val (.int p2), .val (.int p3), .val (.long q4), .second, .val (.int p5), .val (.int v117), .val (.ref o118), .val .null, .unset, .unset, .unset] [(.long q4)])) rfl (by rw [hml]; rfl) (argsL := [(.long q4)]) (rest := []) (lenOf pd_7 rfl) rfl (by show 2 * 0 + _ ≤ _; exact Nat.le_of_eq rfl) (hb hby at_41) (fun _ _ => ⟨rfl, hh118, Nat.le_of_ble_eq_true rfl, Nat.le_of_ble_eq_true rfl⟩)
        dsimp only [Pt.U, Pt.locs, Pt.cells, Pt.slots] at X134 l134 y134 z134 st134 hQ134
        subst l134 y134 z134
        obtain ⟨b134, rfl, Nq134, K134, p134_0, p134_1⟩ := hQ134
        have N134 := Fr.app N118 Nq134
        have O135 := pr0.keep K134 all0
        have Z135 : n0 ≤ T134.heap.size := Nat.le_trans Z0 K134.1
        refine Go.by (B := (T134.setTop (mkF m 44 #[.val (.int p1), .val (.int p2), .val (.int p3), .val (.long q4), .second, .val (.int p5), .val (.int v117), .val (.ref o118), .val .null, .unset, .unset, .unset] [(.ref b134)]))) (fun _ k => st134 _ k) ?_
        refine Go.by (B := (T134.setTop (mkF m 50 #[.val (.int p1), .val (.int p2), .val (.int p3), .val (.long q4), .second, .val (.int p5), .val (.int v117), .val (.ref o118), .val .null, .val (.ref b134), .unset, .unset] []))) (fun _ k => XS.goto X134.here hx rfl (pc0 := 44) (pc' := 48) rfl (hb hby at_44) (by decide) (by decide) (XS.astore X134.here hx rfl (hb hby at_48) rfl rfl (l' := #[.val (.int p1), .val (.int p2), .val (.int p3), .val (.long q4), .second, .val (.int p5), .val (.int v117), .val (.ref o118), .val .null, .val (.ref b134), .unset, .unset]) rfl k)) ?_
        obtain ⟨T136, h136, X136, e136, E136, A136, D136, -, st136⟩ := newO X134 hx hZ hown (wd hw 8 rfl) (wd hw 9 rfl) (wd hw 10 rfl) rfl (g := (mkF m 50 #[.val (.int p1), .val (.int p2), .val (.int p3), .val (.long q4), .second, .val (.int p5), .val (.int v117), .val (.ref o118), .val .null, .val (.ref b134), .unset, .unset] [])) rfl (hb hby at_50) (by decide) (by decide)
        obtain ⟨b136, g136⟩ : ∃ z, z = T134.heap.size := ⟨_, rfl⟩
        rw [← g136] at A136 D136 st136
        have sz_b136 : T134.heap.size ≤ b136 := Nat.le_of_eq g136.symm
        have O137 := O135.ext E136
        have Z137 : n0 ≤ h136.size := Nat.le_trans Z135 E136.1
        have F138 : Fld Z h136 b136 "com/example/breakwater/breakwater/engine/Result" "outcome" "Lcom/example/breakwater/breakwater/engine/Outcome;" .null := D136 (Or.inr (wd hw 18 rfl)) (ty := (.object "com/example/breakwater/breakwater/engine/Outcome")) (by decide)
        have F139 : Fld Z h136 b136 "com/example/breakwater/breakwater/engine/Result" "destination" "Lcom/example/breakwater/breakwater/engine/Address;" .null := D136 (Or.inr (wd hw 20 rfl)) (ty := (.object "com/example/breakwater/breakwater/engine/Address")) (by decide)
        have F140 : Fld Z h136 b136 "com/example/breakwater/breakwater/engine/Result" "attempts" "I" (.int 0) := D136 (Or.inr (wd hw 22 rfl)) (ty := .int) (by decide)
        have F141 : Fld Z h136 b136 "com/example/breakwater/breakwater/engine/Result" "value" "Ljava/lang/Object;" .null := D136 (Or.inr (wd hw 24 rfl)) (ty := (.object "java/lang/Object")) (by decide)
        have F142 : Fld Z h136 b136 "com/example/breakwater/breakwater/engine/Result" "error" "Ljava/lang/Object;" .null := D136 (Or.inr (wd hw 26 rfl)) (ty := (.object "java/lang/Object")) (by decide)
        refine Go.by (B := (T136.setTop (mkF m 53 #[.val (.int p1), .val (.int p2), .val (.int p3), .val (.long q4), .second, .val (.int p5), .val (.int v117), .val (.ref o118), .val .null, .val (.ref b134), .unset, .unset] [(.ref b136)]))) st136 ?_
        refine Go.by (B := (T136.setTop (mkF m 62 #[.val (.int p1), .val (.int p2), .val (.int p3), .val (.long q4), .second, .val (.int p5), .val (.int v117), .val (.ref o118), .val .null, .val (.ref b134), .unset, .unset] [(.ref b134), .null, (.int p2), .null, (.ref o118), (.ref b136), (.ref b136)]))) (fun _ k => XS.dup X136.here hx rfl (hb hby at_53) rfl rfl (XS.aload X136.here hx rfl (hb hby at_54) rfl rfl (XS.aconstNull X136.here hx rfl (hb hby at_56) (XS.iloadN X136.here hx rfl (hb hby at_57) rfl (XS.aload X136.here hx rfl (hb hby at_58) rfl rfl (XS.aload X136.here hx rfl (hb hby at_60) rfl rfl k)))))) ?_
        obtain ⟨_, _, ⟨T143, L143, k143, n143⟩, -, X143, ⟨Lc143, hQ143, l143, y143, z143⟩, st143⟩ := X136.specialBack hx (y := (⟨"com/example/breakwater/breakwater/engine/Result", "<init>", "(Lcom/example/breakwater/breakwater/engine/Outcome;Lcom/example/breakwater/breakwater/engine/Address;ILjava/lang/Object;Ljava/lang/Object;)V"⟩ : MethodName)) rfl hown (mvT hZ (wd hw 11 rfl)) (mvT hZ (wd hw 12 rfl)) (mvT hZ (wd hw 13 rfl)) (by decide) (backOf (W := 1) (rm_res1 l Z a0 hw [] b136 o118 p2 b134 h136 n0 Z137 O137 A136 F138 F139 F140 F141 F142 (Nat.le_trans Z135 sz_b136)) hZ (wd hw 13 rfl) (wd hw 10 rfl) (by decide) (by decide)) (g := (mkF m 62 #[.val (.int p1), .val (.int p2), .val (.int p3), .val (.long q4), .second, .val (.int p5), .val (.int v117), .val (.ref o118), .val .null, .val (.ref b134), .unset, .unset] [(.ref b134), .null, (.int p2), .null, (.ref o118), (.ref b136), (.ref b136)])) rfl (by rw [hml]; rfl) (Steps.refl _) (a := b136) (argsL := [(.ref o118), .null, (.int p2), .null, (.ref b134)]) (rest := [(.ref b136)]) (lenOf pd_4 rfl) rfl (by show 2 * 0 + _ ≤ _; exact Nat.le_of_eq rfl) (hb hby at_62) (fun _ _ => ⟨rfl, e136, Nat.le_of_ble_eq_true rfl, Nat.le_of_ble_eq_true rfl⟩)
        dsimp only [Pt.U, Pt.locs, Pt.cells, Pt.slots] at X143 l143 y143 z143 st143 hQ143
        subst l143 y143 z143
        obtain ⟨rfl, Nq143, K143, p143_0, p143_1, p143_2, p143_3, p143_4, p143_5⟩ := hQ143
        have N143 := Fr.app N134 Nq143
        have O144 := O137.keep K143 (allS (Nat.le_trans Z135 sz_b136) all0)
        have Z144 : n0 ≤ T143.heap.size := Nat.le_trans Z137 K143.1
        refine Go.by (B := (T143.setTop (mkF m 65 #[.val (.int p1), .val (.int p2), .val (.int p3), .val (.long q4), .second, .val (.int p5), .val (.int v117), .val (.ref o118), .val .null, .val (.ref b134), .unset, .unset] [(.ref b136)]))) (fun _ k => st143.trans k) ?_
        refine Go.by (B := (T143.setTop (mkF m 81 #[.val (.int p1), .val (.int p2), .val (.int p3), .val (.long q4), .second, .val (.int p5), .val (.int v117), .val (.ref o118), .val .null, .val (.ref b134), .val (.ref b136), .val (.int 1)] [(.ref b136)]))) (fun _ k => XS.astore X143.here hx rfl (hb hby at_65) rfl rfl (l' := #[.val (.int p1), .val (.int p2), .val (.int p3), .val (.long q4), .second, .val (.int p5), .val (.int v117), .val (.ref o118), .val .null, .val (.ref b134), .val (.ref b136), .unset]) rfl (XS.iload X143.here hx rfl (hb hby at_67) rfl (XS.ifNo X143.here hx rfl (hb hby at_69) rfl ((if0 _ _).trans (teq c119).2) (XS.iconst X143.here hx rfl (hb hby at_72) (XS.goto X143.here hx rfl (pc0 := 73) (pc' := 77) rfl (hb hby at_73) (by decide) (by decide) (XS.istore X143.here hx rfl (hb hby at_77) rfl (l' := #[.val (.int p1), .val (.int p2), .val (.int p3), .val (.long q4), .second, .val (.int p5), .val (.int v117), .val (.ref o118), .val .null, .val (.ref b134), .val (.ref b136), .val (.int 1)]) rfl (XS.aload X143.here hx rfl (hb hby at_79) rfl rfl k))))))) ?_
        obtain ⟨cq145, kq145, q145a, q145b, q145c⟩ := isOf hZ rfl p143_0
        obtain ⟨_, _, ⟨T145, L145, k145, n145⟩, -, X145, ⟨Lc145, hQ145, l145, y145, z145⟩, st145⟩ := X143.virtualBack hx (y := (⟨"com/example/breakwater/breakwater/engine/Result", "isDelivered", "()Z"⟩ : MethodName)) (z := (⟨"com/example/breakwater/breakwater/engine/Result", "isDelivered", "()Z"⟩ : MethodName)) hown (mvT hZ (wd hw 27 rfl)) (mvT hZ (wd hw 28 rfl)) (notFace_of_selects (args := #[]) (mvT hZ (wd hw 30 rfl))) (mvT hZ (wd hw 30 rfl)) (mvT hZ (wd hw 29 rfl)) (by decide) (backOf (W := 0) (rm_del_y l Z a0 hw [] b136 o118 w0 T143.heap n0 Z144 O144 p143_1 pr1 d120) hZ (wd hw 31 rfl) (wd hw 10 rfl) (by decide) (by decide)) q145a q145c (g := (mkF m 81 #[.val (.int p1), .val (.int p2), .val (.int p3), .val (.long q4), .second, .val (.int p5), .val (.int v117), .val (.ref o118), .val .null, .val (.ref b134), .val (.ref b136), .val (.int 1)] [(.ref b136)])) rfl (by rw [hml]; rfl) (Steps.refl _) (argsL := []) (rest := []) (lenOf pd_5 rfl) rfl (by show 2 * 0 + _ ≤ _; exact Nat.le_of_eq rfl) (hb hby at_81) (fun _ _ => ⟨rfl, rfl, Nat.le_of_ble_eq_true rfl, Nat.le_of_ble_eq_true rfl⟩)
        dsimp only [Pt.U, Pt.locs, Pt.cells, Pt.slots] at X145 l145 y145 z145 st145 hQ145
        subst l145 y145 z145
        obtain ⟨rfl, Nq145, hh145⟩ := hQ145
        have N145 := Fr.app N143 Nq145
        refine Go.by (B := (T145.setTop (mkF m 84 #[.val (.int p1), .val (.int p2), .val (.int p3), .val (.long q4), .second, .val (.int p5), .val (.int v117), .val (.ref o118), .val .null, .val (.ref b134), .val (.ref b136), .val (.int 1)] [(.int 1)]))) (fun _ k => st145.trans k) ?_
        refine Go.by (B := (T145.setTop (mkF m 91 #[.val (.int p1), .val (.int p2), .val (.int p3), .val (.long q4), .second, .val (.int p5), .val (.int v117), .val (.ref o118), .val .null, .val (.ref b134), .val (.ref b136), .val (.int 1)] [(.ref b136)]))) (fun _ k => XS.iload X145.here hx rfl (hb hby at_84) rfl (XS.icmpNo X145.here hx rfl (hb hby at_86) rfl (teq (by decide : (1 : Int32) = (1 : Int32))).2 (XS.aload X145.here hx rfl (hb hby at_89) rfl rfl k))) ?_
        obtain ⟨cq146, kq146, q146a, q146b, q146c⟩ := isOf hZ hh145 p143_0
        obtain ⟨_, _, ⟨T146, L146, k146, n146⟩, -, X146, ⟨Lc146, hQ146, l146, y146, z146⟩, st146⟩ := X145.virtualBack hx (y := (⟨"com/example/breakwater/breakwater/engine/Result", "getOutcome", "()Lcom/example/breakwater/breakwater/engine/Outcome;"⟩ : MethodName)) (z := (⟨"com/example/breakwater/breakwater/engine/Result", "getOutcome", "()Lcom/example/breakwater/breakwater/engine/Outcome;"⟩ : MethodName)) hown (mvT hZ (wd hw 33 rfl)) (mvT hZ (wd hw 34 rfl)) (notFace_of_selects (args := #[]) (mvT hZ (wd hw 36 rfl))) (mvT hZ (wd hw 36 rfl)) (mvT hZ (wd hw 35 rfl)) (by decide) (backOf (W := 0) (rm_getO l Z a0 hw [] b136 o118 T143.heap n0 Z144 p143_1) hZ (wd hw 37 rfl) (wd hw 10 rfl) (by decide) (by decide)) q146a q146c (g := (mkF m 91 #[.val (.int p1), .val (.int p2), .val (.int p3), .val (.long q4), .second, .val (.int p5), .val (.int v117), .val (.ref o118), .val .null, .val (.ref b134), .val (.ref b136), .val (.int 1)] [(.ref b136)])) rfl (by rw [hml]; rfl) (Steps.refl _) (argsL := []) (rest := []) (lenOf pd_6 rfl) rfl (by show 2 * 0 + _ ≤ _; exact Nat.le_of_eq rfl) (hb hby at_91) (fun _ _ => ⟨rfl, hh145, Nat.le_of_ble_eq_true rfl, Nat.le_of_ble_eq_true rfl⟩)
        dsimp only [Pt.U, Pt.locs, Pt.cells, Pt.slots] at X146 l146 y146 z146 st146 hQ146
        subst l146 y146 z146
        obtain ⟨rfl, Nq146, hh146⟩ := hQ146
        have N146 := Fr.app N145 Nq146
        refine Go.by (B := (T146.setTop (mkF m 94 #[.val (.int p1), .val (.int p2), .val (.int p3), .val (.long q4), .second, .val (.int p5), .val (.int v117), .val (.ref o118), .val .null, .val (.ref b134), .val (.ref b136), .val (.int 1)] [(.ref o118)]))) (fun _ k => st146.trans k) ?_
        refine Go.by (B := (T146.setTop (mkF m 104 #[.val (.int p1), .val (.int p2), .val (.int p3), .val (.long q4), .second, .val (.int p5), .val (.int v117), .val (.ref o118), .val .null, .val (.ref b134), .val (.ref b136), .val (.int 1)] [(.int 1)]))) (fun _ k => XS.aload X146.here hx rfl (hb hby at_94) rfl rfl (Jvm.RoadKit.acmp (g := (mkF m 96 #[.val (.int p1), .val (.int p2), .val (.int p3), .val (.long q4), .second, .val (.int p5), .val (.int v117), .val (.ref o118), .val .null, .val (.ref b134), .val (.ref b136), .val (.int 1)] [(.ref o118), (.ref o118)])) X146 hx rfl rfl rfl (pc0 := 96) (pc' := 99) (same := true) rfl (hb hby at_96) rfl (decide_eq_true rfl) (by decide) (by decide) (XS.iconst X146.here hx rfl (hb hby at_99) (XS.goto X146.here hx rfl (pc0 := 100) (pc' := 104) rfl (hb hby at_100) (by decide) (by decide) k)))) ?_
        refine Go.ret X146 hx hlk (t := .boolean) hret rfl (Or.inl ⟨rfl, by simp, _, rfl⟩) (hb hby at_104) (by decide) (by decide) ?_
        exact ⟨rfl, N146⟩
    · skip
      refine Go.by (B := (T118.setTop (mkF m 24 #[.val (.int p1), .val (.int p2), .val (.int p3), .val (.long q4), .second, .val (.int p5), .val (.int v117), .val (.ref o118), .unset, .unset, .unset, .unset] [(.int p3)]))) (fun _ k => XS.ifNo X118.here hx rfl (hb hby at_20) rfl ((if0 _ _).trans (feq c121).1) (XS.iloadN X118.here hx rfl (hb hby at_23) rfl k)) ?_
      obtain ⟨_, _, ⟨T147, L147, k147, n147⟩, -, X147, ⟨Lc147, hQ147, l147, y147, z147⟩, st147⟩ := Jvm.LawKit.callS X118 hx (y := (⟨"java/lang/Integer", "valueOf", "(I)Ljava/lang/Integer;"⟩ : MethodName)) hown (mvT hZ (wd hw 40 rfl)) (mvT hZ (wd hw 41 rfl)) (mvT hZ (wd hw 42 rfl)) (mvT hZ (wd hw 43 rfl)) (by decide) (backOf (W := 0) (rm_Integer_valueOf l Z a0 hw [] p3 wcI clI h0 n0 Z0 pr0 pr12 hArI hszI helI pr16) hZ (wd hw 43 rfl) (wd hw 42 rfl) (by decide) (by decide)) (g := (mkF m 24 #[.val (.int p1), .val (.int p2), .val (.int p3), .val (.long q4), .second, .val (.int p5), .val (.int v117), .val (.ref o118), .unset, .unset, .unset, .unset] [(.int p3)])) rfl (by rw [hml]; rfl) (argsL := [(.int p3)]) (rest := []) (lenOf pd_8 rfl) rfl (by show 2 * 0 + _ ≤ _; exact Nat.le_of_eq rfl) (hb hby at_24) (fun _ _ => ⟨rfl, hh118, Nat.le_of_ble_eq_true rfl, Nat.le_of_ble_eq_true rfl⟩)
      dsimp only [Pt.U, Pt.locs, Pt.cells, Pt.slots] at X147 l147 y147 z147 st147 hQ147
      subst l147 y147 z147
      obtain ⟨b147, rfl, Nq147, K147, p147_0, p147_1⟩ := hQ147
      have N147 := Fr.app N118 Nq147
      have O148 := pr0.keep K147 all0
      have Z148 : n0 ≤ T147.heap.size := Nat.le_trans Z0 K147.1
      refine Go.by (B := (T147.setTop (mkF m 27 #[.val (.int p1), .val (.int p2), .val (.int p3), .val (.long q4), .second, .val (.int p5), .val (.int v117), .val (.ref o118), .unset, .unset, .unset, .unset] [(.ref b147)]))) (fun _ k => st147 _ k) ?_
      refine Go.by (B := (T147.setTop (mkF m 37 #[.val (.int p1), .val (.int p2), .val (.int p3), .val (.long q4), .second, .val (.int p5), .val (.int v117), .val (.ref o118), .val (.ref b147), .unset, .unset, .unset] [(.int (p5 &&& (2 : Int32)))]))) (fun _ k => XS.goto X147.here hx rfl (pc0 := 27) (pc' := 31) rfl (hb hby at_27) (by decide) (by decide) (XS.astore X147.here hx rfl (hb hby at_31) rfl rfl (l' := #[.val (.int p1), .val (.int p2), .val (.int p3), .val (.long q4), .second, .val (.int p5), .val (.int v117), .val (.ref o118), .val (.ref b147), .unset, .unset, .unset]) rfl (XS.iload X147.here hx rfl (hb hby at_33) rfl (XS.iconst X147.here hx rfl (hb hby at_35) (XS.iand X147.here hx rfl (hb hby at_36) rfl k))))) ?_
      by_cases c149 : (p5 &&& (2 : Int32)) = (0 : Int32)
      · skip
        refine Go.by (B := (T147.setTop (mkF m 50 #[.val (.int p1), .val (.int p2), .val (.int p3), .val (.long q4), .second, .val (.int p5), .val (.int v117), .val (.ref o118), .val (.ref b147), .val .null, .unset, .unset] []))) (fun _ k => XS.ifYes X147.here hx rfl (pc0 := 37) (pc' := 47) rfl (hb hby at_37) rfl ((if0 _ _).trans (teq c149).1) (by decide) (by decide) (XS.aconstNull X147.here hx rfl (hb hby at_47) (XS.astore X147.here hx rfl (hb hby at_48) rfl rfl (l' := #[.val (.int p1), .val (.int p2), .val (.int p3), .val (.long q4), .second, .val (.int p5), .val (.int v117), .val (.ref o118), .val (.ref b147), .val .null, .unset, .unset]) rfl k))) ?_
        obtain ⟨T150, h150, X150, e150, E150, A150, D150, -, st150⟩ := newO X147 hx hZ hown (wd hw 8 rfl) (wd hw 9 rfl) (wd hw 10 rfl) rfl (g := (mkF m 50 #[.val (.int p1), .val (.int p2), .val (.int p3), .val (.long q4), .second, .val (.int p5), .val (.int v117), .val (.ref o118), .val (.ref b147), .val .null, .unset, .unset] [])) rfl (hb hby at_50) (by decide) (by decide)
        obtain ⟨b150, g150⟩ : ∃ z, z = T147.heap.size := ⟨_, rfl⟩
        rw [← g150] at A150 D150 st150
        have sz_b150 : T147.heap.size ≤ b150 := Nat.le_of_eq g150.symm
        have O151 := O148.ext E150
        have Z151 : n0 ≤ h150.size := Nat.le_trans Z148 E150.1
        have F152 : Fld Z h150 b150 "com/example/breakwater/breakwater/engine/Result" "outcome" "Lcom/example/breakwater/breakwater/engine/Outcome;" .null := D150 (Or.inr (wd hw 18 rfl)) (ty := (.object "com/example/breakwater/breakwater/engine/Outcome")) (by decide)
        have F153 : Fld Z h150 b150 "com/example/breakwater/breakwater/engine/Result" "destination" "Lcom/example/breakwater/breakwater/engine/Address;" .null := D150 (Or.inr (wd hw 20 rfl)) (ty := (.object "com/example/breakwater/breakwater/engine/Address")) (by decide)
        have F154 : Fld Z h150 b150 "com/example/breakwater/breakwater/engine/Result" "attempts" "I" (.int 0) := D150 (Or.inr (wd hw 22 rfl)) (ty := .int) (by decide)
        have F155 : Fld Z h150 b150 "com/example/breakwater/breakwater/engine/Result" "value" "Ljava/lang/Object;" .null := D150 (Or.inr (wd hw 24 rfl)) (ty := (.object "java/lang/Object")) (by decide)
        have F156 : Fld Z h150 b150 "com/example/breakwater/breakwater/engine/Result" "error" "Ljava/lang/Object;" .null := D150 (Or.inr (wd hw 26 rfl)) (ty := (.object "java/lang/Object")) (by decide)
        refine Go.by (B := (T150.setTop (mkF m 53 #[.val (.int p1), .val (.int p2), .val (.int p3), .val (.long q4), .second, .val (.int p5), .val (.int v117), .val (.ref o118), .val (.ref b147), .val .null, .unset, .unset] [(.ref b150)]))) st150 ?_
        refine Go.by (B := (T150.setTop (mkF m 62 #[.val (.int p1), .val (.int p2), .val (.int p3), .val (.long q4), .second, .val (.int p5), .val (.int v117), .val (.ref o118), .val (.ref b147), .val .null, .unset, .unset] [.null, (.ref b147), (.int p2), .null, (.ref o118), (.ref b150), (.ref b150)]))) (fun _ k => XS.dup X150.here hx rfl (hb hby at_53) rfl rfl (XS.aload X150.here hx rfl (hb hby at_54) rfl rfl (XS.aconstNull X150.here hx rfl (hb hby at_56) (XS.iloadN X150.here hx rfl (hb hby at_57) rfl (XS.aload X150.here hx rfl (hb hby at_58) rfl rfl (XS.aload X150.here hx rfl (hb hby at_60) rfl rfl k)))))) ?_
        obtain ⟨_, _, ⟨T157, L157, k157, n157⟩, -, X157, ⟨Lc157, hQ157, l157, y157, z157⟩, st157⟩ := X150.specialBack hx (y := (⟨"com/example/breakwater/breakwater/engine/Result", "<init>", "(Lcom/example/breakwater/breakwater/engine/Outcome;Lcom/example/breakwater/breakwater/engine/Address;ILjava/lang/Object;Ljava/lang/Object;)V"⟩ : MethodName)) rfl hown (mvT hZ (wd hw 11 rfl)) (mvT hZ (wd hw 12 rfl)) (mvT hZ (wd hw 13 rfl)) (by decide) (backOf (W := 1) (rm_res2 l Z a0 hw [] b150 o118 p2 b147 h150 n0 Z151 O151 A150 F152 F153 F154 F155 F156 (Nat.le_trans Z148 sz_b150)) hZ (wd hw 13 rfl) (wd hw 10 rfl) (by decide) (by decide)) (g := (mkF m 62 #[.val (.int p1), .val (.int p2), .val (.int p3), .val (.long q4), .second, .val (.int p5), .val (.int v117), .val (.ref o118), .val (.ref b147), .val .null, .unset, .unset] [.null, (.ref b147), (.int p2), .null, (.ref o118), (.ref b150), (.ref b150)])) rfl (by rw [hml]; rfl) (Steps.refl _) (a := b150) (argsL := [(.ref o118), .null, (.int p2), (.ref b147), .null]) (rest := [(.ref b150)]) (lenOf pd_4 rfl) rfl (by show 2 * 0 + _ ≤ _; exact Nat.le_of_eq rfl) (hb hby at_62) (fun _ _ => ⟨rfl, e150, Nat.le_of_ble_eq_true rfl, Nat.le_of_ble_eq_true rfl⟩)
        dsimp only [Pt.U, Pt.locs, Pt.cells, Pt.slots] at X157 l157 y157 z157 st157 hQ157
        subst l157 y157 z157
        obtain ⟨rfl, Nq157, K157, p157_0, p157_1, p157_2, p157_3, p157_4, p157_5⟩ := hQ157
        have N157 := Fr.app N147 Nq157
        have O158 := O151.keep K157 (allS (Nat.le_trans Z148 sz_b150) all0)
        have Z158 : n0 ≤ T157.heap.size := Nat.le_trans Z151 K157.1
        refine Go.by (B := (T157.setTop (mkF m 65 #[.val (.int p1), .val (.int p2), .val (.int p3), .val (.long q4), .second, .val (.int p5), .val (.int v117), .val (.ref o118), .val (.ref b147), .val .null, .unset, .unset] [(.ref b150)]))) (fun _ k => st157.trans k) ?_
        refine Go.by (B := (T157.setTop (mkF m 81 #[.val (.int p1), .val (.int p2), .val (.int p3), .val (.long q4), .second, .val (.int p5), .val (.int v117), .val (.ref o118), .val (.ref b147), .val .null, .val (.ref b150), .val (.int 1)] [(.ref b150)]))) (fun _ k => XS.astore X157.here hx rfl (hb hby at_65) rfl rfl (l' := #[.val (.int p1), .val (.int p2), .val (.int p3), .val (.long q4), .second, .val (.int p5), .val (.int v117), .val (.ref o118), .val (.ref b147), .val .null, .val (.ref b150), .unset]) rfl (XS.iload X157.here hx rfl (hb hby at_67) rfl (XS.ifNo X157.here hx rfl (hb hby at_69) rfl ((if0 _ _).trans (teq c119).2) (XS.iconst X157.here hx rfl (hb hby at_72) (XS.goto X157.here hx rfl (pc0 := 73) (pc' := 77) rfl (hb hby at_73) (by decide) (by decide) (XS.istore X157.here hx rfl (hb hby at_77) rfl (l' := #[.val (.int p1), .val (.int p2), .val (.int p3), .val (.long q4), .second, .val (.int p5), .val (.int v117), .val (.ref o118), .val (.ref b147), .val .null, .val (.ref b150), .val (.int 1)]) rfl (XS.aload X157.here hx rfl (hb hby at_79) rfl rfl k))))))) ?_
        obtain ⟨cq159, kq159, q159a, q159b, q159c⟩ := isOf hZ rfl p157_0
        obtain ⟨_, _, ⟨T159, L159, k159, n159⟩, -, X159, ⟨Lc159, hQ159, l159, y159, z159⟩, st159⟩ := X157.virtualBack hx (y := (⟨"com/example/breakwater/breakwater/engine/Result", "isDelivered", "()Z"⟩ : MethodName)) (z := (⟨"com/example/breakwater/breakwater/engine/Result", "isDelivered", "()Z"⟩ : MethodName)) hown (mvT hZ (wd hw 27 rfl)) (mvT hZ (wd hw 28 rfl)) (notFace_of_selects (args := #[]) (mvT hZ (wd hw 30 rfl))) (mvT hZ (wd hw 30 rfl)) (mvT hZ (wd hw 29 rfl)) (by decide) (backOf (W := 0) (rm_del_y l Z a0 hw [] b150 o118 w0 T157.heap n0 Z158 O158 p157_1 pr1 d120) hZ (wd hw 31 rfl) (wd hw 10 rfl) (by decide) (by decide)) q159a q159c (g := (mkF m 81 #[.val (.int p1), .val (.int p2), .val (.int p3), .val (.long q4), .second, .val (.int p5), .val (.int v117), .val (.ref o118), .val (.ref b147), .val .null, .val (.ref b150), .val (.int 1)] [(.ref b150)])) rfl (by rw [hml]; rfl) (Steps.refl _) (argsL := []) (rest := []) (lenOf pd_5 rfl) rfl (by show 2 * 0 + _ ≤ _; exact Nat.le_of_eq rfl) (hb hby at_81) (fun _ _ => ⟨rfl, rfl, Nat.le_of_ble_eq_true rfl, Nat.le_of_ble_eq_true rfl⟩)
        dsimp only [Pt.U, Pt.locs, Pt.cells, Pt.slots] at X159 l159 y159 z159 st159 hQ159
        subst l159 y159 z159
        obtain ⟨rfl, Nq159, hh159⟩ := hQ159
        have N159 := Fr.app N157 Nq159
        refine Go.by (B := (T159.setTop (mkF m 84 #[.val (.int p1), .val (.int p2), .val (.int p3), .val (.long q4), .second, .val (.int p5), .val (.int v117), .val (.ref o118), .val (.ref b147), .val .null, .val (.ref b150), .val (.int 1)] [(.int 1)]))) (fun _ k => st159.trans k) ?_
        refine Go.by (B := (T159.setTop (mkF m 91 #[.val (.int p1), .val (.int p2), .val (.int p3), .val (.long q4), .second, .val (.int p5), .val (.int v117), .val (.ref o118), .val (.ref b147), .val .null, .val (.ref b150), .val (.int 1)] [(.ref b150)]))) (fun _ k => XS.iload X159.here hx rfl (hb hby at_84) rfl (XS.icmpNo X159.here hx rfl (hb hby at_86) rfl (teq (by decide : (1 : Int32) = (1 : Int32))).2 (XS.aload X159.here hx rfl (hb hby at_89) rfl rfl k))) ?_
        obtain ⟨cq160, kq160, q160a, q160b, q160c⟩ := isOf hZ hh159 p157_0
        obtain ⟨_, _, ⟨T160, L160, k160, n160⟩, -, X160, ⟨Lc160, hQ160, l160, y160, z160⟩, st160⟩ := X159.virtualBack hx (y := (⟨"com/example/breakwater/breakwater/engine/Result", "getOutcome", "()Lcom/example/breakwater/breakwater/engine/Outcome;"⟩ : MethodName)) (z := (⟨"com/example/breakwater/breakwater/engine/Result", "getOutcome", "()Lcom/example/breakwater/breakwater/engine/Outcome;"⟩ : MethodName)) hown (mvT hZ (wd hw 33 rfl)) (mvT hZ (wd hw 34 rfl)) (notFace_of_selects (args := #[]) (mvT hZ (wd hw 36 rfl))) (mvT hZ (wd hw 36 rfl)) (mvT hZ (wd hw 35 rfl)) (by decide) (backOf (W := 0) (rm_getO l Z a0 hw [] b150 o118 T157.heap n0 Z158 p157_1) hZ (wd hw 37 rfl) (wd hw 10 rfl) (by decide) (by decide)) q160a q160c (g := (mkF m 91 #[.val (.int p1), .val (.int p2), .val (.int p3), .val (.long q4), .second, .val (.int p5), .val (.int v117), .val (.ref o118), .val (.ref b147), .val .null, .val (.ref b150), .val (.int 1)] [(.ref b150)])) rfl (by rw [hml]; rfl) (Steps.refl _) (argsL := []) (rest := []) (lenOf pd_6 rfl) rfl (by show 2 * 0 + _ ≤ _; exact Nat.le_of_eq rfl) (hb hby at_91) (fun _ _ => ⟨rfl, hh159, Nat.le_of_ble_eq_true rfl, Nat.le_of_ble_eq_true rfl⟩)
        dsimp only [Pt.U, Pt.locs, Pt.cells, Pt.slots] at X160 l160 y160 z160 st160 hQ160
        subst l160 y160 z160
        obtain ⟨rfl, Nq160, hh160⟩ := hQ160
        have N160 := Fr.app N159 Nq160
        refine Go.by (B := (T160.setTop (mkF m 94 #[.val (.int p1), .val (.int p2), .val (.int p3), .val (.long q4), .second, .val (.int p5), .val (.int v117), .val (.ref o118), .val (.ref b147), .val .null, .val (.ref b150), .val (.int 1)] [(.ref o118)]))) (fun _ k => st160.trans k) ?_
        refine Go.by (B := (T160.setTop (mkF m 104 #[.val (.int p1), .val (.int p2), .val (.int p3), .val (.long q4), .second, .val (.int p5), .val (.int v117), .val (.ref o118), .val (.ref b147), .val .null, .val (.ref b150), .val (.int 1)] [(.int 1)]))) (fun _ k => XS.aload X160.here hx rfl (hb hby at_94) rfl rfl (Jvm.RoadKit.acmp (g := (mkF m 96 #[.val (.int p1), .val (.int p2), .val (.int p3), .val (.long q4), .second, .val (.int p5), .val (.int v117), .val (.ref o118), .val (.ref b147), .val .null, .val (.ref b150), .val (.int 1)] [(.ref o118), (.ref o118)])) X160 hx rfl rfl rfl (pc0 := 96) (pc' := 99) (same := true) rfl (hb hby at_96) rfl (decide_eq_true rfl) (by decide) (by decide) (XS.iconst X160.here hx rfl (hb hby at_99) (XS.goto X160.here hx rfl (pc0 := 100) (pc' := 104) rfl (hb hby at_100) (by decide) (by decide) k)))) ?_
        refine Go.ret X160 hx hlk (t := .boolean) hret rfl (Or.inl ⟨rfl, by simp, _, rfl⟩) (hb hby at_104) (by decide) (by decide) ?_
        exact ⟨rfl, N160⟩
      · skip
        refine Go.by (B := (T147.setTop (mkF m 41 #[.val (.int p1), .val (.int p2), .val (.int p3), .val (.long q4), .second, .val (.int p5), .val (.int v117), .val (.ref o118), .val (.ref b147), .unset, .unset, .unset] [(.long q4)]))) (fun _ k => XS.ifNo X147.here hx rfl (hb hby at_37) rfl ((if0 _ _).trans (feq c149).1) (XS.lloadN X147.here hx rfl (hb hby at_40) rfl k)) ?_
        obtain ⟨_, _, ⟨T161, L161, k161, n161⟩, -, X161, ⟨Lc161, hQ161, l161, y161, z161⟩, st161⟩ := Jvm.LawKit.callS X147 hx (y := (⟨"java/lang/Long", "valueOf", "(J)Ljava/lang/Long;"⟩ : MethodName)) hown (mvT hZ (wd hw 47 rfl)) (mvT hZ (wd hw 48 rfl)) (mvT hZ (wd hw 49 rfl)) (mvT hZ (wd hw 50 rfl)) (by decide) (backOf (W := 0) (rm_Long_valueOf l Z a0 hw [] q4 wcJ clJ T147.heap n0 Z148 O148 pr17 hArJ hszJ helJ) hZ (wd hw 50 rfl) (wd hw 49 rfl) (by decide) (by decide)) (g := (mkF m 41 #[.val (.int p1), .val (.int p2), .val (.int p3), .val (.long q4), .second, .val (.int p5), .val (.int v117), .val (.ref o118), .val (.ref b147), .unset, .unset, .unset] [(.long q4)])) rfl (by rw [hml]; rfl) (argsL := [(.long q4)]) (rest := []) (lenOf pd_7 rfl) rfl (by show 2 * 0 + _ ≤ _; exact Nat.le_of_eq rfl) (hb hby at_41) (fun _ _ => ⟨rfl, rfl, Nat.le_of_ble_eq_true rfl, Nat.le_of_ble_eq_true rfl⟩)
        dsimp only [Pt.U, Pt.locs, Pt.cells, Pt.slots] at X161 l161 y161 z161 st161 hQ161
        subst l161 y161 z161
        obtain ⟨b161, rfl, Nq161, K161, p161_0, p161_1⟩ := hQ161
        have N161 := Fr.app N147 Nq161
        have O162 := O148.keep K161 all0
        have Z162 : n0 ≤ T161.heap.size := Nat.le_trans Z148 K161.1
        refine Go.by (B := (T161.setTop (mkF m 44 #[.val (.int p1), .val (.int p2), .val (.int p3), .val (.long q4), .second, .val (.int p5), .val (.int v117), .val (.ref o118), .val (.ref b147), .unset, .unset, .unset] [(.ref b161)]))) (fun _ k => st161 _ k) ?_
        refine Go.by (B := (T161.setTop (mkF m 50 #[.val (.int p1), .val (.int p2), .val (.int p3), .val (.long q4), .second, .val (.int p5), .val (.int v117), .val (.ref o118), .val (.ref b147), .val (.ref b161), .unset, .unset] []))) (fun _ k => XS.goto X161.here hx rfl (pc0 := 44) (pc' := 48) rfl (hb hby at_44) (by decide) (by decide) (XS.astore X161.here hx rfl (hb hby at_48) rfl rfl (l' := #[.val (.int p1), .val (.int p2), .val (.int p3), .val (.long q4), .second, .val (.int p5), .val (.int v117), .val (.ref o118), .val (.ref b147), .val (.ref b161), .unset, .unset]) rfl k)) ?_
        obtain ⟨T163, h163, X163, e163, E163, A163, D163, -, st163⟩ := newO X161 hx hZ hown (wd hw 8 rfl) (wd hw 9 rfl) (wd hw 10 rfl) rfl (g := (mkF m 50 #[.val (.int p1), .val (.int p2), .val (.int p3), .val (.long q4), .second, .val (.int p5), .val (.int v117), .val (.ref o118), .val (.ref b147), .val (.ref b161), .unset, .unset] [])) rfl (hb hby at_50) (by decide) (by decide)
        obtain ⟨b163, g163⟩ : ∃ z, z = T161.heap.size := ⟨_, rfl⟩
        rw [← g163] at A163 D163 st163
        have sz_b163 : T161.heap.size ≤ b163 := Nat.le_of_eq g163.symm
        have O164 := O162.ext E163
        have Z164 : n0 ≤ h163.size := Nat.le_trans Z162 E163.1
        have F165 : Fld Z h163 b163 "com/example/breakwater/breakwater/engine/Result" "outcome" "Lcom/example/breakwater/breakwater/engine/Outcome;" .null := D163 (Or.inr (wd hw 18 rfl)) (ty := (.object "com/example/breakwater/breakwater/engine/Outcome")) (by decide)
        have F166 : Fld Z h163 b163 "com/example/breakwater/breakwater/engine/Result" "destination" "Lcom/example/breakwater/breakwater/engine/Address;" .null := D163 (Or.inr (wd hw 20 rfl)) (ty := (.object "com/example/breakwater/breakwater/engine/Address")) (by decide)
        have F167 : Fld Z h163 b163 "com/example/breakwater/breakwater/engine/Result" "attempts" "I" (.int 0) := D163 (Or.inr (wd hw 22 rfl)) (ty := .int) (by decide)
        have F168 : Fld Z h163 b163 "com/example/breakwater/breakwater/engine/Result" "value" "Ljava/lang/Object;" .null := D163 (Or.inr (wd hw 24 rfl)) (ty := (.object "java/lang/Object")) (by decide)
        have F169 : Fld Z h163 b163 "com/example/breakwater/breakwater/engine/Result" "error" "Ljava/lang/Object;" .null := D163 (Or.inr (wd hw 26 rfl)) (ty := (.object "java/lang/Object")) (by decide)
        refine Go.by (B := (T163.setTop (mkF m 53 #[.val (.int p1), .val (.int p2), .val (.int p3), .val (.long q4), .second, .val (.int p5), .val (.int v117), .val (.ref o118), .val (.ref b147), .val (.ref b161), .unset, .unset] [(.ref b163)]))) st163 ?_
        refine Go.by (B := (T163.setTop (mkF m 62 #[.val (.int p1), .val (.int p2), .val (.int p3), .val (.long q4), .second, .val (.int p5), .val (.int v117), .val (.ref o118), .val (.ref b147), .val (.ref b161), .unset, .unset] [(.ref b161), (.ref b147), (.int p2), .null, (.ref o118), (.ref b163), (.ref b163)]))) (fun _ k => XS.dup X163.here hx rfl (hb hby at_53) rfl rfl (XS.aload X163.here hx rfl (hb hby at_54) rfl rfl (XS.aconstNull X163.here hx rfl (hb hby at_56) (XS.iloadN X163.here hx rfl (hb hby at_57) rfl (XS.aload X163.here hx rfl (hb hby at_58) rfl rfl (XS.aload X163.here hx rfl (hb hby at_60) rfl rfl k)))))) ?_
        obtain ⟨_, _, ⟨T170, L170, k170, n170⟩, -, X170, ⟨Lc170, hQ170, l170, y170, z170⟩, st170⟩ := X163.specialBack hx (y := (⟨"com/example/breakwater/breakwater/engine/Result", "<init>", "(Lcom/example/breakwater/breakwater/engine/Outcome;Lcom/example/breakwater/breakwater/engine/Address;ILjava/lang/Object;Ljava/lang/Object;)V"⟩ : MethodName)) rfl hown (mvT hZ (wd hw 11 rfl)) (mvT hZ (wd hw 12 rfl)) (mvT hZ (wd hw 13 rfl)) (by decide) (backOf (W := 1) (rm_res3 l Z a0 hw [] b163 o118 p2 b147 b161 h163 n0 Z164 O164 A163 F165 F166 F167 F168 F169 (Nat.le_trans Z162 sz_b163)) hZ (wd hw 13 rfl) (wd hw 10 rfl) (by decide) (by decide)) (g := (mkF m 62 #[.val (.int p1), .val (.int p2), .val (.int p3), .val (.long q4), .second, .val (.int p5), .val (.int v117), .val (.ref o118), .val (.ref b147), .val (.ref b161), .unset, .unset] [(.ref b161), (.ref b147), (.int p2), .null, (.ref o118), (.ref b163), (.ref b163)])) rfl (by rw [hml]; rfl) (Steps.refl _) (a := b163) (argsL := [(.ref o118), .null, (.int p2), (.ref b147), (.ref b161)]) (rest := [(.ref b163)]) (lenOf pd_4 rfl) rfl (by show 2 * 0 + _ ≤ _; exact Nat.le_of_eq rfl) (hb hby at_62) (fun _ _ => ⟨rfl, e163, Nat.le_of_ble_eq_true rfl, Nat.le_of_ble_eq_true rfl⟩)
        dsimp only [Pt.U, Pt.locs, Pt.cells, Pt.slots] at X170 l170 y170 z170 st170 hQ170
        subst l170 y170 z170
        obtain ⟨rfl, Nq170, K170, p170_0, p170_1, p170_2, p170_3, p170_4, p170_5⟩ := hQ170
        have N170 := Fr.app N161 Nq170
        have O171 := O164.keep K170 (allS (Nat.le_trans Z162 sz_b163) all0)
        have Z171 : n0 ≤ T170.heap.size := Nat.le_trans Z164 K170.1
        refine Go.by (B := (T170.setTop (mkF m 65 #[.val (.int p1), .val (.int p2), .val (.int p3), .val (.long q4), .second, .val (.int p5), .val (.int v117), .val (.ref o118), .val (.ref b147), .val (.ref b161), .unset, .unset] [(.ref b163)]))) (fun _ k => st170.trans k) ?_
        refine Go.by (B := (T170.setTop (mkF m 81 #[.val (.int p1), .val (.int p2), .val (.int p3), .val (.long q4), .second, .val (.int p5), .val (.int v117), .val (.ref o118), .val (.ref b147), .val (.ref b161), .val (.ref b163), .val (.int 1)] [(.ref b163)]))) (fun _ k => XS.astore X170.here hx rfl (hb hby at_65) rfl rfl (l' := #[.val (.int p1), .val (.int p2), .val (.int p3), .val (.long q4), .second, .val (.int p5), .val (.int v117), .val (.ref o118), .val (.ref b147), .val (.ref b161), .val (.ref b163), .unset]) rfl (XS.iload X170.here hx rfl (hb hby at_67) rfl (XS.ifNo X170.here hx rfl (hb hby at_69) rfl ((if0 _ _).trans (teq c119).2) (XS.iconst X170.here hx rfl (hb hby at_72) (XS.goto X170.here hx rfl (pc0 := 73) (pc' := 77) rfl (hb hby at_73) (by decide) (by decide) (XS.istore X170.here hx rfl (hb hby at_77) rfl (l' := #[.val (.int p1), .val (.int p2), .val (.int p3), .val (.long q4), .second, .val (.int p5), .val (.int v117), .val (.ref o118), .val (.ref b147), .val (.ref b161), .val (.ref b163), .val (.int 1)]) rfl (XS.aload X170.here hx rfl (hb hby at_79) rfl rfl k))))))) ?_
        obtain ⟨cq172, kq172, q172a, q172b, q172c⟩ := isOf hZ rfl p170_0
        obtain ⟨_, _, ⟨T172, L172, k172, n172⟩, -, X172, ⟨Lc172, hQ172, l172, y172, z172⟩, st172⟩ := X170.virtualBack hx (y := (⟨"com/example/breakwater/breakwater/engine/Result", "isDelivered", "()Z"⟩ : MethodName)) (z := (⟨"com/example/breakwater/breakwater/engine/Result", "isDelivered", "()Z"⟩ : MethodName)) hown (mvT hZ (wd hw 27 rfl)) (mvT hZ (wd hw 28 rfl)) (notFace_of_selects (args := #[]) (mvT hZ (wd hw 30 rfl))) (mvT hZ (wd hw 30 rfl)) (mvT hZ (wd hw 29 rfl)) (by decide) (backOf (W := 0) (rm_del_y l Z a0 hw [] b163 o118 w0 T170.heap n0 Z171 O171 p170_1 pr1 d120) hZ (wd hw 31 rfl) (wd hw 10 rfl) (by decide) (by decide)) q172a q172c (g := (mkF m 81 #[.val (.int p1), .val (.int p2), .val (.int p3), .val (.long q4), .second, .val (.int p5), .val (.int v117), .val (.ref o118), .val (.ref b147), .val (.ref b161), .val (.ref b163), .val (.int 1)] [(.ref b163)])) rfl (by rw [hml]; rfl) (Steps.refl _) (argsL := []) (rest := []) (lenOf pd_5 rfl) rfl (by show 2 * 0 + _ ≤ _; exact Nat.le_of_eq rfl) (hb hby at_81) (fun _ _ => ⟨rfl, rfl, Nat.le_of_ble_eq_true rfl, Nat.le_of_ble_eq_true rfl⟩)
        dsimp only [Pt.U, Pt.locs, Pt.cells, Pt.slots] at X172 l172 y172 z172 st172 hQ172
        subst l172 y172 z172
        obtain ⟨rfl, Nq172, hh172⟩ := hQ172
        have N172 := Fr.app N170 Nq172
        refine Go.by (B := (T172.setTop (mkF m 84 #[.val (.int p1), .val (.int p2), .val (.int p3), .val (.long q4), .second, .val (.int p5), .val (.int v117), .val (.ref o118), .val (.ref b147), .val (.ref b161), .val (.ref b163), .val (.int 1)] [(.int 1)]))) (fun _ k => st172.trans k) ?_
        refine Go.by (B := (T172.setTop (mkF m 91 #[.val (.int p1), .val (.int p2), .val (.int p3), .val (.long q4), .second, .val (.int p5), .val (.int v117), .val (.ref o118), .val (.ref b147), .val (.ref b161), .val (.ref b163), .val (.int 1)] [(.ref b163)]))) (fun _ k => XS.iload X172.here hx rfl (hb hby at_84) rfl (XS.icmpNo X172.here hx rfl (hb hby at_86) rfl (teq (by decide : (1 : Int32) = (1 : Int32))).2 (XS.aload X172.here hx rfl (hb hby at_89) rfl rfl k))) ?_
        obtain ⟨cq173, kq173, q173a, q173b, q173c⟩ := isOf hZ hh172 p170_0
        obtain ⟨_, _, ⟨T173, L173, k173, n173⟩, -, X173, ⟨Lc173, hQ173, l173, y173, z173⟩, st173⟩ := X172.virtualBack hx (y := (⟨"com/example/breakwater/breakwater/engine/Result", "getOutcome", "()Lcom/example/breakwater/breakwater/engine/Outcome;"⟩ : MethodName)) (z := (⟨"com/example/breakwater/breakwater/engine/Result", "getOutcome", "()Lcom/example/breakwater/breakwater/engine/Outcome;"⟩ : MethodName)) hown (mvT hZ (wd hw 33 rfl)) (mvT hZ (wd hw 34 rfl)) (notFace_of_selects (args := #[]) (mvT hZ (wd hw 36 rfl))) (mvT hZ (wd hw 36 rfl)) (mvT hZ (wd hw 35 rfl)) (by decide) (backOf (W := 0) (rm_getO l Z a0 hw [] b163 o118 T170.heap n0 Z171 p170_1) hZ (wd hw 37 rfl) (wd hw 10 rfl) (by decide) (by decide)) q173a q173c (g := (mkF m 91 #[.val (.int p1), .val (.int p2), .val (.int p3), .val (.long q4), .second, .val (.int p5), .val (.int v117), .val (.ref o118), .val (.ref b147), .val (.ref b161), .val (.ref b163), .val (.int 1)] [(.ref b163)])) rfl (by rw [hml]; rfl) (Steps.refl _) (argsL := []) (rest := []) (lenOf pd_6 rfl) rfl (by show 2 * 0 + _ ≤ _; exact Nat.le_of_eq rfl) (hb hby at_91) (fun _ _ => ⟨rfl, hh172, Nat.le_of_ble_eq_true rfl, Nat.le_of_ble_eq_true rfl⟩)
        dsimp only [Pt.U, Pt.locs, Pt.cells, Pt.slots] at X173 l173 y173 z173 st173 hQ173
        subst l173 y173 z173
        obtain ⟨rfl, Nq173, hh173⟩ := hQ173
        have N173 := Fr.app N172 Nq173
        refine Go.by (B := (T173.setTop (mkF m 94 #[.val (.int p1), .val (.int p2), .val (.int p3), .val (.long q4), .second, .val (.int p5), .val (.int v117), .val (.ref o118), .val (.ref b147), .val (.ref b161), .val (.ref b163), .val (.int 1)] [(.ref o118)]))) (fun _ k => st173.trans k) ?_
        refine Go.by (B := (T173.setTop (mkF m 104 #[.val (.int p1), .val (.int p2), .val (.int p3), .val (.long q4), .second, .val (.int p5), .val (.int v117), .val (.ref o118), .val (.ref b147), .val (.ref b161), .val (.ref b163), .val (.int 1)] [(.int 1)]))) (fun _ k => XS.aload X173.here hx rfl (hb hby at_94) rfl rfl (Jvm.RoadKit.acmp (g := (mkF m 96 #[.val (.int p1), .val (.int p2), .val (.int p3), .val (.long q4), .second, .val (.int p5), .val (.int v117), .val (.ref o118), .val (.ref b147), .val (.ref b161), .val (.ref b163), .val (.int 1)] [(.ref o118), (.ref o118)])) X173 hx rfl rfl rfl (pc0 := 96) (pc' := 99) (same := true) rfl (hb hby at_96) rfl (decide_eq_true rfl) (by decide) (by decide) (XS.iconst X173.here hx rfl (hb hby at_99) (XS.goto X173.here hx rfl (pc0 := 100) (pc' := 104) rfl (hb hby at_100) (by decide) (by decide) k)))) ?_
        refine Go.ret X173 hx hlk (t := .boolean) hret rfl (Or.inl ⟨rfl, by simp, _, rfl⟩) (hb hby at_104) (by decide) (by decide) ?_
        exact ⟨rfl, N173⟩
  · skip
    refine Go.by (B := (T118.setTop (mkF m 20 #[.val (.int p1), .val (.int p2), .val (.int p3), .val (.long q4), .second, .val (.int p5), .val (.int v117), .val (.ref o118), .unset, .unset, .unset, .unset] [(.int (p5 &&& (1 : Int32)))]))) (fun _ k => XS.astore X118.here hx rfl (hb hby at_14) rfl rfl (l' := #[.val (.int p1), .val (.int p2), .val (.int p3), .val (.long q4), .second, .val (.int p5), .val (.int v117), .val (.ref o118), .unset, .unset, .unset, .unset]) rfl (XS.iload X118.here hx rfl (hb hby at_16) rfl (XS.iconst X118.here hx rfl (hb hby at_18) (XS.iand X118.here hx rfl (hb hby at_19) rfl k)))) ?_
    by_cases c174 : (p5 &&& (1 : Int32)) = (0 : Int32)
    · skip
      refine Go.by (B := (T118.setTop (mkF m 37 #[.val (.int p1), .val (.int p2), .val (.int p3), .val (.long q4), .second, .val (.int p5), .val (.int v117), .val (.ref o118), .val .null, .unset, .unset, .unset] [(.int (p5 &&& (2 : Int32)))]))) (fun _ k => XS.ifYes X118.here hx rfl (pc0 := 20) (pc' := 30) rfl (hb hby at_20) rfl ((if0 _ _).trans (teq c174).1) (by decide) (by decide) (XS.aconstNull X118.here hx rfl (hb hby at_30) (XS.astore X118.here hx rfl (hb hby at_31) rfl rfl (l' := #[.val (.int p1), .val (.int p2), .val (.int p3), .val (.long q4), .second, .val (.int p5), .val (.int v117), .val (.ref o118), .val .null, .unset, .unset, .unset]) rfl (XS.iload X118.here hx rfl (hb hby at_33) rfl (XS.iconst X118.here hx rfl (hb hby at_35) (XS.iand X118.here hx rfl (hb hby at_36) rfl k)))))) ?_
      by_cases c175 : (p5 &&& (2 : Int32)) = (0 : Int32)
      · skip
        refine Go.by (B := (T118.setTop (mkF m 50 #[.val (.int p1), .val (.int p2), .val (.int p3), .val (.long q4), .second, .val (.int p5), .val (.int v117), .val (.ref o118), .val .null, .val .null, .unset, .unset] []))) (fun _ k => XS.ifYes X118.here hx rfl (pc0 := 37) (pc' := 47) rfl (hb hby at_37) rfl ((if0 _ _).trans (teq c175).1) (by decide) (by decide) (XS.aconstNull X118.here hx rfl (hb hby at_47) (XS.astore X118.here hx rfl (hb hby at_48) rfl rfl (l' := #[.val (.int p1), .val (.int p2), .val (.int p3), .val (.long q4), .second, .val (.int p5), .val (.int v117), .val (.ref o118), .val .null, .val .null, .unset, .unset]) rfl k))) ?_
        obtain ⟨T176, h176, X176, e176, E176, A176, D176, -, st176⟩ := newO X118 hx hZ hown (wd hw 8 rfl) (wd hw 9 rfl) (wd hw 10 rfl) hh118 (g := (mkF m 50 #[.val (.int p1), .val (.int p2), .val (.int p3), .val (.long q4), .second, .val (.int p5), .val (.int v117), .val (.ref o118), .val .null, .val .null, .unset, .unset] [])) rfl (hb hby at_50) (by decide) (by decide)
        obtain ⟨b176, g176⟩ : ∃ z, z = h0.size := ⟨_, rfl⟩
        rw [← g176] at A176 D176 st176
        have sz_b176 : h0.size ≤ b176 := Nat.le_of_eq g176.symm
        have O177 := pr0.ext E176
        have Z177 : n0 ≤ h176.size := Nat.le_trans Z0 E176.1
        have F178 : Fld Z h176 b176 "com/example/breakwater/breakwater/engine/Result" "outcome" "Lcom/example/breakwater/breakwater/engine/Outcome;" .null := D176 (Or.inr (wd hw 18 rfl)) (ty := (.object "com/example/breakwater/breakwater/engine/Outcome")) (by decide)
        have F179 : Fld Z h176 b176 "com/example/breakwater/breakwater/engine/Result" "destination" "Lcom/example/breakwater/breakwater/engine/Address;" .null := D176 (Or.inr (wd hw 20 rfl)) (ty := (.object "com/example/breakwater/breakwater/engine/Address")) (by decide)
        have F180 : Fld Z h176 b176 "com/example/breakwater/breakwater/engine/Result" "attempts" "I" (.int 0) := D176 (Or.inr (wd hw 22 rfl)) (ty := .int) (by decide)
        have F181 : Fld Z h176 b176 "com/example/breakwater/breakwater/engine/Result" "value" "Ljava/lang/Object;" .null := D176 (Or.inr (wd hw 24 rfl)) (ty := (.object "java/lang/Object")) (by decide)
        have F182 : Fld Z h176 b176 "com/example/breakwater/breakwater/engine/Result" "error" "Ljava/lang/Object;" .null := D176 (Or.inr (wd hw 26 rfl)) (ty := (.object "java/lang/Object")) (by decide)
        refine Go.by (B := (T176.setTop (mkF m 53 #[.val (.int p1), .val (.int p2), .val (.int p3), .val (.long q4), .second, .val (.int p5), .val (.int v117), .val (.ref o118), .val .null, .val .null, .unset, .unset] [(.ref b176)]))) st176 ?_
        refine Go.by (B := (T176.setTop (mkF m 62 #[.val (.int p1), .val (.int p2), .val (.int p3), .val (.long q4), .second, .val (.int p5), .val (.int v117), .val (.ref o118), .val .null, .val .null, .unset, .unset] [.null, .null, (.int p2), .null, (.ref o118), (.ref b176), (.ref b176)]))) (fun _ k => XS.dup X176.here hx rfl (hb hby at_53) rfl rfl (XS.aload X176.here hx rfl (hb hby at_54) rfl rfl (XS.aconstNull X176.here hx rfl (hb hby at_56) (XS.iloadN X176.here hx rfl (hb hby at_57) rfl (XS.aload X176.here hx rfl (hb hby at_58) rfl rfl (XS.aload X176.here hx rfl (hb hby at_60) rfl rfl k)))))) ?_
        obtain ⟨_, _, ⟨T183, L183, k183, n183⟩, -, X183, ⟨Lc183, hQ183, l183, y183, z183⟩, st183⟩ := X176.specialBack hx (y := (⟨"com/example/breakwater/breakwater/engine/Result", "<init>", "(Lcom/example/breakwater/breakwater/engine/Outcome;Lcom/example/breakwater/breakwater/engine/Address;ILjava/lang/Object;Ljava/lang/Object;)V"⟩ : MethodName)) rfl hown (mvT hZ (wd hw 11 rfl)) (mvT hZ (wd hw 12 rfl)) (mvT hZ (wd hw 13 rfl)) (by decide) (backOf (W := 1) (rm_res0 l Z a0 hw [] b176 o118 p2 h176 n0 Z177 O177 A176 F178 F179 F180 F181 F182 (Nat.le_trans Z0 sz_b176)) hZ (wd hw 13 rfl) (wd hw 10 rfl) (by decide) (by decide)) (g := (mkF m 62 #[.val (.int p1), .val (.int p2), .val (.int p3), .val (.long q4), .second, .val (.int p5), .val (.int v117), .val (.ref o118), .val .null, .val .null, .unset, .unset] [.null, .null, (.int p2), .null, (.ref o118), (.ref b176), (.ref b176)])) rfl (by rw [hml]; rfl) (Steps.refl _) (a := b176) (argsL := [(.ref o118), .null, (.int p2), .null, .null]) (rest := [(.ref b176)]) (lenOf pd_4 rfl) rfl (by show 2 * 0 + _ ≤ _; exact Nat.le_of_eq rfl) (hb hby at_62) (fun _ _ => ⟨rfl, e176, Nat.le_of_ble_eq_true rfl, Nat.le_of_ble_eq_true rfl⟩)
        dsimp only [Pt.U, Pt.locs, Pt.cells, Pt.slots] at X183 l183 y183 z183 st183 hQ183
        subst l183 y183 z183
        obtain ⟨rfl, Nq183, K183, p183_0, p183_1, p183_2, p183_3, p183_4, p183_5⟩ := hQ183
        have N183 := Fr.app N118 Nq183
        have O184 := O177.keep K183 (allS (Nat.le_trans Z0 sz_b176) all0)
        have Z184 : n0 ≤ T183.heap.size := Nat.le_trans Z177 K183.1
        refine Go.by (B := (T183.setTop (mkF m 65 #[.val (.int p1), .val (.int p2), .val (.int p3), .val (.long q4), .second, .val (.int p5), .val (.int v117), .val (.ref o118), .val .null, .val .null, .unset, .unset] [(.ref b176)]))) (fun _ k => st183.trans k) ?_
        refine Go.by (B := (T183.setTop (mkF m 81 #[.val (.int p1), .val (.int p2), .val (.int p3), .val (.long q4), .second, .val (.int p5), .val (.int v117), .val (.ref o118), .val .null, .val .null, .val (.ref b176), .val (.int 0)] [(.ref b176)]))) (fun _ k => XS.astore X183.here hx rfl (hb hby at_65) rfl rfl (l' := #[.val (.int p1), .val (.int p2), .val (.int p3), .val (.long q4), .second, .val (.int p5), .val (.int v117), .val (.ref o118), .val .null, .val .null, .val (.ref b176), .unset]) rfl (XS.iload X183.here hx rfl (hb hby at_67) rfl (XS.ifYes X183.here hx rfl (pc0 := 69) (pc' := 76) rfl (hb hby at_69) rfl ((if0 _ _).trans (feq c119).2) (by decide) (by decide) (XS.iconst X183.here hx rfl (hb hby at_76) (XS.istore X183.here hx rfl (hb hby at_77) rfl (l' := #[.val (.int p1), .val (.int p2), .val (.int p3), .val (.long q4), .second, .val (.int p5), .val (.int v117), .val (.ref o118), .val .null, .val .null, .val (.ref b176), .val (.int 0)]) rfl (XS.aload X183.here hx rfl (hb hby at_79) rfl rfl k)))))) ?_
        obtain ⟨cq185, kq185, q185a, q185b, q185c⟩ := isOf hZ rfl p183_0
        obtain ⟨_, _, ⟨T185, L185, k185, n185⟩, -, X185, ⟨Lc185, hQ185, l185, y185, z185⟩, st185⟩ := X183.virtualBack hx (y := (⟨"com/example/breakwater/breakwater/engine/Result", "isDelivered", "()Z"⟩ : MethodName)) (z := (⟨"com/example/breakwater/breakwater/engine/Result", "isDelivered", "()Z"⟩ : MethodName)) hown (mvT hZ (wd hw 27 rfl)) (mvT hZ (wd hw 28 rfl)) (notFace_of_selects (args := #[]) (mvT hZ (wd hw 30 rfl))) (mvT hZ (wd hw 30 rfl)) (mvT hZ (wd hw 29 rfl)) (by decide) (backOf (W := 0) (rm_del_n l Z a0 hw [] b176 o118 w0 T183.heap n0 Z184 O184 p183_1 pr1 d120) hZ (wd hw 31 rfl) (wd hw 10 rfl) (by decide) (by decide)) q185a q185c (g := (mkF m 81 #[.val (.int p1), .val (.int p2), .val (.int p3), .val (.long q4), .second, .val (.int p5), .val (.int v117), .val (.ref o118), .val .null, .val .null, .val (.ref b176), .val (.int 0)] [(.ref b176)])) rfl (by rw [hml]; rfl) (Steps.refl _) (argsL := []) (rest := []) (lenOf pd_5 rfl) rfl (by show 2 * 0 + _ ≤ _; exact Nat.le_of_eq rfl) (hb hby at_81) (fun _ _ => ⟨rfl, rfl, Nat.le_of_ble_eq_true rfl, Nat.le_of_ble_eq_true rfl⟩)
        dsimp only [Pt.U, Pt.locs, Pt.cells, Pt.slots] at X185 l185 y185 z185 st185 hQ185
        subst l185 y185 z185
        obtain ⟨rfl, Nq185, hh185⟩ := hQ185
        have N185 := Fr.app N183 Nq185
        refine Go.by (B := (T185.setTop (mkF m 84 #[.val (.int p1), .val (.int p2), .val (.int p3), .val (.long q4), .second, .val (.int p5), .val (.int v117), .val (.ref o118), .val .null, .val .null, .val (.ref b176), .val (.int 0)] [(.int 0)]))) (fun _ k => st185.trans k) ?_
        refine Go.by (B := (T185.setTop (mkF m 91 #[.val (.int p1), .val (.int p2), .val (.int p3), .val (.long q4), .second, .val (.int p5), .val (.int v117), .val (.ref o118), .val .null, .val .null, .val (.ref b176), .val (.int 0)] [(.ref b176)]))) (fun _ k => XS.iload X185.here hx rfl (hb hby at_84) rfl (XS.icmpNo X185.here hx rfl (hb hby at_86) rfl (teq (by decide : (0 : Int32) = (0 : Int32))).2 (XS.aload X185.here hx rfl (hb hby at_89) rfl rfl k))) ?_
        obtain ⟨cq186, kq186, q186a, q186b, q186c⟩ := isOf hZ hh185 p183_0
        obtain ⟨_, _, ⟨T186, L186, k186, n186⟩, -, X186, ⟨Lc186, hQ186, l186, y186, z186⟩, st186⟩ := X185.virtualBack hx (y := (⟨"com/example/breakwater/breakwater/engine/Result", "getOutcome", "()Lcom/example/breakwater/breakwater/engine/Outcome;"⟩ : MethodName)) (z := (⟨"com/example/breakwater/breakwater/engine/Result", "getOutcome", "()Lcom/example/breakwater/breakwater/engine/Outcome;"⟩ : MethodName)) hown (mvT hZ (wd hw 33 rfl)) (mvT hZ (wd hw 34 rfl)) (notFace_of_selects (args := #[]) (mvT hZ (wd hw 36 rfl))) (mvT hZ (wd hw 36 rfl)) (mvT hZ (wd hw 35 rfl)) (by decide) (backOf (W := 0) (rm_getO l Z a0 hw [] b176 o118 T183.heap n0 Z184 p183_1) hZ (wd hw 37 rfl) (wd hw 10 rfl) (by decide) (by decide)) q186a q186c (g := (mkF m 91 #[.val (.int p1), .val (.int p2), .val (.int p3), .val (.long q4), .second, .val (.int p5), .val (.int v117), .val (.ref o118), .val .null, .val .null, .val (.ref b176), .val (.int 0)] [(.ref b176)])) rfl (by rw [hml]; rfl) (Steps.refl _) (argsL := []) (rest := []) (lenOf pd_6 rfl) rfl (by show 2 * 0 + _ ≤ _; exact Nat.le_of_eq rfl) (hb hby at_91) (fun _ _ => ⟨rfl, hh185, Nat.le_of_ble_eq_true rfl, Nat.le_of_ble_eq_true rfl⟩)
        dsimp only [Pt.U, Pt.locs, Pt.cells, Pt.slots] at X186 l186 y186 z186 st186 hQ186
        subst l186 y186 z186
        obtain ⟨rfl, Nq186, hh186⟩ := hQ186
        have N186 := Fr.app N185 Nq186
        refine Go.by (B := (T186.setTop (mkF m 94 #[.val (.int p1), .val (.int p2), .val (.int p3), .val (.long q4), .second, .val (.int p5), .val (.int v117), .val (.ref o118), .val .null, .val .null, .val (.ref b176), .val (.int 0)] [(.ref o118)]))) (fun _ k => st186.trans k) ?_
        refine Go.by (B := (T186.setTop (mkF m 104 #[.val (.int p1), .val (.int p2), .val (.int p3), .val (.long q4), .second, .val (.int p5), .val (.int v117), .val (.ref o118), .val .null, .val .null, .val (.ref b176), .val (.int 0)] [(.int 1)]))) (fun _ k => XS.aload X186.here hx rfl (hb hby at_94) rfl rfl (Jvm.RoadKit.acmp (g := (mkF m 96 #[.val (.int p1), .val (.int p2), .val (.int p3), .val (.long q4), .second, .val (.int p5), .val (.int v117), .val (.ref o118), .val .null, .val .null, .val (.ref b176), .val (.int 0)] [(.ref o118), (.ref o118)])) X186 hx rfl rfl rfl (pc0 := 96) (pc' := 99) (same := true) rfl (hb hby at_96) rfl (decide_eq_true rfl) (by decide) (by decide) (XS.iconst X186.here hx rfl (hb hby at_99) (XS.goto X186.here hx rfl (pc0 := 100) (pc' := 104) rfl (hb hby at_100) (by decide) (by decide) k)))) ?_
        refine Go.ret X186 hx hlk (t := .boolean) hret rfl (Or.inl ⟨rfl, by simp, _, rfl⟩) (hb hby at_104) (by decide) (by decide) ?_
        exact ⟨rfl, N186⟩
      · skip
        refine Go.by (B := (T118.setTop (mkF m 41 #[.val (.int p1), .val (.int p2), .val (.int p3), .val (.long q4), .second, .val (.int p5), .val (.int v117), .val (.ref o118), .val .null, .unset, .unset, .unset] [(.long q4)]))) (fun _ k => XS.ifNo X118.here hx rfl (hb hby at_37) rfl ((if0 _ _).trans (feq c175).1) (XS.lloadN X118.here hx rfl (hb hby at_40) rfl k)) ?_
        obtain ⟨_, _, ⟨T187, L187, k187, n187⟩, -, X187, ⟨Lc187, hQ187, l187, y187, z187⟩, st187⟩ := Jvm.LawKit.callS X118 hx (y := (⟨"java/lang/Long", "valueOf", "(J)Ljava/lang/Long;"⟩ : MethodName)) hown (mvT hZ (wd hw 47 rfl)) (mvT hZ (wd hw 48 rfl)) (mvT hZ (wd hw 49 rfl)) (mvT hZ (wd hw 50 rfl)) (by decide) (backOf (W := 0) (rm_Long_valueOf l Z a0 hw [] q4 wcJ clJ h0 n0 Z0 pr0 pr17 hArJ hszJ helJ) hZ (wd hw 50 rfl) (wd hw 49 rfl) (by decide) (by decide)) (g := (mkF m 41 #[.val (.int p1), .val (.int p2), .val (.int p3), .val (.long q4), .second, .val (.int p5), .val (.int v117), .val (.ref o118), .val .null, .unset, .unset, .unset] [(.long q4)])) rfl (by rw [hml]; rfl) (argsL := [(.long q4)]) (rest := []) (lenOf pd_7 rfl) rfl (by show 2 * 0 + _ ≤ _; exact Nat.le_of_eq rfl) (hb hby at_41) (fun _ _ => ⟨rfl, hh118, Nat.le_of_ble_eq_true rfl, Nat.le_of_ble_eq_true rfl⟩)
        dsimp only [Pt.U, Pt.locs, Pt.cells, Pt.slots] at X187 l187 y187 z187 st187 hQ187
        subst l187 y187 z187
        obtain ⟨b187, rfl, Nq187, K187, p187_0, p187_1⟩ := hQ187
        have N187 := Fr.app N118 Nq187
        have O188 := pr0.keep K187 all0
        have Z188 : n0 ≤ T187.heap.size := Nat.le_trans Z0 K187.1
        refine Go.by (B := (T187.setTop (mkF m 44 #[.val (.int p1), .val (.int p2), .val (.int p3), .val (.long q4), .second, .val (.int p5), .val (.int v117), .val (.ref o118), .val .null, .unset, .unset, .unset] [(.ref b187)]))) (fun _ k => st187 _ k) ?_
        refine Go.by (B := (T187.setTop (mkF m 50 #[.val (.int p1), .val (.int p2), .val (.int p3), .val (.long q4), .second, .val (.int p5), .val (.int v117), .val (.ref o118), .val .null, .val (.ref b187), .unset, .unset] []))) (fun _ k => XS.goto X187.here hx rfl (pc0 := 44) (pc' := 48) rfl (hb hby at_44) (by decide) (by decide) (XS.astore X187.here hx rfl (hb hby at_48) rfl rfl (l' := #[.val (.int p1), .val (.int p2), .val (.int p3), .val (.long q4), .second, .val (.int p5), .val (.int v117), .val (.ref o118), .val .null, .val (.ref b187), .unset, .unset]) rfl k)) ?_
        obtain ⟨T189, h189, X189, e189, E189, A189, D189, -, st189⟩ := newO X187 hx hZ hown (wd hw 8 rfl) (wd hw 9 rfl) (wd hw 10 rfl) rfl (g := (mkF m 50 #[.val (.int p1), .val (.int p2), .val (.int p3), .val (.long q4), .second, .val (.int p5), .val (.int v117), .val (.ref o118), .val .null, .val (.ref b187), .unset, .unset] [])) rfl (hb hby at_50) (by decide) (by decide)
        obtain ⟨b189, g189⟩ : ∃ z, z = T187.heap.size := ⟨_, rfl⟩
        rw [← g189] at A189 D189 st189
        have sz_b189 : T187.heap.size ≤ b189 := Nat.le_of_eq g189.symm
        have O190 := O188.ext E189
        have Z190 : n0 ≤ h189.size := Nat.le_trans Z188 E189.1
        have F191 : Fld Z h189 b189 "com/example/breakwater/breakwater/engine/Result" "outcome" "Lcom/example/breakwater/breakwater/engine/Outcome;" .null := D189 (Or.inr (wd hw 18 rfl)) (ty := (.object "com/example/breakwater/breakwater/engine/Outcome")) (by decide)
        have F192 : Fld Z h189 b189 "com/example/breakwater/breakwater/engine/Result" "destination" "Lcom/example/breakwater/breakwater/engine/Address;" .null := D189 (Or.inr (wd hw 20 rfl)) (ty := (.object "com/example/breakwater/breakwater/engine/Address")) (by decide)
        have F193 : Fld Z h189 b189 "com/example/breakwater/breakwater/engine/Result" "attempts" "I" (.int 0) := D189 (Or.inr (wd hw 22 rfl)) (ty := .int) (by decide)
        have F194 : Fld Z h189 b189 "com/example/breakwater/breakwater/engine/Result" "value" "Ljava/lang/Object;" .null := D189 (Or.inr (wd hw 24 rfl)) (ty := (.object "java/lang/Object")) (by decide)
        have F195 : Fld Z h189 b189 "com/example/breakwater/breakwater/engine/Result" "error" "Ljava/lang/Object;" .null := D189 (Or.inr (wd hw 26 rfl)) (ty := (.object "java/lang/Object")) (by decide)
        refine Go.by (B := (T189.setTop (mkF m 53 #[.val (.int p1), .val (.int p2), .val (.int p3), .val (.long q4), .second, .val (.int p5), .val (.int v117), .val (.ref o118), .val .null, .val (.ref b187), .unset, .unset] [(.ref b189)]))) st189 ?_
        refine Go.by (B := (T189.setTop (mkF m 62 #[.val (.int p1), .val (.int p2), .val (.int p3), .val (.long q4), .second, .val (.int p5), .val (.int v117), .val (.ref o118), .val .null, .val (.ref b187), .unset, .unset] [(.ref b187), .null, (.int p2), .null, (.ref o118), (.ref b189), (.ref b189)]))) (fun _ k => XS.dup X189.here hx rfl (hb hby at_53) rfl rfl (XS.aload X189.here hx rfl (hb hby at_54) rfl rfl (XS.aconstNull X189.here hx rfl (hb hby at_56) (XS.iloadN X189.here hx rfl (hb hby at_57) rfl (XS.aload X189.here hx rfl (hb hby at_58) rfl rfl (XS.aload X189.here hx rfl (hb hby at_60) rfl rfl k)))))) ?_
        obtain ⟨_, _, ⟨T196, L196, k196, n196⟩, -, X196, ⟨Lc196, hQ196, l196, y196, z196⟩, st196⟩ := X189.specialBack hx (y := (⟨"com/example/breakwater/breakwater/engine/Result", "<init>", "(Lcom/example/breakwater/breakwater/engine/Outcome;Lcom/example/breakwater/breakwater/engine/Address;ILjava/lang/Object;Ljava/lang/Object;)V"⟩ : MethodName)) rfl hown (mvT hZ (wd hw 11 rfl)) (mvT hZ (wd hw 12 rfl)) (mvT hZ (wd hw 13 rfl)) (by decide) (backOf (W := 1) (rm_res1 l Z a0 hw [] b189 o118 p2 b187 h189 n0 Z190 O190 A189 F191 F192 F193 F194 F195 (Nat.le_trans Z188 sz_b189)) hZ (wd hw 13 rfl) (wd hw 10 rfl) (by decide) (by decide)) (g := (mkF m 62 #[.val (.int p1), .val (.int p2), .val (.int p3), .val (.long q4), .second, .val (.int p5), .val (.int v117), .val (.ref o118), .val .null, .val (.ref b187), .unset, .unset] [(.ref b187), .null, (.int p2), .null, (.ref o118), (.ref b189), (.ref b189)])) rfl (by rw [hml]; rfl) (Steps.refl _) (a := b189) (argsL := [(.ref o118), .null, (.int p2), .null, (.ref b187)]) (rest := [(.ref b189)]) (lenOf pd_4 rfl) rfl (by show 2 * 0 + _ ≤ _; exact Nat.le_of_eq rfl) (hb hby at_62) (fun _ _ => ⟨rfl, e189, Nat.le_of_ble_eq_true rfl, Nat.le_of_ble_eq_true rfl⟩)
        dsimp only [Pt.U, Pt.locs, Pt.cells, Pt.slots] at X196 l196 y196 z196 st196 hQ196
        subst l196 y196 z196
        obtain ⟨rfl, Nq196, K196, p196_0, p196_1, p196_2, p196_3, p196_4, p196_5⟩ := hQ196
        have N196 := Fr.app N187 Nq196
        have O197 := O190.keep K196 (allS (Nat.le_trans Z188 sz_b189) all0)
        have Z197 : n0 ≤ T196.heap.size := Nat.le_trans Z190 K196.1
        refine Go.by (B := (T196.setTop (mkF m 65 #[.val (.int p1), .val (.int p2), .val (.int p3), .val (.long q4), .second, .val (.int p5), .val (.int v117), .val (.ref o118), .val .null, .val (.ref b187), .unset, .unset] [(.ref b189)]))) (fun _ k => st196.trans k) ?_
        refine Go.by (B := (T196.setTop (mkF m 81 #[.val (.int p1), .val (.int p2), .val (.int p3), .val (.long q4), .second, .val (.int p5), .val (.int v117), .val (.ref o118), .val .null, .val (.ref b187), .val (.ref b189), .val (.int 0)] [(.ref b189)]))) (fun _ k => XS.astore X196.here hx rfl (hb hby at_65) rfl rfl (l' := #[.val (.int p1), .val (.int p2), .val (.int p3), .val (.long q4), .second, .val (.int p5), .val (.int v117), .val (.ref o118), .val .null, .val (.ref b187), .val (.ref b189), .unset]) rfl (XS.iload X196.here hx rfl (hb hby at_67) rfl (XS.ifYes X196.here hx rfl (pc0 := 69) (pc' := 76) rfl (hb hby at_69) rfl ((if0 _ _).trans (feq c119).2) (by decide) (by decide) (XS.iconst X196.here hx rfl (hb hby at_76) (XS.istore X196.here hx rfl (hb hby at_77) rfl (l' := #[.val (.int p1), .val (.int p2), .val (.int p3), .val (.long q4), .second, .val (.int p5), .val (.int v117), .val (.ref o118), .val .null, .val (.ref b187), .val (.ref b189), .val (.int 0)]) rfl (XS.aload X196.here hx rfl (hb hby at_79) rfl rfl k)))))) ?_
        obtain ⟨cq198, kq198, q198a, q198b, q198c⟩ := isOf hZ rfl p196_0
        obtain ⟨_, _, ⟨T198, L198, k198, n198⟩, -, X198, ⟨Lc198, hQ198, l198, y198, z198⟩, st198⟩ := X196.virtualBack hx (y := (⟨"com/example/breakwater/breakwater/engine/Result", "isDelivered", "()Z"⟩ : MethodName)) (z := (⟨"com/example/breakwater/breakwater/engine/Result", "isDelivered", "()Z"⟩ : MethodName)) hown (mvT hZ (wd hw 27 rfl)) (mvT hZ (wd hw 28 rfl)) (notFace_of_selects (args := #[]) (mvT hZ (wd hw 30 rfl))) (mvT hZ (wd hw 30 rfl)) (mvT hZ (wd hw 29 rfl)) (by decide) (backOf (W := 0) (rm_del_n l Z a0 hw [] b189 o118 w0 T196.heap n0 Z197 O197 p196_1 pr1 d120) hZ (wd hw 31 rfl) (wd hw 10 rfl) (by decide) (by decide)) q198a q198c (g := (mkF m 81 #[.val (.int p1), .val (.int p2), .val (.int p3), .val (.long q4), .second, .val (.int p5), .val (.int v117), .val (.ref o118), .val .null, .val (.ref b187), .val (.ref b189), .val (.int 0)] [(.ref b189)])) rfl (by rw [hml]; rfl) (Steps.refl _) (argsL := []) (rest := []) (lenOf pd_5 rfl) rfl (by show 2 * 0 + _ ≤ _; exact Nat.le_of_eq rfl) (hb hby at_81) (fun _ _ => ⟨rfl, rfl, Nat.le_of_ble_eq_true rfl, Nat.le_of_ble_eq_true rfl⟩)
        dsimp only [Pt.U, Pt.locs, Pt.cells, Pt.slots] at X198 l198 y198 z198 st198 hQ198
        subst l198 y198 z198
        obtain ⟨rfl, Nq198, hh198⟩ := hQ198
        have N198 := Fr.app N196 Nq198
        refine Go.by (B := (T198.setTop (mkF m 84 #[.val (.int p1), .val (.int p2), .val (.int p3), .val (.long q4), .second, .val (.int p5), .val (.int v117), .val (.ref o118), .val .null, .val (.ref b187), .val (.ref b189), .val (.int 0)] [(.int 0)]))) (fun _ k => st198.trans k) ?_
        refine Go.by (B := (T198.setTop (mkF m 91 #[.val (.int p1), .val (.int p2), .val (.int p3), .val (.long q4), .second, .val (.int p5), .val (.int v117), .val (.ref o118), .val .null, .val (.ref b187), .val (.ref b189), .val (.int 0)] [(.ref b189)]))) (fun _ k => XS.iload X198.here hx rfl (hb hby at_84) rfl (XS.icmpNo X198.here hx rfl (hb hby at_86) rfl (teq (by decide : (0 : Int32) = (0 : Int32))).2 (XS.aload X198.here hx rfl (hb hby at_89) rfl rfl k))) ?_
        obtain ⟨cq199, kq199, q199a, q199b, q199c⟩ := isOf hZ hh198 p196_0
        obtain ⟨_, _, ⟨T199, L199, k199, n199⟩, -, X199, ⟨Lc199, hQ199, l199, y199, z199⟩, st199⟩ := X198.virtualBack hx (y := (⟨"com/example/breakwater/breakwater/engine/Result", "getOutcome", "()Lcom/example/breakwater/breakwater/engine/Outcome;"⟩ : MethodName)) (z := (⟨"com/example/breakwater/breakwater/engine/Result", "getOutcome", "()Lcom/example/breakwater/breakwater/engine/Outcome;"⟩ : MethodName)) hown (mvT hZ (wd hw 33 rfl)) (mvT hZ (wd hw 34 rfl)) (notFace_of_selects (args := #[]) (mvT hZ (wd hw 36 rfl))) (mvT hZ (wd hw 36 rfl)) (mvT hZ (wd hw 35 rfl)) (by decide) (backOf (W := 0) (rm_getO l Z a0 hw [] b189 o118 T196.heap n0 Z197 p196_1) hZ (wd hw 37 rfl) (wd hw 10 rfl) (by decide) (by decide)) q199a q199c (g := (mkF m 91 #[.val (.int p1), .val (.int p2), .val (.int p3), .val (.long q4), .second, .val (.int p5), .val (.int v117), .val (.ref o118), .val .null, .val (.ref b187), .val (.ref b189), .val (.int 0)] [(.ref b189)])) rfl (by rw [hml]; rfl) (Steps.refl _) (argsL := []) (rest := []) (lenOf pd_6 rfl) rfl (by show 2 * 0 + _ ≤ _; exact Nat.le_of_eq rfl) (hb hby at_91) (fun _ _ => ⟨rfl, hh198, Nat.le_of_ble_eq_true rfl, Nat.le_of_ble_eq_true rfl⟩)
        dsimp only [Pt.U, Pt.locs, Pt.cells, Pt.slots] at X199 l199 y199 z199 st199 hQ199
        subst l199 y199 z199
        obtain ⟨rfl, Nq199, hh199⟩ := hQ199
        have N199 := Fr.app N198 Nq199
        refine Go.by (B := (T199.setTop (mkF m 94 #[.val (.int p1), .val (.int p2), .val (.int p3), .val (.long q4), .second, .val (.int p5), .val (.int v117), .val (.ref o118), .val .null, .val (.ref b187), .val (.ref b189), .val (.int 0)] [(.ref o118)]))) (fun _ k => st199.trans k) ?_
        refine Go.by (B := (T199.setTop (mkF m 104 #[.val (.int p1), .val (.int p2), .val (.int p3), .val (.long q4), .second, .val (.int p5), .val (.int v117), .val (.ref o118), .val .null, .val (.ref b187), .val (.ref b189), .val (.int 0)] [(.int 1)]))) (fun _ k => XS.aload X199.here hx rfl (hb hby at_94) rfl rfl (Jvm.RoadKit.acmp (g := (mkF m 96 #[.val (.int p1), .val (.int p2), .val (.int p3), .val (.long q4), .second, .val (.int p5), .val (.int v117), .val (.ref o118), .val .null, .val (.ref b187), .val (.ref b189), .val (.int 0)] [(.ref o118), (.ref o118)])) X199 hx rfl rfl rfl (pc0 := 96) (pc' := 99) (same := true) rfl (hb hby at_96) rfl (decide_eq_true rfl) (by decide) (by decide) (XS.iconst X199.here hx rfl (hb hby at_99) (XS.goto X199.here hx rfl (pc0 := 100) (pc' := 104) rfl (hb hby at_100) (by decide) (by decide) k)))) ?_
        refine Go.ret X199 hx hlk (t := .boolean) hret rfl (Or.inl ⟨rfl, by simp, _, rfl⟩) (hb hby at_104) (by decide) (by decide) ?_
        exact ⟨rfl, N199⟩
    · skip
      refine Go.by (B := (T118.setTop (mkF m 24 #[.val (.int p1), .val (.int p2), .val (.int p3), .val (.long q4), .second, .val (.int p5), .val (.int v117), .val (.ref o118), .unset, .unset, .unset, .unset] [(.int p3)]))) (fun _ k => XS.ifNo X118.here hx rfl (hb hby at_20) rfl ((if0 _ _).trans (feq c174).1) (XS.iloadN X118.here hx rfl (hb hby at_23) rfl k)) ?_
      obtain ⟨_, _, ⟨T200, L200, k200, n200⟩, -, X200, ⟨Lc200, hQ200, l200, y200, z200⟩, st200⟩ := Jvm.LawKit.callS X118 hx (y := (⟨"java/lang/Integer", "valueOf", "(I)Ljava/lang/Integer;"⟩ : MethodName)) hown (mvT hZ (wd hw 40 rfl)) (mvT hZ (wd hw 41 rfl)) (mvT hZ (wd hw 42 rfl)) (mvT hZ (wd hw 43 rfl)) (by decide) (backOf (W := 0) (rm_Integer_valueOf l Z a0 hw [] p3 wcI clI h0 n0 Z0 pr0 pr12 hArI hszI helI pr16) hZ (wd hw 43 rfl) (wd hw 42 rfl) (by decide) (by decide)) (g := (mkF m 24 #[.val (.int p1), .val (.int p2), .val (.int p3), .val (.long q4), .second, .val (.int p5), .val (.int v117), .val (.ref o118), .unset, .unset, .unset, .unset] [(.int p3)])) rfl (by rw [hml]; rfl) (argsL := [(.int p3)]) (rest := []) (lenOf pd_8 rfl) rfl (by show 2 * 0 + _ ≤ _; exact Nat.le_of_eq rfl) (hb hby at_24) (fun _ _ => ⟨rfl, hh118, Nat.le_of_ble_eq_true rfl, Nat.le_of_ble_eq_true rfl⟩)
      dsimp only [Pt.U, Pt.locs, Pt.cells, Pt.slots] at X200 l200 y200 z200 st200 hQ200
      subst l200 y200 z200
      obtain ⟨b200, rfl, Nq200, K200, p200_0, p200_1⟩ := hQ200
      have N200 := Fr.app N118 Nq200
      have O201 := pr0.keep K200 all0
      have Z201 : n0 ≤ T200.heap.size := Nat.le_trans Z0 K200.1
      refine Go.by (B := (T200.setTop (mkF m 27 #[.val (.int p1), .val (.int p2), .val (.int p3), .val (.long q4), .second, .val (.int p5), .val (.int v117), .val (.ref o118), .unset, .unset, .unset, .unset] [(.ref b200)]))) (fun _ k => st200 _ k) ?_
      refine Go.by (B := (T200.setTop (mkF m 37 #[.val (.int p1), .val (.int p2), .val (.int p3), .val (.long q4), .second, .val (.int p5), .val (.int v117), .val (.ref o118), .val (.ref b200), .unset, .unset, .unset] [(.int (p5 &&& (2 : Int32)))]))) (fun _ k => XS.goto X200.here hx rfl (pc0 := 27) (pc' := 31) rfl (hb hby at_27) (by decide) (by decide) (XS.astore X200.here hx rfl (hb hby at_31) rfl rfl (l' := #[.val (.int p1), .val (.int p2), .val (.int p3), .val (.long q4), .second, .val (.int p5), .val (.int v117), .val (.ref o118), .val (.ref b200), .unset, .unset, .unset]) rfl (XS.iload X200.here hx rfl (hb hby at_33) rfl (XS.iconst X200.here hx rfl (hb hby at_35) (XS.iand X200.here hx rfl (hb hby at_36) rfl k))))) ?_
      by_cases c202 : (p5 &&& (2 : Int32)) = (0 : Int32)
      · skip
        refine Go.by (B := (T200.setTop (mkF m 50 #[.val (.int p1), .val (.int p2), .val (.int p3), .val (.long q4), .second, .val (.int p5), .val (.int v117), .val (.ref o118), .val (.ref b200), .val .null, .unset, .unset] []))) (fun _ k => XS.ifYes X200.here hx rfl (pc0 := 37) (pc' := 47) rfl (hb hby at_37) rfl ((if0 _ _).trans (teq c202).1) (by decide) (by decide) (XS.aconstNull X200.here hx rfl (hb hby at_47) (XS.astore X200.here hx rfl (hb hby at_48) rfl rfl (l' := #[.val (.int p1), .val (.int p2), .val (.int p3), .val (.long q4), .second, .val (.int p5), .val (.int v117), .val (.ref o118), .val (.ref b200), .val .null, .unset, .unset]) rfl k))) ?_
        obtain ⟨T203, h203, X203, e203, E203, A203, D203, -, st203⟩ := newO X200 hx hZ hown (wd hw 8 rfl) (wd hw 9 rfl) (wd hw 10 rfl) rfl (g := (mkF m 50 #[.val (.int p1), .val (.int p2), .val (.int p3), .val (.long q4), .second, .val (.int p5), .val (.int v117), .val (.ref o118), .val (.ref b200), .val .null, .unset, .unset] [])) rfl (hb hby at_50) (by decide) (by decide)
        obtain ⟨b203, g203⟩ : ∃ z, z = T200.heap.size := ⟨_, rfl⟩
        rw [← g203] at A203 D203 st203
        have sz_b203 : T200.heap.size ≤ b203 := Nat.le_of_eq g203.symm
        have O204 := O201.ext E203
        have Z204 : n0 ≤ h203.size := Nat.le_trans Z201 E203.1
        have F205 : Fld Z h203 b203 "com/example/breakwater/breakwater/engine/Result" "outcome" "Lcom/example/breakwater/breakwater/engine/Outcome;" .null := D203 (Or.inr (wd hw 18 rfl)) (ty := (.object "com/example/breakwater/breakwater/engine/Outcome")) (by decide)
        have F206 : Fld Z h203 b203 "com/example/breakwater/breakwater/engine/Result" "destination" "Lcom/example/breakwater/breakwater/engine/Address;" .null := D203 (Or.inr (wd hw 20 rfl)) (ty := (.object "com/example/breakwater/breakwater/engine/Address")) (by decide)
        have F207 : Fld Z h203 b203 "com/example/breakwater/breakwater/engine/Result" "attempts" "I" (.int 0) := D203 (Or.inr (wd hw 22 rfl)) (ty := .int) (by decide)
        have F208 : Fld Z h203 b203 "com/example/breakwater/breakwater/engine/Result" "value" "Ljava/lang/Object;" .null := D203 (Or.inr (wd hw 24 rfl)) (ty := (.object "java/lang/Object")) (by decide)
        have F209 : Fld Z h203 b203 "com/example/breakwater/breakwater/engine/Result" "error" "Ljava/lang/Object;" .null := D203 (Or.inr (wd hw 26 rfl)) (ty := (.object "java/lang/Object")) (by decide)
        refine Go.by (B := (T203.setTop (mkF m 53 #[.val (.int p1), .val (.int p2), .val (.int p3), .val (.long q4), .second, .val (.int p5), .val (.int v117), .val (.ref o118), .val (.ref b200), .val .null, .unset, .unset] [(.ref b203)]))) st203 ?_
        refine Go.by (B := (T203.setTop (mkF m 62 #[.val (.int p1), .val (.int p2), .val (.int p3), .val (.long q4), .second, .val (.int p5), .val (.int v117), .val (.ref o118), .val (.ref b200), .val .null, .unset, .unset] [.null, (.ref b200), (.int p2), .null, (.ref o118), (.ref b203), (.ref b203)]))) (fun _ k => XS.dup X203.here hx rfl (hb hby at_53) rfl rfl (XS.aload X203.here hx rfl (hb hby at_54) rfl rfl (XS.aconstNull X203.here hx rfl (hb hby at_56) (XS.iloadN X203.here hx rfl (hb hby at_57) rfl (XS.aload X203.here hx rfl (hb hby at_58) rfl rfl (XS.aload X203.here hx rfl (hb hby at_60) rfl rfl k)))))) ?_
        obtain ⟨_, _, ⟨T210, L210, k210, n210⟩, -, X210, ⟨Lc210, hQ210, l210, y210, z210⟩, st210⟩ := X203.specialBack hx (y := (⟨"com/example/breakwater/breakwater/engine/Result", "<init>", "(Lcom/example/breakwater/breakwater/engine/Outcome;Lcom/example/breakwater/breakwater/engine/Address;ILjava/lang/Object;Ljava/lang/Object;)V"⟩ : MethodName)) rfl hown (mvT hZ (wd hw 11 rfl)) (mvT hZ (wd hw 12 rfl)) (mvT hZ (wd hw 13 rfl)) (by decide) (backOf (W := 1) (rm_res2 l Z a0 hw [] b203 o118 p2 b200 h203 n0 Z204 O204 A203 F205 F206 F207 F208 F209 (Nat.le_trans Z201 sz_b203)) hZ (wd hw 13 rfl) (wd hw 10 rfl) (by decide) (by decide)) (g := (mkF m 62 #[.val (.int p1), .val (.int p2), .val (.int p3), .val (.long q4), .second, .val (.int p5), .val (.int v117), .val (.ref o118), .val (.ref b200), .val .null, .unset, .unset] [.null, (.ref b200), (.int p2), .null, (.ref o118), (.ref b203), (.ref b203)])) rfl (by rw [hml]; rfl) (Steps.refl _) (a := b203) (argsL := [(.ref o118), .null, (.int p2), (.ref b200), .null]) (rest := [(.ref b203)]) (lenOf pd_4 rfl) rfl (by show 2 * 0 + _ ≤ _; exact Nat.le_of_eq rfl) (hb hby at_62) (fun _ _ => ⟨rfl, e203, Nat.le_of_ble_eq_true rfl, Nat.le_of_ble_eq_true rfl⟩)
        dsimp only [Pt.U, Pt.locs, Pt.cells, Pt.slots] at X210 l210 y210 z210 st210 hQ210
        subst l210 y210 z210
        obtain ⟨rfl, Nq210, K210, p210_0, p210_1, p210_2, p210_3, p210_4, p210_5⟩ := hQ210
        have N210 := Fr.app N200 Nq210
        have O211 := O204.keep K210 (allS (Nat.le_trans Z201 sz_b203) all0)
        have Z211 : n0 ≤ T210.heap.size := Nat.le_trans Z204 K210.1
        refine Go.by (B := (T210.setTop (mkF m 65 #[.val (.int p1), .val (.int p2), .val (.int p3), .val (.long q4), .second, .val (.int p5), .val (.int v117), .val (.ref o118), .val (.ref b200), .val .null, .unset, .unset] [(.ref b203)]))) (fun _ k => st210.trans k) ?_
        refine Go.by (B := (T210.setTop (mkF m 81 #[.val (.int p1), .val (.int p2), .val (.int p3), .val (.long q4), .second, .val (.int p5), .val (.int v117), .val (.ref o118), .val (.ref b200), .val .null, .val (.ref b203), .val (.int 0)] [(.ref b203)]))) (fun _ k => XS.astore X210.here hx rfl (hb hby at_65) rfl rfl (l' := #[.val (.int p1), .val (.int p2), .val (.int p3), .val (.long q4), .second, .val (.int p5), .val (.int v117), .val (.ref o118), .val (.ref b200), .val .null, .val (.ref b203), .unset]) rfl (XS.iload X210.here hx rfl (hb hby at_67) rfl (XS.ifYes X210.here hx rfl (pc0 := 69) (pc' := 76) rfl (hb hby at_69) rfl ((if0 _ _).trans (feq c119).2) (by decide) (by decide) (XS.iconst X210.here hx rfl (hb hby at_76) (XS.istore X210.here hx rfl (hb hby at_77) rfl (l' := #[.val (.int p1), .val (.int p2), .val (.int p3), .val (.long q4), .second, .val (.int p5), .val (.int v117), .val (.ref o118), .val (.ref b200), .val .null, .val (.ref b203), .val (.int 0)]) rfl (XS.aload X210.here hx rfl (hb hby at_79) rfl rfl k)))))) ?_
        obtain ⟨cq212, kq212, q212a, q212b, q212c⟩ := isOf hZ rfl p210_0
        obtain ⟨_, _, ⟨T212, L212, k212, n212⟩, -, X212, ⟨Lc212, hQ212, l212, y212, z212⟩, st212⟩ := X210.virtualBack hx (y := (⟨"com/example/breakwater/breakwater/engine/Result", "isDelivered", "()Z"⟩ : MethodName)) (z := (⟨"com/example/breakwater/breakwater/engine/Result", "isDelivered", "()Z"⟩ : MethodName)) hown (mvT hZ (wd hw 27 rfl)) (mvT hZ (wd hw 28 rfl)) (notFace_of_selects (args := #[]) (mvT hZ (wd hw 30 rfl))) (mvT hZ (wd hw 30 rfl)) (mvT hZ (wd hw 29 rfl)) (by decide) (backOf (W := 0) (rm_del_n l Z a0 hw [] b203 o118 w0 T210.heap n0 Z211 O211 p210_1 pr1 d120) hZ (wd hw 31 rfl) (wd hw 10 rfl) (by decide) (by decide)) q212a q212c (g := (mkF m 81 #[.val (.int p1), .val (.int p2), .val (.int p3), .val (.long q4), .second, .val (.int p5), .val (.int v117), .val (.ref o118), .val (.ref b200), .val .null, .val (.ref b203), .val (.int 0)] [(.ref b203)])) rfl (by rw [hml]; rfl) (Steps.refl _) (argsL := []) (rest := []) (lenOf pd_5 rfl) rfl (by show 2 * 0 + _ ≤ _; exact Nat.le_of_eq rfl) (hb hby at_81) (fun _ _ => ⟨rfl, rfl, Nat.le_of_ble_eq_true rfl, Nat.le_of_ble_eq_true rfl⟩)
        dsimp only [Pt.U, Pt.locs, Pt.cells, Pt.slots] at X212 l212 y212 z212 st212 hQ212
        subst l212 y212 z212
        obtain ⟨rfl, Nq212, hh212⟩ := hQ212
        have N212 := Fr.app N210 Nq212
        refine Go.by (B := (T212.setTop (mkF m 84 #[.val (.int p1), .val (.int p2), .val (.int p3), .val (.long q4), .second, .val (.int p5), .val (.int v117), .val (.ref o118), .val (.ref b200), .val .null, .val (.ref b203), .val (.int 0)] [(.int 0)]))) (fun _ k => st212.trans k) ?_
        refine Go.by (B := (T212.setTop (mkF m 91 #[.val (.int p1), .val (.int p2), .val (.int p3), .val (.long q4), .second, .val (.int p5), .val (.int v117), .val (.ref o118), .val (.ref b200), .val .null, .val (.ref b203), .val (.int 0)] [(.ref b203)]))) (fun _ k => XS.iload X212.here hx rfl (hb hby at_84) rfl (XS.icmpNo X212.here hx rfl (hb hby at_86) rfl (teq (by decide : (0 : Int32) = (0 : Int32))).2 (XS.aload X212.here hx rfl (hb hby at_89) rfl rfl k))) ?_
        obtain ⟨cq213, kq213, q213a, q213b, q213c⟩ := isOf hZ hh212 p210_0
        obtain ⟨_, _, ⟨T213, L213, k213, n213⟩, -, X213, ⟨Lc213, hQ213, l213, y213, z213⟩, st213⟩ := X212.virtualBack hx (y := (⟨"com/example/breakwater/breakwater/engine/Result", "getOutcome", "()Lcom/example/breakwater/breakwater/engine/Outcome;"⟩ : MethodName)) (z := (⟨"com/example/breakwater/breakwater/engine/Result", "getOutcome", "()Lcom/example/breakwater/breakwater/engine/Outcome;"⟩ : MethodName)) hown (mvT hZ (wd hw 33 rfl)) (mvT hZ (wd hw 34 rfl)) (notFace_of_selects (args := #[]) (mvT hZ (wd hw 36 rfl))) (mvT hZ (wd hw 36 rfl)) (mvT hZ (wd hw 35 rfl)) (by decide) (backOf (W := 0) (rm_getO l Z a0 hw [] b203 o118 T210.heap n0 Z211 p210_1) hZ (wd hw 37 rfl) (wd hw 10 rfl) (by decide) (by decide)) q213a q213c (g := (mkF m 91 #[.val (.int p1), .val (.int p2), .val (.int p3), .val (.long q4), .second, .val (.int p5), .val (.int v117), .val (.ref o118), .val (.ref b200), .val .null, .val (.ref b203), .val (.int 0)] [(.ref b203)])) rfl (by rw [hml]; rfl) (Steps.refl _) (argsL := []) (rest := []) (lenOf pd_6 rfl) rfl (by show 2 * 0 + _ ≤ _; exact Nat.le_of_eq rfl) (hb hby at_91) (fun _ _ => ⟨rfl, hh212, Nat.le_of_ble_eq_true rfl, Nat.le_of_ble_eq_true rfl⟩)
        dsimp only [Pt.U, Pt.locs, Pt.cells, Pt.slots] at X213 l213 y213 z213 st213 hQ213
        subst l213 y213 z213
        obtain ⟨rfl, Nq213, hh213⟩ := hQ213
        have N213 := Fr.app N212 Nq213
        refine Go.by (B := (T213.setTop (mkF m 94 #[.val (.int p1), .val (.int p2), .val (.int p3), .val (.long q4), .second, .val (.int p5), .val (.int v117), .val (.ref o118), .val (.ref b200), .val .null, .val (.ref b203), .val (.int 0)] [(.ref o118)]))) (fun _ k => st213.trans k) ?_
        refine Go.by (B := (T213.setTop (mkF m 104 #[.val (.int p1), .val (.int p2), .val (.int p3), .val (.long q4), .second, .val (.int p5), .val (.int v117), .val (.ref o118), .val (.ref b200), .val .null, .val (.ref b203), .val (.int 0)] [(.int 1)]))) (fun _ k => XS.aload X213.here hx rfl (hb hby at_94) rfl rfl (Jvm.RoadKit.acmp (g := (mkF m 96 #[.val (.int p1), .val (.int p2), .val (.int p3), .val (.long q4), .second, .val (.int p5), .val (.int v117), .val (.ref o118), .val (.ref b200), .val .null, .val (.ref b203), .val (.int 0)] [(.ref o118), (.ref o118)])) X213 hx rfl rfl rfl (pc0 := 96) (pc' := 99) (same := true) rfl (hb hby at_96) rfl (decide_eq_true rfl) (by decide) (by decide) (XS.iconst X213.here hx rfl (hb hby at_99) (XS.goto X213.here hx rfl (pc0 := 100) (pc' := 104) rfl (hb hby at_100) (by decide) (by decide) k)))) ?_
        refine Go.ret X213 hx hlk (t := .boolean) hret rfl (Or.inl ⟨rfl, by simp, _, rfl⟩) (hb hby at_104) (by decide) (by decide) ?_
        exact ⟨rfl, N213⟩
      · skip
        refine Go.by (B := (T200.setTop (mkF m 41 #[.val (.int p1), .val (.int p2), .val (.int p3), .val (.long q4), .second, .val (.int p5), .val (.int v117), .val (.ref o118), .val (.ref b200), .unset, .unset, .unset] [(.long q4)]))) (fun _ k => XS.ifNo X200.here hx rfl (hb hby at_37) rfl ((if0 _ _).trans (feq c202).1) (XS.lloadN X200.here hx rfl (hb hby at_40) rfl k)) ?_
        obtain ⟨_, _, ⟨T214, L214, k214, n214⟩, -, X214, ⟨Lc214, hQ214, l214, y214, z214⟩, st214⟩ := Jvm.LawKit.callS X200 hx (y := (⟨"java/lang/Long", "valueOf", "(J)Ljava/lang/Long;"⟩ : MethodName)) hown (mvT hZ (wd hw 47 rfl)) (mvT hZ (wd hw 48 rfl)) (mvT hZ (wd hw 49 rfl)) (mvT hZ (wd hw 50 rfl)) (by decide) (backOf (W := 0) (rm_Long_valueOf l Z a0 hw [] q4 wcJ clJ T200.heap n0 Z201 O201 pr17 hArJ hszJ helJ) hZ (wd hw 50 rfl) (wd hw 49 rfl) (by decide) (by decide)) (g := (mkF m 41 #[.val (.int p1), .val (.int p2), .val (.int p3), .val (.long q4), .second, .val (.int p5), .val (.int v117), .val (.ref o118), .val (.ref b200), .unset, .unset, .unset] [(.long q4)])) rfl (by rw [hml]; rfl) (argsL := [(.long q4)]) (rest := []) (lenOf pd_7 rfl) rfl (by show 2 * 0 + _ ≤ _; exact Nat.le_of_eq rfl) (hb hby at_41) (fun _ _ => ⟨rfl, rfl, Nat.le_of_ble_eq_true rfl, Nat.le_of_ble_eq_true rfl⟩)
        dsimp only [Pt.U, Pt.locs, Pt.cells, Pt.slots] at X214 l214 y214 z214 st214 hQ214
        subst l214 y214 z214
        obtain ⟨b214, rfl, Nq214, K214, p214_0, p214_1⟩ := hQ214
        have N214 := Fr.app N200 Nq214
        have O215 := O201.keep K214 all0
        have Z215 : n0 ≤ T214.heap.size := Nat.le_trans Z201 K214.1
        refine Go.by (B := (T214.setTop (mkF m 44 #[.val (.int p1), .val (.int p2), .val (.int p3), .val (.long q4), .second, .val (.int p5), .val (.int v117), .val (.ref o118), .val (.ref b200), .unset, .unset, .unset] [(.ref b214)]))) (fun _ k => st214 _ k) ?_
        refine Go.by (B := (T214.setTop (mkF m 50 #[.val (.int p1), .val (.int p2), .val (.int p3), .val (.long q4), .second, .val (.int p5), .val (.int v117), .val (.ref o118), .val (.ref b200), .val (.ref b214), .unset, .unset] []))) (fun _ k => XS.goto X214.here hx rfl (pc0 := 44) (pc' := 48) rfl (hb hby at_44) (by decide) (by decide) (XS.astore X214.here hx rfl (hb hby at_48) rfl rfl (l' := #[.val (.int p1), .val (.int p2), .val (.int p3), .val (.long q4), .second, .val (.int p5), .val (.int v117), .val (.ref o118), .val (.ref b200), .val (.ref b214), .unset, .unset]) rfl k)) ?_
        obtain ⟨T216, h216, X216, e216, E216, A216, D216, -, st216⟩ := newO X214 hx hZ hown (wd hw 8 rfl) (wd hw 9 rfl) (wd hw 10 rfl) rfl (g := (mkF m 50 #[.val (.int p1), .val (.int p2), .val (.int p3), .val (.long q4), .second, .val (.int p5), .val (.int v117), .val (.ref o118), .val (.ref b200), .val (.ref b214), .unset, .unset] [])) rfl (hb hby at_50) (by decide) (by decide)
        obtain ⟨b216, g216⟩ : ∃ z, z = T214.heap.size := ⟨_, rfl⟩
        rw [← g216] at A216 D216 st216
        have sz_b216 : T214.heap.size ≤ b216 := Nat.le_of_eq g216.symm
        have O217 := O215.ext E216
        have Z217 : n0 ≤ h216.size := Nat.le_trans Z215 E216.1
        have F218 : Fld Z h216 b216 "com/example/breakwater/breakwater/engine/Result" "outcome" "Lcom/example/breakwater/breakwater/engine/Outcome;" .null := D216 (Or.inr (wd hw 18 rfl)) (ty := (.object "com/example/breakwater/breakwater/engine/Outcome")) (by decide)
        have F219 : Fld Z h216 b216 "com/example/breakwater/breakwater/engine/Result" "destination" "Lcom/example/breakwater/breakwater/engine/Address;" .null := D216 (Or.inr (wd hw 20 rfl)) (ty := (.object "com/example/breakwater/breakwater/engine/Address")) (by decide)
        have F220 : Fld Z h216 b216 "com/example/breakwater/breakwater/engine/Result" "attempts" "I" (.int 0) := D216 (Or.inr (wd hw 22 rfl)) (ty := .int) (by decide)
        have F221 : Fld Z h216 b216 "com/example/breakwater/breakwater/engine/Result" "value" "Ljava/lang/Object;" .null := D216 (Or.inr (wd hw 24 rfl)) (ty := (.object "java/lang/Object")) (by decide)
        have F222 : Fld Z h216 b216 "com/example/breakwater/breakwater/engine/Result" "error" "Ljava/lang/Object;" .null := D216 (Or.inr (wd hw 26 rfl)) (ty := (.object "java/lang/Object")) (by decide)
        refine Go.by (B := (T216.setTop (mkF m 53 #[.val (.int p1), .val (.int p2), .val (.int p3), .val (.long q4), .second, .val (.int p5), .val (.int v117), .val (.ref o118), .val (.ref b200), .val (.ref b214), .unset, .unset] [(.ref b216)]))) st216 ?_
        refine Go.by (B := (T216.setTop (mkF m 62 #[.val (.int p1), .val (.int p2), .val (.int p3), .val (.long q4), .second, .val (.int p5), .val (.int v117), .val (.ref o118), .val (.ref b200), .val (.ref b214), .unset, .unset] [(.ref b214), (.ref b200), (.int p2), .null, (.ref o118), (.ref b216), (.ref b216)]))) (fun _ k => XS.dup X216.here hx rfl (hb hby at_53) rfl rfl (XS.aload X216.here hx rfl (hb hby at_54) rfl rfl (XS.aconstNull X216.here hx rfl (hb hby at_56) (XS.iloadN X216.here hx rfl (hb hby at_57) rfl (XS.aload X216.here hx rfl (hb hby at_58) rfl rfl (XS.aload X216.here hx rfl (hb hby at_60) rfl rfl k)))))) ?_
        obtain ⟨_, _, ⟨T223, L223, k223, n223⟩, -, X223, ⟨Lc223, hQ223, l223, y223, z223⟩, st223⟩ := X216.specialBack hx (y := (⟨"com/example/breakwater/breakwater/engine/Result", "<init>", "(Lcom/example/breakwater/breakwater/engine/Outcome;Lcom/example/breakwater/breakwater/engine/Address;ILjava/lang/Object;Ljava/lang/Object;)V"⟩ : MethodName)) rfl hown (mvT hZ (wd hw 11 rfl)) (mvT hZ (wd hw 12 rfl)) (mvT hZ (wd hw 13 rfl)) (by decide) (backOf (W := 1) (rm_res3 l Z a0 hw [] b216 o118 p2 b200 b214 h216 n0 Z217 O217 A216 F218 F219 F220 F221 F222 (Nat.le_trans Z215 sz_b216)) hZ (wd hw 13 rfl) (wd hw 10 rfl) (by decide) (by decide)) (g := (mkF m 62 #[.val (.int p1), .val (.int p2), .val (.int p3), .val (.long q4), .second, .val (.int p5), .val (.int v117), .val (.ref o118), .val (.ref b200), .val (.ref b214), .unset, .unset] [(.ref b214), (.ref b200), (.int p2), .null, (.ref o118), (.ref b216), (.ref b216)])) rfl (by rw [hml]; rfl) (Steps.refl _) (a := b216) (argsL := [(.ref o118), .null, (.int p2), (.ref b200), (.ref b214)]) (rest := [(.ref b216)]) (lenOf pd_4 rfl) rfl (by show 2 * 0 + _ ≤ _; exact Nat.le_of_eq rfl) (hb hby at_62) (fun _ _ => ⟨rfl, e216, Nat.le_of_ble_eq_true rfl, Nat.le_of_ble_eq_true rfl⟩)
        dsimp only [Pt.U, Pt.locs, Pt.cells, Pt.slots] at X223 l223 y223 z223 st223 hQ223
        subst l223 y223 z223
        obtain ⟨rfl, Nq223, K223, p223_0, p223_1, p223_2, p223_3, p223_4, p223_5⟩ := hQ223
        have N223 := Fr.app N214 Nq223
        have O224 := O217.keep K223 (allS (Nat.le_trans Z215 sz_b216) all0)
        have Z224 : n0 ≤ T223.heap.size := Nat.le_trans Z217 K223.1
        refine Go.by (B := (T223.setTop (mkF m 65 #[.val (.int p1), .val (.int p2), .val (.int p3), .val (.long q4), .second, .val (.int p5), .val (.int v117), .val (.ref o118), .val (.ref b200), .val (.ref b214), .unset, .unset] [(.ref b216)]))) (fun _ k => st223.trans k) ?_
        refine Go.by (B := (T223.setTop (mkF m 81 #[.val (.int p1), .val (.int p2), .val (.int p3), .val (.long q4), .second, .val (.int p5), .val (.int v117), .val (.ref o118), .val (.ref b200), .val (.ref b214), .val (.ref b216), .val (.int 0)] [(.ref b216)]))) (fun _ k => XS.astore X223.here hx rfl (hb hby at_65) rfl rfl (l' := #[.val (.int p1), .val (.int p2), .val (.int p3), .val (.long q4), .second, .val (.int p5), .val (.int v117), .val (.ref o118), .val (.ref b200), .val (.ref b214), .val (.ref b216), .unset]) rfl (XS.iload X223.here hx rfl (hb hby at_67) rfl (XS.ifYes X223.here hx rfl (pc0 := 69) (pc' := 76) rfl (hb hby at_69) rfl ((if0 _ _).trans (feq c119).2) (by decide) (by decide) (XS.iconst X223.here hx rfl (hb hby at_76) (XS.istore X223.here hx rfl (hb hby at_77) rfl (l' := #[.val (.int p1), .val (.int p2), .val (.int p3), .val (.long q4), .second, .val (.int p5), .val (.int v117), .val (.ref o118), .val (.ref b200), .val (.ref b214), .val (.ref b216), .val (.int 0)]) rfl (XS.aload X223.here hx rfl (hb hby at_79) rfl rfl k)))))) ?_
        obtain ⟨cq225, kq225, q225a, q225b, q225c⟩ := isOf hZ rfl p223_0
        obtain ⟨_, _, ⟨T225, L225, k225, n225⟩, -, X225, ⟨Lc225, hQ225, l225, y225, z225⟩, st225⟩ := X223.virtualBack hx (y := (⟨"com/example/breakwater/breakwater/engine/Result", "isDelivered", "()Z"⟩ : MethodName)) (z := (⟨"com/example/breakwater/breakwater/engine/Result", "isDelivered", "()Z"⟩ : MethodName)) hown (mvT hZ (wd hw 27 rfl)) (mvT hZ (wd hw 28 rfl)) (notFace_of_selects (args := #[]) (mvT hZ (wd hw 30 rfl))) (mvT hZ (wd hw 30 rfl)) (mvT hZ (wd hw 29 rfl)) (by decide) (backOf (W := 0) (rm_del_n l Z a0 hw [] b216 o118 w0 T223.heap n0 Z224 O224 p223_1 pr1 d120) hZ (wd hw 31 rfl) (wd hw 10 rfl) (by decide) (by decide)) q225a q225c (g := (mkF m 81 #[.val (.int p1), .val (.int p2), .val (.int p3), .val (.long q4), .second, .val (.int p5), .val (.int v117), .val (.ref o118), .val (.ref b200), .val (.ref b214), .val (.ref b216), .val (.int 0)] [(.ref b216)])) rfl (by rw [hml]; rfl) (Steps.refl _) (argsL := []) (rest := []) (lenOf pd_5 rfl) rfl (by show 2 * 0 + _ ≤ _; exact Nat.le_of_eq rfl) (hb hby at_81) (fun _ _ => ⟨rfl, rfl, Nat.le_of_ble_eq_true rfl, Nat.le_of_ble_eq_true rfl⟩)
        dsimp only [Pt.U, Pt.locs, Pt.cells, Pt.slots] at X225 l225 y225 z225 st225 hQ225
        subst l225 y225 z225
        obtain ⟨rfl, Nq225, hh225⟩ := hQ225
        have N225 := Fr.app N223 Nq225
        refine Go.by (B := (T225.setTop (mkF m 84 #[.val (.int p1), .val (.int p2), .val (.int p3), .val (.long q4), .second, .val (.int p5), .val (.int v117), .val (.ref o118), .val (.ref b200), .val (.ref b214), .val (.ref b216), .val (.int 0)] [(.int 0)]))) (fun _ k => st225.trans k) ?_
        refine Go.by (B := (T225.setTop (mkF m 91 #[.val (.int p1), .val (.int p2), .val (.int p3), .val (.long q4), .second, .val (.int p5), .val (.int v117), .val (.ref o118), .val (.ref b200), .val (.ref b214), .val (.ref b216), .val (.int 0)] [(.ref b216)]))) (fun _ k => XS.iload X225.here hx rfl (hb hby at_84) rfl (XS.icmpNo X225.here hx rfl (hb hby at_86) rfl (teq (by decide : (0 : Int32) = (0 : Int32))).2 (XS.aload X225.here hx rfl (hb hby at_89) rfl rfl k))) ?_
        obtain ⟨cq226, kq226, q226a, q226b, q226c⟩ := isOf hZ hh225 p223_0
        obtain ⟨_, _, ⟨T226, L226, k226, n226⟩, -, X226, ⟨Lc226, hQ226, l226, y226, z226⟩, st226⟩ := X225.virtualBack hx (y := (⟨"com/example/breakwater/breakwater/engine/Result", "getOutcome", "()Lcom/example/breakwater/breakwater/engine/Outcome;"⟩ : MethodName)) (z := (⟨"com/example/breakwater/breakwater/engine/Result", "getOutcome", "()Lcom/example/breakwater/breakwater/engine/Outcome;"⟩ : MethodName)) hown (mvT hZ (wd hw 33 rfl)) (mvT hZ (wd hw 34 rfl)) (notFace_of_selects (args := #[]) (mvT hZ (wd hw 36 rfl))) (mvT hZ (wd hw 36 rfl)) (mvT hZ (wd hw 35 rfl)) (by decide) (backOf (W := 0) (rm_getO l Z a0 hw [] b216 o118 T223.heap n0 Z224 p223_1) hZ (wd hw 37 rfl) (wd hw 10 rfl) (by decide) (by decide)) q226a q226c (g := (mkF m 91 #[.val (.int p1), .val (.int p2), .val (.int p3), .val (.long q4), .second, .val (.int p5), .val (.int v117), .val (.ref o118), .val (.ref b200), .val (.ref b214), .val (.ref b216), .val (.int 0)] [(.ref b216)])) rfl (by rw [hml]; rfl) (Steps.refl _) (argsL := []) (rest := []) (lenOf pd_6 rfl) rfl (by show 2 * 0 + _ ≤ _; exact Nat.le_of_eq rfl) (hb hby at_91) (fun _ _ => ⟨rfl, hh225, Nat.le_of_ble_eq_true rfl, Nat.le_of_ble_eq_true rfl⟩)
        dsimp only [Pt.U, Pt.locs, Pt.cells, Pt.slots] at X226 l226 y226 z226 st226 hQ226
        subst l226 y226 z226
        obtain ⟨rfl, Nq226, hh226⟩ := hQ226
        have N226 := Fr.app N225 Nq226
        refine Go.by (B := (T226.setTop (mkF m 94 #[.val (.int p1), .val (.int p2), .val (.int p3), .val (.long q4), .second, .val (.int p5), .val (.int v117), .val (.ref o118), .val (.ref b200), .val (.ref b214), .val (.ref b216), .val (.int 0)] [(.ref o118)]))) (fun _ k => st226.trans k) ?_
        refine Go.by (B := (T226.setTop (mkF m 104 #[.val (.int p1), .val (.int p2), .val (.int p3), .val (.long q4), .second, .val (.int p5), .val (.int v117), .val (.ref o118), .val (.ref b200), .val (.ref b214), .val (.ref b216), .val (.int 0)] [(.int 1)]))) (fun _ k => XS.aload X226.here hx rfl (hb hby at_94) rfl rfl (Jvm.RoadKit.acmp (g := (mkF m 96 #[.val (.int p1), .val (.int p2), .val (.int p3), .val (.long q4), .second, .val (.int p5), .val (.int v117), .val (.ref o118), .val (.ref b200), .val (.ref b214), .val (.ref b216), .val (.int 0)] [(.ref o118), (.ref o118)])) X226 hx rfl rfl rfl (pc0 := 96) (pc' := 99) (same := true) rfl (hb hby at_96) rfl (decide_eq_true rfl) (by decide) (by decide) (XS.iconst X226.here hx rfl (hb hby at_99) (XS.goto X226.here hx rfl (pc0 := 100) (pc' := 104) rfl (hb hby at_100) (by decide) (by decide) k)))) ?_
        refine Go.ret X226 hx hlk (t := .boolean) hret rfl (Or.inl ⟨rfl, by simp, _, rfl⟩) (hb hby at_104) (by decide) (by decide) ?_
        exact ⟨rfl, N226⟩
set_option maxRecDepth 65536 in
set_option maxHeartbeats 40000000 in
theorem comes_1 {Post : Tables → Env → Array Value → State → Outcome → State → Prop} (hpost : ∀ tb e args s v u, (limb_1_1.after args s (.returned v) u = true ∧ limb_1_2.after args s (.returned v) u = true ∧ True) → FrameEnd s (.returned v) u (Jvm.fieldLocs frame_1_writes args s ++ Jvm.arrayLocs frame_1_arrays args s ++ Jvm.staticLocs frame_1_statics s) 16 128 → Post tb e args s (.returned v) u) :
    ArmFor flags0 classFile x code maxLocals ret World_1 tables_1 room_1 Calls_1 rest_1 Pre_1 Post := by
  intro l hfl _ _ p e ha hc hk s m args below hf hA hF happ hP
  obtain ⟨hcalls, hrest, hpre⟩ := hP
  obtain ⟨-, -, -, hnamed, -, -, -, hat⟩ := (Spec.applies_iff hf).mp happ
  obtain ⟨hg, hn⟩ := and_e (Cond.before_iff.mp (show (Jvm.Cond.and given_1 narrow_1).before args s = true from hpre))
  obtain ⟨hg0, hgr0⟩ := and_e hg
  obtain ⟨ga0, hgr1⟩ := and_e hgr0
  obtain ⟨ga1, hgr2⟩ := and_e hgr1
  obtain ⟨ga2, hgr3⟩ := and_e hgr2
  obtain ⟨ga3, hgr4⟩ := and_e hgr3
  obtain ⟨w0, w1, w2, w3, w4, rfl⟩ : ∃ w0 w1 w2 w3 w4 : Value, args = #[w0, w1, w2, w3, w4] := by
    have hs : args.size = 5 := by simpa [Cond.value, given_1] using hg0
    obtain ⟨L⟩ := args
    match L, hs with
    | [w0, w1, w2, w3, w4], _ => exact ⟨w0, w1, w2, w3, w4, rfl⟩
  have hw := fun d (hd : d ∈ tables_1) => atoms_spec (ws := Jvm.Cond.code x code maxLocals ret :: tables_1) hat d (List.mem_cons_of_mem _ hd)
  have hfit : Fit s := fun {y c} hc i hi => by
    obtain ⟨ha, rfl⟩ := Array.getElem?_eq_some_iff.mp hc
    have q := List.all_eq_true.mp ((Array.all_eq_true_iff_forall_mem.mp hF) _ (Array.getElem_mem ha)) i (List.mem_range.mpr hi)
    simpa [Array.getElem?_eq_getElem hi] using q
  obtain ⟨hsets, hown0⟩ := atoms_of _ (rest_1_c_eq ▸ (show rest_1_c.before _ s = true from hrest))
  have hr0 := Cond.before_iff.mp hown0
  obtain ⟨i0, ei0⟩ := is_v ga0
  obtain rfl : w0 = (.int i0) := Option.some.inj ei0
  obtain ⟨i1, ei1⟩ := is_v ga1
  obtain rfl : w1 = (.int i1) := Option.some.inj ei1
  obtain ⟨i2, ei2⟩ := is_v ga2
  obtain rfl : w2 = (.int i2) := Option.some.inj ei2
  obtain ⟨i3, ei3⟩ := isL_v ga3
  obtain rfl : w3 = (.long i3) := Option.some.inj ei3
  obtain ⟨i4, ei4⟩ := is_v hgr4
  obtain rfl : w4 = (.int i4) := Option.some.inj ei4
  obtain ⟨hn227, hn228⟩ := and_e hn
  obtain ⟨hn229, hn230⟩ := and_e hn228
  obtain ⟨hn231, hn232⟩ := and_e hn230
  obtain ⟨hn233, hn234⟩ := and_e hn232
  obtain ⟨hn235, hn236⟩ := and_e hn234
  obtain ⟨hn237, hn238⟩ := and_e hn236
  obtain ⟨hn239, hn240⟩ := and_e hn238
  obtain ⟨hn241, hn242⟩ := and_e hn240
  obtain ⟨hn243, hn244⟩ := and_e hn242
  obtain ⟨hn245, hn246⟩ := and_e hn244
  obtain ⟨hn247, hn248⟩ := and_e hn246
  obtain ⟨w_OK, ev_w_OK⟩ := exa_v hn227
  have S_w_OK : Sta s s.heap "com/example/breakwater/breakwater/engine/Outcome" "OK" "Lcom/example/breakwater/breakwater/engine/Outcome;" (.ref w_OK) := Sta.start ev_w_OK (Or.inr ⟨(wd hw 6 rfl), (wd hw 7 rfl)⟩)
  have E_w_OK := Exa.start ev_w_OK hn227
  obtain ⟨w_TEMPORARY, ev_w_TEMPORARY⟩ := exa_v hn229
  have S_w_TEMPORARY : Sta s s.heap "com/example/breakwater/breakwater/engine/Outcome" "TEMPORARY" "Lcom/example/breakwater/breakwater/engine/Outcome;" (.ref w_TEMPORARY) := Sta.start ev_w_TEMPORARY (Or.inr ⟨(wd hw 6 rfl), (wd hw 39 rfl)⟩)
  have E_w_TEMPORARY := Exa.start ev_w_TEMPORARY hn229
  obtain ⟨w_PERMANENT, ev_w_PERMANENT⟩ := exa_v hn235
  have S_w_PERMANENT : Sta s s.heap "com/example/breakwater/breakwater/engine/Outcome" "PERMANENT" "Lcom/example/breakwater/breakwater/engine/Outcome;" (.ref w_PERMANENT) := Sta.start ev_w_PERMANENT (Or.inr ⟨(wd hw 6 rfl), (wd hw 69 rfl)⟩)
  have E_w_PERMANENT := Exa.start ev_w_PERMANENT hn235
  obtain ⟨w_UNAVAILABLE, ev_w_UNAVAILABLE⟩ := exa_v hn239
  have S_w_UNAVAILABLE : Sta s s.heap "com/example/breakwater/breakwater/engine/Outcome" "UNAVAILABLE" "Lcom/example/breakwater/breakwater/engine/Outcome;" (.ref w_UNAVAILABLE) := Sta.start ev_w_UNAVAILABLE (Or.inr ⟨(wd hw 6 rfl), (wd hw 81 rfl)⟩)
  have E_w_UNAVAILABLE := Exa.start ev_w_UNAVAILABLE hn239
  obtain ⟨w_CIRCUIT_OPEN, ev_w_CIRCUIT_OPEN⟩ := exa_v hn243
  have S_w_CIRCUIT_OPEN : Sta s s.heap "com/example/breakwater/breakwater/engine/Outcome" "CIRCUIT_OPEN" "Lcom/example/breakwater/breakwater/engine/Outcome;" (.ref w_CIRCUIT_OPEN) := Sta.start ev_w_CIRCUIT_OPEN (Or.inr ⟨(wd hw 6 rfl), (wd hw 83 rfl)⟩)
  have E_w_CIRCUIT_OPEN := Exa.start ev_w_CIRCUIT_OPEN hn243
  obtain ⟨w_TIMEOUT, ev_w_TIMEOUT⟩ := exa_v hn247
  have S_w_TIMEOUT : Sta s s.heap "com/example/breakwater/breakwater/engine/Outcome" "TIMEOUT" "Lcom/example/breakwater/breakwater/engine/Outcome;" (.ref w_TIMEOUT) := Sta.start ev_w_TIMEOUT (Or.inr ⟨(wd hw 6 rfl), (wd hw 87 rfl)⟩)
  have E_w_TIMEOUT := Exa.start ev_w_TIMEOUT hn247
  have F_w_TEMPORARY_ordinal : Fld s s.heap w_TEMPORARY "java/lang/Enum" "ordinal" "I" (.int 4) := Fld.start ((fld_at ev_w_TEMPORARY).symm.trans (own_eqk hn231))
  have F_w_OK_ordinal : Fld s s.heap w_OK "java/lang/Enum" "ordinal" "I" (.int 0) := Fld.start ((fld_at ev_w_OK).symm.trans (own_eqk hn233))
  have F_w_PERMANENT_ordinal : Fld s s.heap w_PERMANENT "java/lang/Enum" "ordinal" "I" (.int 5) := Fld.start ((fld_at ev_w_PERMANENT).symm.trans (own_eqk hn237))
  have F_w_UNAVAILABLE_ordinal : Fld s s.heap w_UNAVAILABLE "java/lang/Enum" "ordinal" "I" (.int 2) := Fld.start ((fld_at ev_w_UNAVAILABLE).symm.trans (own_eqk hn241))
  have F_w_CIRCUIT_OPEN_ordinal : Fld s s.heap w_CIRCUIT_OPEN "java/lang/Enum" "ordinal" "I" (.int 1) := Fld.start ((fld_at ev_w_CIRCUIT_OPEN).symm.trans (own_eqk hn245))
  have F_w_TIMEOUT_ordinal : Fld s s.heap w_TIMEOUT "java/lang/Enum" "ordinal" "I" (.int 3) := Fld.start ((fld_at ev_w_TIMEOUT).symm.trans (own_eqk hn248))
  have Shigh : Sta s s.heap "java/lang/Integer$IntegerCache" "high" "I" (.int 127) := Sta.start (own_eqk (Cond.before_iff.mp (hsets _ (List.mem_of_getElem? (i := 3) rfl)))) (Or.inl (hsets _ (List.mem_of_getElem? (i := 1) rfl)))
  obtain ⟨wc_I, ev_I⟩ := exa_v (Cond.before_iff.mp (hsets _ (List.mem_of_getElem? (i := 5) rfl)))
  have S_I : Sta s s.heap "java/lang/Integer$IntegerCache" "cache" "[Ljava/lang/Integer;" (.ref wc_I) := Sta.start ev_I (Or.inr ⟨(wd hw 45 rfl), (hsets _ (List.mem_of_getElem? (i := 2) rfl))⟩)
  obtain ⟨cl_I, A_I⟩ := Arr.start ev_I (Cond.before_iff.mp (hsets _ (List.mem_of_getElem? (i := 4) rfl)))
  have sz_I := own_size256 ev_I A_I (Cond.before_iff.mp (hsets _ (List.mem_of_getElem? (i := 6) rfl)))
  have at_I : s.arrayAt? wc_I = some cl_I := A_I.fin (State.Warmed39.refl s).alike
  have el_I : ∀ j : Int32, ¬ j < 0 → j.toNatClampNeg < 256 → ∃ b, cl_I.slots[j.toNatClampNeg]? = some (.ref b) ∧ Exa s s.heap b "java/lang/Integer" ∧ Fld s s.heap b "java/lang/Integer" "value" "I" (.int (j - 128)) := fun j hj hj1 => by
    have q := Cond.all_elim ev_I at_I (Cond.before_iff.mp (hsets _ (List.mem_of_getElem? (i := 7) rfl))) j.toNatClampNeg (by rw [sz_I]; exact hj1)
    obtain ⟨q1, q2⟩ := and_e q
    obtain ⟨b, eb⟩ := exa_v q1
    have hi : ∀ A : Array Value, (Term.index 0).eval A s none [j.toNatClampNeg] s = some (.int j) := fun A => idx_at hj
    have hu := own_eqI (k := j - 128) q2 (by simp [Term.eval, hi, (back32 hj).1])
    exact ⟨b, (elem_in eb ev_I (hi _) A_I.1).2, exa_at eb q1, Fld.start ((fld_at eb).symm.trans hu)⟩
  obtain ⟨wc_L, ev_L⟩ := exa_v (Cond.before_iff.mp (hsets _ (List.mem_of_getElem? (i := 11) rfl)))
  have S_L : Sta s s.heap "java/lang/Long$LongCache" "cache" "[Ljava/lang/Long;" (.ref wc_L) := Sta.start ev_L (Or.inl (hsets _ (List.mem_of_getElem? (i := 9) rfl)))
  obtain ⟨cl_L, A_L⟩ := Arr.start ev_L (Cond.before_iff.mp (hsets _ (List.mem_of_getElem? (i := 10) rfl)))
  have sz_L := own_size256 ev_L A_L (Cond.before_iff.mp (hsets _ (List.mem_of_getElem? (i := 12) rfl)))
  have at_L : s.arrayAt? wc_L = some cl_L := A_L.fin (State.Warmed39.refl s).alike
  have el_L : ∀ j : Int32, ¬ j < 0 → j.toNatClampNeg < 256 → ∃ b, cl_L.slots[j.toNatClampNeg]? = some (.ref b) ∧ Exa s s.heap b "java/lang/Long" ∧ Fld s s.heap b "java/lang/Long" "value" "J" (.long (j - 128).toInt64) := fun j hj hj1 => by
    have q := Cond.all_elim ev_L at_L (Cond.before_iff.mp (hsets _ (List.mem_of_getElem? (i := 13) rfl))) j.toNatClampNeg (by rw [sz_L]; exact hj1)
    obtain ⟨q1, q2⟩ := and_e q
    obtain ⟨b, eb⟩ := exa_v q1
    have hi : ∀ A : Array Value, (Term.index 0).eval A s none [j.toNatClampNeg] s = some (.int j) := fun A => idx_at hj
    have hu := own_eqL (k := (j - 128).toInt64) q2 (by simp [Term.eval, hi, Unary.apply, (back32 hj).1])
    exact ⟨b, (elem_in eb ev_L (hi _) A_L.1).2, exa_at eb q1, Fld.start ((fld_at eb).symm.trans hu)⟩
  obtain ⟨n, o, h1, h2, h3, _, L, rfl, ⟨rfl, N⟩, hq⟩ := rm0 l s _ hw tables_1 i0 i1 i2 i3 i4 w_OK w_CIRCUIT_OPEN w_UNAVAILABLE w_TIMEOUT w_TEMPORARY w_PERMANENT wc_I cl_I wc_L cl_L s.heap s.heap.size (Nat.le_refl _) (Old.start s) S_w_OK S_w_CIRCUIT_OPEN S_w_UNAVAILABLE S_w_TIMEOUT S_w_TEMPORARY S_w_PERMANENT (Fld.ne F_w_CIRCUIT_OPEN_ordinal F_w_OK_ordinal (by decide)) (Fld.ne F_w_UNAVAILABLE_ordinal F_w_OK_ordinal (by decide)) (Fld.ne F_w_TIMEOUT_ordinal F_w_OK_ordinal (by decide)) (Fld.ne F_w_TEMPORARY_ordinal F_w_OK_ordinal (by decide)) (Fld.ne F_w_PERMANENT_ordinal F_w_OK_ordinal (by decide)) S_I A_I sz_I el_I Shigh S_L A_L sz_L el_L p e ha hc hk s m _ below hf ((Spec.applies_iff_loose hf).mp happ).1 ⟨rfl, State.Warmed39.refl s, rfl⟩ trivial
  refine ⟨n, _, h1, h2, h3, hpost _ _ _ _ _ _ ⟨Cond.after_iff.mpr rfl, Cond.after_iff.mpr (eq_i res_at (Term.int_eval (1)) rfl), trivial⟩ ⟨hq.1, hq.2.1, (hq.2.2.sift fun y hy => Or.inr (N y hy)).mono (by decide) (by decide)⟩⟩
theorem main_1_1 : Claimed_1_1 := comes_1 fun _ _ _ _ _ _ h hF => ⟨h.1, hF⟩
theorem main_1_2 : Claimed_1_2 := comes_1 fun _ _ _ _ _ _ h hF => ⟨h.2.1, hF⟩
end Jvm.Pilot.@@N@@
namespace Jvm.Pilot.@@N@@
open Jvm Jvm.ClassFile Sem Op Lib Jvm.Free Jvm.Stand Jvm.Pilot.@@N@@.Jvm.D
/-! MADE BY PROGRAM (witnessworld.py) out of the Statement's table words and the real class files: 21 classes; the members and pool entries that the words name. The judged class is class 1, her method 2. -/
namespace start1
open Jvm.ClassFile
def u (s : String) : CpInfo := .utf8 (stringToUtf16 s)
/-- a pool by its gaps: so many unusable entries, then the entry; so many at the end -/
def gap : Nat → List CpInfo → List CpInfo
  | 0, r => r
  | n + 1, r => .unusable :: gap n r
def poolList (es : List (Nat × CpInfo)) (last : Nat) : List CpInfo := es.foldr (fun e r => gap e.1 (e.2 :: r)) (gap last [])
def pool (es : List (Nat × CpInfo)) (last : Nat) : Array CpInfo := ⟨poolList es last⟩
def fileOf (pool : Array CpInfo) (this : Nat) (attrs : Array Attribute := #[]) (ms : Array MethodInfo := #[]) (fl : Nat := 33) (sup : Nat := 0) (ifs : Array Nat := #[]) (fds : Array FieldInfo := #[]) : ClassFile where
  minorVersion := 0
  majorVersion := 65
  constantPool := pool
  accessFlags := fl
  thisClass := this
  superClass := sup
  interfaces := ifs
  fields := fds
  methods := ms
  attributes := attrs
def plain (name : String) (sup : Option ClassId) : Class where
  name := name
  kind := .ordinary
  loader := none
  accessFlags := 33
  super := sup
  interfaces := #[]
  cf := none
  fields := #[]
  methods := #[]
  instanceTypes := #[]
  staticTypes := #[]
  resolved := #[]
  callSites := []
  init := .initialized
  statics := none
  mirror := none

def pool0 : Array CpInfo := pool [(5, u "<init>"), (0, u "()V"), (1, .class_ 10), (1, u "java/lang/Object")] 113

def k0c0 : Code := { maxStack := 0, maxLocals := 1, code := object_method_1_code, exceptionTable := #[], attributes := #[] }
def k0m0 : Method := { name := "<init>", desc := "()V", sig := { parameters := [], returnType := none }, accessFlags := 1, code := some k0c0 }
/-- java/lang/Object -/
def k0 : Class := { plain "java/lang/Object" none with
  accessFlags := 33
  interfaces := #[]
  cf := some (fileOf pool0 8 #[] #[{ accessFlags := 1, nameIndex := 5, descriptorIndex := 6, attributes := #[] }] 33 0 #[] #[])
  fields := #[]
  methods := #[k0m0]
  instanceTypes := #[]
  staticTypes := #[]
  resolved := Array.replicate 124 none
  statics := none }

def pool1 : Array CpInfo := pool [(2, .class_ 4), (1, u "java/lang/Object"), (0, u "<init>"), (0, u "()V"), (0, .fieldref 8 9), (0, .class_ 10), (0, .nameAndType 11 12), (0, u "com/example/breakwater/breakwater/engine/Outcome"), (0, u "OK"), (0, u "Lcom/example/breakwater/breakwater/engine/Outcome;"), (0, .fieldref 8 14), (0, .nameAndType 15 12), (0, u "CIRCUIT_OPEN"), (0, .fieldref 8 17), (0, .nameAndType 18 12), (0, u "UNAVAILABLE"), (0, .fieldref 8 20), (0, .nameAndType 21 12), (0, u "TIMEOUT"), (0, .fieldref 8 23), (0, .nameAndType 24 12), (0, u "TEMPORARY"), (0, .fieldref 8 26), (0, .nameAndType 27 12), (0, u "PERMANENT"), (0, .integer 2147483647), (0, .methodref 30 31), (0, .class_ 32), (0, .nameAndType 33 34), (0, u "com/example/breakwater/breakwater/engine/ResultIsDeliveredPinLaw"), (0, u "pick"), (0, u "(I)Lcom/example/breakwater/breakwater/engine/Outcome;"), (0, .methodref 36 37), (0, .class_ 38), (0, .nameAndType 39 40), (0, u "java/lang/Integer"), (0, u "valueOf"), (0, u "(I)Ljava/lang/Integer;"), (0, .methodref 42 43), (0, .class_ 44), (0, .nameAndType 39 45), (0, u "java/lang/Long"), (0, u "(J)Ljava/lang/Long;"), (0, .class_ 47), (0, u "com/example/breakwater/breakwater/engine/Result"), (0, .methodref 46 49), (0, .nameAndType 5 50), (0, u "(Lcom/example/breakwater/breakwater/engine/Outcome;Lcom/example/breakwater/breakwater/engine/Address;ILjava/lang/Object;Ljava/lang/Object;)V"), (0, .methodref 46 52), (0, .nameAndType 53 54), (0, u "isDelivered"), (0, u "()Z"), (0, .methodref 46 56), (0, .nameAndType 57 58), (0, u "getOutcome"), (0, u "()Lcom/example/breakwater/breakwater/engine/Outcome;"), (3, u "law"), (0, u "(IIIJI)Z")] 2

def k1m0 : Method := { name := "<init>", desc := "()V", sig := { parameters := [], returnType := none }, accessFlags := 1, code := none }
def k1c1 : Code := { maxStack := 2, maxLocals := 1, code := method_2_code, exceptionTable := #[], attributes := #[] }
def k1m1 : Method := { name := "pick", desc := "(I)Lcom/example/breakwater/breakwater/engine/Outcome;", sig := { parameters := [.int], returnType := some (.object "com/example/breakwater/breakwater/engine/Outcome") }, accessFlags := 10, code := some k1c1 }
def k1c2 : Code := { maxStack := 7, maxLocals := 12, code := code, exceptionTable := #[], attributes := #[] }
def k1m2 : Method := { name := "law", desc := "(IIIJI)Z", sig := { parameters := [.int, .int, .int, .long, .int], returnType := some .boolean }, accessFlags := 9, code := some k1c2 }
/-- com/example/breakwater/breakwater/engine/ResultIsDeliveredPinLaw -/
def k1 : Class := { plain "com/example/breakwater/breakwater/engine/ResultIsDeliveredPinLaw" (some 0) with
  accessFlags := 49
  interfaces := #[]
  cf := some (fileOf pool1 30 #[] #[{ accessFlags := 1, nameIndex := 5, descriptorIndex := 6, attributes := #[] }, { accessFlags := 10, nameIndex := 33, descriptorIndex := 34, attributes := #[] }, { accessFlags := 9, nameIndex := 62, descriptorIndex := 63, attributes := #[] }] 49 2 #[] #[])
  fields := #[]
  methods := #[k1m0, k1m1, k1m2]
  instanceTypes := #[]
  staticTypes := #[]
  resolved := Array.replicate 66 none
  statics := none }

def pool2 : Array CpInfo := pool [(1, .class_ 2), (0, u "java/lang/constant/Constable"), (0, .class_ 4), (0, u "java/lang/Object")] 6

/-- java/lang/constant/Constable -/
def k2 : Class := { plain "java/lang/constant/Constable" (some 0) with
  accessFlags := 1537
  interfaces := #[]
  cf := some (fileOf pool2 1 #[] #[] 1537 3 #[] #[])
  fields := #[]
  methods := #[]
  instanceTypes := #[]
  staticTypes := #[]
  resolved := Array.replicate 11 none
  statics := none }

def pool3 : Array CpInfo := pool [(1, .class_ 2), (0, u "java/lang/Comparable"), (0, .class_ 4), (0, u "java/lang/Object")] 7

/-- java/lang/Comparable -/
def k3 : Class := { plain "java/lang/Comparable" (some 0) with
  accessFlags := 1537
  interfaces := #[]
  cf := some (fileOf pool3 1 #[] #[] 1537 3 #[] #[])
  fields := #[]
  methods := #[]
  instanceTypes := #[]
  staticTypes := #[]
  resolved := Array.replicate 12 none
  statics := none }

def pool4 : Array CpInfo := pool [(1, .class_ 2), (0, u "java/io/Serializable"), (0, .class_ 4), (0, u "java/lang/Object")] 2

/-- java/io/Serializable -/
def k4 : Class := { plain "java/io/Serializable" (some 0) with
  accessFlags := 1537
  interfaces := #[]
  cf := some (fileOf pool4 1 #[] #[] 1537 3 #[] #[])
  fields := #[]
  methods := #[]
  instanceTypes := #[]
  staticTypes := #[]
  resolved := Array.replicate 7 none
  statics := none }

def pool5 : Array CpInfo := pool [(2, .class_ 4), (1, u "java/lang/Enum"), (0, u "name"), (0, u "Ljava/lang/String;"), (2, u "ordinal"), (0, u "I"), (1, .class_ 14), (1, u "java/lang/Object"), (4, u "hash"), (86, .class_ 108), (1, u "java/lang/Enum$EnumDesc"), (2, .class_ 112), (0, u "java/lang/constant/Constable"), (0, .class_ 114), (0, u "java/lang/Comparable"), (0, .class_ 116), (0, u "java/io/Serializable")] 87

/-- java/lang/Enum -/
def k5 : Class := { plain "java/lang/Enum" (some 0) with
  accessFlags := 1057
  interfaces := #[2, 3, 4]
  cf := some (fileOf pool5 2 #[.nestMembers #[106]] #[] 1057 12 #[111, 113, 115] #[{ accessFlags := 18, nameIndex := 5, descriptorIndex := 6, attributes := #[] }, { accessFlags := 18, nameIndex := 9, descriptorIndex := 10, attributes := #[] }, { accessFlags := 2, nameIndex := 19, descriptorIndex := 10, attributes := #[] }])
  fields := #[{ name := "name", type := (.object "java/lang/String"), accessFlags := 18, slot := 0, constantValue := 0 }, { name := "ordinal", type := .int, accessFlags := 18, slot := 1, constantValue := 0 }, { name := "hash", type := .int, accessFlags := 2, slot := 2, constantValue := 0 }]
  methods := #[]
  instanceTypes := #[(.object "java/lang/String"), .int, .int]
  staticTypes := #[]
  resolved := Array.replicate 204 none
  statics := none }

def pool6 : Array CpInfo := pool [(1, .class_ 2), (0, u "com/example/breakwater/breakwater/engine/Outcome"), (2, u "OK"), (0, u "Lcom/example/breakwater/breakwater/engine/Outcome;"), (2, u "CIRCUIT_OPEN"), (2, u "UNAVAILABLE"), (2, u "TIMEOUT"), (2, u "TEMPORARY"), (2, u "PERMANENT"), (2, u "$VALUES"), (0, u "[Lcom/example/breakwater/breakwater/engine/Outcome;"), (6, .class_ 34), (1, u "java/lang/Enum"), (8, u "label"), (0, u "Ljava/lang/String;"), (2, u "counted"), (0, u "Z"), (2, u "retried"), (2, u "failedOver")] 43

/-- com/example/breakwater/breakwater/engine/Outcome -/
def k6 : Class := { plain "com/example/breakwater/breakwater/engine/Outcome" (some 5) with
  accessFlags := 16433
  interfaces := #[]
  cf := some (fileOf pool6 1 #[] #[] 16433 32 #[] #[{ accessFlags := 16409, nameIndex := 5, descriptorIndex := 6, attributes := #[] }, { accessFlags := 16409, nameIndex := 9, descriptorIndex := 6, attributes := #[] }, { accessFlags := 16409, nameIndex := 12, descriptorIndex := 6, attributes := #[] }, { accessFlags := 16409, nameIndex := 15, descriptorIndex := 6, attributes := #[] }, { accessFlags := 16409, nameIndex := 18, descriptorIndex := 6, attributes := #[] }, { accessFlags := 16409, nameIndex := 21, descriptorIndex := 6, attributes := #[] }, { accessFlags := 18, nameIndex := 43, descriptorIndex := 44, attributes := #[] }, { accessFlags := 18, nameIndex := 47, descriptorIndex := 48, attributes := #[] }, { accessFlags := 18, nameIndex := 51, descriptorIndex := 48, attributes := #[] }, { accessFlags := 18, nameIndex := 54, descriptorIndex := 48, attributes := #[] }, { accessFlags := 4122, nameIndex := 24, descriptorIndex := 25, attributes := #[] }])
  fields := #[{ name := "OK", type := (.object "com/example/breakwater/breakwater/engine/Outcome"), accessFlags := 16409, slot := 0, constantValue := 0 }, { name := "CIRCUIT_OPEN", type := (.object "com/example/breakwater/breakwater/engine/Outcome"), accessFlags := 16409, slot := 1, constantValue := 0 }, { name := "UNAVAILABLE", type := (.object "com/example/breakwater/breakwater/engine/Outcome"), accessFlags := 16409, slot := 2, constantValue := 0 }, { name := "TIMEOUT", type := (.object "com/example/breakwater/breakwater/engine/Outcome"), accessFlags := 16409, slot := 3, constantValue := 0 }, { name := "TEMPORARY", type := (.object "com/example/breakwater/breakwater/engine/Outcome"), accessFlags := 16409, slot := 4, constantValue := 0 }, { name := "PERMANENT", type := (.object "com/example/breakwater/breakwater/engine/Outcome"), accessFlags := 16409, slot := 5, constantValue := 0 }, { name := "label", type := (.object "java/lang/String"), accessFlags := 18, slot := 3, constantValue := 0 }, { name := "counted", type := .boolean, accessFlags := 18, slot := 4, constantValue := 0 }, { name := "retried", type := .boolean, accessFlags := 18, slot := 5, constantValue := 0 }, { name := "failedOver", type := .boolean, accessFlags := 18, slot := 6, constantValue := 0 }, { name := "$VALUES", type := (.array (.object "com/example/breakwater/breakwater/engine/Outcome")), accessFlags := 4122, slot := 6, constantValue := 0 }]
  methods := #[]
  instanceTypes := #[(.object "java/lang/String"), .int, .int, (.object "java/lang/String"), .boolean, .boolean, .boolean]
  staticTypes := #[(.object "com/example/breakwater/breakwater/engine/Outcome"), (.object "com/example/breakwater/breakwater/engine/Outcome"), (.object "com/example/breakwater/breakwater/engine/Outcome"), (.object "com/example/breakwater/breakwater/engine/Outcome"), (.object "com/example/breakwater/breakwater/engine/Outcome"), (.object "com/example/breakwater/breakwater/engine/Outcome"), (.array (.object "com/example/breakwater/breakwater/engine/Outcome"))]
  resolved := Array.replicate 98 none
  statics := some 0 }

def pool7 : Array CpInfo := pool [(1, .methodref 2 3), (0, .class_ 4), (0, .nameAndType 5 6), (0, u "java/lang/Object"), (0, u "<init>"), (0, u "()V"), (0, .fieldref 8 9), (0, .class_ 10), (0, .nameAndType 11 12), (0, u "com/example/breakwater/breakwater/engine/Result"), (0, u "outcome"), (0, u "Lcom/example/breakwater/breakwater/engine/Outcome;"), (0, .fieldref 8 14), (0, .nameAndType 15 16), (0, u "destination"), (0, u "Lcom/example/breakwater/breakwater/engine/Address;"), (0, .fieldref 8 18), (0, .nameAndType 19 20), (0, u "attempts"), (0, u "I"), (0, .fieldref 8 22), (0, .nameAndType 23 24), (0, u "value"), (0, u "Ljava/lang/Object;"), (0, .fieldref 8 26), (0, .nameAndType 27 24), (0, u "error"), (0, .fieldref 29 30), (0, .class_ 31), (0, .nameAndType 32 12), (0, u "com/example/breakwater/breakwater/engine/Outcome"), (0, u "OK"), (29, u "(Lcom/example/breakwater/breakwater/engine/Outcome;Lcom/example/breakwater/breakwater/engine/Address;ILjava/lang/Object;Ljava/lang/Object;)V"), (3, u "getOutcome"), (0, u "()Lcom/example/breakwater/breakwater/engine/Outcome;"), (0, u "isDelivered"), (0, u "()Z")] 28

def k7c0 : Code := { maxStack := 2, maxLocals := 6, code := prog_18_method_1_code, exceptionTable := #[], attributes := #[] }
def k7m0 : Method := { name := "<init>", desc := "(Lcom/example/breakwater/breakwater/engine/Outcome;Lcom/example/breakwater/breakwater/engine/Address;ILjava/lang/Object;Ljava/lang/Object;)V", sig := { parameters := [(.object "com/example/breakwater/breakwater/engine/Outcome"), (.object "com/example/breakwater/breakwater/engine/Address"), .int, (.object "java/lang/Object"), (.object "java/lang/Object")], returnType := none }, accessFlags := 0, code := some k7c0 }
def k7c1 : Code := { maxStack := 1, maxLocals := 1, code := prog_18_method_2_code, exceptionTable := #[], attributes := #[] }
def k7m1 : Method := { name := "getOutcome", desc := "()Lcom/example/breakwater/breakwater/engine/Outcome;", sig := { parameters := [], returnType := some (.object "com/example/breakwater/breakwater/engine/Outcome") }, accessFlags := 1, code := some k7c1 }
def k7c2 : Code := { maxStack := 2, maxLocals := 1, code := prog_18_method_3_code, exceptionTable := #[], attributes := #[] }
def k7m2 : Method := { name := "isDelivered", desc := "()Z", sig := { parameters := [], returnType := some .boolean }, accessFlags := 1, code := some k7c2 }
/-- com/example/breakwater/breakwater/engine/Result -/
def k7 : Class := { plain "com/example/breakwater/breakwater/engine/Result" (some 0) with
  accessFlags := 33
  interfaces := #[]
  cf := some (fileOf pool7 8 #[] #[{ accessFlags := 0, nameIndex := 5, descriptorIndex := 62, attributes := #[] }, { accessFlags := 1, nameIndex := 66, descriptorIndex := 67, attributes := #[] }, { accessFlags := 1, nameIndex := 68, descriptorIndex := 69, attributes := #[] }] 33 2 #[] #[{ accessFlags := 18, nameIndex := 11, descriptorIndex := 12, attributes := #[] }, { accessFlags := 18, nameIndex := 15, descriptorIndex := 16, attributes := #[] }, { accessFlags := 18, nameIndex := 19, descriptorIndex := 20, attributes := #[] }, { accessFlags := 18, nameIndex := 23, descriptorIndex := 24, attributes := #[] }, { accessFlags := 18, nameIndex := 27, descriptorIndex := 24, attributes := #[] }])
  fields := #[{ name := "outcome", type := (.object "com/example/breakwater/breakwater/engine/Outcome"), accessFlags := 18, slot := 0, constantValue := 0 }, { name := "destination", type := (.object "com/example/breakwater/breakwater/engine/Address"), accessFlags := 18, slot := 1, constantValue := 0 }, { name := "attempts", type := .int, accessFlags := 18, slot := 2, constantValue := 0 }, { name := "value", type := (.object "java/lang/Object"), accessFlags := 18, slot := 3, constantValue := 0 }, { name := "error", type := (.object "java/lang/Object"), accessFlags := 18, slot := 4, constantValue := 0 }]
  methods := #[k7m0, k7m1, k7m2]
  instanceTypes := #[(.object "com/example/breakwater/breakwater/engine/Outcome"), (.object "com/example/breakwater/breakwater/engine/Address"), .int, (.object "java/lang/Object"), (.object "java/lang/Object")]
  staticTypes := #[]
  resolved := Array.replicate 98 none
  statics := none }

def pool8 : Array CpInfo := pool [(1, .methodref 2 3), (0, .class_ 4), (0, .nameAndType 5 6), (0, u "java/lang/Object"), (0, u "<init>"), (0, u "()V"), (1, .class_ 10), (1, u "java/lang/Number"), (2, .class_ 14), (0, u "java/io/Serializable"), (0, u "serialVersionUID"), (0, u "J")] 20

def k8c0 : Code := { maxStack := 1, maxLocals := 1, code := jdk_18_method_1_code, exceptionTable := #[], attributes := #[] }
def k8m0 : Method := { name := "<init>", desc := "()V", sig := { parameters := [], returnType := none }, accessFlags := 1, code := some k8c0 }
/-- java/lang/Number -/
def k8 : Class := { plain "java/lang/Number" (some 0) with
  accessFlags := 1057
  interfaces := #[4]
  cf := some (fileOf pool8 8 #[] #[{ accessFlags := 1, nameIndex := 5, descriptorIndex := 6, attributes := #[] }] 1057 2 #[13] #[{ accessFlags := 26, nameIndex := 15, descriptorIndex := 16, attributes := #[] }])
  fields := #[{ name := "serialVersionUID", type := .long, accessFlags := 26, slot := 0, constantValue := 0 }]
  methods := #[k8m0]
  instanceTypes := #[]
  staticTypes := #[.long]
  resolved := Array.replicate 37 none
  statics := none }

def pool9 : Array CpInfo := pool [(1, .class_ 2), (0, u "java/lang/constant/ConstantDesc"), (0, .class_ 4), (0, u "java/lang/Object")] 32

/-- java/lang/constant/ConstantDesc -/
def k9 : Class := { plain "java/lang/constant/ConstantDesc" (some 0) with
  accessFlags := 1537
  interfaces := #[]
  cf := some (fileOf pool9 1 #[] #[] 1537 3 #[] #[])
  fields := #[]
  methods := #[]
  instanceTypes := #[]
  staticTypes := #[]
  resolved := Array.replicate 37 none
  statics := none }

def pool10 : Array CpInfo := pool [(1, .class_ 2), (0, u "java/lang/Integer"), (16, u "digits"), (0, u "[C"), (46, u "<init>"), (17, u "DigitOnes"), (0, u "[B"), (2, u "DigitTens"), (10, .nameAndType 67 101), (0, u "()V"), (85, u "valueOf"), (0, u "(I)Ljava/lang/Integer;"), (0, .class_ 190), (0, u "java/lang/Integer$IntegerCache"), (0, .fieldref 189 192), (0, .nameAndType 193 194), (0, u "high"), (0, u "I"), (0, .fieldref 189 196), (0, .nameAndType 197 198), (0, u "cache"), (0, u "[Ljava/lang/Integer;"), (0, .methodref 1 200), (0, .nameAndType 67 201), (0, u "(I)V"), (0, .methodref 203 100), (0, .class_ 204), (0, u "java/lang/Number"), (0, .fieldref 1 206), (0, .nameAndType 207 194), (0, u "value"), (94, u "TYPE"), (0, u "Ljava/lang/Class;"), (0, .class_ 305), (0, u "java/lang/Comparable"), (0, .class_ 307), (0, u "java/lang/constant/Constable"), (0, .class_ 309), (0, u "java/lang/constant/ConstantDesc"), (0, u "MIN_VALUE"), (1, u "MAX_VALUE"), (3, u "SIZE"), (1, u "BYTES"), (1, u "serialVersionUID"), (0, u "J")] 131

def k10c0 : Code := { maxStack := 3, maxLocals := 1, code := jdk_33_method_22_code, exceptionTable := #[], attributes := #[] }
def k10m0 : Method := { name := "valueOf", desc := "(I)Ljava/lang/Integer;", sig := { parameters := [.int], returnType := some (.object "java/lang/Integer") }, accessFlags := 9, code := some k10c0 }
def k10c1 : Code := { maxStack := 2, maxLocals := 2, code := jdk_33_method_23_code, exceptionTable := #[], attributes := #[] }
def k10m1 : Method := { name := "<init>", desc := "(I)V", sig := { parameters := [.int], returnType := none }, accessFlags := 1, code := some k10c1 }
/-- java/lang/Integer -/
def k10 : Class := { plain "java/lang/Integer" (some 8) with
  accessFlags := 49
  interfaces := #[3, 2, 9]
  cf := some (fileOf pool10 1 #[.nestMembers #[189]] #[{ accessFlags := 9, nameIndex := 187, descriptorIndex := 188, attributes := #[] }, { accessFlags := 1, nameIndex := 67, descriptorIndex := 201, attributes := #[] }] 49 203 #[304, 306, 308] #[{ accessFlags := 25, nameIndex := 310, descriptorIndex := 194, attributes := #[] }, { accessFlags := 25, nameIndex := 312, descriptorIndex := 194, attributes := #[] }, { accessFlags := 25, nameIndex := 302, descriptorIndex := 303, attributes := #[] }, { accessFlags := 24, nameIndex := 19, descriptorIndex := 20, attributes := #[] }, { accessFlags := 24, nameIndex := 89, descriptorIndex := 86, attributes := #[] }, { accessFlags := 24, nameIndex := 85, descriptorIndex := 86, attributes := #[] }, { accessFlags := 18, nameIndex := 207, descriptorIndex := 194, attributes := #[] }, { accessFlags := 25, nameIndex := 316, descriptorIndex := 194, attributes := #[] }, { accessFlags := 25, nameIndex := 318, descriptorIndex := 194, attributes := #[] }, { accessFlags := 26, nameIndex := 320, descriptorIndex := 321, attributes := #[] }])
  fields := #[{ name := "MIN_VALUE", type := .int, accessFlags := 25, slot := 0, constantValue := 0 }, { name := "MAX_VALUE", type := .int, accessFlags := 25, slot := 1, constantValue := 0 }, { name := "TYPE", type := (.object "java/lang/Class"), accessFlags := 25, slot := 2, constantValue := 0 }, { name := "digits", type := (.array .char), accessFlags := 24, slot := 3, constantValue := 0 }, { name := "DigitTens", type := (.array .byte), accessFlags := 24, slot := 4, constantValue := 0 }, { name := "DigitOnes", type := (.array .byte), accessFlags := 24, slot := 5, constantValue := 0 }, { name := "value", type := .int, accessFlags := 18, slot := 0, constantValue := 0 }, { name := "SIZE", type := .int, accessFlags := 25, slot := 6, constantValue := 0 }, { name := "BYTES", type := .int, accessFlags := 25, slot := 7, constantValue := 0 }, { name := "serialVersionUID", type := .long, accessFlags := 26, slot := 8, constantValue := 0 }]
  methods := #[k10m0, k10m1]
  instanceTypes := #[.int]
  staticTypes := #[.int, .int, (.object "java/lang/Class"), (.array .char), (.array .byte), (.array .byte), .int, .int, .long]
  resolved := Array.replicate 453 none
  statics := none }

def pool11 : Array CpInfo := pool [(2, .class_ 4), (1, u "java/lang/Object"), (0, u "<init>"), (0, u "()V"), (0, .class_ 8), (0, u "java/lang/Integer"), (7, .class_ 18), (1, u "java/lang/Integer$IntegerCache"), (0, u "$assertionsDisabled"), (0, u "Z"), (26, u "high"), (0, u "I"), (8, u "archivedCache"), (0, u "[Ljava/lang/Integer;"), (12, u "cache"), (0, u "low")] 27

def k11m0 : Method := { name := "<init>", desc := "()V", sig := { parameters := [], returnType := none }, accessFlags := 2, code := none }
/-- java/lang/Integer$IntegerCache -/
def k11 : Class := { plain "java/lang/Integer$IntegerCache" (some 0) with
  accessFlags := 48
  interfaces := #[]
  cf := some (fileOf pool11 16 #[.nestHost 7] #[{ accessFlags := 2, nameIndex := 5, descriptorIndex := 6, attributes := #[] }] 48 2 #[] #[{ accessFlags := 24, nameIndex := 72, descriptorIndex := 48, attributes := #[] }, { accessFlags := 24, nameIndex := 47, descriptorIndex := 48, attributes := #[] }, { accessFlags := 24, nameIndex := 71, descriptorIndex := 58, attributes := #[] }, { accessFlags := 8, nameIndex := 57, descriptorIndex := 58, attributes := #[] }, { accessFlags := 4120, nameIndex := 19, descriptorIndex := 20, attributes := #[] }])
  fields := #[{ name := "low", type := .int, accessFlags := 24, slot := 0, constantValue := 0 }, { name := "high", type := .int, accessFlags := 24, slot := 1, constantValue := 0 }, { name := "cache", type := (.array (.object "java/lang/Integer")), accessFlags := 24, slot := 2, constantValue := 0 }, { name := "archivedCache", type := (.array (.object "java/lang/Integer")), accessFlags := 8, slot := 3, constantValue := 0 }, { name := "$assertionsDisabled", type := .boolean, accessFlags := 4120, slot := 4, constantValue := 0 }]
  methods := #[k11m0]
  instanceTypes := #[]
  staticTypes := #[.int, .int, (.array (.object "java/lang/Integer")), (.array (.object "java/lang/Integer")), .boolean]
  resolved := Array.replicate 100 none
  statics := some 1 }

def pool12 : Array CpInfo := pool [(1, .class_ 2), (0, u "java/lang/Long"), (55, .nameAndType 59 60), (0, u "<init>"), (0, u "()V"), (24, u "valueOf"), (143, u "(J)Ljava/lang/Long;"), (0, .long 18446744073709551488), (1, .long 127), (1, .fieldref 235 236), (0, .class_ 237), (0, .nameAndType 238 239), (0, u "java/lang/Long$LongCache"), (0, u "cache"), (0, u "[Ljava/lang/Long;"), (0, .methodref 1 241), (0, .nameAndType 59 242), (0, u "(J)V"), (27, .methodref 271 58), (0, .class_ 272), (0, u "java/lang/Number"), (0, .fieldref 1 274), (0, .nameAndType 275 276), (0, u "value"), (0, u "J"), (84, u "TYPE"), (0, u "Ljava/lang/Class;"), (0, .class_ 364), (0, u "java/lang/Comparable"), (0, .class_ 366), (0, u "java/lang/constant/Constable"), (0, .class_ 368), (0, u "java/lang/constant/ConstantDesc"), (0, u "MIN_VALUE"), (1, u "MAX_VALUE"), (4, u "SIZE"), (0, u "I"), (1, u "BYTES"), (1, u "serialVersionUID")] 142

def k12c0 : Code := { maxStack := 4, maxLocals := 3, code := jdk_35_method_24_code, exceptionTable := #[], attributes := #[] }
def k12m0 : Method := { name := "valueOf", desc := "(J)Ljava/lang/Long;", sig := { parameters := [.long], returnType := some (.object "java/lang/Long") }, accessFlags := 9, code := some k12c0 }
def k12c1 : Code := { maxStack := 3, maxLocals := 3, code := jdk_35_method_26_code, exceptionTable := #[], attributes := #[] }
def k12m1 : Method := { name := "<init>", desc := "(J)V", sig := { parameters := [.long], returnType := none }, accessFlags := 1, code := some k12c1 }
/-- java/lang/Long -/
def k12 : Class := { plain "java/lang/Long" (some 8) with
  accessFlags := 49
  interfaces := #[3, 2, 9]
  cf := some (fileOf pool12 1 #[.nestMembers #[235]] #[{ accessFlags := 9, nameIndex := 85, descriptorIndex := 229, attributes := #[] }, { accessFlags := 1, nameIndex := 59, descriptorIndex := 242, attributes := #[] }] 49 271 #[363, 365, 367] #[{ accessFlags := 25, nameIndex := 369, descriptorIndex := 276, attributes := #[] }, { accessFlags := 25, nameIndex := 371, descriptorIndex := 276, attributes := #[] }, { accessFlags := 25, nameIndex := 361, descriptorIndex := 362, attributes := #[] }, { accessFlags := 18, nameIndex := 275, descriptorIndex := 276, attributes := #[] }, { accessFlags := 25, nameIndex := 376, descriptorIndex := 377, attributes := #[] }, { accessFlags := 25, nameIndex := 379, descriptorIndex := 377, attributes := #[] }, { accessFlags := 26, nameIndex := 381, descriptorIndex := 276, attributes := #[] }])
  fields := #[{ name := "MIN_VALUE", type := .long, accessFlags := 25, slot := 0, constantValue := 0 }, { name := "MAX_VALUE", type := .long, accessFlags := 25, slot := 1, constantValue := 0 }, { name := "TYPE", type := (.object "java/lang/Class"), accessFlags := 25, slot := 2, constantValue := 0 }, { name := "value", type := .long, accessFlags := 18, slot := 0, constantValue := 0 }, { name := "SIZE", type := .int, accessFlags := 25, slot := 3, constantValue := 0 }, { name := "BYTES", type := .int, accessFlags := 25, slot := 4, constantValue := 0 }, { name := "serialVersionUID", type := .long, accessFlags := 26, slot := 5, constantValue := 0 }]
  methods := #[k12m0, k12m1]
  instanceTypes := #[.long]
  staticTypes := #[.long, .long, (.object "java/lang/Class"), .int, .int, .long]
  resolved := Array.replicate 524 none
  statics := none }

def pool13 : Array CpInfo := pool [(2, .class_ 4), (1, u "java/lang/Object"), (0, u "<init>"), (0, u "()V"), (0, .class_ 8), (0, u "java/lang/Long"), (7, .class_ 18), (1, u "java/lang/Long$LongCache"), (0, u "$assertionsDisabled"), (0, u "Z"), (8, u "archivedCache"), (0, u "[Ljava/lang/Long;"), (7, u "cache")] 24

def k13m0 : Method := { name := "<init>", desc := "()V", sig := { parameters := [], returnType := none }, accessFlags := 2, code := none }
/-- java/lang/Long$LongCache -/
def k13 : Class := { plain "java/lang/Long$LongCache" (some 0) with
  accessFlags := 48
  interfaces := #[]
  cf := some (fileOf pool13 16 #[.nestHost 7] #[{ accessFlags := 2, nameIndex := 5, descriptorIndex := 6, attributes := #[] }] 48 2 #[] #[{ accessFlags := 24, nameIndex := 38, descriptorIndex := 30, attributes := #[] }, { accessFlags := 8, nameIndex := 29, descriptorIndex := 30, attributes := #[] }, { accessFlags := 4120, nameIndex := 19, descriptorIndex := 20, attributes := #[] }])
  fields := #[{ name := "cache", type := (.array (.object "java/lang/Long")), accessFlags := 24, slot := 0, constantValue := 0 }, { name := "archivedCache", type := (.array (.object "java/lang/Long")), accessFlags := 8, slot := 1, constantValue := 0 }, { name := "$assertionsDisabled", type := .boolean, accessFlags := 4120, slot := 2, constantValue := 0 }]
  methods := #[k13m0]
  instanceTypes := #[]
  staticTypes := #[(.array (.object "java/lang/Long")), (.array (.object "java/lang/Long")), .boolean]
  resolved := Array.replicate 63 none
  statics := some 2 }

def pool14 : Array CpInfo := pool [(1, u "java/lang/Cloneable"), (0, .class_ 1), (0, u "java/lang/Object"), (0, .class_ 3)] 3

/-- java/lang/Cloneable -/
def k14 : Class := { plain "java/lang/Cloneable" (some 0) with
  accessFlags := 1537
  interfaces := #[]
  cf := some (fileOf pool14 2 #[] #[] 1537 4 #[] #[])
  fields := #[]
  methods := #[]
  instanceTypes := #[]
  staticTypes := #[]
  resolved := Array.replicate 8 none
  statics := none }

/-- the primitive byte -/
def k15 : Class := { plain "byte" none with kind := .primitive 'B', accessFlags := 0x411 }
/-- [B -/
def k16 : Class := { plain "[B" (some 0) with kind := .array 15 .byte, interfaces := #[14, 4], accessFlags := 1041 }

/-- the primitive int -/
def k17 : Class := { plain "int" none with kind := .primitive 'I', accessFlags := 0x411 }
/-- [I -/
def k18 : Class := { plain "[I" (some 0) with kind := .array 17 .int, interfaces := #[14, 4], accessFlags := 1041 }

/-- [Ljava/lang/Integer; -/
def k19 : Class := { plain "[Ljava/lang/Integer;" (some 0) with kind := .array 10 (.object "java/lang/Integer"), interfaces := #[14, 4], accessFlags := 1041 }

/-- [Ljava/lang/Long; -/
def k20 : Class := { plain "[Ljava/lang/Long;" (some 0) with kind := .array 12 (.object "java/lang/Long"), interfaces := #[14, 4], accessFlags := 1041 }

def heap : Heap := #[{ cls := 6, slots := #[.ref 5, .ref 9, .ref 8, .ref 10, .ref 6, .ref 7, .null], vm := .statics 6 },
  { cls := 11, slots := #[.int 0, .int 127, .ref 3, .null, .int 0], vm := .statics 11 },
  { cls := 13, slots := #[.ref 4, .null, .int 0], vm := .statics 13 },
  { cls := 19, slots := #[.ref 11, .ref 12, .ref 13, .ref 14, .ref 15, .ref 16, .ref 17, .ref 18, .ref 19, .ref 20, .ref 21, .ref 22, .ref 23, .ref 24, .ref 25, .ref 26, .ref 27, .ref 28, .ref 29, .ref 30, .ref 31, .ref 32, .ref 33, .ref 34, .ref 35, .ref 36, .ref 37, .ref 38, .ref 39, .ref 40, .ref 41, .ref 42, .ref 43, .ref 44, .ref 45, .ref 46, .ref 47, .ref 48, .ref 49, .ref 50, .ref 51, .ref 52, .ref 53, .ref 54, .ref 55, .ref 56, .ref 57, .ref 58, .ref 59, .ref 60, .ref 61, .ref 62, .ref 63, .ref 64, .ref 65, .ref 66, .ref 67, .ref 68, .ref 69, .ref 70, .ref 71, .ref 72, .ref 73, .ref 74, .ref 75, .ref 76, .ref 77, .ref 78, .ref 79, .ref 80, .ref 81, .ref 82, .ref 83, .ref 84, .ref 85, .ref 86, .ref 87, .ref 88, .ref 89, .ref 90, .ref 91, .ref 92, .ref 93, .ref 94, .ref 95, .ref 96, .ref 97, .ref 98, .ref 99, .ref 100, .ref 101, .ref 102, .ref 103, .ref 104, .ref 105, .ref 106, .ref 107, .ref 108, .ref 109, .ref 110, .ref 111, .ref 112, .ref 113, .ref 114, .ref 115, .ref 116, .ref 117, .ref 118, .ref 119, .ref 120, .ref 121, .ref 122, .ref 123, .ref 124, .ref 125, .ref 126, .ref 127, .ref 128, .ref 129, .ref 130, .ref 131, .ref 132, .ref 133, .ref 134, .ref 135, .ref 136, .ref 137, .ref 138, .ref 139, .ref 140, .ref 141, .ref 142, .ref 143, .ref 144, .ref 145, .ref 146, .ref 147, .ref 148, .ref 149, .ref 150, .ref 151, .ref 152, .ref 153, .ref 154, .ref 155, .ref 156, .ref 157, .ref 158, .ref 159, .ref 160, .ref 161, .ref 162, .ref 163, .ref 164, .ref 165, .ref 166, .ref 167, .ref 168, .ref 169, .ref 170, .ref 171, .ref 172, .ref 173, .ref 174, .ref 175, .ref 176, .ref 177, .ref 178, .ref 179, .ref 180, .ref 181, .ref 182, .ref 183, .ref 184, .ref 185, .ref 186, .ref 187, .ref 188, .ref 189, .ref 190, .ref 191, .ref 192, .ref 193, .ref 194, .ref 195, .ref 196, .ref 197, .ref 198, .ref 199, .ref 200, .ref 201, .ref 202, .ref 203, .ref 204, .ref 205, .ref 206, .ref 207, .ref 208, .ref 209, .ref 210, .ref 211, .ref 212, .ref 213, .ref 214, .ref 215, .ref 216, .ref 217, .ref 218, .ref 219, .ref 220, .ref 221, .ref 222, .ref 223, .ref 224, .ref 225, .ref 226, .ref 227, .ref 228, .ref 229, .ref 230, .ref 231, .ref 232, .ref 233, .ref 234, .ref 235, .ref 236, .ref 237, .ref 238, .ref 239, .ref 240, .ref 241, .ref 242, .ref 243, .ref 244, .ref 245, .ref 246, .ref 247, .ref 248, .ref 249, .ref 250, .ref 251, .ref 252, .ref 253, .ref 254, .ref 255, .ref 256, .ref 257, .ref 258, .ref 259, .ref 260, .ref 261, .ref 262, .ref 263, .ref 264, .ref 265, .ref 266], vm := .none },
  { cls := 20, slots := #[.ref 267, .ref 268, .ref 269, .ref 270, .ref 271, .ref 272, .ref 273, .ref 274, .ref 275, .ref 276, .ref 277, .ref 278, .ref 279, .ref 280, .ref 281, .ref 282, .ref 283, .ref 284, .ref 285, .ref 286, .ref 287, .ref 288, .ref 289, .ref 290, .ref 291, .ref 292, .ref 293, .ref 294, .ref 295, .ref 296, .ref 297, .ref 298, .ref 299, .ref 300, .ref 301, .ref 302, .ref 303, .ref 304, .ref 305, .ref 306, .ref 307, .ref 308, .ref 309, .ref 310, .ref 311, .ref 312, .ref 313, .ref 314, .ref 315, .ref 316, .ref 317, .ref 318, .ref 319, .ref 320, .ref 321, .ref 322, .ref 323, .ref 324, .ref 325, .ref 326, .ref 327, .ref 328, .ref 329, .ref 330, .ref 331, .ref 332, .ref 333, .ref 334, .ref 335, .ref 336, .ref 337, .ref 338, .ref 339, .ref 340, .ref 341, .ref 342, .ref 343, .ref 344, .ref 345, .ref 346, .ref 347, .ref 348, .ref 349, .ref 350, .ref 351, .ref 352, .ref 353, .ref 354, .ref 355, .ref 356, .ref 357, .ref 358, .ref 359, .ref 360, .ref 361, .ref 362, .ref 363, .ref 364, .ref 365, .ref 366, .ref 367, .ref 368, .ref 369, .ref 370, .ref 371, .ref 372, .ref 373, .ref 374, .ref 375, .ref 376, .ref 377, .ref 378, .ref 379, .ref 380, .ref 381, .ref 382, .ref 383, .ref 384, .ref 385, .ref 386, .ref 387, .ref 388, .ref 389, .ref 390, .ref 391, .ref 392, .ref 393, .ref 394, .ref 395, .ref 396, .ref 397, .ref 398, .ref 399, .ref 400, .ref 401, .ref 402, .ref 403, .ref 404, .ref 405, .ref 406, .ref 407, .ref 408, .ref 409, .ref 410, .ref 411, .ref 412, .ref 413, .ref 414, .ref 415, .ref 416, .ref 417, .ref 418, .ref 419, .ref 420, .ref 421, .ref 422, .ref 423, .ref 424, .ref 425, .ref 426, .ref 427, .ref 428, .ref 429, .ref 430, .ref 431, .ref 432, .ref 433, .ref 434, .ref 435, .ref 436, .ref 437, .ref 438, .ref 439, .ref 440, .ref 441, .ref 442, .ref 443, .ref 444, .ref 445, .ref 446, .ref 447, .ref 448, .ref 449, .ref 450, .ref 451, .ref 452, .ref 453, .ref 454, .ref 455, .ref 456, .ref 457, .ref 458, .ref 459, .ref 460, .ref 461, .ref 462, .ref 463, .ref 464, .ref 465, .ref 466, .ref 467, .ref 468, .ref 469, .ref 470, .ref 471, .ref 472, .ref 473, .ref 474, .ref 475, .ref 476, .ref 477, .ref 478, .ref 479, .ref 480, .ref 481, .ref 482, .ref 483, .ref 484, .ref 485, .ref 486, .ref 487, .ref 488, .ref 489, .ref 490, .ref 491, .ref 492, .ref 493, .ref 494, .ref 495, .ref 496, .ref 497, .ref 498, .ref 499, .ref 500, .ref 501, .ref 502, .ref 503, .ref 504, .ref 505, .ref 506, .ref 507, .ref 508, .ref 509, .ref 510, .ref 511, .ref 512, .ref 513, .ref 514, .ref 515, .ref 516, .ref 517, .ref 518, .ref 519, .ref 520, .ref 521, .ref 522], vm := .none },
  { cls := 6, slots := #[.null, .int 0, .int 0, .null, .int 0, .int 0, .int 0], vm := .none },
  { cls := 6, slots := #[.null, .int 4, .int 0, .null, .int 0, .int 0, .int 0], vm := .none },
  { cls := 6, slots := #[.null, .int 5, .int 0, .null, .int 0, .int 0, .int 0], vm := .none },
  { cls := 6, slots := #[.null, .int 2, .int 0, .null, .int 0, .int 0, .int 0], vm := .none },
  { cls := 6, slots := #[.null, .int 1, .int 0, .null, .int 0, .int 0, .int 0], vm := .none },
  { cls := 6, slots := #[.null, .int 3, .int 0, .null, .int 0, .int 0, .int 0], vm := .none },
  { cls := 10, slots := #[.int (-128)], vm := .none },
  { cls := 10, slots := #[.int (-127)], vm := .none },
  { cls := 10, slots := #[.int (-126)], vm := .none },
  { cls := 10, slots := #[.int (-125)], vm := .none },
  { cls := 10, slots := #[.int (-124)], vm := .none },
  { cls := 10, slots := #[.int (-123)], vm := .none },
  { cls := 10, slots := #[.int (-122)], vm := .none },
  { cls := 10, slots := #[.int (-121)], vm := .none },
  { cls := 10, slots := #[.int (-120)], vm := .none },
  { cls := 10, slots := #[.int (-119)], vm := .none },
  { cls := 10, slots := #[.int (-118)], vm := .none },
  { cls := 10, slots := #[.int (-117)], vm := .none },
  { cls := 10, slots := #[.int (-116)], vm := .none },
  { cls := 10, slots := #[.int (-115)], vm := .none },
  { cls := 10, slots := #[.int (-114)], vm := .none },
  { cls := 10, slots := #[.int (-113)], vm := .none },
  { cls := 10, slots := #[.int (-112)], vm := .none },
  { cls := 10, slots := #[.int (-111)], vm := .none },
  { cls := 10, slots := #[.int (-110)], vm := .none },
  { cls := 10, slots := #[.int (-109)], vm := .none },
  { cls := 10, slots := #[.int (-108)], vm := .none },
  { cls := 10, slots := #[.int (-107)], vm := .none },
  { cls := 10, slots := #[.int (-106)], vm := .none },
  { cls := 10, slots := #[.int (-105)], vm := .none },
  { cls := 10, slots := #[.int (-104)], vm := .none },
  { cls := 10, slots := #[.int (-103)], vm := .none },
  { cls := 10, slots := #[.int (-102)], vm := .none },
  { cls := 10, slots := #[.int (-101)], vm := .none },
  { cls := 10, slots := #[.int (-100)], vm := .none },
  { cls := 10, slots := #[.int (-99)], vm := .none },
  { cls := 10, slots := #[.int (-98)], vm := .none },
  { cls := 10, slots := #[.int (-97)], vm := .none },
  { cls := 10, slots := #[.int (-96)], vm := .none },
  { cls := 10, slots := #[.int (-95)], vm := .none },
  { cls := 10, slots := #[.int (-94)], vm := .none },
  { cls := 10, slots := #[.int (-93)], vm := .none },
  { cls := 10, slots := #[.int (-92)], vm := .none },
  { cls := 10, slots := #[.int (-91)], vm := .none },
  { cls := 10, slots := #[.int (-90)], vm := .none },
  { cls := 10, slots := #[.int (-89)], vm := .none },
  { cls := 10, slots := #[.int (-88)], vm := .none },
  { cls := 10, slots := #[.int (-87)], vm := .none },
  { cls := 10, slots := #[.int (-86)], vm := .none },
  { cls := 10, slots := #[.int (-85)], vm := .none },
  { cls := 10, slots := #[.int (-84)], vm := .none },
  { cls := 10, slots := #[.int (-83)], vm := .none },
  { cls := 10, slots := #[.int (-82)], vm := .none },
  { cls := 10, slots := #[.int (-81)], vm := .none },
  { cls := 10, slots := #[.int (-80)], vm := .none },
  { cls := 10, slots := #[.int (-79)], vm := .none },
  { cls := 10, slots := #[.int (-78)], vm := .none },
  { cls := 10, slots := #[.int (-77)], vm := .none },
  { cls := 10, slots := #[.int (-76)], vm := .none },
  { cls := 10, slots := #[.int (-75)], vm := .none },
  { cls := 10, slots := #[.int (-74)], vm := .none },
  { cls := 10, slots := #[.int (-73)], vm := .none },
  { cls := 10, slots := #[.int (-72)], vm := .none },
  { cls := 10, slots := #[.int (-71)], vm := .none },
  { cls := 10, slots := #[.int (-70)], vm := .none },
  { cls := 10, slots := #[.int (-69)], vm := .none },
  { cls := 10, slots := #[.int (-68)], vm := .none },
  { cls := 10, slots := #[.int (-67)], vm := .none },
  { cls := 10, slots := #[.int (-66)], vm := .none },
  { cls := 10, slots := #[.int (-65)], vm := .none },
  { cls := 10, slots := #[.int (-64)], vm := .none },
  { cls := 10, slots := #[.int (-63)], vm := .none },
  { cls := 10, slots := #[.int (-62)], vm := .none },
  { cls := 10, slots := #[.int (-61)], vm := .none },
  { cls := 10, slots := #[.int (-60)], vm := .none },
  { cls := 10, slots := #[.int (-59)], vm := .none },
  { cls := 10, slots := #[.int (-58)], vm := .none },
  { cls := 10, slots := #[.int (-57)], vm := .none },
  { cls := 10, slots := #[.int (-56)], vm := .none },
  { cls := 10, slots := #[.int (-55)], vm := .none },
  { cls := 10, slots := #[.int (-54)], vm := .none },
  { cls := 10, slots := #[.int (-53)], vm := .none },
  { cls := 10, slots := #[.int (-52)], vm := .none },
  { cls := 10, slots := #[.int (-51)], vm := .none },
  { cls := 10, slots := #[.int (-50)], vm := .none },
  { cls := 10, slots := #[.int (-49)], vm := .none },
  { cls := 10, slots := #[.int (-48)], vm := .none },
  { cls := 10, slots := #[.int (-47)], vm := .none },
  { cls := 10, slots := #[.int (-46)], vm := .none },
  { cls := 10, slots := #[.int (-45)], vm := .none },
  { cls := 10, slots := #[.int (-44)], vm := .none },
  { cls := 10, slots := #[.int (-43)], vm := .none },
  { cls := 10, slots := #[.int (-42)], vm := .none },
  { cls := 10, slots := #[.int (-41)], vm := .none },
  { cls := 10, slots := #[.int (-40)], vm := .none },
  { cls := 10, slots := #[.int (-39)], vm := .none },
  { cls := 10, slots := #[.int (-38)], vm := .none },
  { cls := 10, slots := #[.int (-37)], vm := .none },
  { cls := 10, slots := #[.int (-36)], vm := .none },
  { cls := 10, slots := #[.int (-35)], vm := .none },
  { cls := 10, slots := #[.int (-34)], vm := .none },
  { cls := 10, slots := #[.int (-33)], vm := .none },
  { cls := 10, slots := #[.int (-32)], vm := .none },
  { cls := 10, slots := #[.int (-31)], vm := .none },
  { cls := 10, slots := #[.int (-30)], vm := .none },
  { cls := 10, slots := #[.int (-29)], vm := .none },
  { cls := 10, slots := #[.int (-28)], vm := .none },
  { cls := 10, slots := #[.int (-27)], vm := .none },
  { cls := 10, slots := #[.int (-26)], vm := .none },
  { cls := 10, slots := #[.int (-25)], vm := .none },
  { cls := 10, slots := #[.int (-24)], vm := .none },
  { cls := 10, slots := #[.int (-23)], vm := .none },
  { cls := 10, slots := #[.int (-22)], vm := .none },
  { cls := 10, slots := #[.int (-21)], vm := .none },
  { cls := 10, slots := #[.int (-20)], vm := .none },
  { cls := 10, slots := #[.int (-19)], vm := .none },
  { cls := 10, slots := #[.int (-18)], vm := .none },
  { cls := 10, slots := #[.int (-17)], vm := .none },
  { cls := 10, slots := #[.int (-16)], vm := .none },
  { cls := 10, slots := #[.int (-15)], vm := .none },
  { cls := 10, slots := #[.int (-14)], vm := .none },
  { cls := 10, slots := #[.int (-13)], vm := .none },
  { cls := 10, slots := #[.int (-12)], vm := .none },
  { cls := 10, slots := #[.int (-11)], vm := .none },
  { cls := 10, slots := #[.int (-10)], vm := .none },
  { cls := 10, slots := #[.int (-9)], vm := .none },
  { cls := 10, slots := #[.int (-8)], vm := .none },
  { cls := 10, slots := #[.int (-7)], vm := .none },
  { cls := 10, slots := #[.int (-6)], vm := .none },
  { cls := 10, slots := #[.int (-5)], vm := .none },
  { cls := 10, slots := #[.int (-4)], vm := .none },
  { cls := 10, slots := #[.int (-3)], vm := .none },
  { cls := 10, slots := #[.int (-2)], vm := .none },
  { cls := 10, slots := #[.int (-1)], vm := .none },
  { cls := 10, slots := #[.int 0], vm := .none },
  { cls := 10, slots := #[.int 1], vm := .none },
  { cls := 10, slots := #[.int 2], vm := .none },
  { cls := 10, slots := #[.int 3], vm := .none },
  { cls := 10, slots := #[.int 4], vm := .none },
  { cls := 10, slots := #[.int 5], vm := .none },
  { cls := 10, slots := #[.int 6], vm := .none },
  { cls := 10, slots := #[.int 7], vm := .none },
  { cls := 10, slots := #[.int 8], vm := .none },
  { cls := 10, slots := #[.int 9], vm := .none },
  { cls := 10, slots := #[.int 10], vm := .none },
  { cls := 10, slots := #[.int 11], vm := .none },
  { cls := 10, slots := #[.int 12], vm := .none },
  { cls := 10, slots := #[.int 13], vm := .none },
  { cls := 10, slots := #[.int 14], vm := .none },
  { cls := 10, slots := #[.int 15], vm := .none },
  { cls := 10, slots := #[.int 16], vm := .none },
  { cls := 10, slots := #[.int 17], vm := .none },
  { cls := 10, slots := #[.int 18], vm := .none },
  { cls := 10, slots := #[.int 19], vm := .none },
  { cls := 10, slots := #[.int 20], vm := .none },
  { cls := 10, slots := #[.int 21], vm := .none },
  { cls := 10, slots := #[.int 22], vm := .none },
  { cls := 10, slots := #[.int 23], vm := .none },
  { cls := 10, slots := #[.int 24], vm := .none },
  { cls := 10, slots := #[.int 25], vm := .none },
  { cls := 10, slots := #[.int 26], vm := .none },
  { cls := 10, slots := #[.int 27], vm := .none },
  { cls := 10, slots := #[.int 28], vm := .none },
  { cls := 10, slots := #[.int 29], vm := .none },
  { cls := 10, slots := #[.int 30], vm := .none },
  { cls := 10, slots := #[.int 31], vm := .none },
  { cls := 10, slots := #[.int 32], vm := .none },
  { cls := 10, slots := #[.int 33], vm := .none },
  { cls := 10, slots := #[.int 34], vm := .none },
  { cls := 10, slots := #[.int 35], vm := .none },
  { cls := 10, slots := #[.int 36], vm := .none },
  { cls := 10, slots := #[.int 37], vm := .none },
  { cls := 10, slots := #[.int 38], vm := .none },
  { cls := 10, slots := #[.int 39], vm := .none },
  { cls := 10, slots := #[.int 40], vm := .none },
  { cls := 10, slots := #[.int 41], vm := .none },
  { cls := 10, slots := #[.int 42], vm := .none },
  { cls := 10, slots := #[.int 43], vm := .none },
  { cls := 10, slots := #[.int 44], vm := .none },
  { cls := 10, slots := #[.int 45], vm := .none },
  { cls := 10, slots := #[.int 46], vm := .none },
  { cls := 10, slots := #[.int 47], vm := .none },
  { cls := 10, slots := #[.int 48], vm := .none },
  { cls := 10, slots := #[.int 49], vm := .none },
  { cls := 10, slots := #[.int 50], vm := .none },
  { cls := 10, slots := #[.int 51], vm := .none },
  { cls := 10, slots := #[.int 52], vm := .none },
  { cls := 10, slots := #[.int 53], vm := .none },
  { cls := 10, slots := #[.int 54], vm := .none },
  { cls := 10, slots := #[.int 55], vm := .none },
  { cls := 10, slots := #[.int 56], vm := .none },
  { cls := 10, slots := #[.int 57], vm := .none },
  { cls := 10, slots := #[.int 58], vm := .none },
  { cls := 10, slots := #[.int 59], vm := .none },
  { cls := 10, slots := #[.int 60], vm := .none },
  { cls := 10, slots := #[.int 61], vm := .none },
  { cls := 10, slots := #[.int 62], vm := .none },
  { cls := 10, slots := #[.int 63], vm := .none },
  { cls := 10, slots := #[.int 64], vm := .none },
  { cls := 10, slots := #[.int 65], vm := .none },
  { cls := 10, slots := #[.int 66], vm := .none },
  { cls := 10, slots := #[.int 67], vm := .none },
  { cls := 10, slots := #[.int 68], vm := .none },
  { cls := 10, slots := #[.int 69], vm := .none },
  { cls := 10, slots := #[.int 70], vm := .none },
  { cls := 10, slots := #[.int 71], vm := .none },
  { cls := 10, slots := #[.int 72], vm := .none },
  { cls := 10, slots := #[.int 73], vm := .none },
  { cls := 10, slots := #[.int 74], vm := .none },
  { cls := 10, slots := #[.int 75], vm := .none },
  { cls := 10, slots := #[.int 76], vm := .none },
  { cls := 10, slots := #[.int 77], vm := .none },
  { cls := 10, slots := #[.int 78], vm := .none },
  { cls := 10, slots := #[.int 79], vm := .none },
  { cls := 10, slots := #[.int 80], vm := .none },
  { cls := 10, slots := #[.int 81], vm := .none },
  { cls := 10, slots := #[.int 82], vm := .none },
  { cls := 10, slots := #[.int 83], vm := .none },
  { cls := 10, slots := #[.int 84], vm := .none },
  { cls := 10, slots := #[.int 85], vm := .none },
  { cls := 10, slots := #[.int 86], vm := .none },
  { cls := 10, slots := #[.int 87], vm := .none },
  { cls := 10, slots := #[.int 88], vm := .none },
  { cls := 10, slots := #[.int 89], vm := .none },
  { cls := 10, slots := #[.int 90], vm := .none },
  { cls := 10, slots := #[.int 91], vm := .none },
  { cls := 10, slots := #[.int 92], vm := .none },
  { cls := 10, slots := #[.int 93], vm := .none },
  { cls := 10, slots := #[.int 94], vm := .none },
  { cls := 10, slots := #[.int 95], vm := .none },
  { cls := 10, slots := #[.int 96], vm := .none },
  { cls := 10, slots := #[.int 97], vm := .none },
  { cls := 10, slots := #[.int 98], vm := .none },
  { cls := 10, slots := #[.int 99], vm := .none },
  { cls := 10, slots := #[.int 100], vm := .none },
  { cls := 10, slots := #[.int 101], vm := .none },
  { cls := 10, slots := #[.int 102], vm := .none },
  { cls := 10, slots := #[.int 103], vm := .none },
  { cls := 10, slots := #[.int 104], vm := .none },
  { cls := 10, slots := #[.int 105], vm := .none },
  { cls := 10, slots := #[.int 106], vm := .none },
  { cls := 10, slots := #[.int 107], vm := .none },
  { cls := 10, slots := #[.int 108], vm := .none },
  { cls := 10, slots := #[.int 109], vm := .none },
  { cls := 10, slots := #[.int 110], vm := .none },
  { cls := 10, slots := #[.int 111], vm := .none },
  { cls := 10, slots := #[.int 112], vm := .none },
  { cls := 10, slots := #[.int 113], vm := .none },
  { cls := 10, slots := #[.int 114], vm := .none },
  { cls := 10, slots := #[.int 115], vm := .none },
  { cls := 10, slots := #[.int 116], vm := .none },
  { cls := 10, slots := #[.int 117], vm := .none },
  { cls := 10, slots := #[.int 118], vm := .none },
  { cls := 10, slots := #[.int 119], vm := .none },
  { cls := 10, slots := #[.int 120], vm := .none },
  { cls := 10, slots := #[.int 121], vm := .none },
  { cls := 10, slots := #[.int 122], vm := .none },
  { cls := 10, slots := #[.int 123], vm := .none },
  { cls := 10, slots := #[.int 124], vm := .none },
  { cls := 10, slots := #[.int 125], vm := .none },
  { cls := 10, slots := #[.int 126], vm := .none },
  { cls := 10, slots := #[.int 127], vm := .none },
  { cls := 12, slots := #[.long (-128)], vm := .none },
  { cls := 12, slots := #[.long (-127)], vm := .none },
  { cls := 12, slots := #[.long (-126)], vm := .none },
  { cls := 12, slots := #[.long (-125)], vm := .none },
  { cls := 12, slots := #[.long (-124)], vm := .none },
  { cls := 12, slots := #[.long (-123)], vm := .none },
  { cls := 12, slots := #[.long (-122)], vm := .none },
  { cls := 12, slots := #[.long (-121)], vm := .none },
  { cls := 12, slots := #[.long (-120)], vm := .none },
  { cls := 12, slots := #[.long (-119)], vm := .none },
  { cls := 12, slots := #[.long (-118)], vm := .none },
  { cls := 12, slots := #[.long (-117)], vm := .none },
  { cls := 12, slots := #[.long (-116)], vm := .none },
  { cls := 12, slots := #[.long (-115)], vm := .none },
  { cls := 12, slots := #[.long (-114)], vm := .none },
  { cls := 12, slots := #[.long (-113)], vm := .none },
  { cls := 12, slots := #[.long (-112)], vm := .none },
  { cls := 12, slots := #[.long (-111)], vm := .none },
  { cls := 12, slots := #[.long (-110)], vm := .none },
  { cls := 12, slots := #[.long (-109)], vm := .none },
  { cls := 12, slots := #[.long (-108)], vm := .none },
  { cls := 12, slots := #[.long (-107)], vm := .none },
  { cls := 12, slots := #[.long (-106)], vm := .none },
  { cls := 12, slots := #[.long (-105)], vm := .none },
  { cls := 12, slots := #[.long (-104)], vm := .none },
  { cls := 12, slots := #[.long (-103)], vm := .none },
  { cls := 12, slots := #[.long (-102)], vm := .none },
  { cls := 12, slots := #[.long (-101)], vm := .none },
  { cls := 12, slots := #[.long (-100)], vm := .none },
  { cls := 12, slots := #[.long (-99)], vm := .none },
  { cls := 12, slots := #[.long (-98)], vm := .none },
  { cls := 12, slots := #[.long (-97)], vm := .none },
  { cls := 12, slots := #[.long (-96)], vm := .none },
  { cls := 12, slots := #[.long (-95)], vm := .none },
  { cls := 12, slots := #[.long (-94)], vm := .none },
  { cls := 12, slots := #[.long (-93)], vm := .none },
  { cls := 12, slots := #[.long (-92)], vm := .none },
  { cls := 12, slots := #[.long (-91)], vm := .none },
  { cls := 12, slots := #[.long (-90)], vm := .none },
  { cls := 12, slots := #[.long (-89)], vm := .none },
  { cls := 12, slots := #[.long (-88)], vm := .none },
  { cls := 12, slots := #[.long (-87)], vm := .none },
  { cls := 12, slots := #[.long (-86)], vm := .none },
  { cls := 12, slots := #[.long (-85)], vm := .none },
  { cls := 12, slots := #[.long (-84)], vm := .none },
  { cls := 12, slots := #[.long (-83)], vm := .none },
  { cls := 12, slots := #[.long (-82)], vm := .none },
  { cls := 12, slots := #[.long (-81)], vm := .none },
  { cls := 12, slots := #[.long (-80)], vm := .none },
  { cls := 12, slots := #[.long (-79)], vm := .none },
  { cls := 12, slots := #[.long (-78)], vm := .none },
  { cls := 12, slots := #[.long (-77)], vm := .none },
  { cls := 12, slots := #[.long (-76)], vm := .none },
  { cls := 12, slots := #[.long (-75)], vm := .none },
  { cls := 12, slots := #[.long (-74)], vm := .none },
  { cls := 12, slots := #[.long (-73)], vm := .none },
  { cls := 12, slots := #[.long (-72)], vm := .none },
  { cls := 12, slots := #[.long (-71)], vm := .none },
  { cls := 12, slots := #[.long (-70)], vm := .none },
  { cls := 12, slots := #[.long (-69)], vm := .none },
  { cls := 12, slots := #[.long (-68)], vm := .none },
  { cls := 12, slots := #[.long (-67)], vm := .none },
  { cls := 12, slots := #[.long (-66)], vm := .none },
  { cls := 12, slots := #[.long (-65)], vm := .none },
  { cls := 12, slots := #[.long (-64)], vm := .none },
  { cls := 12, slots := #[.long (-63)], vm := .none },
  { cls := 12, slots := #[.long (-62)], vm := .none },
  { cls := 12, slots := #[.long (-61)], vm := .none },
  { cls := 12, slots := #[.long (-60)], vm := .none },
  { cls := 12, slots := #[.long (-59)], vm := .none },
  { cls := 12, slots := #[.long (-58)], vm := .none },
  { cls := 12, slots := #[.long (-57)], vm := .none },
  { cls := 12, slots := #[.long (-56)], vm := .none },
  { cls := 12, slots := #[.long (-55)], vm := .none },
  { cls := 12, slots := #[.long (-54)], vm := .none },
  { cls := 12, slots := #[.long (-53)], vm := .none },
  { cls := 12, slots := #[.long (-52)], vm := .none },
  { cls := 12, slots := #[.long (-51)], vm := .none },
  { cls := 12, slots := #[.long (-50)], vm := .none },
  { cls := 12, slots := #[.long (-49)], vm := .none },
  { cls := 12, slots := #[.long (-48)], vm := .none },
  { cls := 12, slots := #[.long (-47)], vm := .none },
  { cls := 12, slots := #[.long (-46)], vm := .none },
  { cls := 12, slots := #[.long (-45)], vm := .none },
  { cls := 12, slots := #[.long (-44)], vm := .none },
  { cls := 12, slots := #[.long (-43)], vm := .none },
  { cls := 12, slots := #[.long (-42)], vm := .none },
  { cls := 12, slots := #[.long (-41)], vm := .none },
  { cls := 12, slots := #[.long (-40)], vm := .none },
  { cls := 12, slots := #[.long (-39)], vm := .none },
  { cls := 12, slots := #[.long (-38)], vm := .none },
  { cls := 12, slots := #[.long (-37)], vm := .none },
  { cls := 12, slots := #[.long (-36)], vm := .none },
  { cls := 12, slots := #[.long (-35)], vm := .none },
  { cls := 12, slots := #[.long (-34)], vm := .none },
  { cls := 12, slots := #[.long (-33)], vm := .none },
  { cls := 12, slots := #[.long (-32)], vm := .none },
  { cls := 12, slots := #[.long (-31)], vm := .none },
  { cls := 12, slots := #[.long (-30)], vm := .none },
  { cls := 12, slots := #[.long (-29)], vm := .none },
  { cls := 12, slots := #[.long (-28)], vm := .none },
  { cls := 12, slots := #[.long (-27)], vm := .none },
  { cls := 12, slots := #[.long (-26)], vm := .none },
  { cls := 12, slots := #[.long (-25)], vm := .none },
  { cls := 12, slots := #[.long (-24)], vm := .none },
  { cls := 12, slots := #[.long (-23)], vm := .none },
  { cls := 12, slots := #[.long (-22)], vm := .none },
  { cls := 12, slots := #[.long (-21)], vm := .none },
  { cls := 12, slots := #[.long (-20)], vm := .none },
  { cls := 12, slots := #[.long (-19)], vm := .none },
  { cls := 12, slots := #[.long (-18)], vm := .none },
  { cls := 12, slots := #[.long (-17)], vm := .none },
  { cls := 12, slots := #[.long (-16)], vm := .none },
  { cls := 12, slots := #[.long (-15)], vm := .none },
  { cls := 12, slots := #[.long (-14)], vm := .none },
  { cls := 12, slots := #[.long (-13)], vm := .none },
  { cls := 12, slots := #[.long (-12)], vm := .none },
  { cls := 12, slots := #[.long (-11)], vm := .none },
  { cls := 12, slots := #[.long (-10)], vm := .none },
  { cls := 12, slots := #[.long (-9)], vm := .none },
  { cls := 12, slots := #[.long (-8)], vm := .none },
  { cls := 12, slots := #[.long (-7)], vm := .none },
  { cls := 12, slots := #[.long (-6)], vm := .none },
  { cls := 12, slots := #[.long (-5)], vm := .none },
  { cls := 12, slots := #[.long (-4)], vm := .none },
  { cls := 12, slots := #[.long (-3)], vm := .none },
  { cls := 12, slots := #[.long (-2)], vm := .none },
  { cls := 12, slots := #[.long (-1)], vm := .none },
  { cls := 12, slots := #[.long 0], vm := .none },
  { cls := 12, slots := #[.long 1], vm := .none },
  { cls := 12, slots := #[.long 2], vm := .none },
  { cls := 12, slots := #[.long 3], vm := .none },
  { cls := 12, slots := #[.long 4], vm := .none },
  { cls := 12, slots := #[.long 5], vm := .none },
  { cls := 12, slots := #[.long 6], vm := .none },
  { cls := 12, slots := #[.long 7], vm := .none },
  { cls := 12, slots := #[.long 8], vm := .none },
  { cls := 12, slots := #[.long 9], vm := .none },
  { cls := 12, slots := #[.long 10], vm := .none },
  { cls := 12, slots := #[.long 11], vm := .none },
  { cls := 12, slots := #[.long 12], vm := .none },
  { cls := 12, slots := #[.long 13], vm := .none },
  { cls := 12, slots := #[.long 14], vm := .none },
  { cls := 12, slots := #[.long 15], vm := .none },
  { cls := 12, slots := #[.long 16], vm := .none },
  { cls := 12, slots := #[.long 17], vm := .none },
  { cls := 12, slots := #[.long 18], vm := .none },
  { cls := 12, slots := #[.long 19], vm := .none },
  { cls := 12, slots := #[.long 20], vm := .none },
  { cls := 12, slots := #[.long 21], vm := .none },
  { cls := 12, slots := #[.long 22], vm := .none },
  { cls := 12, slots := #[.long 23], vm := .none },
  { cls := 12, slots := #[.long 24], vm := .none },
  { cls := 12, slots := #[.long 25], vm := .none },
  { cls := 12, slots := #[.long 26], vm := .none },
  { cls := 12, slots := #[.long 27], vm := .none },
  { cls := 12, slots := #[.long 28], vm := .none },
  { cls := 12, slots := #[.long 29], vm := .none },
  { cls := 12, slots := #[.long 30], vm := .none },
  { cls := 12, slots := #[.long 31], vm := .none },
  { cls := 12, slots := #[.long 32], vm := .none },
  { cls := 12, slots := #[.long 33], vm := .none },
  { cls := 12, slots := #[.long 34], vm := .none },
  { cls := 12, slots := #[.long 35], vm := .none },
  { cls := 12, slots := #[.long 36], vm := .none },
  { cls := 12, slots := #[.long 37], vm := .none },
  { cls := 12, slots := #[.long 38], vm := .none },
  { cls := 12, slots := #[.long 39], vm := .none },
  { cls := 12, slots := #[.long 40], vm := .none },
  { cls := 12, slots := #[.long 41], vm := .none },
  { cls := 12, slots := #[.long 42], vm := .none },
  { cls := 12, slots := #[.long 43], vm := .none },
  { cls := 12, slots := #[.long 44], vm := .none },
  { cls := 12, slots := #[.long 45], vm := .none },
  { cls := 12, slots := #[.long 46], vm := .none },
  { cls := 12, slots := #[.long 47], vm := .none },
  { cls := 12, slots := #[.long 48], vm := .none },
  { cls := 12, slots := #[.long 49], vm := .none },
  { cls := 12, slots := #[.long 50], vm := .none },
  { cls := 12, slots := #[.long 51], vm := .none },
  { cls := 12, slots := #[.long 52], vm := .none },
  { cls := 12, slots := #[.long 53], vm := .none },
  { cls := 12, slots := #[.long 54], vm := .none },
  { cls := 12, slots := #[.long 55], vm := .none },
  { cls := 12, slots := #[.long 56], vm := .none },
  { cls := 12, slots := #[.long 57], vm := .none },
  { cls := 12, slots := #[.long 58], vm := .none },
  { cls := 12, slots := #[.long 59], vm := .none },
  { cls := 12, slots := #[.long 60], vm := .none },
  { cls := 12, slots := #[.long 61], vm := .none },
  { cls := 12, slots := #[.long 62], vm := .none },
  { cls := 12, slots := #[.long 63], vm := .none },
  { cls := 12, slots := #[.long 64], vm := .none },
  { cls := 12, slots := #[.long 65], vm := .none },
  { cls := 12, slots := #[.long 66], vm := .none },
  { cls := 12, slots := #[.long 67], vm := .none },
  { cls := 12, slots := #[.long 68], vm := .none },
  { cls := 12, slots := #[.long 69], vm := .none },
  { cls := 12, slots := #[.long 70], vm := .none },
  { cls := 12, slots := #[.long 71], vm := .none },
  { cls := 12, slots := #[.long 72], vm := .none },
  { cls := 12, slots := #[.long 73], vm := .none },
  { cls := 12, slots := #[.long 74], vm := .none },
  { cls := 12, slots := #[.long 75], vm := .none },
  { cls := 12, slots := #[.long 76], vm := .none },
  { cls := 12, slots := #[.long 77], vm := .none },
  { cls := 12, slots := #[.long 78], vm := .none },
  { cls := 12, slots := #[.long 79], vm := .none },
  { cls := 12, slots := #[.long 80], vm := .none },
  { cls := 12, slots := #[.long 81], vm := .none },
  { cls := 12, slots := #[.long 82], vm := .none },
  { cls := 12, slots := #[.long 83], vm := .none },
  { cls := 12, slots := #[.long 84], vm := .none },
  { cls := 12, slots := #[.long 85], vm := .none },
  { cls := 12, slots := #[.long 86], vm := .none },
  { cls := 12, slots := #[.long 87], vm := .none },
  { cls := 12, slots := #[.long 88], vm := .none },
  { cls := 12, slots := #[.long 89], vm := .none },
  { cls := 12, slots := #[.long 90], vm := .none },
  { cls := 12, slots := #[.long 91], vm := .none },
  { cls := 12, slots := #[.long 92], vm := .none },
  { cls := 12, slots := #[.long 93], vm := .none },
  { cls := 12, slots := #[.long 94], vm := .none },
  { cls := 12, slots := #[.long 95], vm := .none },
  { cls := 12, slots := #[.long 96], vm := .none },
  { cls := 12, slots := #[.long 97], vm := .none },
  { cls := 12, slots := #[.long 98], vm := .none },
  { cls := 12, slots := #[.long 99], vm := .none },
  { cls := 12, slots := #[.long 100], vm := .none },
  { cls := 12, slots := #[.long 101], vm := .none },
  { cls := 12, slots := #[.long 102], vm := .none },
  { cls := 12, slots := #[.long 103], vm := .none },
  { cls := 12, slots := #[.long 104], vm := .none },
  { cls := 12, slots := #[.long 105], vm := .none },
  { cls := 12, slots := #[.long 106], vm := .none },
  { cls := 12, slots := #[.long 107], vm := .none },
  { cls := 12, slots := #[.long 108], vm := .none },
  { cls := 12, slots := #[.long 109], vm := .none },
  { cls := 12, slots := #[.long 110], vm := .none },
  { cls := 12, slots := #[.long 111], vm := .none },
  { cls := 12, slots := #[.long 112], vm := .none },
  { cls := 12, slots := #[.long 113], vm := .none },
  { cls := 12, slots := #[.long 114], vm := .none },
  { cls := 12, slots := #[.long 115], vm := .none },
  { cls := 12, slots := #[.long 116], vm := .none },
  { cls := 12, slots := #[.long 117], vm := .none },
  { cls := 12, slots := #[.long 118], vm := .none },
  { cls := 12, slots := #[.long 119], vm := .none },
  { cls := 12, slots := #[.long 120], vm := .none },
  { cls := 12, slots := #[.long 121], vm := .none },
  { cls := 12, slots := #[.long 122], vm := .none },
  { cls := 12, slots := #[.long 123], vm := .none },
  { cls := 12, slots := #[.long 124], vm := .none },
  { cls := 12, slots := #[.long 125], vm := .none },
  { cls := 12, slots := #[.long 126], vm := .none },
  { cls := 12, slots := #[.long 127], vm := .none }]
def classes : Array Class := #[k0, k1, k2, k3, k4, k5, k6, k7, k8, k9, k10, k11, k12, k13, k14, k15, k16, k17, k18, k19, k20]
def interned : List (Array UInt16 × Addr) := []
def slotsUsed : Nat := 1081
def theMethod : MethodId := ⟨1, 2⟩
def args0 : Array Value := #[.int 5, .int 6, .int 7, .long 8, .int 9]
def aboutOver (below : List Frame) : State where
  vm := { classes := classes, interned := interned.toArray }
  heap := heap
  slotsUsed := slotsUsed
  threads := #[{ frames := .invoking theMethod args0 :: below }]
def below0 : List Frame := [.native { method := ⟨0, 0⟩, args := #[] }]
def about1 : State := aboutOver below0
def p0 : Program := .bare "" "" ""
def e0 : Env := launch0.env 0 0 0
theorem w_frames : about1.frames = Frame.invoking theMethod args0 :: below0 := rfl
set_option maxRecDepth 65536 in
theorem w_args : argsFit about1.vm theMethod args0 = true := by decide +kernel
set_option maxRecDepth 65536 in
theorem w_heap : heapFits about1 = true := by decide +kernel
set_option maxRecDepth 65536 in
theorem w_runnable : about1.curStatus? = some .runnable := by decide +kernel
set_option maxRecDepth 65536 in
theorem w_alone : about1.alone = true := by decide +kernel
set_option maxRecDepth 65536 in
theorem w_named : about1.methodNamed? x = some theMethod := by decide +kernel
set_option maxRecDepth 65536 in
theorem w_hears : about1.hears theMethod below0 = true := by decide +kernel
set_option maxRecDepth 65536 in
theorem w_ripe : about1.ripe theMethod args0 below0 = true := by decide +kernel
theorem w_running : about1.status = .running := rfl
set_option maxRecDepth 65536 in
theorem w_room : about1.hasRoom e0.platform room_1 = true :=
  launch0.hasRoom_least _ room_1 (by decide +kernel) (by decide +kernel) (by decide +kernel) (by decide +kernel) (by decide +kernel) (by decide +kernel)
theorem allAtoms_all (ts : List Jvm.Cond) (a : Array Jvm.Value) (st : Jvm.State) : (allAtoms ts).before a st = ts.all (fun c => c.before a st) := by
  induction ts with
  | nil => rfl
  | cons c t ih =>
    show (Jvm.Cond.and c (allAtoms t)).before a st = _
    rw [Jvm.Cond.before_and, ih, List.all_cons]
def words1 : List Jvm.Cond := Jvm.Cond.code x code maxLocals ret :: tables_1
/-- a 'code' word, met by the world's own term for the bytes: nothing is compared byte by byte -/
theorem code_word {y : MethodName} {bytes : ByteArray} {mx : Nat} {rt : Option FieldType} {a : Array Value} {s : State} {m : MethodId} {meth : Method} {c : Code} (h1 : s.methodNamed? y = some m) (h2 : s.vm.method? m = some meth) (h3 : meth.code = some c) (h4 : c.code = bytes)
    (h5 : (c.maxLocals == mx && c.exceptionTable.isEmpty && decide (c.maxStack ≤ mostOperands) && decide (meth.sig.returnType = rt) && !meth.locks && decide (parseMethodDescriptor y.desc = some meth.sig)) = true) : (Jvm.Cond.code y bytes mx rt).before a s = true := by
  simp only [Bool.and_eq_true, beq_iff_eq, Bool.not_eq_true', decide_eq_true_eq] at h5
  obtain ⟨⟨⟨⟨⟨g1, g2⟩, g3⟩, g4⟩, g5⟩, g6⟩ := h5
  simp [Cond.before, Cond.holds, Cond.value, h1, h2, h3, h4, g1, g2, g3, g4, g5, g6]
def isCode : Jvm.Cond → Bool
  | .code _ _ _ _ => true
  | _ => false
theorem all_split {L : List Jvm.Cond} {P : Jvm.Cond → Bool} (h1 : L.all (fun c => isCode c || P c) = true) (h2 : ∀ c ∈ L.filter isCode, P c = true) : L.all P = true := by
  refine List.all_eq_true.mpr fun c hc => ?_
  have h := List.all_eq_true.mp h1 c hc
  rcases Bool.eq_false_or_eq_true (isCode c) with hi | hi
  · exact h2 c (List.mem_filter.mpr ⟨hc, hi⟩)
  · simpa [hi] using h
set_option maxRecDepth 65536 in
theorem w_c0 : (Jvm.Cond.code x code maxLocals ret).before args0 about1 = true := code_word (m := ⟨1, 2⟩) (meth := k1m2) (c := k1c2) (by decide +kernel) rfl rfl rfl (by decide +kernel)
set_option maxRecDepth 65536 in
theorem w_c1 : (Jvm.Cond.code ({ cls := "com/example/breakwater/breakwater/engine/ResultIsDeliveredPinLaw", name := "pick", desc := "(I)Lcom/example/breakwater/breakwater/engine/Outcome;" } : Jvm.MethodName) method_2_code (1 : Nat) (Option.some (Jvm.ClassFile.FieldType.object "com/example/breakwater/breakwater/engine/Outcome"))).before args0 about1 = true := code_word (m := ⟨1, 1⟩) (meth := k1m1) (c := k1c1) (by decide +kernel) rfl rfl rfl (by decide +kernel)
set_option maxRecDepth 65536 in
theorem w_c2 : (Jvm.Cond.code ({ cls := "com/example/breakwater/breakwater/engine/Result", name := "<init>", desc := "(Lcom/example/breakwater/breakwater/engine/Outcome;Lcom/example/breakwater/breakwater/engine/Address;ILjava/lang/Object;Ljava/lang/Object;)V" } : Jvm.MethodName) prog_18_method_1_code (6 : Nat) (Option.none : Option Jvm.ClassFile.FieldType)).before args0 about1 = true := code_word (m := ⟨7, 0⟩) (meth := k7m0) (c := k7c0) (by decide +kernel) rfl rfl rfl (by decide +kernel)
set_option maxRecDepth 65536 in
theorem w_c3 : (Jvm.Cond.code ({ cls := "java/lang/Object", name := "<init>", desc := "()V" } : Jvm.MethodName) object_method_1_code (1 : Nat) (Option.none : Option Jvm.ClassFile.FieldType)).before args0 about1 = true := code_word (m := ⟨0, 0⟩) (meth := k0m0) (c := k0c0) (by decide +kernel) rfl rfl rfl (by decide +kernel)
set_option maxRecDepth 65536 in
theorem w_c4 : (Jvm.Cond.code ({ cls := "com/example/breakwater/breakwater/engine/Result", name := "isDelivered", desc := "()Z" } : Jvm.MethodName) prog_18_method_3_code (1 : Nat) (Option.some Jvm.ClassFile.FieldType.boolean)).before args0 about1 = true := code_word (m := ⟨7, 2⟩) (meth := k7m2) (c := k7c2) (by decide +kernel) rfl rfl rfl (by decide +kernel)
set_option maxRecDepth 65536 in
theorem w_c5 : (Jvm.Cond.code ({ cls := "com/example/breakwater/breakwater/engine/Result", name := "getOutcome", desc := "()Lcom/example/breakwater/breakwater/engine/Outcome;" } : Jvm.MethodName) prog_18_method_2_code (1 : Nat) (Option.some (Jvm.ClassFile.FieldType.object "com/example/breakwater/breakwater/engine/Outcome"))).before args0 about1 = true := code_word (m := ⟨7, 1⟩) (meth := k7m1) (c := k7c1) (by decide +kernel) rfl rfl rfl (by decide +kernel)
set_option maxRecDepth 65536 in
theorem w_c6 : (Jvm.Cond.code ({ cls := "java/lang/Integer", name := "valueOf", desc := "(I)Ljava/lang/Integer;" } : Jvm.MethodName) jdk_33_method_22_code (1 : Nat) (Option.some (Jvm.ClassFile.FieldType.object "java/lang/Integer"))).before args0 about1 = true := code_word (m := ⟨10, 0⟩) (meth := k10m0) (c := k10c0) (by decide +kernel) rfl rfl rfl (by decide +kernel)
set_option maxRecDepth 65536 in
theorem w_c7 : (Jvm.Cond.code ({ cls := "java/lang/Long", name := "valueOf", desc := "(J)Ljava/lang/Long;" } : Jvm.MethodName) jdk_35_method_24_code (3 : Nat) (Option.some (Jvm.ClassFile.FieldType.object "java/lang/Long"))).before args0 about1 = true := code_word (m := ⟨12, 0⟩) (meth := k12m0) (c := k12c0) (by decide +kernel) rfl rfl rfl (by decide +kernel)
set_option maxRecDepth 65536 in
theorem w_c8 : (Jvm.Cond.code ({ cls := "java/lang/Long", name := "<init>", desc := "(J)V" } : Jvm.MethodName) jdk_35_method_26_code (3 : Nat) (Option.none : Option Jvm.ClassFile.FieldType)).before args0 about1 = true := code_word (m := ⟨12, 1⟩) (meth := k12m1) (c := k12c1) (by decide +kernel) rfl rfl rfl (by decide +kernel)
set_option maxRecDepth 65536 in
theorem w_c9 : (Jvm.Cond.code ({ cls := "java/lang/Number", name := "<init>", desc := "()V" } : Jvm.MethodName) jdk_18_method_1_code (1 : Nat) (Option.none : Option Jvm.ClassFile.FieldType)).before args0 about1 = true := code_word (m := ⟨8, 0⟩) (meth := k8m0) (c := k8c0) (by decide +kernel) rfl rfl rfl (by decide +kernel)
set_option maxRecDepth 65536 in
theorem w_c10 : (Jvm.Cond.code ({ cls := "java/lang/Integer", name := "<init>", desc := "(I)V" } : Jvm.MethodName) jdk_33_method_23_code (2 : Nat) (Option.none : Option Jvm.ClassFile.FieldType)).before args0 about1 = true := code_word (m := ⟨10, 1⟩) (meth := k10m1) (c := k10c1) (by decide +kernel) rfl rfl rfl (by decide +kernel)
def codes1 : List Jvm.Cond := [Jvm.Cond.code x code maxLocals ret, Jvm.Cond.code ({ cls := "com/example/breakwater/breakwater/engine/ResultIsDeliveredPinLaw", name := "pick", desc := "(I)Lcom/example/breakwater/breakwater/engine/Outcome;" } : Jvm.MethodName) method_2_code (1 : Nat) (Option.some (Jvm.ClassFile.FieldType.object "com/example/breakwater/breakwater/engine/Outcome")), Jvm.Cond.code ({ cls := "com/example/breakwater/breakwater/engine/Result", name := "<init>", desc := "(Lcom/example/breakwater/breakwater/engine/Outcome;Lcom/example/breakwater/breakwater/engine/Address;ILjava/lang/Object;Ljava/lang/Object;)V" } : Jvm.MethodName) prog_18_method_1_code (6 : Nat) (Option.none : Option Jvm.ClassFile.FieldType), Jvm.Cond.code ({ cls := "java/lang/Object", name := "<init>", desc := "()V" } : Jvm.MethodName) object_method_1_code (1 : Nat) (Option.none : Option Jvm.ClassFile.FieldType), Jvm.Cond.code ({ cls := "com/example/breakwater/breakwater/engine/Result", name := "isDelivered", desc := "()Z" } : Jvm.MethodName) prog_18_method_3_code (1 : Nat) (Option.some Jvm.ClassFile.FieldType.boolean), Jvm.Cond.code ({ cls := "com/example/breakwater/breakwater/engine/Result", name := "getOutcome", desc := "()Lcom/example/breakwater/breakwater/engine/Outcome;" } : Jvm.MethodName) prog_18_method_2_code (1 : Nat) (Option.some (Jvm.ClassFile.FieldType.object "com/example/breakwater/breakwater/engine/Outcome")), Jvm.Cond.code ({ cls := "java/lang/Integer", name := "valueOf", desc := "(I)Ljava/lang/Integer;" } : Jvm.MethodName) jdk_33_method_22_code (1 : Nat) (Option.some (Jvm.ClassFile.FieldType.object "java/lang/Integer")), Jvm.Cond.code ({ cls := "java/lang/Long", name := "valueOf", desc := "(J)Ljava/lang/Long;" } : Jvm.MethodName) jdk_35_method_24_code (3 : Nat) (Option.some (Jvm.ClassFile.FieldType.object "java/lang/Long")), Jvm.Cond.code ({ cls := "java/lang/Long", name := "<init>", desc := "(J)V" } : Jvm.MethodName) jdk_35_method_26_code (3 : Nat) (Option.none : Option Jvm.ClassFile.FieldType), Jvm.Cond.code ({ cls := "java/lang/Number", name := "<init>", desc := "()V" } : Jvm.MethodName) jdk_18_method_1_code (1 : Nat) (Option.none : Option Jvm.ClassFile.FieldType), Jvm.Cond.code ({ cls := "java/lang/Integer", name := "<init>", desc := "(I)V" } : Jvm.MethodName) jdk_33_method_23_code (2 : Nat) (Option.none : Option Jvm.ClassFile.FieldType)]
set_option maxRecDepth 65536 in
theorem codes_eq : words1.filter isCode = codes1 := rfl
theorem w_codes : ∀ c ∈ words1.filter isCode, c.before args0 about1 = true := by
  rw [codes_eq]
  intro c hc
  simp only [codes1, List.mem_cons, List.not_mem_nil, or_false] at hc
  rcases hc with rfl | rfl | rfl | rfl | rfl | rfl | rfl | rfl | rfl | rfl | rfl
  · exact w_c0
  · exact w_c1
  · exact w_c2
  · exact w_c3
  · exact w_c4
  · exact w_c5
  · exact w_c6
  · exact w_c7
  · exact w_c8
  · exact w_c9
  · exact w_c10
set_option maxRecDepth 65536 in
theorem w_t1 : (words1.take 24).all (fun c => isCode c || c.before args0 about1) = true := by decide +kernel
set_option maxRecDepth 65536 in
theorem w_t2 : ((words1.drop 24).take 24).all (fun c => isCode c || c.before args0 about1) = true := by decide +kernel
set_option maxRecDepth 65536 in
theorem w_t3 : (((words1.drop 24).drop 24).take 24).all (fun c => isCode c || c.before args0 about1) = true := by decide +kernel
set_option maxRecDepth 65536 in
theorem w_t4 : (((words1.drop 24).drop 24).drop 24).all (fun c => isCode c || c.before args0 about1) = true := by decide +kernel
theorem w_tables : (allAtoms (Jvm.Cond.code x code maxLocals ret :: tables_1)).before args0 about1 = true := by
  rw [allAtoms_all]
  show words1.all (fun c => c.before args0 about1) = true
  refine all_split ?_ w_codes
  rw [← List.take_append_drop 24 words1, List.all_append, w_t1, ← List.take_append_drop 24 (words1.drop 24), List.all_append, w_t2, ← List.take_append_drop 24 ((words1.drop 24).drop 24), List.all_append, w_t3, w_t4]
  rfl
set_option maxRecDepth 65536 in
theorem w_rest : rest_1_c.before args0 about1 = true := by decide +kernel
set_option maxRecDepth 65536 in
theorem w_case : (Jvm.Cond.and given_1 narrow_1).before args0 about1 = true := by decide +kernel
theorem w_applies : (headSpec (Jvm.Cond.code x code maxLocals ret :: tables_1) room_1).applies x e0.platform about1 = true :=
  (Spec.applies_iff w_frames).mpr ⟨w_running, w_runnable, w_alone, w_named, w_hears, w_ripe, w_room, w_tables⟩
theorem atStart : AtStart classFile x code maxLocals ret World_1 tables_1 room_1 Calls_1 rest_1 Pre_1 launch0 p0 e0 about1 theMethod args0 below0 :=
  ⟨lists_1, trivial, launch0.admits_env _ _ _, launch0.least_env, fairChoices_fair.cas, fairChoices_fair.clock, w_frames, w_args, w_heap, w_applies, trivial, w_rest, w_case⟩
end start1
theorem witness_1 : WitnessClaimed_1 := ⟨start1.p0, start1.e0, start1.about1, start1.theMethod, start1.args0, start1.below0, start1.atStart⟩
end Jvm.Pilot.@@N@@
