import JvmDerived
import JvmDerived.Pilot.@@N@@Statement
import JvmDerived.Pilot.@@N@@Code
set_option linter.unusedVariables false
set_option linter.unusedSimpArgs false
namespace Jvm.RoadKit
open Sem ClassFile Op Lib Jvm.Stand Jvm.Free Jvm.LawKit
section Own
variable {p : Program} {l : Launch} {e : Env} {R : Room} {s : State} {m : MethodId} {args : Array Value} {below : List Frame} {meth : Method} {c : Code} {T A B : State} {locs : List Loc} {cells slots K N : Nat} {P : State → Outcome → Prop} {Q : Option Value → Heap → List Loc → Prop}
/-- the run that stands at A comes to an end of which P holds -/
def Go (p : Program) (e : Env) (below : List Frame) (P : State → Outcome → Prop) (A : State) : Prop := ∃ s₂ o, Steps p.tables e below A s₂ ∧ s₂.status = .running ∧ Ended s₂ below o ∧ P s₂ o
def PostW (s : State) (K N : Nat) (Q : Option Value → Heap → List Loc → Prop) : State → Outcome → Prop := fun s₂ o => ∃ v L, o = .returned v ∧ Q v s₂.heap L ∧ FrameEnd s o s₂ L K N
theorem Go.by (h : ∀ t, Steps p.tables e below B t → Steps p.tables e below A t) (k : Go p e below P B) : Go p e below P A := by
  obtain ⟨s₂, o, h1, h2⟩ := k
  exact ⟨s₂, o, h _ h1, h2⟩
theorem Go.to (h : Steps p.tables e below A B) (k : Go p e below P B) : Go p e below P A := Go.by (fun _ q => h.trans q) k
theorem Go.cast {g g' : JFrame} (q : g = g') (k : Go p e below P (T.setTop g')) : Go p e below P (T.setTop g) := q ▸ k
theorem Go.ret (X : Stand p l e R s m args below meth c T locs cells slots) (hx : p.tables.exec = Jvm.exec) (hlk : meth.locks = false) {pc : Nat} {Ls : Array Slot} {w : Value} {t : FieldType} {i : Instr} {rest : List Value} (hret : meth.sig.returnType = some t) (hn : narrow t w = w)
    (hi : (i = .ireturn ∧ (t = .int ∨ t = .boolean ∨ t = .byte ∨ t = .char ∨ t = .short) ∧ ∃ z, w = .int z) ∨ (i = .lreturn ∧ t = .long ∧ ∃ z, w = .long z) ∨ (i = .dreturn ∧ t = .double ∧ ∃ z, w = .double z) ∨ (i = .freturn ∧ t = .float ∧ ∃ z, w = .float z) ∨ (i = .areturn ∧ t.isReference = true ∧ w.isRef = true))
    (hd : decode c.code pc = .ok (i, 1)) (hc : cells ≤ K) (hs : slots ≤ N) (hQ : Q (some w) T.heap locs) : Go p e below (PostW s K N Q) (T.setTop (mkF m pc Ls (w :: rest))) := by
  obtain ⟨fs, hr, hrun, hended, hW, hsame⟩ := X.leave (v := some w) (fun h => by rw [hret] at h; cases h) hlk
  exact ⟨_, _, retOut X hx hret hn hi hd hr, hrun, hended, _, _, rfl, hQ, ⟨_, rfl⟩, hW, hsame.mono hc hs⟩
theorem Go.retZ (X : Stand p l e R s m args below meth c T locs cells slots) (hx : p.tables.exec = Jvm.exec) (hlk : meth.locks = false) {pc : Nat} {Ls : Array Slot} {z : Int32} {t : FieldType} {rest : List Value} (hret : meth.sig.returnType = some t) (ht : t = .boolean ∨ t = .byte ∨ t = .char ∨ t = .short)
    (hd : decode c.code pc = .ok (.ireturn, 1)) (hc : cells ≤ K) (hs : slots ≤ N) (hQ : Q (some (.int (nar t z))) T.heap locs) : Go p e below (PostW s K N Q) (T.setTop (mkF m pc Ls (.int z :: rest))) := by
  obtain ⟨fs, hr, hrun, hended, hW, hsame⟩ := X.leave (v := some (.int (nar t z))) (fun h => by rw [hret] at h; cases h) hlk
  exact ⟨_, _, retN X hx hret ht hd hr, hrun, hended, _, _, rfl, hQ, ⟨_, rfl⟩, hW, hsame.mono hc hs⟩
theorem own_cat {w : Value} (h : w.isRef = true) : w.category = 1 := by cases w <;> first | rfl | (simp [Value.isRef] at h)
theorem own_narR {w : Value} {t : FieldType} (h : w.isRef = true) (ht : t.isReference = true) : narrow t w = w := by cases t <;> first | (cases ht; done) | (cases w <;> first | rfl | (simp [Value.isRef] at h))
theorem own_fitR {w : Value} {t : FieldType} (h : w.isRef = true) (ht : t.isReference = true) : fits t w = true := by cases t <;> first | (cases ht; done) | (cases w <;> first | rfl | (simp [Value.isRef] at h))
theorem Go.retV (X : Stand p l e R s m args below meth c T locs cells slots) (hx : p.tables.exec = Jvm.exec) (hlk : meth.locks = false) {pc : Nat} {Ls : Array Slot} (hret : meth.sig.returnType = none)
    (hd : decode c.code pc = .ok (.return_, 1)) (hc : cells ≤ K) (hs : slots ≤ N) (hQ : Q none T.heap locs) : Go p e below (PostW s K N Q) (T.setTop (mkF m pc Ls [])) := by
  obtain ⟨fs, hr, hrun, hended, hW, hsame⟩ := X.leave (v := none) (fun _ => rfl) hlk
  exact ⟨_, _, X.returnOut hx hret hd hr, hrun, hended, _, _, rfl, hQ, ⟨_, rfl⟩, hW, hsame.mono hc hs⟩
theorem wd {L : List Cond} {a0 : Array Value} {Z : State} (hw : ∀ d ∈ L, d.before a0 Z = true) (i : Nat) {d : Cond} (h : L[i]? = some d) : d.before a0 Z = true := hw d (List.mem_of_getElem? h)
/-- a callee's contract, as the walks here say it -/
abbrev Met (l : Launch) (Z : State) (y : MethodName) (bytes : ByteArray) (maxL : Nat) (ret : Option FieldType) (ws : List Cond) (rm : Room) (as' : Array Value) (h0 : Heap) (Q : Option Value → Heap → List Loc → Prop) : Prop :=
  MetFree l y (head1 (Cond.code y bytes maxL ret :: ws) rm) (fun a U => a = as' ∧ Z.Warmed39 U.vm ∧ U.heap = h0) (fun _ _ _ _ _ => True) (fun _ U o U' => ∃ v L, o = .returned v ∧ Q v U'.heap L ∧ FrameEnd U o U' L rm.cells rm.slots)
theorem Met.enter {Z : State} {y : MethodName} {bytes : ByteArray} {maxL : Nat} {ret : Option FieldType} {ws : List Cond} {rm : Room} {as' : Array Value} {h0 : Heap} {f0 : MethodId → JFrame} (hpl : plainFor y = true) (hf0 : ∀ m, entryFrame m as' maxL = f0 m)
    (body : ∀ (p : Program) (e : Env) (s : State) (m : MethodId) (below : List Frame) (meth : Method) (c : Code) (s₁ : State), p.tables.exec = Jvm.exec → c.code = bytes → c.maxLocals = maxL → s.vm.findClass y.cls = some m.cls → meth.name = y.name → meth.sig.returnType = ret → meth.locks = false → Z.Warmed39 s.vm → Stand p l e rm s m as' below meth c s₁ [] 0 0 → s₁.heap = h0 → Go p e below (PostW s rm.cells rm.slots Q) (s₁.setTop (f0 m))) : Met l Z y bytes maxL ret ws rm as' h0 Q := by
  refine MetFree.of_bodySF hpl hisR ?_
  intro p e s m args below meth c s₁ Bd hml0 hP hK
  obtain ⟨rfl, hZ, hh⟩ := hP
  have q := body p e s m below meth c s₁ Bd.exec Bd.bytes hml0 (findClass_of_methodNamed Bd.named) (name_of_methodNamed Bd.named Bd.method).1 Bd.returns Bd.notSynchronized hZ (Stand.of_body Bd) (by rw [← hh, Bd.state]; rfl)
  rw [← hf0] at q
  exact q
end Own
end Jvm.RoadKit
namespace Jvm.Pilot.@@N@@
open Jvm Jvm.ClassFile Sem Op Lib Jvm.Free Jvm.Stand Jvm.LawKit Jvm.RoadKit Bundle Jvm.Pilot.@@N@@.Jvm.D
theorem own_eqk {args : Array Value} {first s : State} {o : Option Outcome} {idx : List Nat} {t : Term} {k : Int32} (h : (Jvm.Cond.eq t (Term.int k)).value args first o s idx = some true) : t.eval args first o idx s = some (.int k) := by
  obtain ⟨x, y, ex, ey, -, k2⟩ := cmp_v (Or.inl h)
  have e2 : y = .int k := Option.some.inj (ey.symm.trans (Term.int_eval k))
  subst e2
  obtain ⟨z, rfl⟩ := k2
  have := gotT (Cond.eq_ints ex (Term.int_eval k)) h
  rw [ex, this]

theorem own_eqL {args : Array Value} {first s : State} {o : Option Outcome} {idx : List Nat} {t u : Term} {k : Int64} (h : (Jvm.Cond.eq t u).value args first o s idx = some true) (hu : u.eval args first o idx s = some (.long k)) : t.eval args first o idx s = some (.long k) := by
  obtain ⟨x, y, ex, ey, -, k2⟩ := cmp_v (Or.inl h)
  have e2 : y = .long k := Option.some.inj (ey.symm.trans hu)
  subst e2
  obtain ⟨z, rfl⟩ := k2
  have := gotT (eq_L ex hu) h
  rw [ex, this]
abbrev own_rem (n : Int64) : Int64 := n - n / (1000000000 : Int64) * (1000000000 : Int64)
def own_dur (n qs : Int64) (ps : Int32) : Prop := ((own_rem n).toInt32 < (0 : Int32) → qs = n / (1000000000 : Int64) - (1 : Int64) ∧ ps = (own_rem n).toInt32 + (1000000000 : Int32)) ∧ (¬ (own_rem n).toInt32 < (0 : Int32) → qs = n / (1000000000 : Int64) ∧ ps = (own_rem n).toInt32)
theorem own_or0 {q : Int64} {p : Int32} (h : (q ||| p.toInt64) = (0 : Int64)) : q = 0 ∧ p = 0 := by
  have hb : q.toBitVec ||| p.toInt64.toBitVec = 0#64 := congrArg Int64.toBitVec h
  have h1 : q.toBitVec = 0#64 := by
    apply BitVec.eq_of_getLsbD_eq
    intro i hi
    have := congrArg (fun b => b.getLsbD i) hb
    simp at this ⊢
    exact this.1
  have h2 : p.toInt64.toBitVec = 0#64 := by
    rw [h1] at hb
    simpa using hb
  have e1 : q = 0 := Int64.toBitVec_inj.mp h1
  have e2 : p.toInt64 = 0 := Int64.toBitVec_inj.mp h2
  refine ⟨e1, ?_⟩
  rw [← Int32.toInt_inj, ← c_i2l, e2]
  decide
theorem own_remE (n : Int64) : -1000000000 < (own_rem n).toInt ∧ (own_rem n).toInt < 1000000000 := by
  have h := c_lrem n (1000000000 : Int64) 1000000000 (by decide)
  rcases Int.lt_or_le n.toInt 0 with q | q
  · have := h.2 q
    show -1000000000 < (n - n / (1000000000 : Int64) * (1000000000 : Int64)).toInt ∧ (n - n / (1000000000 : Int64) * (1000000000 : Int64)).toInt < 1000000000
    omega
  · have := h.1 q
    show -1000000000 < (n - n / (1000000000 : Int64) * (1000000000 : Int64)).toInt ∧ (n - n / (1000000000 : Int64) * (1000000000 : Int64)).toInt < 1000000000
    omega
theorem own_lawR {R qs Q : Int64} {ps : Int32} (b1 : -1000000000 < R.toInt) (b2 : R.toInt < 1000000000) (h : (R.toInt32 < (0 : Int32) → qs = Q - (1 : Int64) ∧ ps = R.toInt32 + (1000000000 : Int32)) ∧ (¬ R.toInt32 < (0 : Int32) → qs = Q ∧ ps = R.toInt32)) : (R < (0 : Int64) → qs = Q - (1 : Int64) ∧ ps.toInt64 = R + (1000000000 : Int64)) ∧ (¬ R < (0 : Int64) → qs = Q ∧ ps.toInt64 = R) := by
  have c1 := c_l2i R
  have c2 := rng32 R.toInt32
  have e1 : R.toInt32.toInt = R.toInt := by omega
  have z1 : (0 : Int32).toInt = 0 := by decide
  have z2 : (0 : Int64).toInt = 0 := by decide
  have z3 : (1000000000 : Int32).toInt = 1000000000 := by decide
  have z4 : (1000000000 : Int64).toInt = 1000000000 := by decide
  generalize hk3 : (1000000000 : Int32) = k3 at *
  generalize hk4 : (1000000000 : Int64) = k4 at *
  have hiff : R.toInt32 < (0 : Int32) ↔ R < (0 : Int64) := by rw [Int32.lt_iff_toInt_lt, Int64.lt_iff_toInt_lt, e1, z1, z2]
  refine ⟨fun hc => ?_, fun hc => ?_⟩
  · obtain ⟨rfl, rfl⟩ := h.1 (hiff.mpr hc)
    refine ⟨rfl, ?_⟩
    rw [Int64.lt_iff_toInt_lt, z2] at hc
    have d1 := c_iadd R.toInt32 k3
    have d2 := rng32 (R.toInt32 + k3)
    have d3 := c_ladd R k4
    have d4 := rng64 (R + k4)
    rw [← Int64.toInt_inj, c_i2l]
    clear h hiff hk3 hk4
    omega
  · obtain ⟨rfl, rfl⟩ := h.2 (fun q => hc (hiff.mp q))
    refine ⟨rfl, ?_⟩
    rw [← Int64.toInt_inj, c_i2l]
    exact e1
theorem own_law {d qs q r : Int64} {ps : Int32} (h : own_dur d qs ps) (hq : q = d / (1000000000 : Int64)) (hr : r = own_rem d) : (r < (0 : Int64) → qs = q - (1 : Int64) ∧ ps.toInt64 = r + (1000000000 : Int64)) ∧ (¬ r < (0 : Int64) → qs = q ∧ ps.toInt64 = r) := by
  subst hq hr
  obtain ⟨b1, b2⟩ := own_remE d
  exact own_lawR b1 b2 h

theorem ef_rm_Record_init (m : MethodId) (x0 : Addr) : entryFrame m #[(.ref x0)] 1 = mkF m 0 #[.val (.ref x0)] [] := by first | (simp [entryFrame, mkF, argsToLocals, Value.category]; done) | rfl
theorem d2_0 : decode jdk_30_method_1_code 0 = .ok (.aload_n 0, 1) := by decide +kernel
theorem d2_1 : decode jdk_30_method_1_code 1 = .ok (.invokespecial 1, 3) := by decide +kernel
theorem d2_4 : decode jdk_30_method_1_code 4 = .ok (.return_, 1) := by decide +kernel
theorem pn_java_lang_Record : plainName "java/lang/Record" = true := by first | (simp [plainName, overriddenIn]; done) | decide +kernel
def Q_rm_Record_init (Z : State) (a1 : Addr) (h0 : Heap) (n0 : Nat) (v : Option Value) (h : Heap) (L : List Loc) : Prop := v = none ∧ Fr n0 L ∧ h = h0
set_option maxRecDepth 65536 in
set_option maxHeartbeats 40000000 in
theorem rm_Record_init (l : Launch) (Z : State) (a0 : Array Value) (hw : ∀ d ∈ tables_1, d.before a0 Z = true) (ws : List Jvm.Cond) (a1 : Addr) (h0 : Heap) (n0 : Nat) (Z0 : n0 ≤ h0.size) :
    Met l Z (⟨"java/lang/Record", "<init>", "()V"⟩ : MethodName) jdk_30_method_1_code 1 none ws ({ frames := 1, cells := 0, slots := 0, locals := 12 } : Room) #[(.ref a1)] h0 (Q_rm_Record_init Z a1 h0 n0) := by
  refine Met.enter (f0 := fun m => mkF m 0 #[.val (.ref a1)] []) (plainFor_of_name pn_java_lang_Record) (fun m => ef_rm_Record_init m a1) ?_
  intro p e s m below meth c s₁ hx hby hml hown hnm hret hlk hZ X0 e0
  have hown : s.vm.findClass "java/lang/Record" = some m.cls := hown
  have hnm : meth.name = "<init>" := hnm
  have hml : c.maxLocals = 1 := hml
  have hby : c.code = jdk_30_method_1_code := hby
  have N0 := Fr.nil n0
  refine Go.by (B := (s₁.setTop (mkF m 1 #[.val (.ref a1)] [(.ref a1)]))) (fun _ k => XS.aloadN X0.here hx rfl (hb hby d2_0) rfl rfl k) ?_
  obtain ⟨T1, X1, e1, st1⟩ := initO X0 hx hZ hown (wd hw 11 rfl) (wd hw 12 rfl) (wd hw 13 rfl) e0 (g := (mkF m 1 #[.val (.ref a1)] [(.ref a1)])) rfl (by rw [hml]; rfl) rfl (hb hby d2_1) (by decide) (W := 0) (by show 2 * 0 + _ ≤ _; exact Nat.le_of_eq rfl) (by decide)
  refine Go.by (B := (T1.setTop (mkF m 4 #[.val (.ref a1)] []))) st1 ?_
  refine Go.retV X1 hx hlk hret (hb hby d2_4) (by decide) (by decide) ?_
  rw [e1]
  exact ⟨rfl, N0, rfl⟩
theorem ef_rm_tinit (m : MethodId) (x0 : Addr) (x1 : Int64) (x2 : Int64) : entryFrame m #[(.ref x0), (.long x1), (.long x2)] 5 = mkF m 0 #[.val (.ref x0), .val (.long x1), .second, .val (.long x2), .second] [] := by first | (simp [entryFrame, mkF, argsToLocals, Value.category]; done) | rfl
theorem d1_0 : decode prog_12_method_1_code 0 = .ok (.aload_n 0, 1) := by decide +kernel
theorem d1_1 : decode prog_12_method_1_code 1 = .ok (.invokespecial 1, 3) := by decide +kernel
theorem pd_0 : parseMethodDescriptor "()V" = some ⟨[], none⟩ := by decide +kernel
theorem d1_4 : decode prog_12_method_1_code 4 = .ok (.aload_n 0, 1) := by decide +kernel
theorem d1_5 : decode prog_12_method_1_code 5 = .ok (.lload_n 1, 1) := by decide +kernel
theorem d1_6 : decode prog_12_method_1_code 6 = .ok (.putfield 7, 3) := by decide +kernel
theorem d1_9 : decode prog_12_method_1_code 9 = .ok (.aload_n 0, 1) := by decide +kernel
theorem d1_10 : decode prog_12_method_1_code 10 = .ok (.lload_n 3, 1) := by decide +kernel
theorem d1_11 : decode prog_12_method_1_code 11 = .ok (.putfield 13, 3) := by decide +kernel
theorem d1_14 : decode prog_12_method_1_code 14 = .ok (.return_, 1) := by decide +kernel
theorem pn_com_example_orderly_outbox_orderlyoutbox_relay_Batch_Timing : plainName "com/example/orderly_outbox/orderlyoutbox/relay/Batch$Timing" = true := by first | (simp [plainName, overriddenIn]; done) | decide +kernel
def Q_rm_tinit (Z : State) (a1 : Addr) (q1 : Int64) (q2 : Int64) (h0 : Heap) (n0 : Nat) (v : Option Value) (h : Heap) (L : List Loc) : Prop := v = none ∧ Fr n0 L ∧ Keep h0 h [a1] ∧ Exa Z h a1 "com/example/orderly_outbox/orderlyoutbox/relay/Batch$Timing" ∧ Fld Z h a1 "com/example/orderly_outbox/orderlyoutbox/relay/Batch$Timing" "startedAt" "J" (.long q1) ∧ Fld Z h a1 "com/example/orderly_outbox/orderlyoutbox/relay/Batch$Timing" "endedAt" "J" (.long q2)
set_option maxRecDepth 65536 in
set_option maxHeartbeats 40000000 in
theorem rm_tinit (l : Launch) (Z : State) (a0 : Array Value) (hw : ∀ d ∈ tables_1, d.before a0 Z = true) (ws : List Jvm.Cond) (a1 : Addr) (q1 : Int64) (q2 : Int64) (h0 : Heap) (n0 : Nat) (Z0 : n0 ≤ h0.size) (pr0 : Old Z n0 h0) (pr1 : Exa Z h0 a1 "com/example/orderly_outbox/orderlyoutbox/relay/Batch$Timing") (pr2 : Fld Z h0 a1 "com/example/orderly_outbox/orderlyoutbox/relay/Batch$Timing" "startedAt" "J" (.long (0 : Int64))) (pr3 : Fld Z h0 a1 "com/example/orderly_outbox/orderlyoutbox/relay/Batch$Timing" "endedAt" "J" (.long (0 : Int64))) (pr4 : n0 ≤ a1) :
    Met l Z (⟨"com/example/orderly_outbox/orderlyoutbox/relay/Batch$Timing", "<init>", "(JJ)V"⟩ : MethodName) prog_12_method_1_code 5 none ws ({ frames := 2, cells := 0, slots := 0, locals := 24 } : Room) #[(.ref a1), (.long q1), (.long q2)] h0 (Q_rm_tinit Z a1 q1 q2 h0 n0) := by
  refine Met.enter (f0 := fun m => mkF m 0 #[.val (.ref a1), .val (.long q1), .second, .val (.long q2), .second] []) (plainFor_of_name pn_com_example_orderly_outbox_orderlyoutbox_relay_Batch_Timing) (fun m => ef_rm_tinit m a1 q1 q2) ?_
  intro p e s m below meth c s₁ hx hby hml hown hnm hret hlk hZ X0 e0
  have hown : s.vm.findClass "com/example/orderly_outbox/orderlyoutbox/relay/Batch$Timing" = some m.cls := hown
  have hnm : meth.name = "<init>" := hnm
  have hml : c.maxLocals = 5 := hml
  have hby : c.code = prog_12_method_1_code := hby
  have N0 := Fr.nil n0
  refine Go.by (B := (s₁.setTop (mkF m 1 #[.val (.ref a1), .val (.long q1), .second, .val (.long q2), .second] [(.ref a1)]))) (fun _ k => XS.aloadN X0.here hx rfl (hb hby d1_0) rfl rfl k) ?_
  obtain ⟨_, _, ⟨T2, L2, k2, n2⟩, -, X2, ⟨Lc2, hQ2, l2, y2, z2⟩, st2⟩ := X0.specialBack hx (y := (⟨"java/lang/Record", "<init>", "()V"⟩ : MethodName)) rfl hown (mvT hZ (wd hw 6 rfl)) (mvT hZ (wd hw 7 rfl)) (mvT hZ (wd hw 10 rfl)) (by decide) (backOf (W := 0) (rm_Record_init l Z a0 hw [] a1 h0 n0 Z0 ) hZ (wd hw 10 rfl) (wd hw 9 rfl) (by decide) (by decide)) (g := (mkF m 1 #[.val (.ref a1), .val (.long q1), .second, .val (.long q2), .second] [(.ref a1)])) rfl (by rw [hml]; rfl) (Steps.refl _) (a := a1) (argsL := []) (rest := []) (lenOf pd_0 rfl) rfl (by show 2 * 0 + _ ≤ _; exact Nat.le_of_eq rfl) (hb hby d1_1) (fun _ _ => ⟨rfl, e0, Nat.le_of_ble_eq_true rfl, Nat.le_of_ble_eq_true rfl⟩)
  dsimp only [Pt.U, Pt.locs, Pt.cells, Pt.slots] at X2 l2 y2 z2 st2 hQ2
  subst l2 y2 z2
  obtain ⟨rfl, Nq2, hh2⟩ := hQ2
  have N2 := Fr.app N0 Nq2
  refine Go.by (B := (T2.setTop (mkF m 4 #[.val (.ref a1), .val (.long q1), .second, .val (.long q2), .second] []))) (fun _ k => st2.trans k) ?_
  refine Go.by (B := (T2.setTop (mkF m 6 #[.val (.ref a1), .val (.long q1), .second, .val (.long q2), .second] [(.long q1), (.ref a1)]))) (fun _ k => XS.aloadN X2.here hx rfl (hb hby d1_4) rfl rfl (XS.lloadN X2.here hx rfl (hb hby d1_5) rfl k)) ?_
  obtain ⟨T3, h3, X3, e3, W3, st3⟩ := putF X2 hx hZ hown (host := "") (Or.inl (wd hw 14 rfl)) Via.refl hh2 pr2 pr1 (Or.inr ⟨(wd hw 15 rfl), rfl, hnm⟩) (wd hw 1 rfl) (ty := .long) (by decide) rfl rfl (g := (mkF m 6 #[.val (.ref a1), .val (.long q1), .second, .val (.long q2), .second] [(.long q1), (.ref a1)])) rfl rfl (hb hby d1_6)
  have N3 := Fr.snoc X3 N2 pr4
  have O4 := pr0.wr W3 pr4
  have Z4 : n0 ≤ h3.size := Nat.le_trans Z0 (Keep.of_wr W3).1
  have F3 := pr2.same W3
  refine Go.by (B := (T3.setTop (mkF m 9 #[.val (.ref a1), .val (.long q1), .second, .val (.long q2), .second] []))) st3 ?_
  refine Go.by (B := (T3.setTop (mkF m 11 #[.val (.ref a1), .val (.long q1), .second, .val (.long q2), .second] [(.long q2), (.ref a1)]))) (fun _ k => XS.aloadN X3.here hx rfl (hb hby d1_9) rfl rfl (XS.lloadN X3.here hx rfl (hb hby d1_10) rfl k)) ?_
  have f5 := (pr3.other W3 (Or.inr (slot_ne (Or.inr (wd hw 17 rfl)) (Or.inr (wd hw 15 rfl)) (by decide) (t := .long) (t' := .long) (by decide) (by decide))))
  obtain ⟨T6, h6, X6, e6, W6, st6⟩ := putF X3 hx hZ hown (host := "") (Or.inl (wd hw 16 rfl)) Via.refl e3 f5 (pr1.wr W3) (Or.inr ⟨(wd hw 17 rfl), rfl, hnm⟩) (wd hw 1 rfl) (ty := .long) (by decide) rfl rfl (g := (mkF m 11 #[.val (.ref a1), .val (.long q1), .second, .val (.long q2), .second] [(.long q2), (.ref a1)])) rfl rfl (hb hby d1_11)
  have N6 := Fr.snoc X6 N3 pr4
  have O7 := O4.wr W6 pr4
  have Z7 : n0 ≤ h6.size := Nat.le_trans Z4 (Keep.of_wr W6).1
  have F6 := f5.same W6
  refine Go.by (B := (T6.setTop (mkF m 14 #[.val (.ref a1), .val (.long q1), .second, .val (.long q2), .second] []))) st6 ?_
  refine Go.retV X6 hx hlk hret (hb hby d1_14) (by decide) (by decide) ?_
  rw [e6]
  exact ⟨rfl, N6, (((Keep.refl h0 [a1]).wr W3 (Or.inl (List.mem_of_getElem? (i := 0) rfl))).wr W6 (Or.inl (List.mem_of_getElem? (i := 0) rfl))), ((pr1.wr W3).wr W6), (F3.other W6 (Or.inr (slot_ne (Or.inr (wd hw 15 rfl)) (Or.inr (wd hw 17 rfl)) (by decide) (t := .long) (t' := .long) (by decide) (by decide)))), F6⟩
theorem ef_rm_dinit (m : MethodId) (x0 : Addr) (x1 : Int64) (x2 : Int32) : entryFrame m #[(.ref x0), (.long x1), (.int x2)] 4 = mkF m 0 #[.val (.ref x0), .val (.long x1), .second, .val (.int x2)] [] := by first | (simp [entryFrame, mkF, argsToLocals, Value.category]; done) | rfl
theorem d9_0 : decode jdk_2316_method_17_code 0 = .ok (.aload_n 0, 1) := by decide +kernel
theorem d9_1 : decode jdk_2316_method_17_code 1 = .ok (.invokespecial 218, 3) := by decide +kernel
theorem d9_4 : decode jdk_2316_method_17_code 4 = .ok (.aload_n 0, 1) := by decide +kernel
theorem d9_5 : decode jdk_2316_method_17_code 5 = .ok (.lload_n 1, 1) := by decide +kernel
theorem d9_6 : decode jdk_2316_method_17_code 6 = .ok (.putfield 221, 3) := by decide +kernel
theorem d9_9 : decode jdk_2316_method_17_code 9 = .ok (.aload_n 0, 1) := by decide +kernel
theorem d9_10 : decode jdk_2316_method_17_code 10 = .ok (.iload_n 3, 1) := by decide +kernel
theorem d9_11 : decode jdk_2316_method_17_code 11 = .ok (.putfield 224, 3) := by decide +kernel
theorem d9_14 : decode jdk_2316_method_17_code 14 = .ok (.return_, 1) := by decide +kernel
theorem pn_java_time_Duration : plainName "java/time/Duration" = true := by first | (simp [plainName, overriddenIn]; done) | decide +kernel
def Q_rm_dinit (Z : State) (a1 : Addr) (q1 : Int64) (p2 : Int32) (h0 : Heap) (n0 : Nat) (v : Option Value) (h : Heap) (L : List Loc) : Prop := v = none ∧ Fr n0 L ∧ Keep h0 h [a1] ∧ Exa Z h a1 "java/time/Duration" ∧ Fld Z h a1 "java/time/Duration" "seconds" "J" (.long q1) ∧ Fld Z h a1 "java/time/Duration" "nanos" "I" (.int p2)
set_option maxRecDepth 65536 in
set_option maxHeartbeats 40000000 in
theorem rm_dinit (l : Launch) (Z : State) (a0 : Array Value) (hw : ∀ d ∈ tables_1, d.before a0 Z = true) (ws : List Jvm.Cond) (a1 : Addr) (q1 : Int64) (p2 : Int32) (h0 : Heap) (n0 : Nat) (Z0 : n0 ≤ h0.size) (pr0 : Old Z n0 h0) (pr1 : Exa Z h0 a1 "java/time/Duration") (pr2 : Fld Z h0 a1 "java/time/Duration" "seconds" "J" (.long (0 : Int64))) (pr3 : Fld Z h0 a1 "java/time/Duration" "nanos" "I" (.int 0)) (pr4 : n0 ≤ a1) :
    Met l Z (⟨"java/time/Duration", "<init>", "(JI)V"⟩ : MethodName) jdk_2316_method_17_code 4 none ws ({ frames := 1, cells := 0, slots := 0, locals := 12 } : Room) #[(.ref a1), (.long q1), (.int p2)] h0 (Q_rm_dinit Z a1 q1 p2 h0 n0) := by
  refine Met.enter (f0 := fun m => mkF m 0 #[.val (.ref a1), .val (.long q1), .second, .val (.int p2)] []) (plainFor_of_name pn_java_time_Duration) (fun m => ef_rm_dinit m a1 q1 p2) ?_
  intro p e s m below meth c s₁ hx hby hml hown hnm hret hlk hZ X0 e0
  have hown : s.vm.findClass "java/time/Duration" = some m.cls := hown
  have hnm : meth.name = "<init>" := hnm
  have hml : c.maxLocals = 4 := hml
  have hby : c.code = jdk_2316_method_17_code := hby
  have N0 := Fr.nil n0
  refine Go.by (B := (s₁.setTop (mkF m 1 #[.val (.ref a1), .val (.long q1), .second, .val (.int p2)] [(.ref a1)]))) (fun _ k => XS.aloadN X0.here hx rfl (hb hby d9_0) rfl rfl k) ?_
  obtain ⟨T8, X8, e8, st8⟩ := initO X0 hx hZ hown (wd hw 54 rfl) (wd hw 12 rfl) (wd hw 13 rfl) e0 (g := (mkF m 1 #[.val (.ref a1), .val (.long q1), .second, .val (.int p2)] [(.ref a1)])) rfl (by rw [hml]; rfl) rfl (hb hby d9_1) (by decide) (W := 0) (by show 2 * 0 + _ ≤ _; exact Nat.le_of_eq rfl) (by decide)
  refine Go.by (B := (T8.setTop (mkF m 4 #[.val (.ref a1), .val (.long q1), .second, .val (.int p2)] []))) st8 ?_
  refine Go.by (B := (T8.setTop (mkF m 6 #[.val (.ref a1), .val (.long q1), .second, .val (.int p2)] [(.long q1), (.ref a1)]))) (fun _ k => XS.aloadN X8.here hx rfl (hb hby d9_4) rfl rfl (XS.lloadN X8.here hx rfl (hb hby d9_5) rfl k)) ?_
  obtain ⟨T9, h9, X9, e9, W9, st9⟩ := putF X8 hx hZ hown (host := "") (Or.inl (wd hw 38 rfl)) Via.refl e8 pr2 pr1 (Or.inr ⟨(wd hw 39 rfl), rfl, hnm⟩) (wd hw 49 rfl) (ty := .long) (by decide) rfl rfl (g := (mkF m 6 #[.val (.ref a1), .val (.long q1), .second, .val (.int p2)] [(.long q1), (.ref a1)])) rfl rfl (hb hby d9_6)
  have N9 := Fr.snoc X9 N0 pr4
  have O10 := pr0.wr W9 pr4
  have Z10 : n0 ≤ h9.size := Nat.le_trans Z0 (Keep.of_wr W9).1
  have F9 := pr2.same W9
  refine Go.by (B := (T9.setTop (mkF m 9 #[.val (.ref a1), .val (.long q1), .second, .val (.int p2)] []))) st9 ?_
  refine Go.by (B := (T9.setTop (mkF m 11 #[.val (.ref a1), .val (.long q1), .second, .val (.int p2)] [(.int p2), (.ref a1)]))) (fun _ k => XS.aloadN X9.here hx rfl (hb hby d9_9) rfl rfl (XS.iloadN X9.here hx rfl (hb hby d9_10) rfl k)) ?_
  have f11 := (pr3.other W9 (Or.inr (slot_ne (Or.inr (wd hw 46 rfl)) (Or.inr (wd hw 39 rfl)) (by decide) (t := .int) (t' := .long) (by decide) (by decide))))
  obtain ⟨T12, h12, X12, e12, W12, st12⟩ := putF X9 hx hZ hown (host := "") (Or.inl (wd hw 45 rfl)) Via.refl e9 f11 (pr1.wr W9) (Or.inr ⟨(wd hw 46 rfl), rfl, hnm⟩) (wd hw 49 rfl) (ty := .int) (by decide) rfl rfl (g := (mkF m 11 #[.val (.ref a1), .val (.long q1), .second, .val (.int p2)] [(.int p2), (.ref a1)])) rfl rfl (hb hby d9_11)
  have N12 := Fr.snoc X12 N9 pr4
  have O13 := O10.wr W12 pr4
  have Z13 : n0 ≤ h12.size := Nat.le_trans Z10 (Keep.of_wr W12).1
  have F12 := f11.same W12
  refine Go.by (B := (T12.setTop (mkF m 14 #[.val (.ref a1), .val (.long q1), .second, .val (.int p2)] []))) st12 ?_
  refine Go.retV X12 hx hlk hret (hb hby d9_14) (by decide) (by decide) ?_
  rw [e12]
  exact ⟨rfl, N12, (((Keep.refl h0 [a1]).wr W9 (Or.inl (List.mem_of_getElem? (i := 0) rfl))).wr W12 (Or.inl (List.mem_of_getElem? (i := 0) rfl))), ((pr1.wr W9).wr W12), (F9.other W12 (Or.inr (slot_ne (Or.inr (wd hw 39 rfl)) (Or.inr (wd hw 46 rfl)) (by decide) (t := .long) (t' := .int) (by decide) (by decide)))), F12⟩
theorem ef_rm_create (m : MethodId) (x0 : Int64) (x1 : Int32) : entryFrame m #[(.long x0), (.int x1)] 3 = mkF m 0 #[.val (.long x0), .second, .val (.int x1)] [] := by first | (simp [entryFrame, mkF, argsToLocals, Value.category]; done) | rfl
theorem d6_0 : decode jdk_2316_method_16_code 0 = .ok (.lload_n 0, 1) := by decide +kernel
theorem d6_1 : decode jdk_2316_method_16_code 1 = .ok (.iload_n 2, 1) := by decide +kernel
theorem d6_2 : decode jdk_2316_method_16_code 2 = .ok (.i2l, 1) := by decide +kernel
theorem d6_3 : decode jdk_2316_method_16_code 3 = .ok (.lor, 1) := by decide +kernel
theorem d6_4 : decode jdk_2316_method_16_code 4 = .ok (.lconst 0, 1) := by decide +kernel
theorem d6_5 : decode jdk_2316_method_16_code 5 = .ok (.lcmp, 1) := by decide +kernel
theorem d6_6 : decode jdk_2316_method_16_code 6 = .ok (.ifCond .ne 7, 3) := by decide +kernel
theorem d6_9 : decode jdk_2316_method_16_code 9 = .ok (.getstatic 32, 3) := by decide +kernel
theorem d6_12 : decode jdk_2316_method_16_code 12 = .ok (.areturn, 1) := by decide +kernel
theorem d6_13 : decode jdk_2316_method_16_code 13 = .ok (.new 11, 3) := by decide +kernel
theorem d6_16 : decode jdk_2316_method_16_code 16 = .ok (.dup, 1) := by decide +kernel
theorem d6_17 : decode jdk_2316_method_16_code 17 = .ok (.lload_n 0, 1) := by decide +kernel
theorem d6_18 : decode jdk_2316_method_16_code 18 = .ok (.iload_n 2, 1) := by decide +kernel
theorem d6_19 : decode jdk_2316_method_16_code 19 = .ok (.invokespecial 215, 3) := by decide +kernel
theorem pd_1 : parseMethodDescriptor "(JI)V" = some ⟨[.long, .int], none⟩ := by decide +kernel
theorem d6_22 : decode jdk_2316_method_16_code 22 = .ok (.areturn, 1) := by decide +kernel
def Q_rm_create (Z : State) (q1 : Int64) (p2 : Int32) (wz : Addr) (h0 : Heap) (n0 : Nat) (v : Option Value) (h : Heap) (L : List Loc) : Prop := ∃ b : Addr, v = some (.ref b) ∧ Fr n0 L ∧ Keep h0 h [] ∧ Exa Z h b "java/time/Duration" ∧ Fld Z h b "java/time/Duration" "seconds" "J" (.long q1) ∧ Fld Z h b "java/time/Duration" "nanos" "I" (.int p2)
set_option maxRecDepth 65536 in
set_option maxHeartbeats 40000000 in
theorem rm_create (l : Launch) (Z : State) (a0 : Array Value) (hw : ∀ d ∈ tables_1, d.before a0 Z = true) (ws : List Jvm.Cond) (q1 : Int64) (p2 : Int32) (wz : Addr) (h0 : Heap) (n0 : Nat) (Z0 : n0 ≤ h0.size) (pr0 : Old Z n0 h0) (pr1 : Sta Z Z.heap "java/time/Duration" "ZERO" "Ljava/time/Duration;" (.ref wz)) (pr2 : Exa Z Z.heap wz "java/time/Duration") (pr3 : Fld Z Z.heap wz "java/time/Duration" "seconds" "J" (.long (0 : Int64))) (pr4 : Fld Z Z.heap wz "java/time/Duration" "nanos" "I" (.int 0)) :
    Met l Z (⟨"java/time/Duration", "create", "(JI)Ljava/time/Duration;"⟩ : MethodName) jdk_2316_method_16_code 3 (some (.object "java/time/Duration")) ws ({ frames := 2, cells := 1, slots := 2, locals := 28 } : Room) #[(.long q1), (.int p2)] h0 (Q_rm_create Z q1 p2 wz h0 n0) := by
  refine Met.enter (f0 := fun m => mkF m 0 #[.val (.long q1), .second, .val (.int p2)] []) (plainFor_of_name pn_java_time_Duration) (fun m => ef_rm_create m q1 p2) ?_
  intro p e s m below meth c s₁ hx hby hml hown hnm hret hlk hZ X0 e0
  have hown : s.vm.findClass "java/time/Duration" = some m.cls := hown
  have hnm : meth.name = "create" := hnm
  have hml : c.maxLocals = 3 := hml
  have hby : c.code = jdk_2316_method_16_code := hby
  have N0 := Fr.nil n0
  refine Go.by (B := (s₁.setTop (mkF m 6 #[.val (.long q1), .second, .val (.int p2)] [(.int (lcmpW (q1 ||| (p2.toInt64)) (0 : Int64)))]))) (fun _ k => XS.lloadN X0.here hx rfl (hb hby d6_0) rfl (XS.iloadN X0.here hx rfl (hb hby d6_1) rfl (XS.i2l X0.here hx rfl (hb hby d6_2) rfl (XS.lor X0.here hx rfl (hb hby d6_3) rfl (XS.lconst X0.here hx rfl (hb hby d6_4) (XS.lcmp X0.here hx rfl (hb hby d6_5) rfl k)))))) ?_
  by_cases c14 : (q1 ||| (p2.toInt64)) = (0 : Int64)
  · skip
    refine Go.by (B := (s₁.setTop (mkF m 9 #[.val (.long q1), .second, .val (.int p2)] []))) (fun _ k => XS.ifNo X0.here hx rfl (hb hby d6_6) rfl ((if0 _ _).trans (teq ((lw_eq _ _).mpr c14)).2) k) ?_
    obtain ⟨T15, X15, e15, st15⟩ := getS2 X0 hx hZ hown (host := "") (Or.inl (wd hw 31 rfl)) Via.refl e0 (pr1.ext pr0.2) (g := (mkF m 9 #[.val (.long q1), .second, .val (.int p2)] [])) rfl (hb hby d6_9)
    refine Go.by (B := (T15.setTop (mkF m 12 #[.val (.long q1), .second, .val (.int p2)] [(.ref wz)]))) st15 ?_
    refine Go.ret X15 hx hlk (t := (.object "java/time/Duration")) hret rfl (Or.inr (Or.inr (Or.inr (Or.inr ⟨rfl, rfl, rfl⟩)))) (hb hby d6_12) (by decide) (by decide) ?_
    obtain ⟨hq0, hp0⟩ := own_or0 c14
    have F16 : Fld Z h0 wz "java/time/Duration" "seconds" "J" (.long q1) := by rw [hq0]; exact (pr3.ext pr0.2)
    have F17 : Fld Z h0 wz "java/time/Duration" "nanos" "I" (.int p2) := by rw [hp0]; exact (pr4.ext pr0.2)
    rw [e15]
    exact ⟨wz, rfl, N0, (Keep.refl h0 []), (pr2.ext pr0.2), F16, F17⟩
  · skip
    refine Go.by (B := (s₁.setTop (mkF m 13 #[.val (.long q1), .second, .val (.int p2)] []))) (fun _ k => XS.ifYes X0.here hx rfl (pc0 := 6) (pc' := 13) rfl (hb hby d6_6) rfl ((if0 _ _).trans (feq (fun q => c14 ((lw_eq _ _).mp q))).2) (by decide) (by decide) k) ?_
    obtain ⟨T18, h18, X18, e18, E18, A18, D18, -, st18⟩ := newO X0 hx hZ hown (wd hw 48 rfl) (wd hw 49 rfl) (wd hw 25 rfl) e0 (g := (mkF m 13 #[.val (.long q1), .second, .val (.int p2)] [])) rfl (hb hby d6_13) (by decide) (by decide)
    obtain ⟨b18, g18⟩ : ∃ z, z = h0.size := ⟨_, rfl⟩
    rw [← g18] at A18 D18 st18
    have sz_b18 : h0.size ≤ b18 := Nat.le_of_eq g18.symm
    have O19 := pr0.ext E18
    have Z19 : n0 ≤ h18.size := Nat.le_trans Z0 E18.1
    have F20 : Fld Z h18 b18 "java/time/Duration" "seconds" "J" (.long (0 : Int64)) := D18 (Or.inr (wd hw 39 rfl)) (ty := .long) (by decide)
    have F21 : Fld Z h18 b18 "java/time/Duration" "nanos" "I" (.int 0) := D18 (Or.inr (wd hw 46 rfl)) (ty := .int) (by decide)
    refine Go.by (B := (T18.setTop (mkF m 16 #[.val (.long q1), .second, .val (.int p2)] [(.ref b18)]))) st18 ?_
    refine Go.by (B := (T18.setTop (mkF m 19 #[.val (.long q1), .second, .val (.int p2)] [(.int p2), (.long q1), (.ref b18), (.ref b18)]))) (fun _ k => XS.dup X18.here hx rfl (hb hby d6_16) rfl rfl (XS.lloadN X18.here hx rfl (hb hby d6_17) rfl (XS.iloadN X18.here hx rfl (hb hby d6_18) rfl k))) ?_
    obtain ⟨_, _, ⟨T22, L22, k22, n22⟩, -, X22, ⟨Lc22, hQ22, l22, y22, z22⟩, st22⟩ := X18.specialBack hx (y := (⟨"java/time/Duration", "<init>", "(JI)V"⟩ : MethodName)) rfl hown (mvT hZ (wd hw 50 rfl)) (mvT hZ (wd hw 51 rfl)) (mvT hZ (wd hw 53 rfl)) (by decide) (backOf (W := 1) (rm_dinit l Z a0 hw [] b18 q1 p2 h18 n0 Z19 O19 A18 F20 F21 (Nat.le_trans Z0 sz_b18)) hZ (wd hw 53 rfl) (wd hw 25 rfl) (by decide) (by decide)) (g := (mkF m 19 #[.val (.long q1), .second, .val (.int p2)] [(.int p2), (.long q1), (.ref b18), (.ref b18)])) rfl (by rw [hml]; rfl) (Steps.refl _) (a := b18) (argsL := [(.long q1), (.int p2)]) (rest := [(.ref b18)]) (lenOf pd_1 rfl) rfl (by show 2 * 0 + _ ≤ _; exact Nat.le_of_eq rfl) (hb hby d6_19) (fun _ _ => ⟨rfl, e18, Nat.le_of_ble_eq_true rfl, Nat.le_of_ble_eq_true rfl⟩)
    dsimp only [Pt.U, Pt.locs, Pt.cells, Pt.slots] at X22 l22 y22 z22 st22 hQ22
    subst l22 y22 z22
    obtain ⟨rfl, Nq22, K22, p22_0, p22_1, p22_2⟩ := hQ22
    have N22 := Fr.app N0 Nq22
    have O23 := O19.keep K22 (allS (Nat.le_trans Z0 sz_b18) all0)
    have Z23 : n0 ≤ T22.heap.size := Nat.le_trans Z19 K22.1
    refine Go.by (B := (T22.setTop (mkF m 22 #[.val (.long q1), .second, .val (.int p2)] [(.ref b18)]))) (fun _ k => st22.trans k) ?_
    refine Go.ret X22 hx hlk (t := (.object "java/time/Duration")) hret rfl (Or.inr (Or.inr (Or.inr (Or.inr ⟨rfl, rfl, rfl⟩)))) (hb hby d6_22) (by decide) (by decide) ?_
    exact ⟨b18, rfl, N22, (((Keep.refl h0 []).ext E18).trans K22 (allS (Or.inr (Nat.le_trans (Nat.le_refl _) sz_b18)) all0)), p22_0, p22_1, p22_2⟩
theorem ef_rm_ofNanos (m : MethodId) (x0 : Int64) : entryFrame m #[(.long x0)] 5 = mkF m 0 #[.val (.long x0), .second, .unset, .unset, .unset] [] := by first | (simp [entryFrame, mkF, argsToLocals, Value.category]; done) | rfl
theorem d5_0 : decode jdk_2316_method_7_code 0 = .ok (.lload_n 0, 1) := by decide +kernel
theorem d5_1 : decode jdk_2316_method_7_code 1 = .ok (.ldc2_w 16, 3) := by decide +kernel
theorem d5_4 : decode jdk_2316_method_7_code 4 = .ok (.ldiv, 1) := by decide +kernel
theorem d5_5 : decode jdk_2316_method_7_code 5 = .ok (.lstore_n 2, 1) := by decide +kernel
theorem d5_6 : decode jdk_2316_method_7_code 6 = .ok (.lload_n 0, 1) := by decide +kernel
theorem d5_7 : decode jdk_2316_method_7_code 7 = .ok (.ldc2_w 16, 3) := by decide +kernel
theorem d5_10 : decode jdk_2316_method_7_code 10 = .ok (.lrem, 1) := by decide +kernel
theorem d5_11 : decode jdk_2316_method_7_code 11 = .ok (.l2i, 1) := by decide +kernel
theorem d5_12 : decode jdk_2316_method_7_code 12 = .ok (.istore 4, 2) := by decide +kernel
theorem d5_14 : decode jdk_2316_method_7_code 14 = .ok (.iload 4, 2) := by decide +kernel
theorem d5_16 : decode jdk_2316_method_7_code 16 = .ok (.ifCond .ge 14, 3) := by decide +kernel
theorem d5_19 : decode jdk_2316_method_7_code 19 = .ok (.iload 4, 2) := by decide +kernel
theorem d5_21 : decode jdk_2316_method_7_code 21 = .ok (.ldc 31, 2) := by decide +kernel
theorem d5_23 : decode jdk_2316_method_7_code 23 = .ok (.iadd, 1) := by decide +kernel
theorem d5_24 : decode jdk_2316_method_7_code 24 = .ok (.istore 4, 2) := by decide +kernel
theorem d5_26 : decode jdk_2316_method_7_code 26 = .ok (.lload_n 2, 1) := by decide +kernel
theorem d5_27 : decode jdk_2316_method_7_code 27 = .ok (.lconst 1, 1) := by decide +kernel
theorem d5_28 : decode jdk_2316_method_7_code 28 = .ok (.lsub, 1) := by decide +kernel
theorem d5_29 : decode jdk_2316_method_7_code 29 = .ok (.lstore_n 2, 1) := by decide +kernel
theorem d5_30 : decode jdk_2316_method_7_code 30 = .ok (.lload_n 2, 1) := by decide +kernel
theorem d5_31 : decode jdk_2316_method_7_code 31 = .ok (.iload 4, 2) := by decide +kernel
theorem d5_33 : decode jdk_2316_method_7_code 33 = .ok (.invokestatic 10, 3) := by decide +kernel
theorem pd_2 : parseMethodDescriptor "(JI)Ljava/time/Duration;" = some ⟨[.long, .int], some (.object "java/time/Duration")⟩ := by decide +kernel
theorem d5_36 : decode jdk_2316_method_7_code 36 = .ok (.areturn, 1) := by decide +kernel
def Q_rm_ofNanos (Z : State) (q1 : Int64) (wz : Addr) (h0 : Heap) (n0 : Nat) (v : Option Value) (h : Heap) (L : List Loc) : Prop := ∃ b : Addr, ∃ qs : Int64, ∃ ps : Int32, v = some (.ref b) ∧ Fr n0 L ∧ Keep h0 h [] ∧ Exa Z h b "java/time/Duration" ∧ Fld Z h b "java/time/Duration" "seconds" "J" (.long qs) ∧ Fld Z h b "java/time/Duration" "nanos" "I" (.int ps) ∧ own_dur q1 qs ps
set_option maxRecDepth 65536 in
set_option maxHeartbeats 40000000 in
theorem rm_ofNanos (l : Launch) (Z : State) (a0 : Array Value) (hw : ∀ d ∈ tables_1, d.before a0 Z = true) (ws : List Jvm.Cond) (q1 : Int64) (wz : Addr) (h0 : Heap) (n0 : Nat) (Z0 : n0 ≤ h0.size) (pr0 : Old Z n0 h0) (pr1 : Sta Z Z.heap "java/time/Duration" "ZERO" "Ljava/time/Duration;" (.ref wz)) (pr2 : Exa Z Z.heap wz "java/time/Duration") (pr3 : Fld Z Z.heap wz "java/time/Duration" "seconds" "J" (.long (0 : Int64))) (pr4 : Fld Z Z.heap wz "java/time/Duration" "nanos" "I" (.int 0)) :
    Met l Z (⟨"java/time/Duration", "ofNanos", "(J)Ljava/time/Duration;"⟩ : MethodName) jdk_2316_method_7_code 5 (some (.object "java/time/Duration")) ws ({ frames := 3, cells := 1, slots := 2, locals := 42 } : Room) #[(.long q1)] h0 (Q_rm_ofNanos Z q1 wz h0 n0) := by
  refine Met.enter (f0 := fun m => mkF m 0 #[.val (.long q1), .second, .unset, .unset, .unset] []) (plainFor_of_name pn_java_time_Duration) (fun m => ef_rm_ofNanos m q1) ?_
  intro p e s m below meth c s₁ hx hby hml hown hnm hret hlk hZ X0 e0
  have hown : s.vm.findClass "java/time/Duration" = some m.cls := hown
  have hnm : meth.name = "ofNanos" := hnm
  have hml : c.maxLocals = 5 := hml
  have hby : c.code = jdk_2316_method_7_code := hby
  have N0 := Fr.nil n0
  refine Go.by (B := (s₁.setTop (mkF m 5 #[.val (.long q1), .second, .unset, .unset, .unset] [(.long (q1 / (1000000000 : Int64)))]))) (fun _ k => XS.lloadN X0.here hx rfl (hb hby d5_0) rfl (X0.ldc2Long hx hown (mvT hZ (wd hw 27 rfl)) (g := (mkF m 1 #[.val (.long q1), .second, .unset, .unset, .unset] [(.long q1)])) rfl (hb hby d5_1) _ (XS.ldiv X0.here hx rfl (hb hby d5_4) rfl (by decide) k))) ?_
  obtain ⟨v24, hv24⟩ : ∃ v, v = (q1 / (1000000000 : Int64)) := ⟨_, rfl⟩
  refine Go.by (B := (s₁.setTop (mkF m 12 #[.val (.long q1), .second, .val (.long v24), .second, .unset] [(.int ((q1 - q1 / (1000000000 : Int64) * (1000000000 : Int64)).toInt32))]))) (fun _ k => XS.lstoreN (x := v24) (rest := []) X0.here hx rfl (hb hby d5_5) (by rw [hv24]) (l' := #[.val (.long q1), .second, .val (.long v24), .second, .unset]) rfl (XS.lloadN X0.here hx rfl (hb hby d5_6) rfl (X0.ldc2Long hx hown (mvT hZ (wd hw 27 rfl)) (g := (mkF m 7 #[.val (.long q1), .second, .val (.long v24), .second, .unset] [(.long q1)])) rfl (hb hby d5_7) _ (XS.lrem X0.here hx rfl (hb hby d5_10) rfl (by decide) (XS.l2i X0.here hx rfl (hb hby d5_11) rfl k))))) ?_
  obtain ⟨v25, hv25⟩ : ∃ v, v = ((q1 - q1 / (1000000000 : Int64) * (1000000000 : Int64)).toInt32) := ⟨_, rfl⟩
  refine Go.by (B := (s₁.setTop (mkF m 16 #[.val (.long q1), .second, .val (.long v24), .second, .val (.int v25)] [(.int v25)]))) (fun _ k => XS.istore (x := v25) (rest := []) X0.here hx rfl (hb hby d5_12) (by rw [hv25]) (l' := #[.val (.long q1), .second, .val (.long v24), .second, .val (.int v25)]) rfl (XS.iload X0.here hx rfl (hb hby d5_14) rfl k)) ?_
  by_cases c26 : v25 < (0 : Int32)
  · skip
    refine Go.by (B := (s₁.setTop (mkF m 24 #[.val (.long q1), .second, .val (.long v24), .second, .val (.int v25)] [(.int (v25 + (1000000000 : Int32)))]))) (fun _ k => XS.ifNo X0.here hx rfl (hb hby d5_16) rfl ((if0 _ _).trans (tlt c26).2.1) (XS.iload X0.here hx rfl (hb hby d5_19) rfl (X0.ldcInt hx hown (mvT hZ (wd hw 47 rfl)) (g := (mkF m 21 #[.val (.long q1), .second, .val (.long v24), .second, .val (.int v25)] [(.int v25)])) rfl (hb hby d5_21) _ (XS.iadd X0.here hx rfl (hb hby d5_23) rfl k)))) ?_
    obtain ⟨v27, hv27⟩ : ∃ v, v = (v25 + (1000000000 : Int32)) := ⟨_, rfl⟩
    refine Go.by (B := (s₁.setTop (mkF m 29 #[.val (.long q1), .second, .val (.long v24), .second, .val (.int v27)] [(.long (v24 - (1 : Int64)))]))) (fun _ k => XS.istore (x := v27) (rest := []) X0.here hx rfl (hb hby d5_24) (by rw [hv27]) (l' := #[.val (.long q1), .second, .val (.long v24), .second, .val (.int v27)]) rfl (XS.lloadN X0.here hx rfl (hb hby d5_26) rfl (XS.lconst X0.here hx rfl (hb hby d5_27) (XS.lsub X0.here hx rfl (hb hby d5_28) rfl k)))) ?_
    obtain ⟨v28, hv28⟩ : ∃ v, v = (v24 - (1 : Int64)) := ⟨_, rfl⟩
    refine Go.by (B := (s₁.setTop (mkF m 33 #[.val (.long q1), .second, .val (.long v28), .second, .val (.int v27)] [(.int v27), (.long v28)]))) (fun _ k => XS.lstoreN (x := v28) (rest := []) X0.here hx rfl (hb hby d5_29) (by rw [hv28]) (l' := #[.val (.long q1), .second, .val (.long v28), .second, .val (.int v27)]) rfl (XS.lloadN X0.here hx rfl (hb hby d5_30) rfl (XS.iload X0.here hx rfl (hb hby d5_31) rfl k))) ?_
    obtain ⟨_, _, ⟨T29, L29, k29, n29⟩, -, X29, ⟨Lc29, hQ29, l29, y29, z29⟩, st29⟩ := Jvm.LawKit.callS X0 hx (y := (⟨"java/time/Duration", "create", "(JI)Ljava/time/Duration;"⟩ : MethodName)) hown (mvT hZ (wd hw 28 rfl)) (mvT hZ (wd hw 29 rfl)) (mvT hZ (wd hw 25 rfl)) (mvT hZ (wd hw 30 rfl)) (by decide) (backOf (W := 0) (rm_create l Z a0 hw [] v28 v27 wz h0 n0 Z0 pr0 pr1 pr2 pr3 pr4) hZ (wd hw 30 rfl) (wd hw 25 rfl) (by decide) (by decide)) (g := (mkF m 33 #[.val (.long q1), .second, .val (.long v28), .second, .val (.int v27)] [(.int v27), (.long v28)])) rfl (by rw [hml]; rfl) (argsL := [(.long v28), (.int v27)]) (rest := []) (lenOf pd_2 rfl) rfl (by show 2 * 0 + _ ≤ _; exact Nat.le_of_eq rfl) (hb hby d5_33) (fun _ _ => ⟨rfl, e0, Nat.le_of_ble_eq_true rfl, Nat.le_of_ble_eq_true rfl⟩)
    dsimp only [Pt.U, Pt.locs, Pt.cells, Pt.slots] at X29 l29 y29 z29 st29 hQ29
    subst l29 y29 z29
    obtain ⟨b29, rfl, Nq29, K29, p29_0, p29_1, p29_2⟩ := hQ29
    have N29 := Fr.app N0 Nq29
    have O30 := pr0.keep K29 all0
    have Z30 : n0 ≤ T29.heap.size := Nat.le_trans Z0 K29.1
    refine Go.by (B := (T29.setTop (mkF m 36 #[.val (.long q1), .second, .val (.long v28), .second, .val (.int v27)] [(.ref b29)]))) (fun _ k => st29 _ k) ?_
    refine Go.ret X29 hx hlk (t := (.object "java/time/Duration")) hret rfl (Or.inr (Or.inr (Or.inr (Or.inr ⟨rfl, rfl, rfl⟩)))) (hb hby d5_36) (by decide) (by decide) ?_
    exact ⟨b29, v28, v27, rfl, N29, ((Keep.refl h0 []).trans K29 all0), p29_0, p29_1, p29_2, (by subst_vars; exact ⟨fun _ => ⟨rfl, rfl⟩, fun h => absurd c26 h⟩)⟩
  · skip
    refine Go.by (B := (s₁.setTop (mkF m 33 #[.val (.long q1), .second, .val (.long v24), .second, .val (.int v25)] [(.int v25), (.long v24)]))) (fun _ k => XS.ifYes X0.here hx rfl (pc0 := 16) (pc' := 30) rfl (hb hby d5_16) rfl ((if0 _ _).trans (flt c26).2.1) (by decide) (by decide) (XS.lloadN X0.here hx rfl (hb hby d5_30) rfl (XS.iload X0.here hx rfl (hb hby d5_31) rfl k))) ?_
    obtain ⟨_, _, ⟨T31, L31, k31, n31⟩, -, X31, ⟨Lc31, hQ31, l31, y31, z31⟩, st31⟩ := Jvm.LawKit.callS X0 hx (y := (⟨"java/time/Duration", "create", "(JI)Ljava/time/Duration;"⟩ : MethodName)) hown (mvT hZ (wd hw 28 rfl)) (mvT hZ (wd hw 29 rfl)) (mvT hZ (wd hw 25 rfl)) (mvT hZ (wd hw 30 rfl)) (by decide) (backOf (W := 0) (rm_create l Z a0 hw [] v24 v25 wz h0 n0 Z0 pr0 pr1 pr2 pr3 pr4) hZ (wd hw 30 rfl) (wd hw 25 rfl) (by decide) (by decide)) (g := (mkF m 33 #[.val (.long q1), .second, .val (.long v24), .second, .val (.int v25)] [(.int v25), (.long v24)])) rfl (by rw [hml]; rfl) (argsL := [(.long v24), (.int v25)]) (rest := []) (lenOf pd_2 rfl) rfl (by show 2 * 0 + _ ≤ _; exact Nat.le_of_eq rfl) (hb hby d5_33) (fun _ _ => ⟨rfl, e0, Nat.le_of_ble_eq_true rfl, Nat.le_of_ble_eq_true rfl⟩)
    dsimp only [Pt.U, Pt.locs, Pt.cells, Pt.slots] at X31 l31 y31 z31 st31 hQ31
    subst l31 y31 z31
    obtain ⟨b31, rfl, Nq31, K31, p31_0, p31_1, p31_2⟩ := hQ31
    have N31 := Fr.app N0 Nq31
    have O32 := pr0.keep K31 all0
    have Z32 : n0 ≤ T31.heap.size := Nat.le_trans Z0 K31.1
    refine Go.by (B := (T31.setTop (mkF m 36 #[.val (.long q1), .second, .val (.long v24), .second, .val (.int v25)] [(.ref b31)]))) (fun _ k => st31 _ k) ?_
    refine Go.ret X31 hx hlk (t := (.object "java/time/Duration")) hret rfl (Or.inr (Or.inr (Or.inr (Or.inr ⟨rfl, rfl, rfl⟩)))) (hb hby d5_36) (by decide) (by decide) ?_
    exact ⟨b31, v24, v25, rfl, N31, ((Keep.refl h0 []).trans K31 all0), p31_0, p31_1, p31_2, (by subst_vars; exact ⟨fun h => absurd h c26, fun _ => ⟨rfl, rfl⟩⟩)⟩
theorem ef_rm_took (m : MethodId) (x0 : Addr) : entryFrame m #[(.ref x0)] 1 = mkF m 0 #[.val (.ref x0)] [] := by first | (simp [entryFrame, mkF, argsToLocals, Value.category]; done) | rfl
theorem d4_0 : decode prog_12_method_3_code 0 = .ok (.aload_n 0, 1) := by decide +kernel
theorem d4_1 : decode prog_12_method_3_code 1 = .ok (.getfield 13, 3) := by decide +kernel
theorem d4_4 : decode prog_12_method_3_code 4 = .ok (.aload_n 0, 1) := by decide +kernel
theorem d4_5 : decode prog_12_method_3_code 5 = .ok (.getfield 7, 3) := by decide +kernel
theorem d4_8 : decode prog_12_method_3_code 8 = .ok (.lsub, 1) := by decide +kernel
theorem d4_9 : decode prog_12_method_3_code 9 = .ok (.invokestatic 25, 3) := by decide +kernel
theorem pd_3 : parseMethodDescriptor "(J)Ljava/time/Duration;" = some ⟨[.long], some (.object "java/time/Duration")⟩ := by decide +kernel
theorem d4_12 : decode prog_12_method_3_code 12 = .ok (.areturn, 1) := by decide +kernel
def Q_rm_took (Z : State) (a1 : Addr) (q1 : Int64) (q2 : Int64) (wz : Addr) (h0 : Heap) (n0 : Nat) (v : Option Value) (h : Heap) (L : List Loc) : Prop := ∃ b : Addr, ∃ qs : Int64, ∃ ps : Int32, v = some (.ref b) ∧ Fr n0 L ∧ Keep h0 h [] ∧ Exa Z h b "java/time/Duration" ∧ Fld Z h b "java/time/Duration" "seconds" "J" (.long qs) ∧ Fld Z h b "java/time/Duration" "nanos" "I" (.int ps) ∧ own_dur (q2 - q1) qs ps
set_option maxRecDepth 65536 in
set_option maxHeartbeats 40000000 in
theorem rm_took (l : Launch) (Z : State) (a0 : Array Value) (hw : ∀ d ∈ tables_1, d.before a0 Z = true) (ws : List Jvm.Cond) (a1 : Addr) (q1 : Int64) (q2 : Int64) (wz : Addr) (h0 : Heap) (n0 : Nat) (Z0 : n0 ≤ h0.size) (pr0 : Old Z n0 h0) (pr1 : Sta Z Z.heap "java/time/Duration" "ZERO" "Ljava/time/Duration;" (.ref wz)) (pr2 : Exa Z Z.heap wz "java/time/Duration") (pr3 : Fld Z Z.heap wz "java/time/Duration" "seconds" "J" (.long (0 : Int64))) (pr4 : Fld Z Z.heap wz "java/time/Duration" "nanos" "I" (.int 0)) (pr5 : Fld Z h0 a1 "com/example/orderly_outbox/orderlyoutbox/relay/Batch$Timing" "startedAt" "J" (.long q1)) (pr6 : Fld Z h0 a1 "com/example/orderly_outbox/orderlyoutbox/relay/Batch$Timing" "endedAt" "J" (.long q2)) :
    Met l Z (⟨"com/example/orderly_outbox/orderlyoutbox/relay/Batch$Timing", "took", "()Ljava/time/Duration;"⟩ : MethodName) prog_12_method_3_code 1 (some (.object "java/time/Duration")) ws ({ frames := 4, cells := 1, slots := 2, locals := 58 } : Room) #[(.ref a1)] h0 (Q_rm_took Z a1 q1 q2 wz h0 n0) := by
  refine Met.enter (f0 := fun m => mkF m 0 #[.val (.ref a1)] []) (plainFor_of_name pn_com_example_orderly_outbox_orderlyoutbox_relay_Batch_Timing) (fun m => ef_rm_took m a1) ?_
  intro p e s m below meth c s₁ hx hby hml hown hnm hret hlk hZ X0 e0
  have hown : s.vm.findClass "com/example/orderly_outbox/orderlyoutbox/relay/Batch$Timing" = some m.cls := hown
  have hnm : meth.name = "took" := hnm
  have hml : c.maxLocals = 1 := hml
  have hby : c.code = prog_12_method_3_code := hby
  have N0 := Fr.nil n0
  refine Go.by (B := (s₁.setTop (mkF m 1 #[.val (.ref a1)] [(.ref a1)]))) (fun _ k => XS.aloadN X0.here hx rfl (hb hby d4_0) rfl rfl k) ?_
  obtain ⟨T33, X33, e33, st33⟩ := getF X0 hx hZ hown (host := "") (Or.inl (wd hw 16 rfl)) Via.refl e0 pr6 (g := (mkF m 1 #[.val (.ref a1)] [(.ref a1)])) rfl rfl (hb hby d4_1)
  refine Go.by (B := (T33.setTop (mkF m 4 #[.val (.ref a1)] [(.long q2)]))) st33 ?_
  refine Go.by (B := (T33.setTop (mkF m 5 #[.val (.ref a1)] [(.ref a1), (.long q2)]))) (fun _ k => XS.aloadN X33.here hx rfl (hb hby d4_4) rfl rfl k) ?_
  obtain ⟨T34, X34, e34, st34⟩ := getF X33 hx hZ hown (host := "") (Or.inl (wd hw 14 rfl)) Via.refl e33 pr5 (g := (mkF m 5 #[.val (.ref a1)] [(.ref a1), (.long q2)])) rfl rfl (hb hby d4_5)
  refine Go.by (B := (T34.setTop (mkF m 8 #[.val (.ref a1)] [(.long q1), (.long q2)]))) st34 ?_
  refine Go.by (B := (T34.setTop (mkF m 9 #[.val (.ref a1)] [(.long (q2 - q1))]))) (fun _ k => XS.lsub X34.here hx rfl (hb hby d4_8) rfl k) ?_
  obtain ⟨_, _, ⟨T35, L35, k35, n35⟩, -, X35, ⟨Lc35, hQ35, l35, y35, z35⟩, st35⟩ := Jvm.LawKit.callS X34 hx (y := (⟨"java/time/Duration", "ofNanos", "(J)Ljava/time/Duration;"⟩ : MethodName)) hown (mvT hZ (wd hw 23 rfl)) (mvT hZ (wd hw 24 rfl)) (mvT hZ (wd hw 25 rfl)) (mvT hZ (wd hw 26 rfl)) (by decide) (backOf (W := 0) (rm_ofNanos l Z a0 hw [] (q2 - q1) wz h0 n0 Z0 pr0 pr1 pr2 pr3 pr4) hZ (wd hw 26 rfl) (wd hw 25 rfl) (by decide) (by decide)) (g := (mkF m 9 #[.val (.ref a1)] [(.long (q2 - q1))])) rfl (by rw [hml]; rfl) (argsL := [(.long (q2 - q1))]) (rest := []) (lenOf pd_3 rfl) rfl (by show 2 * 0 + _ ≤ _; exact Nat.le_of_eq rfl) (hb hby d4_9) (fun _ _ => ⟨rfl, e34, Nat.le_of_ble_eq_true rfl, Nat.le_of_ble_eq_true rfl⟩)
  dsimp only [Pt.U, Pt.locs, Pt.cells, Pt.slots] at X35 l35 y35 z35 st35 hQ35
  subst l35 y35 z35
  obtain ⟨b35, qs35, ps35, rfl, Nq35, K35, p35_0, p35_1, p35_2, p35_3⟩ := hQ35
  have N35 := Fr.app N0 Nq35
  have O36 := pr0.keep K35 all0
  have Z36 : n0 ≤ T35.heap.size := Nat.le_trans Z0 K35.1
  refine Go.by (B := (T35.setTop (mkF m 12 #[.val (.ref a1)] [(.ref b35)]))) (fun _ k => st35 _ k) ?_
  refine Go.ret X35 hx hlk (t := (.object "java/time/Duration")) hret rfl (Or.inr (Or.inr (Or.inr (Or.inr ⟨rfl, rfl, rfl⟩)))) (hb hby d4_12) (by decide) (by decide) ?_
  exact ⟨b35, qs35, ps35, rfl, N35, ((Keep.refl h0 []).trans K35 all0), p35_0, p35_1, p35_2, p35_3⟩
theorem ef_rm_getS (m : MethodId) (x0 : Addr) : entryFrame m #[(.ref x0)] 1 = mkF m 0 #[.val (.ref x0)] [] := by first | (simp [entryFrame, mkF, argsToLocals, Value.category]; done) | rfl
theorem d7_0 : decode jdk_2316_method_23_code 0 = .ok (.aload_n 0, 1) := by decide +kernel
theorem d7_1 : decode jdk_2316_method_23_code 1 = .ok (.getfield 221, 3) := by decide +kernel
theorem d7_4 : decode jdk_2316_method_23_code 4 = .ok (.lreturn, 1) := by decide +kernel
def Q_rm_getS (Z : State) (a1 : Addr) (q1 : Int64) (h0 : Heap) (n0 : Nat) (v : Option Value) (h : Heap) (L : List Loc) : Prop := v = some (.long q1) ∧ Fr n0 L ∧ h = h0
set_option maxRecDepth 65536 in
set_option maxHeartbeats 40000000 in
theorem rm_getS (l : Launch) (Z : State) (a0 : Array Value) (hw : ∀ d ∈ tables_1, d.before a0 Z = true) (ws : List Jvm.Cond) (a1 : Addr) (q1 : Int64) (h0 : Heap) (n0 : Nat) (Z0 : n0 ≤ h0.size) (pr0 : Fld Z h0 a1 "java/time/Duration" "seconds" "J" (.long q1)) :
    Met l Z (⟨"java/time/Duration", "getSeconds", "()J"⟩ : MethodName) jdk_2316_method_23_code 1 (some .long) ws ({ frames := 0, cells := 0, slots := 0, locals := 0 } : Room) #[(.ref a1)] h0 (Q_rm_getS Z a1 q1 h0 n0) := by
  refine Met.enter (f0 := fun m => mkF m 0 #[.val (.ref a1)] []) (plainFor_of_name pn_java_time_Duration) (fun m => ef_rm_getS m a1) ?_
  intro p e s m below meth c s₁ hx hby hml hown hnm hret hlk hZ X0 e0
  have hown : s.vm.findClass "java/time/Duration" = some m.cls := hown
  have hnm : meth.name = "getSeconds" := hnm
  have hml : c.maxLocals = 1 := hml
  have hby : c.code = jdk_2316_method_23_code := hby
  have N0 := Fr.nil n0
  refine Go.by (B := (s₁.setTop (mkF m 1 #[.val (.ref a1)] [(.ref a1)]))) (fun _ k => XS.aloadN X0.here hx rfl (hb hby d7_0) rfl rfl k) ?_
  obtain ⟨T37, X37, e37, st37⟩ := getF X0 hx hZ hown (host := "") (Or.inl (wd hw 38 rfl)) Via.refl e0 pr0 (g := (mkF m 1 #[.val (.ref a1)] [(.ref a1)])) rfl rfl (hb hby d7_1)
  refine Go.by (B := (T37.setTop (mkF m 4 #[.val (.ref a1)] [(.long q1)]))) st37 ?_
  refine Go.ret X37 hx hlk (t := .long) hret rfl (Or.inr (Or.inl ⟨rfl, rfl, _, rfl⟩)) (hb hby d7_4) (by decide) (by decide) ?_
  rw [e37]
  exact ⟨rfl, N0, rfl⟩
theorem ef_rm_getN (m : MethodId) (x0 : Addr) : entryFrame m #[(.ref x0)] 1 = mkF m 0 #[.val (.ref x0)] [] := by first | (simp [entryFrame, mkF, argsToLocals, Value.category]; done) | rfl
theorem d8_0 : decode jdk_2316_method_24_code 0 = .ok (.aload_n 0, 1) := by decide +kernel
theorem d8_1 : decode jdk_2316_method_24_code 1 = .ok (.getfield 224, 3) := by decide +kernel
theorem d8_4 : decode jdk_2316_method_24_code 4 = .ok (.ireturn, 1) := by decide +kernel
def Q_rm_getN (Z : State) (a1 : Addr) (p1 : Int32) (h0 : Heap) (n0 : Nat) (v : Option Value) (h : Heap) (L : List Loc) : Prop := v = some (.int p1) ∧ Fr n0 L ∧ h = h0
set_option maxRecDepth 65536 in
set_option maxHeartbeats 40000000 in
theorem rm_getN (l : Launch) (Z : State) (a0 : Array Value) (hw : ∀ d ∈ tables_1, d.before a0 Z = true) (ws : List Jvm.Cond) (a1 : Addr) (p1 : Int32) (h0 : Heap) (n0 : Nat) (Z0 : n0 ≤ h0.size) (pr0 : Fld Z h0 a1 "java/time/Duration" "nanos" "I" (.int p1)) :
    Met l Z (⟨"java/time/Duration", "getNano", "()I"⟩ : MethodName) jdk_2316_method_24_code 1 (some .int) ws ({ frames := 0, cells := 0, slots := 0, locals := 0 } : Room) #[(.ref a1)] h0 (Q_rm_getN Z a1 p1 h0 n0) := by
  refine Met.enter (f0 := fun m => mkF m 0 #[.val (.ref a1)] []) (plainFor_of_name pn_java_time_Duration) (fun m => ef_rm_getN m a1) ?_
  intro p e s m below meth c s₁ hx hby hml hown hnm hret hlk hZ X0 e0
  have hown : s.vm.findClass "java/time/Duration" = some m.cls := hown
  have hnm : meth.name = "getNano" := hnm
  have hml : c.maxLocals = 1 := hml
  have hby : c.code = jdk_2316_method_24_code := hby
  have N0 := Fr.nil n0
  refine Go.by (B := (s₁.setTop (mkF m 1 #[.val (.ref a1)] [(.ref a1)]))) (fun _ k => XS.aloadN X0.here hx rfl (hb hby d8_0) rfl rfl k) ?_
  obtain ⟨T38, X38, e38, st38⟩ := getF X0 hx hZ hown (host := "") (Or.inl (wd hw 45 rfl)) Via.refl e0 pr0 (g := (mkF m 1 #[.val (.ref a1)] [(.ref a1)])) rfl rfl (hb hby d8_1)
  refine Go.by (B := (T38.setTop (mkF m 4 #[.val (.ref a1)] [(.int p1)]))) st38 ?_
  refine Go.ret X38 hx hlk (t := .int) hret rfl (Or.inl ⟨rfl, by simp, _, rfl⟩) (hb hby d8_4) (by decide) (by decide) ?_
  rw [e38]
  exact ⟨rfl, N0, rfl⟩
theorem ef_rm0 (m : MethodId) (x0 : Int64) (x1 : Int64) (x2 : Int32) (x3 : Int32) : entryFrame m #[(.long x0), (.long x1), (.int x2), (.int x3)] maxLocals = mkF m 0 #[.val (.long x0), .second, .val (.long x1), .second, .val (.int x2), .val (.int x3), .unset, .unset, .unset, .unset, .unset, .unset, .unset, .unset, .unset, .unset, .unset, .unset, .unset, .unset] [] := by first | (simp [entryFrame, mkF, argsToLocals, Value.category, maxLocals]; done) | rfl
theorem pd_4 : parseMethodDescriptor "(JJ)V" = some ⟨[.long, .long], none⟩ := by decide +kernel
theorem pd_5 : parseMethodDescriptor "()Ljava/time/Duration;" = some ⟨[], some (.object "java/time/Duration")⟩ := by decide +kernel
theorem pd_6 : parseMethodDescriptor "()J" = some ⟨[], some .long⟩ := by decide +kernel
theorem pd_7 : parseMethodDescriptor "()I" = some ⟨[], some .int⟩ := by decide +kernel
theorem pn_com_example_orderly_outbox_orderlyoutbox_relay_BatchTookPinLaw : plainName "com/example/orderly_outbox/orderlyoutbox/relay/BatchTookPinLaw" = true := by first | (simp [plainName, overriddenIn]; done) | decide +kernel
def Q_rm0 (Z : State) (m1 : Int64) (m2 : Int64) (m3 : Int32) (m4 : Int32) (wz : Addr) (h0 : Heap) (n0 : Nat) (v : Option Value) (h : Heap) (L : List Loc) : Prop := v = some (.int 1) ∧ Fr n0 L
set_option maxRecDepth 65536 in
set_option maxHeartbeats 40000000 in
theorem rm0 (l : Launch) (Z : State) (a0 : Array Value) (hw : ∀ d ∈ tables_1, d.before a0 Z = true) (ws : List Jvm.Cond) (m1 : Int64) (m2 : Int64) (m3 : Int32) (m4 : Int32) (wz : Addr) (h0 : Heap) (n0 : Nat) (Z0 : n0 ≤ h0.size) (pr0 : Old Z n0 h0) (pr1 : Sta Z Z.heap "java/time/Duration" "ZERO" "Ljava/time/Duration;" (.ref wz)) (pr2 : Exa Z Z.heap wz "java/time/Duration") (pr3 : Fld Z Z.heap wz "java/time/Duration" "seconds" "J" (.long (0 : Int64))) (pr4 : Fld Z Z.heap wz "java/time/Duration" "nanos" "I" (.int 0)) :
    Met l Z x code maxLocals ret ws room_1 #[(.long m1), (.long m2), (.int m3), (.int m4)] h0 (Q_rm0 Z m1 m2 m3 m4 wz h0 n0) := by
  refine Met.enter (f0 := fun m => mkF m 0 #[.val (.long m1), .second, .val (.long m2), .second, .val (.int m3), .val (.int m4), .unset, .unset, .unset, .unset, .unset, .unset, .unset, .unset, .unset, .unset, .unset, .unset, .unset, .unset] []) (plainFor_of_name pn_com_example_orderly_outbox_orderlyoutbox_relay_BatchTookPinLaw) (fun m => ef_rm0 m m1 m2 m3 m4) ?_
  intro p e s m below meth c s₁ hx hby hml hown hnm hret hlk hZ X0 e0
  have hown : s.vm.findClass "com/example/orderly_outbox/orderlyoutbox/relay/BatchTookPinLaw" = some m.cls := hown
  have hnm : meth.name = "law" := hnm
  have hml : c.maxLocals = 20 := hml
  have hby : c.code = code := hby
  have N0 := Fr.nil n0
  obtain ⟨lc39, X39, N39⟩ : ∃ lc, Stand p l e room_1 s m #[(.long m1), (.long m2), (.int m3), (.int m4)] below meth c s₁ lc 0 0 ∧ Fr n0 lc := ⟨_, X0, N0⟩
  have e39 : s₁.heap = h0 := e0
  have J39 : ∀ (T40 : State) (X40 : Stand p l e room_1 s m #[(.long m1), (.long m2), (.int m3), (.int m4)] below meth c T40 lc39 0 0) (e40 : T40.heap = h0) (ee40 : Int64), Go p e below (PostW s room_1.cells room_1.slots (Q_rm0 Z m1 m2 m3 m4 wz h0 n0)) (T40.setTop (mkF m 16 #[.val (.long m1), .second, .val (.long m2), .second, .val (.int m3), .val (.int m4), .unset, .unset, .unset, .unset, .unset, .unset, .unset, .unset, .unset, .unset, .unset, .unset, .unset, .unset] [(.long ee40)])) := by
    intro T40 X40 e40 ee40
    refine Go.by (B := (T40.setTop (mkF m 18 #[.val (.long m1), .second, .val (.long m2), .second, .val (.int m3), .val (.int m4), .val (.long ee40), .second, .unset, .unset, .unset, .unset, .unset, .unset, .unset, .unset, .unset, .unset, .unset, .unset] []))) (fun _ k => XS.lstore X40.here hx rfl (hb hby at_16) rfl (l' := #[.val (.long m1), .second, .val (.long m2), .second, .val (.int m3), .val (.int m4), .val (.long ee40), .second, .unset, .unset, .unset, .unset, .unset, .unset, .unset, .unset, .unset, .unset, .unset, .unset]) rfl k) ?_
    obtain ⟨T41, h41, X41, e41, E41, A41, D41, -, st41⟩ := newO X40 hx hZ hown (wd hw 0 rfl) (wd hw 1 rfl) (wd hw 2 rfl) e40 (g := (mkF m 18 #[.val (.long m1), .second, .val (.long m2), .second, .val (.int m3), .val (.int m4), .val (.long ee40), .second, .unset, .unset, .unset, .unset, .unset, .unset, .unset, .unset, .unset, .unset, .unset, .unset] [])) rfl (hb hby at_18) (by decide) (by decide)
    obtain ⟨b41, g41⟩ : ∃ z, z = h0.size := ⟨_, rfl⟩
    rw [← g41] at A41 D41 st41
    have sz_b41 : h0.size ≤ b41 := Nat.le_of_eq g41.symm
    have O42 := pr0.ext E41
    have Z42 : n0 ≤ h41.size := Nat.le_trans Z0 E41.1
    have F43 : Fld Z h41 b41 "com/example/orderly_outbox/orderlyoutbox/relay/Batch$Timing" "startedAt" "J" (.long (0 : Int64)) := D41 (Or.inr (wd hw 15 rfl)) (ty := .long) (by decide)
    have F44 : Fld Z h41 b41 "com/example/orderly_outbox/orderlyoutbox/relay/Batch$Timing" "endedAt" "J" (.long (0 : Int64)) := D41 (Or.inr (wd hw 17 rfl)) (ty := .long) (by decide)
    refine Go.by (B := (T41.setTop (mkF m 21 #[.val (.long m1), .second, .val (.long m2), .second, .val (.int m3), .val (.int m4), .val (.long ee40), .second, .unset, .unset, .unset, .unset, .unset, .unset, .unset, .unset, .unset, .unset, .unset, .unset] [(.ref b41)]))) st41 ?_
    refine Go.by (B := (T41.setTop (mkF m 25 #[.val (.long m1), .second, .val (.long m2), .second, .val (.int m3), .val (.int m4), .val (.long ee40), .second, .unset, .unset, .unset, .unset, .unset, .unset, .unset, .unset, .unset, .unset, .unset, .unset] [(.long ee40), (.long m1), (.ref b41), (.ref b41)]))) (fun _ k => XS.dup X41.here hx rfl (hb hby at_21) rfl rfl (XS.lloadN X41.here hx rfl (hb hby at_22) rfl (XS.lload X41.here hx rfl (hb hby at_23) rfl k))) ?_
    obtain ⟨_, _, ⟨T45, L45, k45, n45⟩, -, X45, ⟨Lc45, hQ45, l45, y45, z45⟩, st45⟩ := X41.specialBack hx (y := (⟨"com/example/orderly_outbox/orderlyoutbox/relay/Batch$Timing", "<init>", "(JJ)V"⟩ : MethodName)) rfl hown (mvT hZ (wd hw 3 rfl)) (mvT hZ (wd hw 4 rfl)) (mvT hZ (wd hw 5 rfl)) (by decide) (backOf (W := 1) (rm_tinit l Z a0 hw [] b41 m1 ee40 h41 n0 Z42 O42 A41 F43 F44 (Nat.le_trans Z0 sz_b41)) hZ (wd hw 5 rfl) (wd hw 2 rfl) (by decide) (by decide)) (g := (mkF m 25 #[.val (.long m1), .second, .val (.long m2), .second, .val (.int m3), .val (.int m4), .val (.long ee40), .second, .unset, .unset, .unset, .unset, .unset, .unset, .unset, .unset, .unset, .unset, .unset, .unset] [(.long ee40), (.long m1), (.ref b41), (.ref b41)])) rfl (by rw [hml]; rfl) (Steps.refl _) (a := b41) (argsL := [(.long m1), (.long ee40)]) (rest := [(.ref b41)]) (lenOf pd_4 rfl) rfl (by show 2 * 0 + _ ≤ _; exact Nat.le_of_eq rfl) (hb hby at_25) (fun _ _ => ⟨rfl, e41, Nat.le_of_ble_eq_true rfl, Nat.le_of_ble_eq_true rfl⟩)
    dsimp only [Pt.U, Pt.locs, Pt.cells, Pt.slots] at X45 l45 y45 z45 st45 hQ45
    subst l45 y45 z45
    obtain ⟨rfl, Nq45, K45, p45_0, p45_1, p45_2⟩ := hQ45
    have N45 := Fr.app N39 Nq45
    have O46 := O42.keep K45 (allS (Nat.le_trans Z0 sz_b41) all0)
    have Z46 : n0 ≤ T45.heap.size := Nat.le_trans Z42 K45.1
    refine Go.by (B := (T45.setTop (mkF m 28 #[.val (.long m1), .second, .val (.long m2), .second, .val (.int m3), .val (.int m4), .val (.long ee40), .second, .unset, .unset, .unset, .unset, .unset, .unset, .unset, .unset, .unset, .unset, .unset, .unset] [(.ref b41)]))) (fun _ k => st45.trans k) ?_
    refine Go.by (B := (T45.setTop (mkF m 32 #[.val (.long m1), .second, .val (.long m2), .second, .val (.int m3), .val (.int m4), .val (.long ee40), .second, .val (.ref b41), .unset, .unset, .unset, .unset, .unset, .unset, .unset, .unset, .unset, .unset, .unset] [(.ref b41)]))) (fun _ k => XS.astore X45.here hx rfl (hb hby at_28) rfl rfl (l' := #[.val (.long m1), .second, .val (.long m2), .second, .val (.int m3), .val (.int m4), .val (.long ee40), .second, .val (.ref b41), .unset, .unset, .unset, .unset, .unset, .unset, .unset, .unset, .unset, .unset, .unset]) rfl (XS.aload X45.here hx rfl (hb hby at_30) rfl rfl k)) ?_
    obtain ⟨cq47, kq47, q47a, q47b, q47c⟩ := isOf hZ rfl p45_0
    obtain ⟨_, _, ⟨T47, L47, k47, n47⟩, -, X47, ⟨Lc47, hQ47, l47, y47, z47⟩, st47⟩ := X45.virtualBack hx (y := (⟨"com/example/orderly_outbox/orderlyoutbox/relay/Batch$Timing", "took", "()Ljava/time/Duration;"⟩ : MethodName)) (z := (⟨"com/example/orderly_outbox/orderlyoutbox/relay/Batch$Timing", "took", "()Ljava/time/Duration;"⟩ : MethodName)) hown (mvT hZ (wd hw 18 rfl)) (mvT hZ (wd hw 19 rfl)) (notFace_of_selects (args := #[]) (mvT hZ (wd hw 21 rfl))) (mvT hZ (wd hw 21 rfl)) (mvT hZ (wd hw 20 rfl)) (by decide) (backOf (W := 0) (rm_took l Z a0 hw [] b41 m1 ee40 wz T45.heap n0 Z46 O46 pr1 pr2 pr3 pr4 p45_1 p45_2) hZ (wd hw 22 rfl) (wd hw 2 rfl) (by decide) (by decide)) q47a q47c (g := (mkF m 32 #[.val (.long m1), .second, .val (.long m2), .second, .val (.int m3), .val (.int m4), .val (.long ee40), .second, .val (.ref b41), .unset, .unset, .unset, .unset, .unset, .unset, .unset, .unset, .unset, .unset, .unset] [(.ref b41)])) rfl (by rw [hml]; rfl) (Steps.refl _) (argsL := []) (rest := []) (lenOf pd_5 rfl) rfl (by show 2 * 0 + _ ≤ _; exact Nat.le_of_eq rfl) (hb hby at_32) (fun _ _ => ⟨rfl, rfl, Nat.le_of_ble_eq_true rfl, Nat.le_of_ble_eq_true rfl⟩)
    dsimp only [Pt.U, Pt.locs, Pt.cells, Pt.slots] at X47 l47 y47 z47 st47 hQ47
    subst l47 y47 z47
    obtain ⟨b47, qs47, ps47, rfl, Nq47, K47, p47_0, p47_1, p47_2, p47_3⟩ := hQ47
    have N47 := Fr.app N45 Nq47
    have O48 := O46.keep K47 all0
    have Z48 : n0 ≤ T47.heap.size := Nat.le_trans Z46 K47.1
    refine Go.by (B := (T47.setTop (mkF m 35 #[.val (.long m1), .second, .val (.long m2), .second, .val (.int m3), .val (.int m4), .val (.long ee40), .second, .val (.ref b41), .unset, .unset, .unset, .unset, .unset, .unset, .unset, .unset, .unset, .unset, .unset] [(.ref b47)]))) (fun _ k => st47.trans k) ?_
    refine Go.by (B := (T47.setTop (mkF m 41 #[.val (.long m1), .second, .val (.long m2), .second, .val (.int m3), .val (.int m4), .val (.long ee40), .second, .val (.ref b41), .val (.ref b47), .unset, .unset, .unset, .unset, .unset, .unset, .unset, .unset, .unset, .unset] [(.long (ee40 - m1))]))) (fun _ k => XS.astore X47.here hx rfl (hb hby at_35) rfl rfl (l' := #[.val (.long m1), .second, .val (.long m2), .second, .val (.int m3), .val (.int m4), .val (.long ee40), .second, .val (.ref b41), .val (.ref b47), .unset, .unset, .unset, .unset, .unset, .unset, .unset, .unset, .unset, .unset]) rfl (XS.lload X47.here hx rfl (hb hby at_37) rfl (XS.lloadN X47.here hx rfl (hb hby at_39) rfl (XS.lsub X47.here hx rfl (hb hby at_40) rfl k)))) ?_
    obtain ⟨v49, hv49⟩ : ∃ v, v = (ee40 - m1) := ⟨_, rfl⟩
    refine Go.by (B := (T47.setTop (mkF m 49 #[.val (.long m1), .second, .val (.long m2), .second, .val (.int m3), .val (.int m4), .val (.long ee40), .second, .val (.ref b41), .val (.ref b47), .val (.long v49), .second, .unset, .unset, .unset, .unset, .unset, .unset, .unset, .unset] [(.long (v49 / (1000000000 : Int64)))]))) (fun _ k => XS.lstore (x := v49) (rest := []) X47.here hx rfl (hb hby at_41) (by rw [hv49]) (l' := #[.val (.long m1), .second, .val (.long m2), .second, .val (.int m3), .val (.int m4), .val (.long ee40), .second, .val (.ref b41), .val (.ref b47), .val (.long v49), .second, .unset, .unset, .unset, .unset, .unset, .unset, .unset, .unset]) rfl (XS.lload X47.here hx rfl (hb hby at_43) rfl (X47.ldc2Long hx hown (mvT hZ (wd hw 32 rfl)) (g := (mkF m 45 #[.val (.long m1), .second, .val (.long m2), .second, .val (.int m3), .val (.int m4), .val (.long ee40), .second, .val (.ref b41), .val (.ref b47), .val (.long v49), .second, .unset, .unset, .unset, .unset, .unset, .unset, .unset, .unset] [(.long v49)])) rfl (hb hby at_45) _ (XS.ldiv X47.here hx rfl (hb hby at_48) rfl (by decide) k)))) ?_
    obtain ⟨v50, hv50⟩ : ∃ v, v = (v49 / (1000000000 : Int64)) := ⟨_, rfl⟩
    refine Go.by (B := (T47.setTop (mkF m 57 #[.val (.long m1), .second, .val (.long m2), .second, .val (.int m3), .val (.int m4), .val (.long ee40), .second, .val (.ref b41), .val (.ref b47), .val (.long v49), .second, .val (.long v50), .second, .unset, .unset, .unset, .unset, .unset, .unset] [(.long (v49 - v49 / (1000000000 : Int64) * (1000000000 : Int64)))]))) (fun _ k => XS.lstore (x := v50) (rest := []) X47.here hx rfl (hb hby at_49) (by rw [hv50]) (l' := #[.val (.long m1), .second, .val (.long m2), .second, .val (.int m3), .val (.int m4), .val (.long ee40), .second, .val (.ref b41), .val (.ref b47), .val (.long v49), .second, .val (.long v50), .second, .unset, .unset, .unset, .unset, .unset, .unset]) rfl (XS.lload X47.here hx rfl (hb hby at_51) rfl (X47.ldc2Long hx hown (mvT hZ (wd hw 32 rfl)) (g := (mkF m 53 #[.val (.long m1), .second, .val (.long m2), .second, .val (.int m3), .val (.int m4), .val (.long ee40), .second, .val (.ref b41), .val (.ref b47), .val (.long v49), .second, .val (.long v50), .second, .unset, .unset, .unset, .unset, .unset, .unset] [(.long v49)])) rfl (hb hby at_53) _ (XS.lrem X47.here hx rfl (hb hby at_56) rfl (by decide) k)))) ?_
    obtain ⟨v51, hv51⟩ : ∃ v, v = (v49 - v49 / (1000000000 : Int64) * (1000000000 : Int64)) := ⟨_, rfl⟩
    refine Go.by (B := (T47.setTop (mkF m 63 #[.val (.long m1), .second, .val (.long m2), .second, .val (.int m3), .val (.int m4), .val (.long ee40), .second, .val (.ref b41), .val (.ref b47), .val (.long v49), .second, .val (.long v50), .second, .val (.long v51), .second, .unset, .unset, .unset, .unset] [(.int (lcmpW v51 (0 : Int64)))]))) (fun _ k => XS.lstore (x := v51) (rest := []) X47.here hx rfl (hb hby at_57) (by rw [hv51]) (l' := #[.val (.long m1), .second, .val (.long m2), .second, .val (.int m3), .val (.int m4), .val (.long ee40), .second, .val (.ref b41), .val (.ref b47), .val (.long v49), .second, .val (.long v50), .second, .val (.long v51), .second, .unset, .unset, .unset, .unset]) rfl (XS.lload X47.here hx rfl (hb hby at_59) rfl (XS.lconst X47.here hx rfl (hb hby at_61) (XS.lcmp X47.here hx rfl (hb hby at_62) rfl k)))) ?_
    by_cases c52 : v51 < (0 : Int64)
    · skip
      refine Go.by (B := (T47.setTop (mkF m 72 #[.val (.long m1), .second, .val (.long m2), .second, .val (.int m3), .val (.int m4), .val (.long ee40), .second, .val (.ref b41), .val (.ref b47), .val (.long v49), .second, .val (.long v50), .second, .val (.long v51), .second, .unset, .unset, .unset, .unset] [(.long (v51 + (1000000000 : Int64)))]))) (fun _ k => XS.ifNo X47.here hx rfl (hb hby at_63) rfl ((if0 _ _).trans (tlt ((lw_lt _ _).mpr c52)).2.1) (XS.lload X47.here hx rfl (hb hby at_66) rfl (X47.ldc2Long hx hown (mvT hZ (wd hw 32 rfl)) (g := (mkF m 68 #[.val (.long m1), .second, .val (.long m2), .second, .val (.int m3), .val (.int m4), .val (.long ee40), .second, .val (.ref b41), .val (.ref b47), .val (.long v49), .second, .val (.long v50), .second, .val (.long v51), .second, .unset, .unset, .unset, .unset] [(.long v51)])) rfl (hb hby at_68) _ (XS.ladd X47.here hx rfl (hb hby at_71) rfl k)))) ?_
      obtain ⟨v53, hv53⟩ : ∃ v, v = (v51 + (1000000000 : Int64)) := ⟨_, rfl⟩
      refine Go.by (B := (T47.setTop (mkF m 78 #[.val (.long m1), .second, .val (.long m2), .second, .val (.int m3), .val (.int m4), .val (.long ee40), .second, .val (.ref b41), .val (.ref b47), .val (.long v49), .second, .val (.long v50), .second, .val (.long v53), .second, .unset, .unset, .unset, .unset] [(.long (v50 - (1 : Int64)))]))) (fun _ k => XS.lstore (x := v53) (rest := []) X47.here hx rfl (hb hby at_72) (by rw [hv53]) (l' := #[.val (.long m1), .second, .val (.long m2), .second, .val (.int m3), .val (.int m4), .val (.long ee40), .second, .val (.ref b41), .val (.ref b47), .val (.long v49), .second, .val (.long v50), .second, .val (.long v53), .second, .unset, .unset, .unset, .unset]) rfl (XS.lload X47.here hx rfl (hb hby at_74) rfl (XS.lconst X47.here hx rfl (hb hby at_76) (XS.lsub X47.here hx rfl (hb hby at_77) rfl k)))) ?_
      obtain ⟨v54, hv54⟩ : ∃ v, v = (v50 - (1 : Int64)) := ⟨_, rfl⟩
      refine Go.by (B := (T47.setTop (mkF m 82 #[.val (.long m1), .second, .val (.long m2), .second, .val (.int m3), .val (.int m4), .val (.long ee40), .second, .val (.ref b41), .val (.ref b47), .val (.long v49), .second, .val (.long v54), .second, .val (.long v53), .second, .unset, .unset, .unset, .unset] [(.ref b47)]))) (fun _ k => XS.lstore (x := v54) (rest := []) X47.here hx rfl (hb hby at_78) (by rw [hv54]) (l' := #[.val (.long m1), .second, .val (.long m2), .second, .val (.int m3), .val (.int m4), .val (.long ee40), .second, .val (.ref b41), .val (.ref b47), .val (.long v49), .second, .val (.long v54), .second, .val (.long v53), .second, .unset, .unset, .unset, .unset]) rfl (XS.aload X47.here hx rfl (hb hby at_80) rfl rfl k)) ?_
      obtain ⟨cq55, kq55, q55a, q55b, q55c⟩ := isOf hZ rfl p47_0
      obtain ⟨_, _, ⟨T55, L55, k55, n55⟩, -, X55, ⟨Lc55, hQ55, l55, y55, z55⟩, st55⟩ := X47.virtualBack hx (y := (⟨"java/time/Duration", "getSeconds", "()J"⟩ : MethodName)) (z := (⟨"java/time/Duration", "getSeconds", "()J"⟩ : MethodName)) hown (mvT hZ (wd hw 33 rfl)) (mvT hZ (wd hw 34 rfl)) (notFace_of_selects (args := #[]) (mvT hZ (wd hw 36 rfl))) (mvT hZ (wd hw 36 rfl)) (mvT hZ (wd hw 35 rfl)) (by decide) (backOf (W := 0) (rm_getS l Z a0 hw [] b47 qs47 T47.heap n0 Z48 p47_1) hZ (wd hw 37 rfl) (wd hw 25 rfl) (by decide) (by decide)) q55a q55c (g := (mkF m 82 #[.val (.long m1), .second, .val (.long m2), .second, .val (.int m3), .val (.int m4), .val (.long ee40), .second, .val (.ref b41), .val (.ref b47), .val (.long v49), .second, .val (.long v54), .second, .val (.long v53), .second, .unset, .unset, .unset, .unset] [(.ref b47)])) rfl (by rw [hml]; rfl) (Steps.refl _) (argsL := []) (rest := []) (lenOf pd_6 rfl) rfl (by show 2 * 0 + _ ≤ _; exact Nat.le_of_eq rfl) (hb hby at_82) (fun _ _ => ⟨rfl, rfl, Nat.le_of_ble_eq_true rfl, Nat.le_of_ble_eq_true rfl⟩)
      dsimp only [Pt.U, Pt.locs, Pt.cells, Pt.slots] at X55 l55 y55 z55 st55 hQ55
      subst l55 y55 z55
      obtain ⟨rfl, Nq55, hh55⟩ := hQ55
      have N55 := Fr.app N47 Nq55
      refine Go.by (B := (T55.setTop (mkF m 85 #[.val (.long m1), .second, .val (.long m2), .second, .val (.int m3), .val (.int m4), .val (.long ee40), .second, .val (.ref b41), .val (.ref b47), .val (.long v49), .second, .val (.long v54), .second, .val (.long v53), .second, .unset, .unset, .unset, .unset] [(.long qs47)]))) (fun _ k => st55.trans k) ?_
      refine Go.by (B := (T55.setTop (mkF m 89 #[.val (.long m1), .second, .val (.long m2), .second, .val (.int m3), .val (.int m4), .val (.long ee40), .second, .val (.ref b41), .val (.ref b47), .val (.long v49), .second, .val (.long v54), .second, .val (.long v53), .second, .val (.long qs47), .second, .unset, .unset] [(.ref b47)]))) (fun _ k => XS.lstore X55.here hx rfl (hb hby at_85) rfl (l' := #[.val (.long m1), .second, .val (.long m2), .second, .val (.int m3), .val (.int m4), .val (.long ee40), .second, .val (.ref b41), .val (.ref b47), .val (.long v49), .second, .val (.long v54), .second, .val (.long v53), .second, .val (.long qs47), .second, .unset, .unset]) rfl (XS.aload X55.here hx rfl (hb hby at_87) rfl rfl k)) ?_
      obtain ⟨cq56, kq56, q56a, q56b, q56c⟩ := isOf hZ hh55 p47_0
      obtain ⟨_, _, ⟨T56, L56, k56, n56⟩, -, X56, ⟨Lc56, hQ56, l56, y56, z56⟩, st56⟩ := X55.virtualBack hx (y := (⟨"java/time/Duration", "getNano", "()I"⟩ : MethodName)) (z := (⟨"java/time/Duration", "getNano", "()I"⟩ : MethodName)) hown (mvT hZ (wd hw 40 rfl)) (mvT hZ (wd hw 41 rfl)) (notFace_of_selects (args := #[]) (mvT hZ (wd hw 43 rfl))) (mvT hZ (wd hw 43 rfl)) (mvT hZ (wd hw 42 rfl)) (by decide) (backOf (W := 0) (rm_getN l Z a0 hw [] b47 ps47 T47.heap n0 Z48 p47_2) hZ (wd hw 44 rfl) (wd hw 25 rfl) (by decide) (by decide)) q56a q56c (g := (mkF m 89 #[.val (.long m1), .second, .val (.long m2), .second, .val (.int m3), .val (.int m4), .val (.long ee40), .second, .val (.ref b41), .val (.ref b47), .val (.long v49), .second, .val (.long v54), .second, .val (.long v53), .second, .val (.long qs47), .second, .unset, .unset] [(.ref b47)])) rfl (by rw [hml]; rfl) (Steps.refl _) (argsL := []) (rest := []) (lenOf pd_7 rfl) rfl (by show 2 * 0 + _ ≤ _; exact Nat.le_of_eq rfl) (hb hby at_89) (fun _ _ => ⟨rfl, hh55, Nat.le_of_ble_eq_true rfl, Nat.le_of_ble_eq_true rfl⟩)
      dsimp only [Pt.U, Pt.locs, Pt.cells, Pt.slots] at X56 l56 y56 z56 st56 hQ56
      subst l56 y56 z56
      obtain ⟨rfl, Nq56, hh56⟩ := hQ56
      have N56 := Fr.app N55 Nq56
      refine Go.by (B := (T56.setTop (mkF m 92 #[.val (.long m1), .second, .val (.long m2), .second, .val (.int m3), .val (.int m4), .val (.long ee40), .second, .val (.ref b41), .val (.ref b47), .val (.long v49), .second, .val (.long v54), .second, .val (.long v53), .second, .val (.long qs47), .second, .unset, .unset] [(.int ps47)]))) (fun _ k => st56.trans k) ?_
      refine Go.by (B := (T56.setTop (mkF m 93 #[.val (.long m1), .second, .val (.long m2), .second, .val (.int m3), .val (.int m4), .val (.long ee40), .second, .val (.ref b41), .val (.ref b47), .val (.long v49), .second, .val (.long v54), .second, .val (.long v53), .second, .val (.long qs47), .second, .unset, .unset] [(.long (ps47.toInt64))]))) (fun _ k => XS.i2l X56.here hx rfl (hb hby at_92) rfl k) ?_
      obtain ⟨v57, hv57⟩ : ∃ v, v = (ps47.toInt64) := ⟨_, rfl⟩
      refine Go.by (B := (T56.setTop (mkF m 108 #[.val (.long m1), .second, .val (.long m2), .second, .val (.int m3), .val (.int m4), .val (.long ee40), .second, .val (.ref b41), .val (.ref b47), .val (.long v49), .second, .val (.long v54), .second, .val (.long v53), .second, .val (.long qs47), .second, .val (.long v57), .second] [(.int (lcmpW v57 v53))]))) (fun _ k => XS.lstore (x := v57) (rest := []) X56.here hx rfl (hb hby at_93) (by rw [hv57]) (l' := #[.val (.long m1), .second, .val (.long m2), .second, .val (.int m3), .val (.int m4), .val (.long ee40), .second, .val (.ref b41), .val (.ref b47), .val (.long v49), .second, .val (.long v54), .second, .val (.long v53), .second, .val (.long qs47), .second, .val (.long v57), .second]) rfl (XS.lload X56.here hx rfl (hb hby at_95) rfl (XS.lload X56.here hx rfl (hb hby at_97) rfl (XS.lcmp X56.here hx rfl (hb hby at_99) rfl (XS.ifNo X56.here hx rfl (hb hby at_100) rfl ((if0 _ _).trans (teq ((lw_eq _ _).mpr (by rw [hv54]; exact ((own_law (by rw [hv49]; exact p47_3 : own_dur v49 _ _) hv50 hv51).1 c52).1 : qs47 = v54))).2) (XS.lload X56.here hx rfl (hb hby at_103) rfl (XS.lload X56.here hx rfl (hb hby at_105) rfl (XS.lcmp X56.here hx rfl (hb hby at_107) rfl k)))))))) ?_
      refine Go.by (B := (T56.setTop (mkF m 116 #[.val (.long m1), .second, .val (.long m2), .second, .val (.int m3), .val (.int m4), .val (.long ee40), .second, .val (.ref b41), .val (.ref b47), .val (.long v49), .second, .val (.long v54), .second, .val (.long v53), .second, .val (.long qs47), .second, .val (.long v57), .second] [(.int 1)]))) (fun _ k => XS.ifNo X56.here hx rfl (hb hby at_108) rfl ((if0 _ _).trans (teq ((lw_eq _ _).mpr (by rw [hv57, hv53]; exact ((own_law (by rw [hv49]; exact p47_3 : own_dur v49 _ _) hv50 hv51).1 c52).2 : v57 = v53))).2) (XS.iconst X56.here hx rfl (hb hby at_111) (XS.goto X56.here hx rfl (pc0 := 112) (pc' := 116) rfl (hb hby at_112) (by decide) (by decide) k))) ?_
      refine Go.ret X56 hx hlk (t := .boolean) hret rfl (Or.inl ⟨rfl, by simp, _, rfl⟩) (hb hby at_116) (by decide) (by decide) ?_
      exact ⟨rfl, N56⟩
    · skip
      refine Go.by (B := (T47.setTop (mkF m 82 #[.val (.long m1), .second, .val (.long m2), .second, .val (.int m3), .val (.int m4), .val (.long ee40), .second, .val (.ref b41), .val (.ref b47), .val (.long v49), .second, .val (.long v50), .second, .val (.long v51), .second, .unset, .unset, .unset, .unset] [(.ref b47)]))) (fun _ k => XS.ifYes X47.here hx rfl (pc0 := 63) (pc' := 80) rfl (hb hby at_63) rfl ((if0 _ _).trans (flt (fun q => c52 ((lw_lt _ _).mp q))).2.1) (by decide) (by decide) (XS.aload X47.here hx rfl (hb hby at_80) rfl rfl k)) ?_
      obtain ⟨cq58, kq58, q58a, q58b, q58c⟩ := isOf hZ rfl p47_0
      obtain ⟨_, _, ⟨T58, L58, k58, n58⟩, -, X58, ⟨Lc58, hQ58, l58, y58, z58⟩, st58⟩ := X47.virtualBack hx (y := (⟨"java/time/Duration", "getSeconds", "()J"⟩ : MethodName)) (z := (⟨"java/time/Duration", "getSeconds", "()J"⟩ : MethodName)) hown (mvT hZ (wd hw 33 rfl)) (mvT hZ (wd hw 34 rfl)) (notFace_of_selects (args := #[]) (mvT hZ (wd hw 36 rfl))) (mvT hZ (wd hw 36 rfl)) (mvT hZ (wd hw 35 rfl)) (by decide) (backOf (W := 0) (rm_getS l Z a0 hw [] b47 qs47 T47.heap n0 Z48 p47_1) hZ (wd hw 37 rfl) (wd hw 25 rfl) (by decide) (by decide)) q58a q58c (g := (mkF m 82 #[.val (.long m1), .second, .val (.long m2), .second, .val (.int m3), .val (.int m4), .val (.long ee40), .second, .val (.ref b41), .val (.ref b47), .val (.long v49), .second, .val (.long v50), .second, .val (.long v51), .second, .unset, .unset, .unset, .unset] [(.ref b47)])) rfl (by rw [hml]; rfl) (Steps.refl _) (argsL := []) (rest := []) (lenOf pd_6 rfl) rfl (by show 2 * 0 + _ ≤ _; exact Nat.le_of_eq rfl) (hb hby at_82) (fun _ _ => ⟨rfl, rfl, Nat.le_of_ble_eq_true rfl, Nat.le_of_ble_eq_true rfl⟩)
      dsimp only [Pt.U, Pt.locs, Pt.cells, Pt.slots] at X58 l58 y58 z58 st58 hQ58
      subst l58 y58 z58
      obtain ⟨rfl, Nq58, hh58⟩ := hQ58
      have N58 := Fr.app N47 Nq58
      refine Go.by (B := (T58.setTop (mkF m 85 #[.val (.long m1), .second, .val (.long m2), .second, .val (.int m3), .val (.int m4), .val (.long ee40), .second, .val (.ref b41), .val (.ref b47), .val (.long v49), .second, .val (.long v50), .second, .val (.long v51), .second, .unset, .unset, .unset, .unset] [(.long qs47)]))) (fun _ k => st58.trans k) ?_
      refine Go.by (B := (T58.setTop (mkF m 89 #[.val (.long m1), .second, .val (.long m2), .second, .val (.int m3), .val (.int m4), .val (.long ee40), .second, .val (.ref b41), .val (.ref b47), .val (.long v49), .second, .val (.long v50), .second, .val (.long v51), .second, .val (.long qs47), .second, .unset, .unset] [(.ref b47)]))) (fun _ k => XS.lstore X58.here hx rfl (hb hby at_85) rfl (l' := #[.val (.long m1), .second, .val (.long m2), .second, .val (.int m3), .val (.int m4), .val (.long ee40), .second, .val (.ref b41), .val (.ref b47), .val (.long v49), .second, .val (.long v50), .second, .val (.long v51), .second, .val (.long qs47), .second, .unset, .unset]) rfl (XS.aload X58.here hx rfl (hb hby at_87) rfl rfl k)) ?_
      obtain ⟨cq59, kq59, q59a, q59b, q59c⟩ := isOf hZ hh58 p47_0
      obtain ⟨_, _, ⟨T59, L59, k59, n59⟩, -, X59, ⟨Lc59, hQ59, l59, y59, z59⟩, st59⟩ := X58.virtualBack hx (y := (⟨"java/time/Duration", "getNano", "()I"⟩ : MethodName)) (z := (⟨"java/time/Duration", "getNano", "()I"⟩ : MethodName)) hown (mvT hZ (wd hw 40 rfl)) (mvT hZ (wd hw 41 rfl)) (notFace_of_selects (args := #[]) (mvT hZ (wd hw 43 rfl))) (mvT hZ (wd hw 43 rfl)) (mvT hZ (wd hw 42 rfl)) (by decide) (backOf (W := 0) (rm_getN l Z a0 hw [] b47 ps47 T47.heap n0 Z48 p47_2) hZ (wd hw 44 rfl) (wd hw 25 rfl) (by decide) (by decide)) q59a q59c (g := (mkF m 89 #[.val (.long m1), .second, .val (.long m2), .second, .val (.int m3), .val (.int m4), .val (.long ee40), .second, .val (.ref b41), .val (.ref b47), .val (.long v49), .second, .val (.long v50), .second, .val (.long v51), .second, .val (.long qs47), .second, .unset, .unset] [(.ref b47)])) rfl (by rw [hml]; rfl) (Steps.refl _) (argsL := []) (rest := []) (lenOf pd_7 rfl) rfl (by show 2 * 0 + _ ≤ _; exact Nat.le_of_eq rfl) (hb hby at_89) (fun _ _ => ⟨rfl, hh58, Nat.le_of_ble_eq_true rfl, Nat.le_of_ble_eq_true rfl⟩)
      dsimp only [Pt.U, Pt.locs, Pt.cells, Pt.slots] at X59 l59 y59 z59 st59 hQ59
      subst l59 y59 z59
      obtain ⟨rfl, Nq59, hh59⟩ := hQ59
      have N59 := Fr.app N58 Nq59
      refine Go.by (B := (T59.setTop (mkF m 92 #[.val (.long m1), .second, .val (.long m2), .second, .val (.int m3), .val (.int m4), .val (.long ee40), .second, .val (.ref b41), .val (.ref b47), .val (.long v49), .second, .val (.long v50), .second, .val (.long v51), .second, .val (.long qs47), .second, .unset, .unset] [(.int ps47)]))) (fun _ k => st59.trans k) ?_
      refine Go.by (B := (T59.setTop (mkF m 93 #[.val (.long m1), .second, .val (.long m2), .second, .val (.int m3), .val (.int m4), .val (.long ee40), .second, .val (.ref b41), .val (.ref b47), .val (.long v49), .second, .val (.long v50), .second, .val (.long v51), .second, .val (.long qs47), .second, .unset, .unset] [(.long (ps47.toInt64))]))) (fun _ k => XS.i2l X59.here hx rfl (hb hby at_92) rfl k) ?_
      obtain ⟨v60, hv60⟩ : ∃ v, v = (ps47.toInt64) := ⟨_, rfl⟩
      refine Go.by (B := (T59.setTop (mkF m 108 #[.val (.long m1), .second, .val (.long m2), .second, .val (.int m3), .val (.int m4), .val (.long ee40), .second, .val (.ref b41), .val (.ref b47), .val (.long v49), .second, .val (.long v50), .second, .val (.long v51), .second, .val (.long qs47), .second, .val (.long v60), .second] [(.int (lcmpW v60 v51))]))) (fun _ k => XS.lstore (x := v60) (rest := []) X59.here hx rfl (hb hby at_93) (by rw [hv60]) (l' := #[.val (.long m1), .second, .val (.long m2), .second, .val (.int m3), .val (.int m4), .val (.long ee40), .second, .val (.ref b41), .val (.ref b47), .val (.long v49), .second, .val (.long v50), .second, .val (.long v51), .second, .val (.long qs47), .second, .val (.long v60), .second]) rfl (XS.lload X59.here hx rfl (hb hby at_95) rfl (XS.lload X59.here hx rfl (hb hby at_97) rfl (XS.lcmp X59.here hx rfl (hb hby at_99) rfl (XS.ifNo X59.here hx rfl (hb hby at_100) rfl ((if0 _ _).trans (teq ((lw_eq _ _).mpr (by  exact ((own_law (by rw [hv49]; exact p47_3 : own_dur v49 _ _) hv50 hv51).2 c52).1 : qs47 = v50))).2) (XS.lload X59.here hx rfl (hb hby at_103) rfl (XS.lload X59.here hx rfl (hb hby at_105) rfl (XS.lcmp X59.here hx rfl (hb hby at_107) rfl k)))))))) ?_
      refine Go.by (B := (T59.setTop (mkF m 116 #[.val (.long m1), .second, .val (.long m2), .second, .val (.int m3), .val (.int m4), .val (.long ee40), .second, .val (.ref b41), .val (.ref b47), .val (.long v49), .second, .val (.long v50), .second, .val (.long v51), .second, .val (.long qs47), .second, .val (.long v60), .second] [(.int 1)]))) (fun _ k => XS.ifNo X59.here hx rfl (hb hby at_108) rfl ((if0 _ _).trans (teq ((lw_eq _ _).mpr (by rw [hv60]; exact ((own_law (by rw [hv49]; exact p47_3 : own_dur v49 _ _) hv50 hv51).2 c52).2 : v60 = v51))).2) (XS.iconst X59.here hx rfl (hb hby at_111) (XS.goto X59.here hx rfl (pc0 := 112) (pc' := 116) rfl (hb hby at_112) (by decide) (by decide) k))) ?_
      refine Go.ret X59 hx hlk (t := .boolean) hret rfl (Or.inl ⟨rfl, by simp, _, rfl⟩) (hb hby at_116) (by decide) (by decide) ?_
      exact ⟨rfl, N59⟩
  refine Go.by (B := (s₁.setTop (mkF m 4 #[.val (.long m1), .second, .val (.long m2), .second, .val (.int m3), .val (.int m4), .unset, .unset, .unset, .unset, .unset, .unset, .unset, .unset, .unset, .unset, .unset, .unset, .unset, .unset] [(.int (m4 &&& (1 : Int32)))]))) (fun _ k => XS.iload X39.here hx rfl (hb hby at_0) rfl (XS.iconst X39.here hx rfl (hb hby at_2) (XS.iand X39.here hx rfl (hb hby at_3) rfl k))) ?_
  by_cases c61 : (m4 &&& (1 : Int32)) = (0 : Int32)
  · skip
    refine Go.by (B := (s₁.setTop (mkF m 16 #[.val (.long m1), .second, .val (.long m2), .second, .val (.int m3), .val (.int m4), .unset, .unset, .unset, .unset, .unset, .unset, .unset, .unset, .unset, .unset, .unset, .unset, .unset, .unset] [(.long m2)]))) (fun _ k => XS.ifYes X39.here hx rfl (pc0 := 4) (pc' := 15) rfl (hb hby at_4) rfl ((if0 _ _).trans (teq c61).1) (by decide) (by decide) (XS.lloadN X39.here hx rfl (hb hby at_15) rfl k)) ?_
    exact J39 s₁ X39 e39 m2
  · skip
    refine Go.by (B := (s₁.setTop (mkF m 16 #[.val (.long m1), .second, .val (.long m2), .second, .val (.int m3), .val (.int m4), .unset, .unset, .unset, .unset, .unset, .unset, .unset, .unset, .unset, .unset, .unset, .unset, .unset, .unset] [(.long (m1 + (m3.toInt64)))]))) (fun _ k => XS.ifNo X39.here hx rfl (hb hby at_4) rfl ((if0 _ _).trans (feq c61).1) (XS.lloadN X39.here hx rfl (hb hby at_7) rfl (XS.iload X39.here hx rfl (hb hby at_8) rfl (XS.i2l X39.here hx rfl (hb hby at_10) rfl (XS.ladd X39.here hx rfl (hb hby at_11) rfl (XS.goto X39.here hx rfl (pc0 := 12) (pc' := 16) rfl (hb hby at_12) (by decide) (by decide) k)))))) ?_
    exact J39 s₁ X39 e39 (m1 + (m3.toInt64))
set_option maxRecDepth 65536 in
set_option maxHeartbeats 40000000 in
theorem comes_1 {Post : Tables → Env → Array Value → State → Outcome → State → Prop} (hpost : ∀ tb e args s v u, (limb_1_1.after args s (.returned v) u = true ∧ limb_1_2.after args s (.returned v) u = true ∧ True) → FrameEnd s (.returned v) u (Jvm.fieldLocs frame_1_writes args s ++ Jvm.arrayLocs frame_1_arrays args s ++ Jvm.staticLocs frame_1_statics s) 16 128 → Post tb e args s (.returned v) u) :
    ArmFor flags0 classFile x code maxLocals ret World_1 tables_1 room_1 Calls_1 rest_1 Pre_1 Post := by
  intro l hfl _ _ p e ha hc hk s m args below hf hA hF happ hP
  obtain ⟨hcalls, hrest, hpre⟩ := hP
  obtain ⟨-, -, -, hnamed, -, -, -, hat⟩ := (Spec.applies_iff hf).mp happ
  obtain ⟨hg, hn⟩ := and_e (Cond.before_iff.mp (show (Jvm.Cond.and given_1 narrow_1).before args s = true from hpre))
  obtain ⟨hg0, hgr0⟩ := and_e hg
  obtain ⟨ga0, hgr1⟩ := and_e hgr0
  obtain ⟨ga1, hgr2⟩ := and_e hgr1
  obtain ⟨ga2, hgr3⟩ := and_e hgr2
  obtain ⟨w0, w1, w2, w3, rfl⟩ : ∃ w0 w1 w2 w3 : Value, args = #[w0, w1, w2, w3] := by
    have hs : args.size = 4 := by simpa [Cond.value, given_1] using hg0
    obtain ⟨L⟩ := args
    match L, hs with
    | [w0, w1, w2, w3], _ => exact ⟨w0, w1, w2, w3, rfl⟩
  have hw := fun d (hd : d ∈ tables_1) => atoms_spec (ws := Jvm.Cond.code x code maxLocals ret :: tables_1) hat d (List.mem_cons_of_mem _ hd)
  have hfit : Fit s := fun {y c} hc i hi => by
    obtain ⟨ha, rfl⟩ := Array.getElem?_eq_some_iff.mp hc
    have q := List.all_eq_true.mp ((Array.all_eq_true_iff_forall_mem.mp hF) _ (Array.getElem_mem ha)) i (List.mem_range.mpr hi)
    simpa [Array.getElem?_eq_getElem hi] using q
  obtain ⟨hsets, hown0⟩ := atoms_of _ (rest_1_c_eq ▸ (show rest_1_c.before _ s = true from hrest))
  have hr0 := Cond.before_iff.mp hown0
  obtain ⟨i0, ei0⟩ := isL_v ga0
  obtain rfl : w0 = (.long i0) := Option.some.inj ei0
  obtain ⟨i1, ei1⟩ := isL_v ga1
  obtain rfl : w1 = (.long i1) := Option.some.inj ei1
  obtain ⟨i2, ei2⟩ := is_v ga2
  obtain rfl : w2 = (.int i2) := Option.some.inj ei2
  obtain ⟨i3, ei3⟩ := is_v hgr3
  obtain rfl : w3 = (.int i3) := Option.some.inj ei3
  obtain ⟨wz, ev⟩ := exa_v (Cond.before_iff.mp (hsets _ (List.mem_of_getElem? (i := 2) rfl)))
  have Sz : Sta s s.heap "java/time/Duration" "ZERO" "Ljava/time/Duration;" (.ref wz) := Sta.start ev (Or.inl (hsets _ (List.mem_of_getElem? (i := 1) rfl)))
  have Ez := Exa.start ev (Cond.before_iff.mp (hsets _ (List.mem_of_getElem? (i := 2) rfl)))
  have F1 : Fld s s.heap wz "java/time/Duration" "seconds" "J" (.long (0 : Int64)) := Fld.start ((fld_at ev).symm.trans (own_eqL (Cond.before_iff.mp (hsets _ (List.mem_of_getElem? (i := 3) rfl))) rfl))
  have F2 : Fld s s.heap wz "java/time/Duration" "nanos" "I" (.int 0) := Fld.start ((fld_at ev).symm.trans (own_eqk (Cond.before_iff.mp (hsets _ (List.mem_of_getElem? (i := 4) rfl)))))
  obtain ⟨n, o, h1, h2, h3, _, L, rfl, ⟨rfl, N⟩, hq⟩ := rm0 l s _ hw tables_1 i0 i1 i2 i3 wz s.heap s.heap.size (Nat.le_refl _) (Old.start s) Sz Ez F1 F2 p e ha hc hk s m _ below hf ((Spec.applies_iff_loose hf).mp happ).1 ⟨rfl, State.Warmed39.refl s, rfl⟩ trivial
  refine ⟨n, _, h1, h2, h3, hpost _ _ _ _ _ _ ⟨Cond.after_iff.mpr rfl, Cond.after_iff.mpr (eq_i res_at (Term.int_eval (1)) rfl), trivial⟩ ⟨hq.1, hq.2.1, (hq.2.2.sift fun y hy => Or.inr (N y hy)).mono (by decide) (by decide)⟩⟩
theorem main_1_1 : Claimed_1_1 := comes_1 fun _ _ _ _ _ _ h hF => ⟨h.1, hF⟩
theorem main_1_2 : Claimed_1_2 := comes_1 fun _ _ _ _ _ _ h hF => ⟨h.2.1, hF⟩
end Jvm.Pilot.@@N@@
namespace Jvm.Pilot.@@N@@
open Jvm Jvm.ClassFile Sem Op Lib Jvm.Free Jvm.Stand Jvm.Pilot.@@N@@.Jvm.D
/-! MADE BY PROGRAM (witnessworld.py) out of the Statement's table words and the real class files: 13 classes; the members and pool entries that the words name. The judged class is class 1, her method 1. -/
namespace start1
open Jvm.ClassFile
def u (s : String) : CpInfo := .utf8 (stringToUtf16 s)
/-- a pool by its gaps: so many unusable entries, then the entry; so many at the end -/
def gap : Nat → List CpInfo → List CpInfo
  | 0, r => r
  | n + 1, r => .unusable :: gap n r
def poolList (es : List (Nat × CpInfo)) (last : Nat) : List CpInfo := es.foldr (fun e r => gap e.1 (e.2 :: r)) (gap last [])
def pool (es : List (Nat × CpInfo)) (last : Nat) : Array CpInfo := ⟨poolList es last⟩
def fileOf (pool : Array CpInfo) (this : Nat) (attrs : Array Attribute := #[]) (ms : Array MethodInfo := #[]) (fl : Nat := 33) (sup : Nat := 0) (ifs : Array Nat := #[]) (fds : Array FieldInfo := #[]) : ClassFile where
  minorVersion := 0
  majorVersion := 65
  constantPool := pool
  accessFlags := fl
  thisClass := this
  superClass := sup
  interfaces := ifs
  fields := fds
  methods := ms
  attributes := attrs
def plain (name : String) (sup : Option ClassId) : Class where
  name := name
  kind := .ordinary
  loader := none
  accessFlags := 33
  super := sup
  interfaces := #[]
  cf := none
  fields := #[]
  methods := #[]
  instanceTypes := #[]
  staticTypes := #[]
  resolved := #[]
  callSites := []
  init := .initialized
  statics := none
  mirror := none

def pool0 : Array CpInfo := pool [(5, u "<init>"), (0, u "()V"), (1, .class_ 10), (1, u "java/lang/Object")] 113

def k0c0 : Code := { maxStack := 0, maxLocals := 1, code := object_method_1_code, exceptionTable := #[], attributes := #[] }
def k0m0 : Method := { name := "<init>", desc := "()V", sig := { parameters := [], returnType := none }, accessFlags := 1, code := some k0c0 }
/-- java/lang/Object -/
def k0 : Class := { plain "java/lang/Object" none with
  accessFlags := 33
  interfaces := #[]
  cf := some (fileOf pool0 8 #[] #[{ accessFlags := 1, nameIndex := 5, descriptorIndex := 6, attributes := #[] }] 33 0 #[] #[])
  fields := #[]
  methods := #[k0m0]
  instanceTypes := #[]
  staticTypes := #[]
  resolved := Array.replicate 124 none
  statics := none }

def pool1 : Array CpInfo := pool [(2, .class_ 4), (1, u "java/lang/Object"), (0, u "<init>"), (0, u "()V"), (0, .class_ 8), (0, u "com/example/orderly_outbox/orderlyoutbox/relay/Batch$Timing"), (0, .methodref 7 10), (0, .nameAndType 5 11), (0, u "(JJ)V"), (0, .methodref 7 13), (0, .nameAndType 14 15), (0, u "took"), (0, u "()Ljava/time/Duration;"), (0, .long 1000000000), (1, .methodref 19 20), (0, .class_ 21), (0, .nameAndType 22 23), (0, u "java/time/Duration"), (0, u "getSeconds"), (0, u "()J"), (0, .methodref 19 25), (0, .nameAndType 26 27), (0, u "getNano"), (0, u "()I"), (0, .class_ 29), (0, u "com/example/orderly_outbox/orderlyoutbox/relay/BatchTookPinLaw"), (2, u "law"), (0, u "(JJII)Z")] 7

def k1m0 : Method := { name := "<init>", desc := "()V", sig := { parameters := [], returnType := none }, accessFlags := 1, code := none }
def k1c1 : Code := { maxStack := 6, maxLocals := 20, code := code, exceptionTable := #[], attributes := #[] }
def k1m1 : Method := { name := "law", desc := "(JJII)Z", sig := { parameters := [.long, .long, .int, .int], returnType := some .boolean }, accessFlags := 9, code := some k1c1 }
/-- com/example/orderly_outbox/orderlyoutbox/relay/BatchTookPinLaw -/
def k1 : Class := { plain "com/example/orderly_outbox/orderlyoutbox/relay/BatchTookPinLaw" (some 0) with
  accessFlags := 49
  interfaces := #[]
  cf := some (fileOf pool1 28 #[] #[{ accessFlags := 1, nameIndex := 5, descriptorIndex := 6, attributes := #[] }, { accessFlags := 9, nameIndex := 32, descriptorIndex := 33, attributes := #[] }] 49 2 #[] #[])
  fields := #[]
  methods := #[k1m0, k1m1]
  instanceTypes := #[]
  staticTypes := #[]
  resolved := Array.replicate 41 none
  statics := none }

def pool2 : Array CpInfo := pool [(1, .methodref 2 3), (0, .class_ 4), (0, .nameAndType 5 6), (0, u "java/lang/Object"), (0, u "<init>"), (0, u "()V"), (0, .class_ 8), (0, u "java/lang/Record")] 13

def k2c0 : Code := { maxStack := 1, maxLocals := 1, code := jdk_30_method_1_code, exceptionTable := #[], attributes := #[] }
def k2m0 : Method := { name := "<init>", desc := "()V", sig := { parameters := [], returnType := none }, accessFlags := 4, code := some k2c0 }
/-- java/lang/Record -/
def k2 : Class := { plain "java/lang/Record" (some 0) with
  accessFlags := 1057
  interfaces := #[]
  cf := some (fileOf pool2 7 #[] #[{ accessFlags := 4, nameIndex := 5, descriptorIndex := 6, attributes := #[] }] 1057 2 #[] #[])
  fields := #[]
  methods := #[k2m0]
  instanceTypes := #[]
  staticTypes := #[]
  resolved := Array.replicate 22 none
  statics := none }

def pool3 : Array CpInfo := pool [(1, .methodref 2 3), (0, .class_ 4), (0, .nameAndType 5 6), (0, u "java/lang/Record"), (0, u "<init>"), (0, u "()V"), (0, .fieldref 8 9), (0, .class_ 10), (0, .nameAndType 11 12), (0, u "com/example/orderly_outbox/orderlyoutbox/relay/Batch$Timing"), (0, u "startedAt"), (0, u "J"), (0, .fieldref 8 14), (0, .nameAndType 15 12), (0, u "endedAt"), (8, u "(JJ)V"), (0, .methodref 26 27), (0, .class_ 28), (0, .nameAndType 29 30), (0, u "java/time/Duration"), (0, u "ofNanos"), (0, u "(J)Ljava/time/Duration;"), (17, u "took"), (0, u "()Ljava/time/Duration;"), (6, .class_ 57), (0, u "com/example/orderly_outbox/orderlyoutbox/relay/Batch")] 20

def k3c0 : Code := { maxStack := 3, maxLocals := 5, code := prog_12_method_1_code, exceptionTable := #[], attributes := #[] }
def k3m0 : Method := { name := "<init>", desc := "(JJ)V", sig := { parameters := [.long, .long], returnType := none }, accessFlags := 0, code := some k3c0 }
def k3c1 : Code := { maxStack := 4, maxLocals := 1, code := prog_12_method_3_code, exceptionTable := #[], attributes := #[] }
def k3m1 : Method := { name := "took", desc := "()Ljava/time/Duration;", sig := { parameters := [], returnType := some (.object "java/time/Duration") }, accessFlags := 0, code := some k3c1 }
/-- com/example/orderly_outbox/orderlyoutbox/relay/Batch$Timing -/
def k3 : Class := { plain "com/example/orderly_outbox/orderlyoutbox/relay/Batch$Timing" (some 2) with
  accessFlags := 48
  interfaces := #[]
  cf := some (fileOf pool3 8 #[.nestHost 56] #[{ accessFlags := 0, nameIndex := 5, descriptorIndex := 24, attributes := #[] }, { accessFlags := 0, nameIndex := 48, descriptorIndex := 49, attributes := #[] }] 48 2 #[] #[{ accessFlags := 18, nameIndex := 11, descriptorIndex := 12, attributes := #[] }, { accessFlags := 18, nameIndex := 15, descriptorIndex := 12, attributes := #[] }])
  fields := #[{ name := "startedAt", type := .long, accessFlags := 18, slot := 0, constantValue := 0 }, { name := "endedAt", type := .long, accessFlags := 18, slot := 1, constantValue := 0 }]
  methods := #[k3m0, k3m1]
  instanceTypes := #[.long, .long]
  staticTypes := #[]
  resolved := Array.replicate 78 none
  statics := none }

def pool4 : Array CpInfo := pool [(1, .class_ 2), (0, u "java/time/temporal/TemporalAmount"), (0, .class_ 4), (0, u "java/lang/Object")] 11

/-- java/time/temporal/TemporalAmount -/
def k4 : Class := { plain "java/time/temporal/TemporalAmount" (some 0) with
  accessFlags := 1537
  interfaces := #[]
  cf := some (fileOf pool4 1 #[] #[] 1537 3 #[] #[])
  fields := #[]
  methods := #[]
  instanceTypes := #[]
  staticTypes := #[]
  resolved := Array.replicate 16 none
  statics := none }

def pool5 : Array CpInfo := pool [(1, .class_ 2), (0, u "java/lang/Comparable"), (0, .class_ 4), (0, u "java/lang/Object")] 7

/-- java/lang/Comparable -/
def k5 : Class := { plain "java/lang/Comparable" (some 0) with
  accessFlags := 1537
  interfaces := #[]
  cf := some (fileOf pool5 1 #[] #[] 1537 3 #[] #[])
  fields := #[]
  methods := #[]
  instanceTypes := #[]
  staticTypes := #[]
  resolved := Array.replicate 12 none
  statics := none }

def pool6 : Array CpInfo := pool [(1, .class_ 2), (0, u "java/io/Serializable"), (0, .class_ 4), (0, u "java/lang/Object")] 2

/-- java/io/Serializable -/
def k6 : Class := { plain "java/io/Serializable" (some 0) with
  accessFlags := 1537
  interfaces := #[]
  cf := some (fileOf pool6 1 #[] #[] 1537 3 #[] #[])
  fields := #[]
  methods := #[]
  instanceTypes := #[]
  staticTypes := #[]
  resolved := Array.replicate 7 none
  statics := none }

def pool7 : Array CpInfo := pool [(10, .methodref 11 12), (0, .class_ 13), (0, .nameAndType 14 15), (0, u "java/time/Duration"), (0, u "create"), (0, u "(JI)Ljava/time/Duration;"), (0, .long 1000000000), (14, .integer 1000000000), (0, .fieldref 11 33), (0, .nameAndType 34 35), (0, u "ZERO"), (0, u "Ljava/time/Duration;"), (13, .class_ 51), (1, u "java/time/temporal/TemporalAmount"), (27, .class_ 81), (1, u "java/time/Duration$Lazy"), (35, u "seconds"), (21, u "<init>"), (17, .nameAndType 139 158), (0, u "()V"), (39, u "ofNanos"), (0, u "(J)Ljava/time/Duration;"), (15, .methodref 11 216), (0, .nameAndType 139 217), (0, u "(JI)V"), (0, .methodref 219 157), (0, .class_ 220), (0, u "java/lang/Object"), (0, .fieldref 11 222), (0, .nameAndType 117 223), (0, u "J"), (0, .fieldref 11 225), (0, .nameAndType 226 227), (0, u "nanos"), (0, u "I"), (11, .class_ 241), (1, u "java/time/Duration$DurationUnits"), (8, u "getSeconds"), (0, u "()J"), (2, u "getNano"), (0, u "()I"), (13, .class_ 271), (1, u "java/time/Duration$1"), (91, u "BI_NANOS_PER_SECOND"), (0, u "Ljava/math/BigInteger;"), (120, .class_ 486), (0, u "java/lang/Comparable"), (0, .class_ 488), (0, u "java/io/Serializable"), (0, u "serialVersionUID")] 166

def k7c0 : Code := { maxStack := 4, maxLocals := 5, code := jdk_2316_method_7_code, exceptionTable := #[], attributes := #[] }
def k7m0 : Method := { name := "ofNanos", desc := "(J)Ljava/time/Duration;", sig := { parameters := [.long], returnType := some (.object "java/time/Duration") }, accessFlags := 9, code := some k7c0 }
def k7c1 : Code := { maxStack := 5, maxLocals := 3, code := jdk_2316_method_16_code, exceptionTable := #[], attributes := #[] }
def k7m1 : Method := { name := "create", desc := "(JI)Ljava/time/Duration;", sig := { parameters := [.long, .int], returnType := some (.object "java/time/Duration") }, accessFlags := 10, code := some k7c1 }
def k7c2 : Code := { maxStack := 3, maxLocals := 4, code := jdk_2316_method_17_code, exceptionTable := #[], attributes := #[] }
def k7m2 : Method := { name := "<init>", desc := "(JI)V", sig := { parameters := [.long, .int], returnType := none }, accessFlags := 2, code := some k7c2 }
def k7c3 : Code := { maxStack := 2, maxLocals := 1, code := jdk_2316_method_23_code, exceptionTable := #[], attributes := #[] }
def k7m3 : Method := { name := "getSeconds", desc := "()J", sig := { parameters := [], returnType := some .long }, accessFlags := 1, code := some k7c3 }
def k7c4 : Code := { maxStack := 1, maxLocals := 1, code := jdk_2316_method_24_code, exceptionTable := #[], attributes := #[] }
def k7m4 : Method := { name := "getNano", desc := "()I", sig := { parameters := [], returnType := some .int }, accessFlags := 1, code := some k7c4 }
/-- java/time/Duration -/
def k7 : Class := { plain "java/time/Duration" (some 0) with
  accessFlags := 49
  interfaces := #[4, 5, 6]
  cf := some (fileOf pool7 11 #[.nestMembers #[269, 239, 79]] #[{ accessFlags := 9, nameIndex := 198, descriptorIndex := 199, attributes := #[] }, { accessFlags := 10, nameIndex := 14, descriptorIndex := 15, attributes := #[] }, { accessFlags := 2, nameIndex := 139, descriptorIndex := 217, attributes := #[] }, { accessFlags := 1, nameIndex := 250, descriptorIndex := 251, attributes := #[] }, { accessFlags := 1, nameIndex := 254, descriptorIndex := 255, attributes := #[] }] 49 219 #[49, 485, 487] #[{ accessFlags := 25, nameIndex := 34, descriptorIndex := 35, attributes := #[] }, { accessFlags := 26, nameIndex := 489, descriptorIndex := 223, attributes := #[] }, { accessFlags := 26, nameIndex := 363, descriptorIndex := 364, attributes := #[] }, { accessFlags := 18, nameIndex := 117, descriptorIndex := 223, attributes := #[] }, { accessFlags := 18, nameIndex := 226, descriptorIndex := 227, attributes := #[] }])
  fields := #[{ name := "ZERO", type := (.object "java/time/Duration"), accessFlags := 25, slot := 0, constantValue := 0 }, { name := "serialVersionUID", type := .long, accessFlags := 26, slot := 1, constantValue := 0 }, { name := "BI_NANOS_PER_SECOND", type := (.object "java/math/BigInteger"), accessFlags := 26, slot := 2, constantValue := 0 }, { name := "seconds", type := .long, accessFlags := 18, slot := 0, constantValue := 0 }, { name := "nanos", type := .int, accessFlags := 18, slot := 1, constantValue := 0 }]
  methods := #[k7m0, k7m1, k7m2, k7m3, k7m4]
  instanceTypes := #[.long, .int]
  staticTypes := #[(.object "java/time/Duration"), .long, (.object "java/math/BigInteger")]
  resolved := Array.replicate 656 none
  statics := some 0 }

def pool8 : Array CpInfo := pool [(1, u "java/lang/Cloneable"), (0, .class_ 1), (0, u "java/lang/Object"), (0, .class_ 3)] 3

/-- java/lang/Cloneable -/
def k8 : Class := { plain "java/lang/Cloneable" (some 0) with
  accessFlags := 1537
  interfaces := #[]
  cf := some (fileOf pool8 2 #[] #[] 1537 4 #[] #[])
  fields := #[]
  methods := #[]
  instanceTypes := #[]
  staticTypes := #[]
  resolved := Array.replicate 8 none
  statics := none }

/-- the primitive byte -/
def k9 : Class := { plain "byte" none with kind := .primitive 'B', accessFlags := 0x411 }
/-- [B -/
def k10 : Class := { plain "[B" (some 0) with kind := .array 9 .byte, interfaces := #[8, 6], accessFlags := 1041 }

/-- the primitive int -/
def k11 : Class := { plain "int" none with kind := .primitive 'I', accessFlags := 0x411 }
/-- [I -/
def k12 : Class := { plain "[I" (some 0) with kind := .array 11 .int, interfaces := #[8, 6], accessFlags := 1041 }

def heap : Heap := #[{ cls := 7, slots := #[.ref 1, .long 0, .null], vm := .statics 7 },
  { cls := 7, slots := #[.long 0, .int 0], vm := .none }]
def classes : Array Class := #[k0, k1, k2, k3, k4, k5, k6, k7, k8, k9, k10, k11, k12]
def interned : List (Array UInt16 × Addr) := []
def slotsUsed : Nat := 5
def theMethod : MethodId := ⟨1, 1⟩
def args0 : Array Value := #[.long 5, .long 6, .int 7, .int 8]
def aboutOver (below : List Frame) : State where
  vm := { classes := classes, interned := interned.toArray }
  heap := heap
  slotsUsed := slotsUsed
  threads := #[{ frames := .invoking theMethod args0 :: below }]
def below0 : List Frame := [.native { method := ⟨0, 0⟩, args := #[] }]
def about1 : State := aboutOver below0
def p0 : Program := .bare "" "" ""
def e0 : Env := launch0.env 0 0 0
theorem w_frames : about1.frames = Frame.invoking theMethod args0 :: below0 := rfl
set_option maxRecDepth 65536 in
theorem w_args : argsFit about1.vm theMethod args0 = true := by decide +kernel
set_option maxRecDepth 65536 in
theorem w_heap : heapFits about1 = true := by decide +kernel
set_option maxRecDepth 65536 in
theorem w_runnable : about1.curStatus? = some .runnable := by decide +kernel
set_option maxRecDepth 65536 in
theorem w_alone : about1.alone = true := by decide +kernel
set_option maxRecDepth 65536 in
theorem w_named : about1.methodNamed? x = some theMethod := by decide +kernel
set_option maxRecDepth 65536 in
theorem w_hears : about1.hears theMethod below0 = true := by decide +kernel
set_option maxRecDepth 65536 in
theorem w_ripe : about1.ripe theMethod args0 below0 = true := by decide +kernel
theorem w_running : about1.status = .running := rfl
set_option maxRecDepth 65536 in
theorem w_room : about1.hasRoom e0.platform room_1 = true :=
  launch0.hasRoom_least _ room_1 (by decide +kernel) (by decide +kernel) (by decide +kernel) (by decide +kernel) (by decide +kernel) (by decide +kernel)
theorem allAtoms_all (ts : List Jvm.Cond) (a : Array Jvm.Value) (st : Jvm.State) : (allAtoms ts).before a st = ts.all (fun c => c.before a st) := by
  induction ts with
  | nil => rfl
  | cons c t ih =>
    show (Jvm.Cond.and c (allAtoms t)).before a st = _
    rw [Jvm.Cond.before_and, ih, List.all_cons]
def words1 : List Jvm.Cond := Jvm.Cond.code x code maxLocals ret :: tables_1
/-- a 'code' word, met by the world's own term for the bytes: nothing is compared byte by byte -/
theorem code_word {y : MethodName} {bytes : ByteArray} {mx : Nat} {rt : Option FieldType} {a : Array Value} {s : State} {m : MethodId} {meth : Method} {c : Code} (h1 : s.methodNamed? y = some m) (h2 : s.vm.method? m = some meth) (h3 : meth.code = some c) (h4 : c.code = bytes)
    (h5 : (c.maxLocals == mx && c.exceptionTable.isEmpty && decide (c.maxStack ≤ mostOperands) && decide (meth.sig.returnType = rt) && !meth.locks && decide (parseMethodDescriptor y.desc = some meth.sig)) = true) : (Jvm.Cond.code y bytes mx rt).before a s = true := by
  simp only [Bool.and_eq_true, beq_iff_eq, Bool.not_eq_true', decide_eq_true_eq] at h5
  obtain ⟨⟨⟨⟨⟨g1, g2⟩, g3⟩, g4⟩, g5⟩, g6⟩ := h5
  simp [Cond.before, Cond.holds, Cond.value, h1, h2, h3, h4, g1, g2, g3, g4, g5, g6]
def isCode : Jvm.Cond → Bool
  | .code _ _ _ _ => true
  | _ => false
theorem all_split {L : List Jvm.Cond} {P : Jvm.Cond → Bool} (h1 : L.all (fun c => isCode c || P c) = true) (h2 : ∀ c ∈ L.filter isCode, P c = true) : L.all P = true := by
  refine List.all_eq_true.mpr fun c hc => ?_
  have h := List.all_eq_true.mp h1 c hc
  rcases Bool.eq_false_or_eq_true (isCode c) with hi | hi
  · exact h2 c (List.mem_filter.mpr ⟨hc, hi⟩)
  · simpa [hi] using h
set_option maxRecDepth 65536 in
theorem w_c0 : (Jvm.Cond.code x code maxLocals ret).before args0 about1 = true := code_word (m := ⟨1, 1⟩) (meth := k1m1) (c := k1c1) (by decide +kernel) rfl rfl rfl (by decide +kernel)
set_option maxRecDepth 65536 in
theorem w_c1 : (Jvm.Cond.code ({ cls := "com/example/orderly_outbox/orderlyoutbox/relay/Batch$Timing", name := "<init>", desc := "(JJ)V" } : Jvm.MethodName) prog_12_method_1_code (5 : Nat) (Option.none : Option Jvm.ClassFile.FieldType)).before args0 about1 = true := code_word (m := ⟨3, 0⟩) (meth := k3m0) (c := k3c0) (by decide +kernel) rfl rfl rfl (by decide +kernel)
set_option maxRecDepth 65536 in
theorem w_c2 : (Jvm.Cond.code ({ cls := "java/lang/Record", name := "<init>", desc := "()V" } : Jvm.MethodName) jdk_30_method_1_code (1 : Nat) (Option.none : Option Jvm.ClassFile.FieldType)).before args0 about1 = true := code_word (m := ⟨2, 0⟩) (meth := k2m0) (c := k2c0) (by decide +kernel) rfl rfl rfl (by decide +kernel)
set_option maxRecDepth 65536 in
theorem w_c3 : (Jvm.Cond.code ({ cls := "java/lang/Object", name := "<init>", desc := "()V" } : Jvm.MethodName) object_method_1_code (1 : Nat) (Option.none : Option Jvm.ClassFile.FieldType)).before args0 about1 = true := code_word (m := ⟨0, 0⟩) (meth := k0m0) (c := k0c0) (by decide +kernel) rfl rfl rfl (by decide +kernel)
set_option maxRecDepth 65536 in
theorem w_c4 : (Jvm.Cond.code ({ cls := "com/example/orderly_outbox/orderlyoutbox/relay/Batch$Timing", name := "took", desc := "()Ljava/time/Duration;" } : Jvm.MethodName) prog_12_method_3_code (1 : Nat) (Option.some (Jvm.ClassFile.FieldType.object "java/time/Duration"))).before args0 about1 = true := code_word (m := ⟨3, 1⟩) (meth := k3m1) (c := k3c1) (by decide +kernel) rfl rfl rfl (by decide +kernel)
set_option maxRecDepth 65536 in
theorem w_c5 : (Jvm.Cond.code ({ cls := "java/time/Duration", name := "ofNanos", desc := "(J)Ljava/time/Duration;" } : Jvm.MethodName) jdk_2316_method_7_code (5 : Nat) (Option.some (Jvm.ClassFile.FieldType.object "java/time/Duration"))).before args0 about1 = true := code_word (m := ⟨7, 0⟩) (meth := k7m0) (c := k7c0) (by decide +kernel) rfl rfl rfl (by decide +kernel)
set_option maxRecDepth 65536 in
theorem w_c6 : (Jvm.Cond.code ({ cls := "java/time/Duration", name := "create", desc := "(JI)Ljava/time/Duration;" } : Jvm.MethodName) jdk_2316_method_16_code (3 : Nat) (Option.some (Jvm.ClassFile.FieldType.object "java/time/Duration"))).before args0 about1 = true := code_word (m := ⟨7, 1⟩) (meth := k7m1) (c := k7c1) (by decide +kernel) rfl rfl rfl (by decide +kernel)
set_option maxRecDepth 65536 in
theorem w_c7 : (Jvm.Cond.code ({ cls := "java/time/Duration", name := "getSeconds", desc := "()J" } : Jvm.MethodName) jdk_2316_method_23_code (1 : Nat) (Option.some Jvm.ClassFile.FieldType.long)).before args0 about1 = true := code_word (m := ⟨7, 3⟩) (meth := k7m3) (c := k7c3) (by decide +kernel) rfl rfl rfl (by decide +kernel)
set_option maxRecDepth 65536 in
theorem w_c8 : (Jvm.Cond.code ({ cls := "java/time/Duration", name := "getNano", desc := "()I" } : Jvm.MethodName) jdk_2316_method_24_code (1 : Nat) (Option.some Jvm.ClassFile.FieldType.int)).before args0 about1 = true := code_word (m := ⟨7, 4⟩) (meth := k7m4) (c := k7c4) (by decide +kernel) rfl rfl rfl (by decide +kernel)
set_option maxRecDepth 65536 in
theorem w_c9 : (Jvm.Cond.code ({ cls := "java/time/Duration", name := "<init>", desc := "(JI)V" } : Jvm.MethodName) jdk_2316_method_17_code (4 : Nat) (Option.none : Option Jvm.ClassFile.FieldType)).before args0 about1 = true := code_word (m := ⟨7, 2⟩) (meth := k7m2) (c := k7c2) (by decide +kernel) rfl rfl rfl (by decide +kernel)
def codes1 : List Jvm.Cond := [Jvm.Cond.code x code maxLocals ret, Jvm.Cond.code ({ cls := "com/example/orderly_outbox/orderlyoutbox/relay/Batch$Timing", name := "<init>", desc := "(JJ)V" } : Jvm.MethodName) prog_12_method_1_code (5 : Nat) (Option.none : Option Jvm.ClassFile.FieldType), Jvm.Cond.code ({ cls := "java/lang/Record", name := "<init>", desc := "()V" } : Jvm.MethodName) jdk_30_method_1_code (1 : Nat) (Option.none : Option Jvm.ClassFile.FieldType), Jvm.Cond.code ({ cls := "java/lang/Object", name := "<init>", desc := "()V" } : Jvm.MethodName) object_method_1_code (1 : Nat) (Option.none : Option Jvm.ClassFile.FieldType), Jvm.Cond.code ({ cls := "com/example/orderly_outbox/orderlyoutbox/relay/Batch$Timing", name := "took", desc := "()Ljava/time/Duration;" } : Jvm.MethodName) prog_12_method_3_code (1 : Nat) (Option.some (Jvm.ClassFile.FieldType.object "java/time/Duration")), Jvm.Cond.code ({ cls := "java/time/Duration", name := "ofNanos", desc := "(J)Ljava/time/Duration;" } : Jvm.MethodName) jdk_2316_method_7_code (5 : Nat) (Option.some (Jvm.ClassFile.FieldType.object "java/time/Duration")), Jvm.Cond.code ({ cls := "java/time/Duration", name := "create", desc := "(JI)Ljava/time/Duration;" } : Jvm.MethodName) jdk_2316_method_16_code (3 : Nat) (Option.some (Jvm.ClassFile.FieldType.object "java/time/Duration")), Jvm.Cond.code ({ cls := "java/time/Duration", name := "getSeconds", desc := "()J" } : Jvm.MethodName) jdk_2316_method_23_code (1 : Nat) (Option.some Jvm.ClassFile.FieldType.long), Jvm.Cond.code ({ cls := "java/time/Duration", name := "getNano", desc := "()I" } : Jvm.MethodName) jdk_2316_method_24_code (1 : Nat) (Option.some Jvm.ClassFile.FieldType.int), Jvm.Cond.code ({ cls := "java/time/Duration", name := "<init>", desc := "(JI)V" } : Jvm.MethodName) jdk_2316_method_17_code (4 : Nat) (Option.none : Option Jvm.ClassFile.FieldType)]
set_option maxRecDepth 65536 in
theorem codes_eq : words1.filter isCode = codes1 := rfl
theorem w_codes : ∀ c ∈ words1.filter isCode, c.before args0 about1 = true := by
  rw [codes_eq]
  intro c hc
  simp only [codes1, List.mem_cons, List.not_mem_nil, or_false] at hc
  rcases hc with rfl | rfl | rfl | rfl | rfl | rfl | rfl | rfl | rfl | rfl
  · exact w_c0
  · exact w_c1
  · exact w_c2
  · exact w_c3
  · exact w_c4
  · exact w_c5
  · exact w_c6
  · exact w_c7
  · exact w_c8
  · exact w_c9
set_option maxRecDepth 65536 in
theorem w_t1 : (words1.take 24).all (fun c => isCode c || c.before args0 about1) = true := by decide +kernel
set_option maxRecDepth 65536 in
theorem w_t2 : ((words1.drop 24).take 24).all (fun c => isCode c || c.before args0 about1) = true := by decide +kernel
set_option maxRecDepth 65536 in
theorem w_t3 : ((words1.drop 24).drop 24).all (fun c => isCode c || c.before args0 about1) = true := by decide +kernel
theorem w_tables : (allAtoms (Jvm.Cond.code x code maxLocals ret :: tables_1)).before args0 about1 = true := by
  rw [allAtoms_all]
  show words1.all (fun c => c.before args0 about1) = true
  refine all_split ?_ w_codes
  rw [← List.take_append_drop 24 words1, List.all_append, w_t1, ← List.take_append_drop 24 (words1.drop 24), List.all_append, w_t2, w_t3]
  rfl
set_option maxRecDepth 65536 in
theorem w_rest : rest_1_c.before args0 about1 = true := by decide +kernel
set_option maxRecDepth 65536 in
theorem w_case : (Jvm.Cond.and given_1 narrow_1).before args0 about1 = true := by decide +kernel
theorem w_applies : (headSpec (Jvm.Cond.code x code maxLocals ret :: tables_1) room_1).applies x e0.platform about1 = true :=
  (Spec.applies_iff w_frames).mpr ⟨w_running, w_runnable, w_alone, w_named, w_hears, w_ripe, w_room, w_tables⟩
theorem atStart : AtStart classFile x code maxLocals ret World_1 tables_1 room_1 Calls_1 rest_1 Pre_1 launch0 p0 e0 about1 theMethod args0 below0 :=
  ⟨lists_1, trivial, launch0.admits_env _ _ _, launch0.least_env, fairChoices_fair.cas, fairChoices_fair.clock, w_frames, w_args, w_heap, w_applies, trivial, w_rest, w_case⟩
end start1
theorem witness_1 : WitnessClaimed_1 := ⟨start1.p0, start1.e0, start1.about1, start1.theMethod, start1.args0, start1.below0, start1.atStart⟩
end Jvm.Pilot.@@N@@
