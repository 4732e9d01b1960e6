import JvmDerived
import JvmDerived.Pilot.@@N@@Statement
import JvmDerived.Pilot.@@N@@Code
set_option linter.unusedVariables false
set_option linter.unusedSimpArgs false
namespace Jvm.RoadKit
open Sem ClassFile Op Lib Jvm.Stand Jvm.Free Jvm.LawKit
section Own
variable {p : Program} {l : Launch} {e : Env} {R : Room} {s : State} {m : MethodId} {args : Array Value} {below : List Frame} {meth : Method} {c : Code} {T A B : State} {locs : List Loc} {cells slots K N : Nat} {P : State → Outcome → Prop} {Q : Option Value → Heap → List Loc → Prop}
/-- the run that stands at A comes to an end of which P holds -/
def Go (p : Program) (e : Env) (below : List Frame) (P : State → Outcome → Prop) (A : State) : Prop := ∃ s₂ o, Steps p.tables e below A s₂ ∧ s₂.status = .running ∧ Ended s₂ below o ∧ P s₂ o
def PostW (s : State) (K N : Nat) (Q : Option Value → Heap → List Loc → Prop) : State → Outcome → Prop := fun s₂ o => ∃ v L, o = .returned v ∧ Q v s₂.heap L ∧ FrameEnd s o s₂ L K N
theorem Go.by (h : ∀ t, Steps p.tables e below B t → Steps p.tables e below A t) (k : Go p e below P B) : Go p e below P A := by
  obtain ⟨s₂, o, h1, h2⟩ := k
  exact ⟨s₂, o, h _ h1, h2⟩
theorem Go.to (h : Steps p.tables e below A B) (k : Go p e below P B) : Go p e below P A := Go.by (fun _ q => h.trans q) k
theorem Go.cast {g g' : JFrame} (q : g = g') (k : Go p e below P (T.setTop g')) : Go p e below P (T.setTop g) := q ▸ k
theorem Go.ret (X : Stand p l e R s m args below meth c T locs cells slots) (hx : p.tables.exec = Jvm.exec) (hlk : meth.locks = false) {pc : Nat} {Ls : Array Slot} {w : Value} {t : FieldType} {i : Instr} {rest : List Value} (hret : meth.sig.returnType = some t) (hn : narrow t w = w)
    (hi : (i = .ireturn ∧ (t = .int ∨ t = .boolean ∨ t = .byte ∨ t = .char ∨ t = .short) ∧ ∃ z, w = .int z) ∨ (i = .lreturn ∧ t = .long ∧ ∃ z, w = .long z) ∨ (i = .dreturn ∧ t = .double ∧ ∃ z, w = .double z) ∨ (i = .freturn ∧ t = .float ∧ ∃ z, w = .float z) ∨ (i = .areturn ∧ t.isReference = true ∧ w.isRef = true))
    (hd : decode c.code pc = .ok (i, 1)) (hc : cells ≤ K) (hs : slots ≤ N) (hQ : Q (some w) T.heap locs) : Go p e below (PostW s K N Q) (T.setTop (mkF m pc Ls (w :: rest))) := by
  obtain ⟨fs, hr, hrun, hended, hW, hsame⟩ := X.leave (v := some w) (fun h => by rw [hret] at h; cases h) hlk
  exact ⟨_, _, retOut X hx hret hn hi hd hr, hrun, hended, _, _, rfl, hQ, ⟨_, rfl⟩, hW, hsame.mono hc hs⟩
theorem Go.retZ (X : Stand p l e R s m args below meth c T locs cells slots) (hx : p.tables.exec = Jvm.exec) (hlk : meth.locks = false) {pc : Nat} {Ls : Array Slot} {z : Int32} {t : FieldType} {rest : List Value} (hret : meth.sig.returnType = some t) (ht : t = .boolean ∨ t = .byte ∨ t = .char ∨ t = .short)
    (hd : decode c.code pc = .ok (.ireturn, 1)) (hc : cells ≤ K) (hs : slots ≤ N) (hQ : Q (some (.int (nar t z))) T.heap locs) : Go p e below (PostW s K N Q) (T.setTop (mkF m pc Ls (.int z :: rest))) := by
  obtain ⟨fs, hr, hrun, hended, hW, hsame⟩ := X.leave (v := some (.int (nar t z))) (fun h => by rw [hret] at h; cases h) hlk
  exact ⟨_, _, retN X hx hret ht hd hr, hrun, hended, _, _, rfl, hQ, ⟨_, rfl⟩, hW, hsame.mono hc hs⟩
theorem own_cat {w : Value} (h : w.isRef = true) : w.category = 1 := by cases w <;> first | rfl | (simp [Value.isRef] at h)
theorem own_narR {w : Value} {t : FieldType} (h : w.isRef = true) (ht : t.isReference = true) : narrow t w = w := by cases t <;> first | (cases ht; done) | (cases w <;> first | rfl | (simp [Value.isRef] at h))
theorem own_fitR {w : Value} {t : FieldType} (h : w.isRef = true) (ht : t.isReference = true) : fits t w = true := by cases t <;> first | (cases ht; done) | (cases w <;> first | rfl | (simp [Value.isRef] at h))
theorem Go.retV (X : Stand p l e R s m args below meth c T locs cells slots) (hx : p.tables.exec = Jvm.exec) (hlk : meth.locks = false) {pc : Nat} {Ls : Array Slot} (hret : meth.sig.returnType = none)
    (hd : decode c.code pc = .ok (.return_, 1)) (hc : cells ≤ K) (hs : slots ≤ N) (hQ : Q none T.heap locs) : Go p e below (PostW s K N Q) (T.setTop (mkF m pc Ls [])) := by
  obtain ⟨fs, hr, hrun, hended, hW, hsame⟩ := X.leave (v := none) (fun _ => rfl) hlk
  exact ⟨_, _, X.returnOut hx hret hd hr, hrun, hended, _, _, rfl, hQ, ⟨_, rfl⟩, hW, hsame.mono hc hs⟩
theorem wd {L : List Cond} {a0 : Array Value} {Z : State} (hw : ∀ d ∈ L, d.before a0 Z = true) (i : Nat) {d : Cond} (h : L[i]? = some d) : d.before a0 Z = true := hw d (List.mem_of_getElem? h)
/-- a callee's contract, as the walks here say it -/
abbrev Met (l : Launch) (Z : State) (y : MethodName) (bytes : ByteArray) (maxL : Nat) (ret : Option FieldType) (ws : List Cond) (rm : Room) (as' : Array Value) (h0 : Heap) (Q : Option Value → Heap → List Loc → Prop) : Prop :=
  MetFree l y (head1 (Cond.code y bytes maxL ret :: ws) rm) (fun a U => a = as' ∧ Z.Warmed39 U.vm ∧ U.heap = h0) (fun _ _ _ _ _ => True) (fun _ U o U' => ∃ v L, o = .returned v ∧ Q v U'.heap L ∧ FrameEnd U o U' L rm.cells rm.slots)
theorem Met.enter {Z : State} {y : MethodName} {bytes : ByteArray} {maxL : Nat} {ret : Option FieldType} {ws : List Cond} {rm : Room} {as' : Array Value} {h0 : Heap} {f0 : MethodId → JFrame} (hpl : plainFor y = true) (hf0 : ∀ m, entryFrame m as' maxL = f0 m)
    (body : ∀ (p : Program) (e : Env) (s : State) (m : MethodId) (below : List Frame) (meth : Method) (c : Code) (s₁ : State), p.tables.exec = Jvm.exec → c.code = bytes → c.maxLocals = maxL → s.vm.findClass y.cls = some m.cls → meth.name = y.name → meth.sig.returnType = ret → meth.locks = false → Z.Warmed39 s.vm → Stand p l e rm s m as' below meth c s₁ [] 0 0 → s₁.heap = h0 → Go p e below (PostW s rm.cells rm.slots Q) (s₁.setTop (f0 m))) : Met l Z y bytes maxL ret ws rm as' h0 Q := by
  refine MetFree.of_bodySF hpl hisR ?_
  intro p e s m args below meth c s₁ Bd hml0 hP hK
  obtain ⟨rfl, hZ, hh⟩ := hP
  have q := body p e s m below meth c s₁ Bd.exec Bd.bytes hml0 (findClass_of_methodNamed Bd.named) (name_of_methodNamed Bd.named Bd.method).1 Bd.returns Bd.notSynchronized hZ (Stand.of_body Bd) (by rw [← hh, Bd.state]; rfl)
  rw [← hf0] at q
  exact q
end Own
end Jvm.RoadKit
namespace Jvm.Pilot.@@N@@
open Jvm Jvm.ClassFile Sem Op Lib Jvm.Free Jvm.Stand Jvm.LawKit Jvm.RoadKit Bundle Jvm.Pilot.@@N@@.Jvm.D
theorem own_eqk {args : Array Value} {first s : State} {o : Option Outcome} {idx : List Nat} {t : Term} {k : Int32} (h : (Jvm.Cond.eq t (Term.int k)).value args first o s idx = some true) : t.eval args first o idx s = some (.int k) := by
  obtain ⟨x, y, ex, ey, -, k2⟩ := cmp_v (Or.inl h)
  have e2 : y = .int k := Option.some.inj (ey.symm.trans (Term.int_eval k))
  subst e2
  obtain ⟨z, rfl⟩ := k2
  have := gotT (Cond.eq_ints ex (Term.int_eval k)) h
  rw [ex, this]

theorem ef_rm_a (m : MethodId) (x0 : Addr) (x1 : Int32) : entryFrame m #[(.ref x0), (.int x1)] 2 = mkF m 0 #[.val (.ref x0), .val (.int x1)] [] := by first | (simp [entryFrame, mkF, argsToLocals, Value.category]; done) | rfl
theorem d1_0 : decode prog_9_method_6_code 0 = .ok (.iload_n 1, 1) := by decide +kernel
theorem d1_1 : decode prog_9_method_6_code 1 = .ok (.bipush 46, 2) := by decide +kernel
theorem d1_3 : decode prog_9_method_6_code 3 = .ok (.if_icmp .eq 11, 3) := by decide +kernel
theorem d1_14 : decode prog_9_method_6_code 14 = .ok (.iconst 1, 1) := by decide +kernel
theorem d1_15 : decode prog_9_method_6_code 15 = .ok (.goto 4, 3) := by decide +kernel
theorem d1_19 : decode prog_9_method_6_code 19 = .ok (.ireturn, 1) := by decide +kernel
theorem pn_com_example_floatroom_floatroom_CsvDialect : plainName "com/example/floatroom/floatroom/CsvDialect" = true := by first | (simp [plainName, overriddenIn]; done) | decide +kernel
def Q_rm_a (Z : State) (a1 : Addr) (p2 : Int32) (w : Int32) (h0 : Heap) (n0 : Nat) (v : Option Value) (h : Heap) (L : List Loc) : Prop := v = some (.int 1) ∧ Fr n0 L ∧ h = h0
set_option maxRecDepth 65536 in
set_option maxHeartbeats 40000000 in
theorem rm_a (l : Launch) (Z : State) (a0 : Array Value) (hw : ∀ d ∈ tables_1, d.before a0 Z = true) (ws : List Jvm.Cond) (a1 : Addr) (p2 : Int32) (w : Int32) (h0 : Heap) (n0 : Nat) (Z0 : n0 ≤ h0.size) (pr0 : Fld Z h0 a1 "com/example/floatroom/floatroom/CsvDialect" "_decimalSeparator" "B" (.int w)) (q0 : p2 = (46 : Int32)) :
    Met l Z (⟨"com/example/floatroom/floatroom/CsvDialect", "readsAsDecimalSeparator", "(B)Z"⟩ : MethodName) prog_9_method_6_code 2 (some .boolean) ws ({ frames := 0, cells := 0, slots := 0, locals := 0 } : Room) #[(.ref a1), (.int p2)] h0 (Q_rm_a Z a1 p2 w h0 n0) := by
  refine Met.enter (f0 := fun m => mkF m 0 #[.val (.ref a1), .val (.int p2)] []) (plainFor_of_name pn_com_example_floatroom_floatroom_CsvDialect) (fun m => ef_rm_a m a1 p2) ?_
  intro p e s m below meth c s₁ hx hby hml hown hnm hret hlk hZ X0 e0
  have hown : s.vm.findClass "com/example/floatroom/floatroom/CsvDialect" = some m.cls := hown
  have hnm : meth.name = "readsAsDecimalSeparator" := hnm
  have hml : c.maxLocals = 2 := hml
  have hby : c.code = prog_9_method_6_code := hby
  have N0 := Fr.nil n0
  refine Go.by (B := (s₁.setTop (mkF m 19 #[.val (.ref a1), .val (.int p2)] [(.int 1)]))) (fun _ k => XS.iloadN X0.here hx rfl (hb hby d1_0) rfl (XS.bipush X0.here hx rfl (hb hby d1_1) (XS.icmpYes X0.here hx rfl (pc0 := 3) (pc' := 14) rfl (hb hby d1_3) rfl (teq q0).1 (by decide) (by decide) (XS.iconst X0.here hx rfl (hb hby d1_14) (XS.goto X0.here hx rfl (pc0 := 15) (pc' := 19) rfl (hb hby d1_15) (by decide) (by decide) k))))) ?_
  refine Go.ret X0 hx hlk (t := .boolean) hret rfl (Or.inl ⟨rfl, by simp, _, rfl⟩) (hb hby d1_19) (by decide) (by decide) ?_
  rw [e0]
  exact ⟨rfl, N0, rfl⟩
theorem ef_rm_b (m : MethodId) (x0 : Addr) (x1 : Int32) : entryFrame m #[(.ref x0), (.int x1)] 2 = mkF m 0 #[.val (.ref x0), .val (.int x1)] [] := by first | (simp [entryFrame, mkF, argsToLocals, Value.category]; done) | rfl
theorem d1_6 : decode prog_9_method_6_code 6 = .ok (.iload_n 1, 1) := by decide +kernel
theorem d1_7 : decode prog_9_method_6_code 7 = .ok (.aload_n 0, 1) := by decide +kernel
theorem d1_8 : decode prog_9_method_6_code 8 = .ok (.getfield 33, 3) := by decide +kernel
theorem d1_11 : decode prog_9_method_6_code 11 = .ok (.if_icmp .ne 7, 3) := by decide +kernel
def Q_rm_b (Z : State) (a1 : Addr) (p2 : Int32) (w : Int32) (h0 : Heap) (n0 : Nat) (v : Option Value) (h : Heap) (L : List Loc) : Prop := v = some (.int 1) ∧ Fr n0 L ∧ h = h0
set_option maxRecDepth 65536 in
set_option maxHeartbeats 40000000 in
theorem rm_b (l : Launch) (Z : State) (a0 : Array Value) (hw : ∀ d ∈ tables_1, d.before a0 Z = true) (ws : List Jvm.Cond) (a1 : Addr) (p2 : Int32) (w : Int32) (h0 : Heap) (n0 : Nat) (Z0 : n0 ≤ h0.size) (pr0 : Fld Z h0 a1 "com/example/floatroom/floatroom/CsvDialect" "_decimalSeparator" "B" (.int w)) (q0 : ¬ (p2 = (46 : Int32))) (q1 : p2 = w) :
    Met l Z (⟨"com/example/floatroom/floatroom/CsvDialect", "readsAsDecimalSeparator", "(B)Z"⟩ : MethodName) prog_9_method_6_code 2 (some .boolean) ws ({ frames := 0, cells := 0, slots := 0, locals := 0 } : Room) #[(.ref a1), (.int p2)] h0 (Q_rm_b Z a1 p2 w h0 n0) := by
  refine Met.enter (f0 := fun m => mkF m 0 #[.val (.ref a1), .val (.int p2)] []) (plainFor_of_name pn_com_example_floatroom_floatroom_CsvDialect) (fun m => ef_rm_b m a1 p2) ?_
  intro p e s m below meth c s₁ hx hby hml hown hnm hret hlk hZ X0 e0
  have hown : s.vm.findClass "com/example/floatroom/floatroom/CsvDialect" = some m.cls := hown
  have hnm : meth.name = "readsAsDecimalSeparator" := hnm
  have hml : c.maxLocals = 2 := hml
  have hby : c.code = prog_9_method_6_code := hby
  have N0 := Fr.nil n0
  refine Go.by (B := (s₁.setTop (mkF m 8 #[.val (.ref a1), .val (.int p2)] [(.ref a1), (.int p2)]))) (fun _ k => XS.iloadN X0.here hx rfl (hb hby d1_0) rfl (XS.bipush X0.here hx rfl (hb hby d1_1) (XS.icmpNo X0.here hx rfl (hb hby d1_3) rfl (feq q0).1 (XS.iloadN X0.here hx rfl (hb hby d1_6) rfl (XS.aloadN X0.here hx rfl (hb hby d1_7) rfl rfl k))))) ?_
  obtain ⟨T1, X1, e1, st1⟩ := getF X0 hx hZ hown (host := "") (Or.inl (wd hw 8 rfl)) Via.refl e0 pr0 (g := (mkF m 8 #[.val (.ref a1), .val (.int p2)] [(.ref a1), (.int p2)])) rfl rfl (hb hby d1_8)
  refine Go.by (B := (T1.setTop (mkF m 11 #[.val (.ref a1), .val (.int p2)] [(.int w), (.int p2)]))) st1 ?_
  refine Go.by (B := (T1.setTop (mkF m 19 #[.val (.ref a1), .val (.int p2)] [(.int 1)]))) (fun _ k => XS.icmpNo X1.here hx rfl (hb hby d1_11) rfl (teq q1).2 (XS.iconst X1.here hx rfl (hb hby d1_14) (XS.goto X1.here hx rfl (pc0 := 15) (pc' := 19) rfl (hb hby d1_15) (by decide) (by decide) k))) ?_
  refine Go.ret X1 hx hlk (t := .boolean) hret rfl (Or.inl ⟨rfl, by simp, _, rfl⟩) (hb hby d1_19) (by decide) (by decide) ?_
  rw [e1]
  exact ⟨rfl, N0, rfl⟩
theorem ef_rm_c (m : MethodId) (x0 : Addr) (x1 : Int32) : entryFrame m #[(.ref x0), (.int x1)] 2 = mkF m 0 #[.val (.ref x0), .val (.int x1)] [] := by first | (simp [entryFrame, mkF, argsToLocals, Value.category]; done) | rfl
theorem d1_18 : decode prog_9_method_6_code 18 = .ok (.iconst 0, 1) := by decide +kernel
def Q_rm_c (Z : State) (a1 : Addr) (p2 : Int32) (w : Int32) (h0 : Heap) (n0 : Nat) (v : Option Value) (h : Heap) (L : List Loc) : Prop := v = some (.int 0) ∧ Fr n0 L ∧ h = h0
set_option maxRecDepth 65536 in
set_option maxHeartbeats 40000000 in
theorem rm_c (l : Launch) (Z : State) (a0 : Array Value) (hw : ∀ d ∈ tables_1, d.before a0 Z = true) (ws : List Jvm.Cond) (a1 : Addr) (p2 : Int32) (w : Int32) (h0 : Heap) (n0 : Nat) (Z0 : n0 ≤ h0.size) (pr0 : Fld Z h0 a1 "com/example/floatroom/floatroom/CsvDialect" "_decimalSeparator" "B" (.int w)) (q0 : ¬ (p2 = (46 : Int32))) (q1 : ¬ (p2 = w)) :
    Met l Z (⟨"com/example/floatroom/floatroom/CsvDialect", "readsAsDecimalSeparator", "(B)Z"⟩ : MethodName) prog_9_method_6_code 2 (some .boolean) ws ({ frames := 0, cells := 0, slots := 0, locals := 0 } : Room) #[(.ref a1), (.int p2)] h0 (Q_rm_c Z a1 p2 w h0 n0) := by
  refine Met.enter (f0 := fun m => mkF m 0 #[.val (.ref a1), .val (.int p2)] []) (plainFor_of_name pn_com_example_floatroom_floatroom_CsvDialect) (fun m => ef_rm_c m a1 p2) ?_
  intro p e s m below meth c s₁ hx hby hml hown hnm hret hlk hZ X0 e0
  have hown : s.vm.findClass "com/example/floatroom/floatroom/CsvDialect" = some m.cls := hown
  have hnm : meth.name = "readsAsDecimalSeparator" := hnm
  have hml : c.maxLocals = 2 := hml
  have hby : c.code = prog_9_method_6_code := hby
  have N0 := Fr.nil n0
  refine Go.by (B := (s₁.setTop (mkF m 8 #[.val (.ref a1), .val (.int p2)] [(.ref a1), (.int p2)]))) (fun _ k => XS.iloadN X0.here hx rfl (hb hby d1_0) rfl (XS.bipush X0.here hx rfl (hb hby d1_1) (XS.icmpNo X0.here hx rfl (hb hby d1_3) rfl (feq q0).1 (XS.iloadN X0.here hx rfl (hb hby d1_6) rfl (XS.aloadN X0.here hx rfl (hb hby d1_7) rfl rfl k))))) ?_
  obtain ⟨T2, X2, e2, st2⟩ := getF X0 hx hZ hown (host := "") (Or.inl (wd hw 8 rfl)) Via.refl e0 pr0 (g := (mkF m 8 #[.val (.ref a1), .val (.int p2)] [(.ref a1), (.int p2)])) rfl rfl (hb hby d1_8)
  refine Go.by (B := (T2.setTop (mkF m 11 #[.val (.ref a1), .val (.int p2)] [(.int w), (.int p2)]))) st2 ?_
  refine Go.by (B := (T2.setTop (mkF m 19 #[.val (.ref a1), .val (.int p2)] [(.int 0)]))) (fun _ k => XS.icmpYes X2.here hx rfl (pc0 := 11) (pc' := 18) rfl (hb hby d1_11) rfl (feq q1).2 (by decide) (by decide) (XS.iconst X2.here hx rfl (hb hby d1_18) k)) ?_
  refine Go.ret X2 hx hlk (t := .boolean) hret rfl (Or.inl ⟨rfl, by simp, _, rfl⟩) (hb hby d1_19) (by decide) (by decide) ?_
  rw [e2]
  exact ⟨rfl, N0, rfl⟩
theorem ef_rm0 (m : MethodId) (x0 : Int32) (x1 : Int32) : entryFrame m #[(.int x0), (.int x1)] maxLocals = mkF m 0 #[.val (.int x0), .val (.int x1), .unset, .unset, .unset, .unset, .unset] [] := by first | (simp [entryFrame, mkF, argsToLocals, Value.category, maxLocals]; done) | rfl
theorem pd_0 : parseMethodDescriptor "(B)Z" = some ⟨[.byte], some .boolean⟩ := by decide +kernel
theorem pn_com_example_floatroom_floatroom_CsvDialectReadsAsDecimalSeparatorPinLaw : plainName "com/example/floatroom/floatroom/CsvDialectReadsAsDecimalSeparatorPinLaw" = true := by first | (simp [plainName, overriddenIn]; done) | decide +kernel
def Q_rm0 (Z : State) (p1 : Int32) (p2 : Int32) (w2 : Addr) (w3 : Addr) (h0 : Heap) (n0 : Nat) (v : Option Value) (h : Heap) (L : List Loc) : Prop := v = some (.int 1) ∧ Fr n0 L
set_option maxRecDepth 65536 in
set_option maxHeartbeats 40000000 in
theorem rm0 (l : Launch) (Z : State) (a0 : Array Value) (hw : ∀ d ∈ tables_1, d.before a0 Z = true) (ws : List Jvm.Cond) (p1 : Int32) (p2 : Int32) (w2 : Addr) (w3 : Addr) (h0 : Heap) (n0 : Nat) (Z0 : n0 ≤ h0.size) (pr0 : Old Z n0 h0) (pr1 : Sta Z Z.heap "com/example/floatroom/floatroom/CsvDialect" "DECIMAL_COMMA" "Lcom/example/floatroom/floatroom/CsvDialect;" (.ref w2)) (pr2 : Sta Z Z.heap "com/example/floatroom/floatroom/CsvDialect" "DECIMAL_POINT" "Lcom/example/floatroom/floatroom/CsvDialect;" (.ref w3)) (pr3 : Exa Z Z.heap w2 "com/example/floatroom/floatroom/CsvDialect") (pr4 : Exa Z Z.heap w3 "com/example/floatroom/floatroom/CsvDialect") (pr5 : Fld Z Z.heap w2 "com/example/floatroom/floatroom/CsvDialect" "_decimalSeparator" "B" (.int 44)) (pr6 : Fld Z Z.heap w3 "com/example/floatroom/floatroom/CsvDialect" "_decimalSeparator" "B" (.int 46)) :
    Met l Z x code maxLocals ret ws room_1 #[(.int p1), (.int p2)] h0 (Q_rm0 Z p1 p2 w2 w3 h0 n0) := by
  refine Met.enter (f0 := fun m => mkF m 0 #[.val (.int p1), .val (.int p2), .unset, .unset, .unset, .unset, .unset] []) (plainFor_of_name pn_com_example_floatroom_floatroom_CsvDialectReadsAsDecimalSeparatorPinLaw) (fun m => ef_rm0 m p1 p2) ?_
  intro p e s m below meth c s₁ hx hby hml hown hnm hret hlk hZ X0 e0
  have hown : s.vm.findClass "com/example/floatroom/floatroom/CsvDialectReadsAsDecimalSeparatorPinLaw" = some m.cls := hown
  have hnm : meth.name = "law" := hnm
  have hml : c.maxLocals = 7 := hml
  have hby : c.code = code := hby
  have N0 := Fr.nil n0
  refine Go.by (B := (s₁.setTop (mkF m 3 #[.val (.int p1), .val (.int p2), .unset, .unset, .unset, .unset, .unset] [(.int (p2 &&& (1 : Int32)))]))) (fun _ k => XS.iloadN X0.here hx rfl (hb hby at_0) rfl (XS.iconst X0.here hx rfl (hb hby at_1) (XS.iand X0.here hx rfl (hb hby at_2) rfl k))) ?_
  by_cases c3 : (p2 &&& (1 : Int32)) = (0 : Int32)
  · skip
    refine Go.by (B := (s₁.setTop (mkF m 22 #[.val (.int p1), .val (.int p2), .val (.int 0), .unset, .unset, .unset, .unset] []))) (fun _ k => XS.ifYes X0.here hx rfl (pc0 := 3) (pc' := 10) rfl (hb hby at_3) rfl ((if0 _ _).trans (teq c3).1) (by decide) (by decide) (XS.iconst X0.here hx rfl (hb hby at_10) (XS.istoreN X0.here hx rfl (hb hby at_11) rfl (l' := #[.val (.int p1), .val (.int p2), .val (.int 0), .unset, .unset, .unset, .unset]) rfl (XS.iloadN X0.here hx rfl (hb hby at_12) rfl (XS.ifYes X0.here hx rfl (pc0 := 13) (pc' := 22) rfl (hb hby at_13) rfl ((if0 _ _).trans (teq (by decide : (0 : Int32) = (0 : Int32))).1) (by decide) (by decide) k))))) ?_
    obtain ⟨T4, X4, e4, st4⟩ := getS2 X0 hx hZ hown (host := "") (Or.inl (wd hw 10 rfl)) Via.refl e0 (pr2.ext pr0.2) (g := (mkF m 22 #[.val (.int p1), .val (.int p2), .val (.int 0), .unset, .unset, .unset, .unset] [])) rfl (hb hby at_22)
    refine Go.by (B := (T4.setTop (mkF m 25 #[.val (.int p1), .val (.int p2), .val (.int 0), .unset, .unset, .unset, .unset] [(.ref w3)]))) st4 ?_
    refine Go.by (B := (T4.setTop (mkF m 31 #[.val (.int p1), .val (.int p2), .val (.int 0), .val (.ref w3), .unset, .unset, .unset] [(.int (((p2.toUInt32 >>> ((1 : Int32) &&& 31).toUInt32).toInt32) &&& (3 : Int32)))]))) (fun _ k => XS.astoreN X4.here hx rfl (hb hby at_25) rfl rfl (l' := #[.val (.int p1), .val (.int p2), .val (.int 0), .val (.ref w3), .unset, .unset, .unset]) rfl (XS.iloadN X4.here hx rfl (hb hby at_26) rfl (XS.iconst X4.here hx rfl (hb hby at_27) (XS.iushr X4.here hx rfl (hb hby at_28) rfl (XS.iconst X4.here hx rfl (hb hby at_29) (XS.iand X4.here hx rfl (hb hby at_30) rfl k)))))) ?_
    obtain ⟨v5, hv5⟩ : ∃ v, v = (((p2.toUInt32 >>> ((1 : Int32) &&& 31).toUInt32).toInt32) &&& (3 : Int32)) := ⟨_, rfl⟩
    refine Go.by (B := (T4.setTop (mkF m 35 #[.val (.int p1), .val (.int p2), .val (.int 0), .val (.ref w3), .val (.int v5), .unset, .unset] [(.int v5)]))) (fun _ k => XS.istore (x := v5) (rest := []) X4.here hx rfl (hb hby at_31) (by rw [hv5]) (l' := #[.val (.int p1), .val (.int p2), .val (.int 0), .val (.ref w3), .val (.int v5), .unset, .unset]) rfl (XS.iload X4.here hx rfl (hb hby at_33) rfl k)) ?_
    by_cases c6 : v5 = (0 : Int32)
    · skip
      refine Go.by (B := (T4.setTop (mkF m 83 #[.val (.int p1), .val (.int p2), .val (.int 0), .val (.ref w3), .val (.int v5), .val (.int 46), .unset] [(.int 1)]))) (fun _ k => XS.ifNo X4.here hx rfl (hb hby at_35) rfl ((if0 _ _).trans (teq c6).2) (XS.bipush X4.here hx rfl (hb hby at_38) (XS.istore X4.here hx rfl (hb hby at_40) rfl (l' := #[.val (.int p1), .val (.int p2), .val (.int 0), .val (.ref w3), .val (.int v5), .val (.int 46), .unset]) rfl (XS.goto X4.here hx rfl (pc0 := 42) (pc' := 75) rfl (hb hby at_42) (by decide) (by decide) (XS.iload X4.here hx rfl (hb hby at_75) rfl (XS.bipush X4.here hx rfl (hb hby at_77) (XS.icmpNo X4.here hx rfl (hb hby at_79) rfl (teq (by decide : (46 : Int32) = (46 : Int32))).2 (XS.iconst X4.here hx rfl (hb hby at_82) k)))))))) ?_
      refine Go.by (B := (T4.setTop (mkF m 107 #[.val (.int p1), .val (.int p2), .val (.int 0), .val (.ref w3), .val (.int v5), .val (.int 46), .val (.int 1)] [(.int 46), (.ref w3)]))) (fun _ k => XS.istore X4.here hx rfl (hb hby at_83) rfl (l' := #[.val (.int p1), .val (.int p2), .val (.int 0), .val (.ref w3), .val (.int v5), .val (.int 46), .val (.int 1)]) rfl (XS.goto X4.here hx rfl (pc0 := 85) (pc' := 104) rfl (hb hby at_85) (by decide) (by decide) (XS.aloadN X4.here hx rfl (hb hby at_104) rfl rfl (XS.iload X4.here hx rfl (hb hby at_105) rfl k)))) ?_
      obtain ⟨cq7, kq7, q7a, q7b, q7c⟩ := isOf hZ e4 (pr4.ext pr0.2)
      obtain ⟨_, _, ⟨T7, L7, k7, n7⟩, -, X7, ⟨Lc7, hQ7, l7, y7, z7⟩, st7⟩ := X4.virtualBack hx (y := (⟨"com/example/floatroom/floatroom/CsvDialect", "readsAsDecimalSeparator", "(B)Z"⟩ : MethodName)) (z := (⟨"com/example/floatroom/floatroom/CsvDialect", "readsAsDecimalSeparator", "(B)Z"⟩ : MethodName)) hown (mvT hZ (wd hw 3 rfl)) (mvT hZ (wd hw 4 rfl)) (notFace_of_selects (args := #[]) (mvT hZ (wd hw 6 rfl))) (mvT hZ (wd hw 6 rfl)) (mvT hZ (wd hw 5 rfl)) (by decide) (backOf (W := 0) (rm_a l Z a0 hw [] w3 (46 : Int32) (46 : Int32) h0 n0 Z0 (pr6.ext pr0.2) (by decide)) hZ (wd hw 7 rfl) (wd hw 1 rfl) (by decide) (by decide)) q7a q7c (g := (mkF m 107 #[.val (.int p1), .val (.int p2), .val (.int 0), .val (.ref w3), .val (.int v5), .val (.int 46), .val (.int 1)] [(.int 46), (.ref w3)])) rfl (by rw [hml]; rfl) (Steps.refl _) (argsL := [(.int 46)]) (rest := []) (lenOf pd_0 rfl) rfl (by show 2 * 0 + _ ≤ _; exact Nat.le_of_eq rfl) (hb hby at_107) (fun _ _ => ⟨rfl, e4, Nat.le_of_ble_eq_true rfl, Nat.le_of_ble_eq_true rfl⟩)
      dsimp only [Pt.U, Pt.locs, Pt.cells, Pt.slots] at X7 l7 y7 z7 st7 hQ7
      subst l7 y7 z7
      obtain ⟨rfl, Nq7, hh7⟩ := hQ7
      have N7 := Fr.app N0 Nq7
      refine Go.by (B := (T7.setTop (mkF m 110 #[.val (.int p1), .val (.int p2), .val (.int 0), .val (.ref w3), .val (.int v5), .val (.int 46), .val (.int 1)] [(.int 1)]))) (fun _ k => st7.trans k) ?_
      refine Go.by (B := (T7.setTop (mkF m 120 #[.val (.int p1), .val (.int p2), .val (.int 0), .val (.ref w3), .val (.int v5), .val (.int 46), .val (.int 1)] [(.int 1)]))) (fun _ k => XS.iload X7.here hx rfl (hb hby at_110) rfl (XS.icmpNo X7.here hx rfl (hb hby at_112) rfl (teq (by decide : (1 : Int32) = (1 : Int32))).2 (XS.iconst X7.here hx rfl (hb hby at_115) (XS.goto X7.here hx rfl (pc0 := 116) (pc' := 120) rfl (hb hby at_116) (by decide) (by decide) k)))) ?_
      refine Go.ret X7 hx hlk (t := .boolean) hret rfl (Or.inl ⟨rfl, by simp, _, rfl⟩) (hb hby at_120) (by decide) (by decide) ?_
      exact ⟨rfl, N7⟩
    · skip
      refine Go.by (B := (T4.setTop (mkF m 48 #[.val (.int p1), .val (.int p2), .val (.int 0), .val (.ref w3), .val (.int v5), .unset, .unset] [(.int 1), (.int v5)]))) (fun _ k => XS.ifYes X4.here hx rfl (pc0 := 35) (pc' := 45) rfl (hb hby at_35) rfl ((if0 _ _).trans (feq c6).2) (by decide) (by decide) (XS.iload X4.here hx rfl (hb hby at_45) rfl (XS.iconst X4.here hx rfl (hb hby at_47) k))) ?_
      by_cases c8 : v5 = (1 : Int32)
      · skip
        refine Go.by (B := (T4.setTop (mkF m 90 #[.val (.int p1), .val (.int p2), .val (.int 0), .val (.ref w3), .val (.int v5), .val (.int 44), .unset] [(.int 44)]))) (fun _ k => XS.icmpNo X4.here hx rfl (hb hby at_48) rfl (teq c8).2 (XS.bipush X4.here hx rfl (hb hby at_51) (XS.istore X4.here hx rfl (hb hby at_53) rfl (l' := #[.val (.int p1), .val (.int p2), .val (.int 0), .val (.ref w3), .val (.int v5), .val (.int 44), .unset]) rfl (XS.goto X4.here hx rfl (pc0 := 55) (pc' := 75) rfl (hb hby at_55) (by decide) (by decide) (XS.iload X4.here hx rfl (hb hby at_75) rfl (XS.bipush X4.here hx rfl (hb hby at_77) (XS.icmpYes X4.here hx rfl (pc0 := 79) (pc' := 88) rfl (hb hby at_79) rfl (feq (by decide : ¬ ((44 : Int32) = (46 : Int32)))).2 (by decide) (by decide) (XS.iload X4.here hx rfl (hb hby at_88) rfl k)))))))) ?_
        refine Go.by (B := (T4.setTop (mkF m 107 #[.val (.int p1), .val (.int p2), .val (.int 0), .val (.ref w3), .val (.int v5), .val (.int 44), .val (.int 0)] [(.int 44), (.ref w3)]))) (fun _ k => XS.bipush X4.here hx rfl (hb hby at_90) (XS.icmpNo X4.here hx rfl (hb hby at_92) rfl (teq (by decide : (44 : Int32) = (44 : Int32))).2 (XS.iloadN X4.here hx rfl (hb hby at_95) rfl (XS.istore X4.here hx rfl (hb hby at_96) rfl (l' := #[.val (.int p1), .val (.int p2), .val (.int 0), .val (.ref w3), .val (.int v5), .val (.int 44), .val (.int 0)]) rfl (XS.goto X4.here hx rfl (pc0 := 98) (pc' := 104) rfl (hb hby at_98) (by decide) (by decide) (XS.aloadN X4.here hx rfl (hb hby at_104) rfl rfl (XS.iload X4.here hx rfl (hb hby at_105) rfl k))))))) ?_
        obtain ⟨cq9, kq9, q9a, q9b, q9c⟩ := isOf hZ e4 (pr4.ext pr0.2)
        obtain ⟨_, _, ⟨T9, L9, k9, n9⟩, -, X9, ⟨Lc9, hQ9, l9, y9, z9⟩, st9⟩ := X4.virtualBack hx (y := (⟨"com/example/floatroom/floatroom/CsvDialect", "readsAsDecimalSeparator", "(B)Z"⟩ : MethodName)) (z := (⟨"com/example/floatroom/floatroom/CsvDialect", "readsAsDecimalSeparator", "(B)Z"⟩ : MethodName)) hown (mvT hZ (wd hw 3 rfl)) (mvT hZ (wd hw 4 rfl)) (notFace_of_selects (args := #[]) (mvT hZ (wd hw 6 rfl))) (mvT hZ (wd hw 6 rfl)) (mvT hZ (wd hw 5 rfl)) (by decide) (backOf (W := 0) (rm_c l Z a0 hw [] w3 (44 : Int32) (46 : Int32) h0 n0 Z0 (pr6.ext pr0.2) (by decide) (by decide)) hZ (wd hw 7 rfl) (wd hw 1 rfl) (by decide) (by decide)) q9a q9c (g := (mkF m 107 #[.val (.int p1), .val (.int p2), .val (.int 0), .val (.ref w3), .val (.int v5), .val (.int 44), .val (.int 0)] [(.int 44), (.ref w3)])) rfl (by rw [hml]; rfl) (Steps.refl _) (argsL := [(.int 44)]) (rest := []) (lenOf pd_0 rfl) rfl (by show 2 * 0 + _ ≤ _; exact Nat.le_of_eq rfl) (hb hby at_107) (fun _ _ => ⟨rfl, e4, Nat.le_of_ble_eq_true rfl, Nat.le_of_ble_eq_true rfl⟩)
        dsimp only [Pt.U, Pt.locs, Pt.cells, Pt.slots] at X9 l9 y9 z9 st9 hQ9
        subst l9 y9 z9
        obtain ⟨rfl, Nq9, hh9⟩ := hQ9
        have N9 := Fr.app N0 Nq9
        refine Go.by (B := (T9.setTop (mkF m 110 #[.val (.int p1), .val (.int p2), .val (.int 0), .val (.ref w3), .val (.int v5), .val (.int 44), .val (.int 0)] [(.int 0)]))) (fun _ k => st9.trans k) ?_
        refine Go.by (B := (T9.setTop (mkF m 120 #[.val (.int p1), .val (.int p2), .val (.int 0), .val (.ref w3), .val (.int v5), .val (.int 44), .val (.int 0)] [(.int 1)]))) (fun _ k => XS.iload X9.here hx rfl (hb hby at_110) rfl (XS.icmpNo X9.here hx rfl (hb hby at_112) rfl (teq (by decide : (0 : Int32) = (0 : Int32))).2 (XS.iconst X9.here hx rfl (hb hby at_115) (XS.goto X9.here hx rfl (pc0 := 116) (pc' := 120) rfl (hb hby at_116) (by decide) (by decide) k)))) ?_
        refine Go.ret X9 hx hlk (t := .boolean) hret rfl (Or.inl ⟨rfl, by simp, _, rfl⟩) (hb hby at_120) (by decide) (by decide) ?_
        exact ⟨rfl, N9⟩
      · skip
        refine Go.by (B := (T4.setTop (mkF m 61 #[.val (.int p1), .val (.int p2), .val (.int 0), .val (.ref w3), .val (.int v5), .unset, .unset] [(.int 2), (.int v5)]))) (fun _ k => XS.icmpYes X4.here hx rfl (pc0 := 48) (pc' := 58) rfl (hb hby at_48) rfl (feq c8).2 (by decide) (by decide) (XS.iload X4.here hx rfl (hb hby at_58) rfl (XS.iconst X4.here hx rfl (hb hby at_60) k))) ?_
        by_cases c10 : v5 = (2 : Int32)
        · skip
          refine Go.by (B := (T4.setTop (mkF m 90 #[.val (.int p1), .val (.int p2), .val (.int 0), .val (.ref w3), .val (.int v5), .val (.int 59), .unset] [(.int 59)]))) (fun _ k => XS.icmpNo X4.here hx rfl (hb hby at_61) rfl (teq c10).2 (XS.bipush X4.here hx rfl (hb hby at_64) (XS.istore X4.here hx rfl (hb hby at_66) rfl (l' := #[.val (.int p1), .val (.int p2), .val (.int 0), .val (.ref w3), .val (.int v5), .val (.int 59), .unset]) rfl (XS.goto X4.here hx rfl (pc0 := 68) (pc' := 75) rfl (hb hby at_68) (by decide) (by decide) (XS.iload X4.here hx rfl (hb hby at_75) rfl (XS.bipush X4.here hx rfl (hb hby at_77) (XS.icmpYes X4.here hx rfl (pc0 := 79) (pc' := 88) rfl (hb hby at_79) rfl (feq (by decide : ¬ ((59 : Int32) = (46 : Int32)))).2 (by decide) (by decide) (XS.iload X4.here hx rfl (hb hby at_88) rfl k)))))))) ?_
          refine Go.by (B := (T4.setTop (mkF m 107 #[.val (.int p1), .val (.int p2), .val (.int 0), .val (.ref w3), .val (.int v5), .val (.int 59), .val (.int 0)] [(.int 59), (.ref w3)]))) (fun _ k => XS.bipush X4.here hx rfl (hb hby at_90) (XS.icmpYes X4.here hx rfl (pc0 := 92) (pc' := 101) rfl (hb hby at_92) rfl (feq (by decide : ¬ ((59 : Int32) = (44 : Int32)))).2 (by decide) (by decide) (XS.iconst X4.here hx rfl (hb hby at_101) (XS.istore X4.here hx rfl (hb hby at_102) rfl (l' := #[.val (.int p1), .val (.int p2), .val (.int 0), .val (.ref w3), .val (.int v5), .val (.int 59), .val (.int 0)]) rfl (XS.aloadN X4.here hx rfl (hb hby at_104) rfl rfl (XS.iload X4.here hx rfl (hb hby at_105) rfl k)))))) ?_
          obtain ⟨cq11, kq11, q11a, q11b, q11c⟩ := isOf hZ e4 (pr4.ext pr0.2)
          obtain ⟨_, _, ⟨T11, L11, k11, n11⟩, -, X11, ⟨Lc11, hQ11, l11, y11, z11⟩, st11⟩ := X4.virtualBack hx (y := (⟨"com/example/floatroom/floatroom/CsvDialect", "readsAsDecimalSeparator", "(B)Z"⟩ : MethodName)) (z := (⟨"com/example/floatroom/floatroom/CsvDialect", "readsAsDecimalSeparator", "(B)Z"⟩ : MethodName)) hown (mvT hZ (wd hw 3 rfl)) (mvT hZ (wd hw 4 rfl)) (notFace_of_selects (args := #[]) (mvT hZ (wd hw 6 rfl))) (mvT hZ (wd hw 6 rfl)) (mvT hZ (wd hw 5 rfl)) (by decide) (backOf (W := 0) (rm_c l Z a0 hw [] w3 (59 : Int32) (46 : Int32) h0 n0 Z0 (pr6.ext pr0.2) (by decide) (by decide)) hZ (wd hw 7 rfl) (wd hw 1 rfl) (by decide) (by decide)) q11a q11c (g := (mkF m 107 #[.val (.int p1), .val (.int p2), .val (.int 0), .val (.ref w3), .val (.int v5), .val (.int 59), .val (.int 0)] [(.int 59), (.ref w3)])) rfl (by rw [hml]; rfl) (Steps.refl _) (argsL := [(.int 59)]) (rest := []) (lenOf pd_0 rfl) rfl (by show 2 * 0 + _ ≤ _; exact Nat.le_of_eq rfl) (hb hby at_107) (fun _ _ => ⟨rfl, e4, Nat.le_of_ble_eq_true rfl, Nat.le_of_ble_eq_true rfl⟩)
          dsimp only [Pt.U, Pt.locs, Pt.cells, Pt.slots] at X11 l11 y11 z11 st11 hQ11
          subst l11 y11 z11
          obtain ⟨rfl, Nq11, hh11⟩ := hQ11
          have N11 := Fr.app N0 Nq11
          refine Go.by (B := (T11.setTop (mkF m 110 #[.val (.int p1), .val (.int p2), .val (.int 0), .val (.ref w3), .val (.int v5), .val (.int 59), .val (.int 0)] [(.int 0)]))) (fun _ k => st11.trans k) ?_
          refine Go.by (B := (T11.setTop (mkF m 120 #[.val (.int p1), .val (.int p2), .val (.int 0), .val (.ref w3), .val (.int v5), .val (.int 59), .val (.int 0)] [(.int 1)]))) (fun _ k => XS.iload X11.here hx rfl (hb hby at_110) rfl (XS.icmpNo X11.here hx rfl (hb hby at_112) rfl (teq (by decide : (0 : Int32) = (0 : Int32))).2 (XS.iconst X11.here hx rfl (hb hby at_115) (XS.goto X11.here hx rfl (pc0 := 116) (pc' := 120) rfl (hb hby at_116) (by decide) (by decide) k)))) ?_
          refine Go.ret X11 hx hlk (t := .boolean) hret rfl (Or.inl ⟨rfl, by simp, _, rfl⟩) (hb hby at_120) (by decide) (by decide) ?_
          exact ⟨rfl, N11⟩
        · skip
          refine Go.by (B := (T4.setTop (mkF m 73 #[.val (.int p1), .val (.int p2), .val (.int 0), .val (.ref w3), .val (.int v5), .unset, .unset] [(.int (p1.toInt8.toInt32))]))) (fun _ k => XS.icmpYes X4.here hx rfl (pc0 := 61) (pc' := 71) rfl (hb hby at_61) rfl (feq c10).2 (by decide) (by decide) (XS.iloadN X4.here hx rfl (hb hby at_71) rfl (XS.i2b X4.here hx rfl (hb hby at_72) rfl k))) ?_
          obtain ⟨v12, hv12⟩ : ∃ v, v = (p1.toInt8.toInt32) := ⟨_, rfl⟩
          refine Go.by (B := (T4.setTop (mkF m 79 #[.val (.int p1), .val (.int p2), .val (.int 0), .val (.ref w3), .val (.int v5), .val (.int v12), .unset] [(.int 46), (.int v12)]))) (fun _ k => XS.istore (x := v12) (rest := []) X4.here hx rfl (hb hby at_73) (by rw [hv12]) (l' := #[.val (.int p1), .val (.int p2), .val (.int 0), .val (.ref w3), .val (.int v5), .val (.int v12), .unset]) rfl (XS.iload X4.here hx rfl (hb hby at_75) rfl (XS.bipush X4.here hx rfl (hb hby at_77) k))) ?_
          by_cases c13 : v12 = (46 : Int32)
          · skip
            refine Go.by (B := (T4.setTop (mkF m 107 #[.val (.int p1), .val (.int p2), .val (.int 0), .val (.ref w3), .val (.int v5), .val (.int v12), .val (.int 1)] [(.int v12), (.ref w3)]))) (fun _ k => XS.icmpNo X4.here hx rfl (hb hby at_79) rfl (teq c13).2 (XS.iconst X4.here hx rfl (hb hby at_82) (XS.istore X4.here hx rfl (hb hby at_83) rfl (l' := #[.val (.int p1), .val (.int p2), .val (.int 0), .val (.ref w3), .val (.int v5), .val (.int v12), .val (.int 1)]) rfl (XS.goto X4.here hx rfl (pc0 := 85) (pc' := 104) rfl (hb hby at_85) (by decide) (by decide) (XS.aloadN X4.here hx rfl (hb hby at_104) rfl rfl (XS.iload X4.here hx rfl (hb hby at_105) rfl k)))))) ?_
            obtain ⟨cq14, kq14, q14a, q14b, q14c⟩ := isOf hZ e4 (pr4.ext pr0.2)
            obtain ⟨_, _, ⟨T14, L14, k14, n14⟩, -, X14, ⟨Lc14, hQ14, l14, y14, z14⟩, st14⟩ := X4.virtualBack hx (y := (⟨"com/example/floatroom/floatroom/CsvDialect", "readsAsDecimalSeparator", "(B)Z"⟩ : MethodName)) (z := (⟨"com/example/floatroom/floatroom/CsvDialect", "readsAsDecimalSeparator", "(B)Z"⟩ : MethodName)) hown (mvT hZ (wd hw 3 rfl)) (mvT hZ (wd hw 4 rfl)) (notFace_of_selects (args := #[]) (mvT hZ (wd hw 6 rfl))) (mvT hZ (wd hw 6 rfl)) (mvT hZ (wd hw 5 rfl)) (by decide) (backOf (W := 0) (rm_a l Z a0 hw [] w3 v12 (46 : Int32) h0 n0 Z0 (pr6.ext pr0.2) c13) hZ (wd hw 7 rfl) (wd hw 1 rfl) (by decide) (by decide)) q14a q14c (g := (mkF m 107 #[.val (.int p1), .val (.int p2), .val (.int 0), .val (.ref w3), .val (.int v5), .val (.int v12), .val (.int 1)] [(.int v12), (.ref w3)])) rfl (by rw [hml]; rfl) (Steps.refl _) (argsL := [(.int v12)]) (rest := []) (lenOf pd_0 rfl) rfl (by show 2 * 0 + _ ≤ _; exact Nat.le_of_eq rfl) (hb hby at_107) (fun _ _ => ⟨rfl, e4, Nat.le_of_ble_eq_true rfl, Nat.le_of_ble_eq_true rfl⟩)
            dsimp only [Pt.U, Pt.locs, Pt.cells, Pt.slots] at X14 l14 y14 z14 st14 hQ14
            subst l14 y14 z14
            obtain ⟨rfl, Nq14, hh14⟩ := hQ14
            have N14 := Fr.app N0 Nq14
            refine Go.by (B := (T14.setTop (mkF m 110 #[.val (.int p1), .val (.int p2), .val (.int 0), .val (.ref w3), .val (.int v5), .val (.int v12), .val (.int 1)] [(.int 1)]))) (fun _ k => st14.trans k) ?_
            refine Go.by (B := (T14.setTop (mkF m 120 #[.val (.int p1), .val (.int p2), .val (.int 0), .val (.ref w3), .val (.int v5), .val (.int v12), .val (.int 1)] [(.int 1)]))) (fun _ k => XS.iload X14.here hx rfl (hb hby at_110) rfl (XS.icmpNo X14.here hx rfl (hb hby at_112) rfl (teq (by decide : (1 : Int32) = (1 : Int32))).2 (XS.iconst X14.here hx rfl (hb hby at_115) (XS.goto X14.here hx rfl (pc0 := 116) (pc' := 120) rfl (hb hby at_116) (by decide) (by decide) k)))) ?_
            refine Go.ret X14 hx hlk (t := .boolean) hret rfl (Or.inl ⟨rfl, by simp, _, rfl⟩) (hb hby at_120) (by decide) (by decide) ?_
            exact ⟨rfl, N14⟩
          · skip
            refine Go.by (B := (T4.setTop (mkF m 92 #[.val (.int p1), .val (.int p2), .val (.int 0), .val (.ref w3), .val (.int v5), .val (.int v12), .unset] [(.int 44), (.int v12)]))) (fun _ k => XS.icmpYes X4.here hx rfl (pc0 := 79) (pc' := 88) rfl (hb hby at_79) rfl (feq c13).2 (by decide) (by decide) (XS.iload X4.here hx rfl (hb hby at_88) rfl (XS.bipush X4.here hx rfl (hb hby at_90) k))) ?_
            by_cases c15 : v12 = (44 : Int32)
            · skip
              refine Go.by (B := (T4.setTop (mkF m 107 #[.val (.int p1), .val (.int p2), .val (.int 0), .val (.ref w3), .val (.int v5), .val (.int v12), .val (.int 0)] [(.int v12), (.ref w3)]))) (fun _ k => XS.icmpNo X4.here hx rfl (hb hby at_92) rfl (teq c15).2 (XS.iloadN X4.here hx rfl (hb hby at_95) rfl (XS.istore X4.here hx rfl (hb hby at_96) rfl (l' := #[.val (.int p1), .val (.int p2), .val (.int 0), .val (.ref w3), .val (.int v5), .val (.int v12), .val (.int 0)]) rfl (XS.goto X4.here hx rfl (pc0 := 98) (pc' := 104) rfl (hb hby at_98) (by decide) (by decide) (XS.aloadN X4.here hx rfl (hb hby at_104) rfl rfl (XS.iload X4.here hx rfl (hb hby at_105) rfl k)))))) ?_
              obtain ⟨cq16, kq16, q16a, q16b, q16c⟩ := isOf hZ e4 (pr4.ext pr0.2)
              obtain ⟨_, _, ⟨T16, L16, k16, n16⟩, -, X16, ⟨Lc16, hQ16, l16, y16, z16⟩, st16⟩ := X4.virtualBack hx (y := (⟨"com/example/floatroom/floatroom/CsvDialect", "readsAsDecimalSeparator", "(B)Z"⟩ : MethodName)) (z := (⟨"com/example/floatroom/floatroom/CsvDialect", "readsAsDecimalSeparator", "(B)Z"⟩ : MethodName)) hown (mvT hZ (wd hw 3 rfl)) (mvT hZ (wd hw 4 rfl)) (notFace_of_selects (args := #[]) (mvT hZ (wd hw 6 rfl))) (mvT hZ (wd hw 6 rfl)) (mvT hZ (wd hw 5 rfl)) (by decide) (backOf (W := 0) (rm_c l Z a0 hw [] w3 v12 (46 : Int32) h0 n0 Z0 (pr6.ext pr0.2) c13 c13) hZ (wd hw 7 rfl) (wd hw 1 rfl) (by decide) (by decide)) q16a q16c (g := (mkF m 107 #[.val (.int p1), .val (.int p2), .val (.int 0), .val (.ref w3), .val (.int v5), .val (.int v12), .val (.int 0)] [(.int v12), (.ref w3)])) rfl (by rw [hml]; rfl) (Steps.refl _) (argsL := [(.int v12)]) (rest := []) (lenOf pd_0 rfl) rfl (by show 2 * 0 + _ ≤ _; exact Nat.le_of_eq rfl) (hb hby at_107) (fun _ _ => ⟨rfl, e4, Nat.le_of_ble_eq_true rfl, Nat.le_of_ble_eq_true rfl⟩)
              dsimp only [Pt.U, Pt.locs, Pt.cells, Pt.slots] at X16 l16 y16 z16 st16 hQ16
              subst l16 y16 z16
              obtain ⟨rfl, Nq16, hh16⟩ := hQ16
              have N16 := Fr.app N0 Nq16
              refine Go.by (B := (T16.setTop (mkF m 110 #[.val (.int p1), .val (.int p2), .val (.int 0), .val (.ref w3), .val (.int v5), .val (.int v12), .val (.int 0)] [(.int 0)]))) (fun _ k => st16.trans k) ?_
              refine Go.by (B := (T16.setTop (mkF m 120 #[.val (.int p1), .val (.int p2), .val (.int 0), .val (.ref w3), .val (.int v5), .val (.int v12), .val (.int 0)] [(.int 1)]))) (fun _ k => XS.iload X16.here hx rfl (hb hby at_110) rfl (XS.icmpNo X16.here hx rfl (hb hby at_112) rfl (teq (by decide : (0 : Int32) = (0 : Int32))).2 (XS.iconst X16.here hx rfl (hb hby at_115) (XS.goto X16.here hx rfl (pc0 := 116) (pc' := 120) rfl (hb hby at_116) (by decide) (by decide) k)))) ?_
              refine Go.ret X16 hx hlk (t := .boolean) hret rfl (Or.inl ⟨rfl, by simp, _, rfl⟩) (hb hby at_120) (by decide) (by decide) ?_
              exact ⟨rfl, N16⟩
            · skip
              refine Go.by (B := (T4.setTop (mkF m 107 #[.val (.int p1), .val (.int p2), .val (.int 0), .val (.ref w3), .val (.int v5), .val (.int v12), .val (.int 0)] [(.int v12), (.ref w3)]))) (fun _ k => XS.icmpYes X4.here hx rfl (pc0 := 92) (pc' := 101) rfl (hb hby at_92) rfl (feq c15).2 (by decide) (by decide) (XS.iconst X4.here hx rfl (hb hby at_101) (XS.istore X4.here hx rfl (hb hby at_102) rfl (l' := #[.val (.int p1), .val (.int p2), .val (.int 0), .val (.ref w3), .val (.int v5), .val (.int v12), .val (.int 0)]) rfl (XS.aloadN X4.here hx rfl (hb hby at_104) rfl rfl (XS.iload X4.here hx rfl (hb hby at_105) rfl k))))) ?_
              obtain ⟨cq17, kq17, q17a, q17b, q17c⟩ := isOf hZ e4 (pr4.ext pr0.2)
              obtain ⟨_, _, ⟨T17, L17, k17, n17⟩, -, X17, ⟨Lc17, hQ17, l17, y17, z17⟩, st17⟩ := X4.virtualBack hx (y := (⟨"com/example/floatroom/floatroom/CsvDialect", "readsAsDecimalSeparator", "(B)Z"⟩ : MethodName)) (z := (⟨"com/example/floatroom/floatroom/CsvDialect", "readsAsDecimalSeparator", "(B)Z"⟩ : MethodName)) hown (mvT hZ (wd hw 3 rfl)) (mvT hZ (wd hw 4 rfl)) (notFace_of_selects (args := #[]) (mvT hZ (wd hw 6 rfl))) (mvT hZ (wd hw 6 rfl)) (mvT hZ (wd hw 5 rfl)) (by decide) (backOf (W := 0) (rm_c l Z a0 hw [] w3 v12 (46 : Int32) h0 n0 Z0 (pr6.ext pr0.2) c13 c13) hZ (wd hw 7 rfl) (wd hw 1 rfl) (by decide) (by decide)) q17a q17c (g := (mkF m 107 #[.val (.int p1), .val (.int p2), .val (.int 0), .val (.ref w3), .val (.int v5), .val (.int v12), .val (.int 0)] [(.int v12), (.ref w3)])) rfl (by rw [hml]; rfl) (Steps.refl _) (argsL := [(.int v12)]) (rest := []) (lenOf pd_0 rfl) rfl (by show 2 * 0 + _ ≤ _; exact Nat.le_of_eq rfl) (hb hby at_107) (fun _ _ => ⟨rfl, e4, Nat.le_of_ble_eq_true rfl, Nat.le_of_ble_eq_true rfl⟩)
              dsimp only [Pt.U, Pt.locs, Pt.cells, Pt.slots] at X17 l17 y17 z17 st17 hQ17
              subst l17 y17 z17
              obtain ⟨rfl, Nq17, hh17⟩ := hQ17
              have N17 := Fr.app N0 Nq17
              refine Go.by (B := (T17.setTop (mkF m 110 #[.val (.int p1), .val (.int p2), .val (.int 0), .val (.ref w3), .val (.int v5), .val (.int v12), .val (.int 0)] [(.int 0)]))) (fun _ k => st17.trans k) ?_
              refine Go.by (B := (T17.setTop (mkF m 120 #[.val (.int p1), .val (.int p2), .val (.int 0), .val (.ref w3), .val (.int v5), .val (.int v12), .val (.int 0)] [(.int 1)]))) (fun _ k => XS.iload X17.here hx rfl (hb hby at_110) rfl (XS.icmpNo X17.here hx rfl (hb hby at_112) rfl (teq (by decide : (0 : Int32) = (0 : Int32))).2 (XS.iconst X17.here hx rfl (hb hby at_115) (XS.goto X17.here hx rfl (pc0 := 116) (pc' := 120) rfl (hb hby at_116) (by decide) (by decide) k)))) ?_
              refine Go.ret X17 hx hlk (t := .boolean) hret rfl (Or.inl ⟨rfl, by simp, _, rfl⟩) (hb hby at_120) (by decide) (by decide) ?_
              exact ⟨rfl, N17⟩
  · skip
    refine Go.by (B := (s₁.setTop (mkF m 16 #[.val (.int p1), .val (.int p2), .val (.int 1), .unset, .unset, .unset, .unset] []))) (fun _ k => XS.ifNo X0.here hx rfl (hb hby at_3) rfl ((if0 _ _).trans (feq c3).1) (XS.iconst X0.here hx rfl (hb hby at_6) (XS.goto X0.here hx rfl (pc0 := 7) (pc' := 11) rfl (hb hby at_7) (by decide) (by decide) (XS.istoreN X0.here hx rfl (hb hby at_11) rfl (l' := #[.val (.int p1), .val (.int p2), .val (.int 1), .unset, .unset, .unset, .unset]) rfl (XS.iloadN X0.here hx rfl (hb hby at_12) rfl (XS.ifNo X0.here hx rfl (hb hby at_13) rfl ((if0 _ _).trans (feq (by decide : ¬ ((1 : Int32) = (0 : Int32)))).1) k)))))) ?_
    obtain ⟨T18, X18, e18, st18⟩ := getS2 X0 hx hZ hown (host := "") (Or.inl (wd hw 0 rfl)) Via.refl e0 (pr1.ext pr0.2) (g := (mkF m 16 #[.val (.int p1), .val (.int p2), .val (.int 1), .unset, .unset, .unset, .unset] [])) rfl (hb hby at_16)
    refine Go.by (B := (T18.setTop (mkF m 19 #[.val (.int p1), .val (.int p2), .val (.int 1), .unset, .unset, .unset, .unset] [(.ref w2)]))) st18 ?_
    refine Go.by (B := (T18.setTop (mkF m 31 #[.val (.int p1), .val (.int p2), .val (.int 1), .val (.ref w2), .unset, .unset, .unset] [(.int (((p2.toUInt32 >>> ((1 : Int32) &&& 31).toUInt32).toInt32) &&& (3 : Int32)))]))) (fun _ k => XS.goto X18.here hx rfl (pc0 := 19) (pc' := 25) rfl (hb hby at_19) (by decide) (by decide) (XS.astoreN X18.here hx rfl (hb hby at_25) rfl rfl (l' := #[.val (.int p1), .val (.int p2), .val (.int 1), .val (.ref w2), .unset, .unset, .unset]) rfl (XS.iloadN X18.here hx rfl (hb hby at_26) rfl (XS.iconst X18.here hx rfl (hb hby at_27) (XS.iushr X18.here hx rfl (hb hby at_28) rfl (XS.iconst X18.here hx rfl (hb hby at_29) (XS.iand X18.here hx rfl (hb hby at_30) rfl k))))))) ?_
    obtain ⟨v19, hv19⟩ : ∃ v, v = (((p2.toUInt32 >>> ((1 : Int32) &&& 31).toUInt32).toInt32) &&& (3 : Int32)) := ⟨_, rfl⟩
    refine Go.by (B := (T18.setTop (mkF m 35 #[.val (.int p1), .val (.int p2), .val (.int 1), .val (.ref w2), .val (.int v19), .unset, .unset] [(.int v19)]))) (fun _ k => XS.istore (x := v19) (rest := []) X18.here hx rfl (hb hby at_31) (by rw [hv19]) (l' := #[.val (.int p1), .val (.int p2), .val (.int 1), .val (.ref w2), .val (.int v19), .unset, .unset]) rfl (XS.iload X18.here hx rfl (hb hby at_33) rfl k)) ?_
    by_cases c20 : v19 = (0 : Int32)
    · skip
      refine Go.by (B := (T18.setTop (mkF m 83 #[.val (.int p1), .val (.int p2), .val (.int 1), .val (.ref w2), .val (.int v19), .val (.int 46), .unset] [(.int 1)]))) (fun _ k => XS.ifNo X18.here hx rfl (hb hby at_35) rfl ((if0 _ _).trans (teq c20).2) (XS.bipush X18.here hx rfl (hb hby at_38) (XS.istore X18.here hx rfl (hb hby at_40) rfl (l' := #[.val (.int p1), .val (.int p2), .val (.int 1), .val (.ref w2), .val (.int v19), .val (.int 46), .unset]) rfl (XS.goto X18.here hx rfl (pc0 := 42) (pc' := 75) rfl (hb hby at_42) (by decide) (by decide) (XS.iload X18.here hx rfl (hb hby at_75) rfl (XS.bipush X18.here hx rfl (hb hby at_77) (XS.icmpNo X18.here hx rfl (hb hby at_79) rfl (teq (by decide : (46 : Int32) = (46 : Int32))).2 (XS.iconst X18.here hx rfl (hb hby at_82) k)))))))) ?_
      refine Go.by (B := (T18.setTop (mkF m 107 #[.val (.int p1), .val (.int p2), .val (.int 1), .val (.ref w2), .val (.int v19), .val (.int 46), .val (.int 1)] [(.int 46), (.ref w2)]))) (fun _ k => XS.istore X18.here hx rfl (hb hby at_83) rfl (l' := #[.val (.int p1), .val (.int p2), .val (.int 1), .val (.ref w2), .val (.int v19), .val (.int 46), .val (.int 1)]) rfl (XS.goto X18.here hx rfl (pc0 := 85) (pc' := 104) rfl (hb hby at_85) (by decide) (by decide) (XS.aloadN X18.here hx rfl (hb hby at_104) rfl rfl (XS.iload X18.here hx rfl (hb hby at_105) rfl k)))) ?_
      obtain ⟨cq21, kq21, q21a, q21b, q21c⟩ := isOf hZ e18 (pr3.ext pr0.2)
      obtain ⟨_, _, ⟨T21, L21, k21, n21⟩, -, X21, ⟨Lc21, hQ21, l21, y21, z21⟩, st21⟩ := X18.virtualBack hx (y := (⟨"com/example/floatroom/floatroom/CsvDialect", "readsAsDecimalSeparator", "(B)Z"⟩ : MethodName)) (z := (⟨"com/example/floatroom/floatroom/CsvDialect", "readsAsDecimalSeparator", "(B)Z"⟩ : MethodName)) hown (mvT hZ (wd hw 3 rfl)) (mvT hZ (wd hw 4 rfl)) (notFace_of_selects (args := #[]) (mvT hZ (wd hw 6 rfl))) (mvT hZ (wd hw 6 rfl)) (mvT hZ (wd hw 5 rfl)) (by decide) (backOf (W := 0) (rm_a l Z a0 hw [] w2 (46 : Int32) (44 : Int32) h0 n0 Z0 (pr5.ext pr0.2) (by decide)) hZ (wd hw 7 rfl) (wd hw 1 rfl) (by decide) (by decide)) q21a q21c (g := (mkF m 107 #[.val (.int p1), .val (.int p2), .val (.int 1), .val (.ref w2), .val (.int v19), .val (.int 46), .val (.int 1)] [(.int 46), (.ref w2)])) rfl (by rw [hml]; rfl) (Steps.refl _) (argsL := [(.int 46)]) (rest := []) (lenOf pd_0 rfl) rfl (by show 2 * 0 + _ ≤ _; exact Nat.le_of_eq rfl) (hb hby at_107) (fun _ _ => ⟨rfl, e18, Nat.le_of_ble_eq_true rfl, Nat.le_of_ble_eq_true rfl⟩)
      dsimp only [Pt.U, Pt.locs, Pt.cells, Pt.slots] at X21 l21 y21 z21 st21 hQ21
      subst l21 y21 z21
      obtain ⟨rfl, Nq21, hh21⟩ := hQ21
      have N21 := Fr.app N0 Nq21
      refine Go.by (B := (T21.setTop (mkF m 110 #[.val (.int p1), .val (.int p2), .val (.int 1), .val (.ref w2), .val (.int v19), .val (.int 46), .val (.int 1)] [(.int 1)]))) (fun _ k => st21.trans k) ?_
      refine Go.by (B := (T21.setTop (mkF m 120 #[.val (.int p1), .val (.int p2), .val (.int 1), .val (.ref w2), .val (.int v19), .val (.int 46), .val (.int 1)] [(.int 1)]))) (fun _ k => XS.iload X21.here hx rfl (hb hby at_110) rfl (XS.icmpNo X21.here hx rfl (hb hby at_112) rfl (teq (by decide : (1 : Int32) = (1 : Int32))).2 (XS.iconst X21.here hx rfl (hb hby at_115) (XS.goto X21.here hx rfl (pc0 := 116) (pc' := 120) rfl (hb hby at_116) (by decide) (by decide) k)))) ?_
      refine Go.ret X21 hx hlk (t := .boolean) hret rfl (Or.inl ⟨rfl, by simp, _, rfl⟩) (hb hby at_120) (by decide) (by decide) ?_
      exact ⟨rfl, N21⟩
    · skip
      refine Go.by (B := (T18.setTop (mkF m 48 #[.val (.int p1), .val (.int p2), .val (.int 1), .val (.ref w2), .val (.int v19), .unset, .unset] [(.int 1), (.int v19)]))) (fun _ k => XS.ifYes X18.here hx rfl (pc0 := 35) (pc' := 45) rfl (hb hby at_35) rfl ((if0 _ _).trans (feq c20).2) (by decide) (by decide) (XS.iload X18.here hx rfl (hb hby at_45) rfl (XS.iconst X18.here hx rfl (hb hby at_47) k))) ?_
      by_cases c22 : v19 = (1 : Int32)
      · skip
        refine Go.by (B := (T18.setTop (mkF m 90 #[.val (.int p1), .val (.int p2), .val (.int 1), .val (.ref w2), .val (.int v19), .val (.int 44), .unset] [(.int 44)]))) (fun _ k => XS.icmpNo X18.here hx rfl (hb hby at_48) rfl (teq c22).2 (XS.bipush X18.here hx rfl (hb hby at_51) (XS.istore X18.here hx rfl (hb hby at_53) rfl (l' := #[.val (.int p1), .val (.int p2), .val (.int 1), .val (.ref w2), .val (.int v19), .val (.int 44), .unset]) rfl (XS.goto X18.here hx rfl (pc0 := 55) (pc' := 75) rfl (hb hby at_55) (by decide) (by decide) (XS.iload X18.here hx rfl (hb hby at_75) rfl (XS.bipush X18.here hx rfl (hb hby at_77) (XS.icmpYes X18.here hx rfl (pc0 := 79) (pc' := 88) rfl (hb hby at_79) rfl (feq (by decide : ¬ ((44 : Int32) = (46 : Int32)))).2 (by decide) (by decide) (XS.iload X18.here hx rfl (hb hby at_88) rfl k)))))))) ?_
        refine Go.by (B := (T18.setTop (mkF m 107 #[.val (.int p1), .val (.int p2), .val (.int 1), .val (.ref w2), .val (.int v19), .val (.int 44), .val (.int 1)] [(.int 44), (.ref w2)]))) (fun _ k => XS.bipush X18.here hx rfl (hb hby at_90) (XS.icmpNo X18.here hx rfl (hb hby at_92) rfl (teq (by decide : (44 : Int32) = (44 : Int32))).2 (XS.iloadN X18.here hx rfl (hb hby at_95) rfl (XS.istore X18.here hx rfl (hb hby at_96) rfl (l' := #[.val (.int p1), .val (.int p2), .val (.int 1), .val (.ref w2), .val (.int v19), .val (.int 44), .val (.int 1)]) rfl (XS.goto X18.here hx rfl (pc0 := 98) (pc' := 104) rfl (hb hby at_98) (by decide) (by decide) (XS.aloadN X18.here hx rfl (hb hby at_104) rfl rfl (XS.iload X18.here hx rfl (hb hby at_105) rfl k))))))) ?_
        obtain ⟨cq23, kq23, q23a, q23b, q23c⟩ := isOf hZ e18 (pr3.ext pr0.2)
        obtain ⟨_, _, ⟨T23, L23, k23, n23⟩, -, X23, ⟨Lc23, hQ23, l23, y23, z23⟩, st23⟩ := X18.virtualBack hx (y := (⟨"com/example/floatroom/floatroom/CsvDialect", "readsAsDecimalSeparator", "(B)Z"⟩ : MethodName)) (z := (⟨"com/example/floatroom/floatroom/CsvDialect", "readsAsDecimalSeparator", "(B)Z"⟩ : MethodName)) hown (mvT hZ (wd hw 3 rfl)) (mvT hZ (wd hw 4 rfl)) (notFace_of_selects (args := #[]) (mvT hZ (wd hw 6 rfl))) (mvT hZ (wd hw 6 rfl)) (mvT hZ (wd hw 5 rfl)) (by decide) (backOf (W := 0) (rm_b l Z a0 hw [] w2 (44 : Int32) (44 : Int32) h0 n0 Z0 (pr5.ext pr0.2) (by decide) (by decide)) hZ (wd hw 7 rfl) (wd hw 1 rfl) (by decide) (by decide)) q23a q23c (g := (mkF m 107 #[.val (.int p1), .val (.int p2), .val (.int 1), .val (.ref w2), .val (.int v19), .val (.int 44), .val (.int 1)] [(.int 44), (.ref w2)])) rfl (by rw [hml]; rfl) (Steps.refl _) (argsL := [(.int 44)]) (rest := []) (lenOf pd_0 rfl) rfl (by show 2 * 0 + _ ≤ _; exact Nat.le_of_eq rfl) (hb hby at_107) (fun _ _ => ⟨rfl, e18, Nat.le_of_ble_eq_true rfl, Nat.le_of_ble_eq_true rfl⟩)
        dsimp only [Pt.U, Pt.locs, Pt.cells, Pt.slots] at X23 l23 y23 z23 st23 hQ23
        subst l23 y23 z23
        obtain ⟨rfl, Nq23, hh23⟩ := hQ23
        have N23 := Fr.app N0 Nq23
        refine Go.by (B := (T23.setTop (mkF m 110 #[.val (.int p1), .val (.int p2), .val (.int 1), .val (.ref w2), .val (.int v19), .val (.int 44), .val (.int 1)] [(.int 1)]))) (fun _ k => st23.trans k) ?_
        refine Go.by (B := (T23.setTop (mkF m 120 #[.val (.int p1), .val (.int p2), .val (.int 1), .val (.ref w2), .val (.int v19), .val (.int 44), .val (.int 1)] [(.int 1)]))) (fun _ k => XS.iload X23.here hx rfl (hb hby at_110) rfl (XS.icmpNo X23.here hx rfl (hb hby at_112) rfl (teq (by decide : (1 : Int32) = (1 : Int32))).2 (XS.iconst X23.here hx rfl (hb hby at_115) (XS.goto X23.here hx rfl (pc0 := 116) (pc' := 120) rfl (hb hby at_116) (by decide) (by decide) k)))) ?_
        refine Go.ret X23 hx hlk (t := .boolean) hret rfl (Or.inl ⟨rfl, by simp, _, rfl⟩) (hb hby at_120) (by decide) (by decide) ?_
        exact ⟨rfl, N23⟩
      · skip
        refine Go.by (B := (T18.setTop (mkF m 61 #[.val (.int p1), .val (.int p2), .val (.int 1), .val (.ref w2), .val (.int v19), .unset, .unset] [(.int 2), (.int v19)]))) (fun _ k => XS.icmpYes X18.here hx rfl (pc0 := 48) (pc' := 58) rfl (hb hby at_48) rfl (feq c22).2 (by decide) (by decide) (XS.iload X18.here hx rfl (hb hby at_58) rfl (XS.iconst X18.here hx rfl (hb hby at_60) k))) ?_
        by_cases c24 : v19 = (2 : Int32)
        · skip
          refine Go.by (B := (T18.setTop (mkF m 90 #[.val (.int p1), .val (.int p2), .val (.int 1), .val (.ref w2), .val (.int v19), .val (.int 59), .unset] [(.int 59)]))) (fun _ k => XS.icmpNo X18.here hx rfl (hb hby at_61) rfl (teq c24).2 (XS.bipush X18.here hx rfl (hb hby at_64) (XS.istore X18.here hx rfl (hb hby at_66) rfl (l' := #[.val (.int p1), .val (.int p2), .val (.int 1), .val (.ref w2), .val (.int v19), .val (.int 59), .unset]) rfl (XS.goto X18.here hx rfl (pc0 := 68) (pc' := 75) rfl (hb hby at_68) (by decide) (by decide) (XS.iload X18.here hx rfl (hb hby at_75) rfl (XS.bipush X18.here hx rfl (hb hby at_77) (XS.icmpYes X18.here hx rfl (pc0 := 79) (pc' := 88) rfl (hb hby at_79) rfl (feq (by decide : ¬ ((59 : Int32) = (46 : Int32)))).2 (by decide) (by decide) (XS.iload X18.here hx rfl (hb hby at_88) rfl k)))))))) ?_
          refine Go.by (B := (T18.setTop (mkF m 107 #[.val (.int p1), .val (.int p2), .val (.int 1), .val (.ref w2), .val (.int v19), .val (.int 59), .val (.int 0)] [(.int 59), (.ref w2)]))) (fun _ k => XS.bipush X18.here hx rfl (hb hby at_90) (XS.icmpYes X18.here hx rfl (pc0 := 92) (pc' := 101) rfl (hb hby at_92) rfl (feq (by decide : ¬ ((59 : Int32) = (44 : Int32)))).2 (by decide) (by decide) (XS.iconst X18.here hx rfl (hb hby at_101) (XS.istore X18.here hx rfl (hb hby at_102) rfl (l' := #[.val (.int p1), .val (.int p2), .val (.int 1), .val (.ref w2), .val (.int v19), .val (.int 59), .val (.int 0)]) rfl (XS.aloadN X18.here hx rfl (hb hby at_104) rfl rfl (XS.iload X18.here hx rfl (hb hby at_105) rfl k)))))) ?_
          obtain ⟨cq25, kq25, q25a, q25b, q25c⟩ := isOf hZ e18 (pr3.ext pr0.2)
          obtain ⟨_, _, ⟨T25, L25, k25, n25⟩, -, X25, ⟨Lc25, hQ25, l25, y25, z25⟩, st25⟩ := X18.virtualBack hx (y := (⟨"com/example/floatroom/floatroom/CsvDialect", "readsAsDecimalSeparator", "(B)Z"⟩ : MethodName)) (z := (⟨"com/example/floatroom/floatroom/CsvDialect", "readsAsDecimalSeparator", "(B)Z"⟩ : MethodName)) hown (mvT hZ (wd hw 3 rfl)) (mvT hZ (wd hw 4 rfl)) (notFace_of_selects (args := #[]) (mvT hZ (wd hw 6 rfl))) (mvT hZ (wd hw 6 rfl)) (mvT hZ (wd hw 5 rfl)) (by decide) (backOf (W := 0) (rm_c l Z a0 hw [] w2 (59 : Int32) (44 : Int32) h0 n0 Z0 (pr5.ext pr0.2) (by decide) (by decide)) hZ (wd hw 7 rfl) (wd hw 1 rfl) (by decide) (by decide)) q25a q25c (g := (mkF m 107 #[.val (.int p1), .val (.int p2), .val (.int 1), .val (.ref w2), .val (.int v19), .val (.int 59), .val (.int 0)] [(.int 59), (.ref w2)])) rfl (by rw [hml]; rfl) (Steps.refl _) (argsL := [(.int 59)]) (rest := []) (lenOf pd_0 rfl) rfl (by show 2 * 0 + _ ≤ _; exact Nat.le_of_eq rfl) (hb hby at_107) (fun _ _ => ⟨rfl, e18, Nat.le_of_ble_eq_true rfl, Nat.le_of_ble_eq_true rfl⟩)
          dsimp only [Pt.U, Pt.locs, Pt.cells, Pt.slots] at X25 l25 y25 z25 st25 hQ25
          subst l25 y25 z25
          obtain ⟨rfl, Nq25, hh25⟩ := hQ25
          have N25 := Fr.app N0 Nq25
          refine Go.by (B := (T25.setTop (mkF m 110 #[.val (.int p1), .val (.int p2), .val (.int 1), .val (.ref w2), .val (.int v19), .val (.int 59), .val (.int 0)] [(.int 0)]))) (fun _ k => st25.trans k) ?_
          refine Go.by (B := (T25.setTop (mkF m 120 #[.val (.int p1), .val (.int p2), .val (.int 1), .val (.ref w2), .val (.int v19), .val (.int 59), .val (.int 0)] [(.int 1)]))) (fun _ k => XS.iload X25.here hx rfl (hb hby at_110) rfl (XS.icmpNo X25.here hx rfl (hb hby at_112) rfl (teq (by decide : (0 : Int32) = (0 : Int32))).2 (XS.iconst X25.here hx rfl (hb hby at_115) (XS.goto X25.here hx rfl (pc0 := 116) (pc' := 120) rfl (hb hby at_116) (by decide) (by decide) k)))) ?_
          refine Go.ret X25 hx hlk (t := .boolean) hret rfl (Or.inl ⟨rfl, by simp, _, rfl⟩) (hb hby at_120) (by decide) (by decide) ?_
          exact ⟨rfl, N25⟩
        · skip
          refine Go.by (B := (T18.setTop (mkF m 73 #[.val (.int p1), .val (.int p2), .val (.int 1), .val (.ref w2), .val (.int v19), .unset, .unset] [(.int (p1.toInt8.toInt32))]))) (fun _ k => XS.icmpYes X18.here hx rfl (pc0 := 61) (pc' := 71) rfl (hb hby at_61) rfl (feq c24).2 (by decide) (by decide) (XS.iloadN X18.here hx rfl (hb hby at_71) rfl (XS.i2b X18.here hx rfl (hb hby at_72) rfl k))) ?_
          obtain ⟨v26, hv26⟩ : ∃ v, v = (p1.toInt8.toInt32) := ⟨_, rfl⟩
          refine Go.by (B := (T18.setTop (mkF m 79 #[.val (.int p1), .val (.int p2), .val (.int 1), .val (.ref w2), .val (.int v19), .val (.int v26), .unset] [(.int 46), (.int v26)]))) (fun _ k => XS.istore (x := v26) (rest := []) X18.here hx rfl (hb hby at_73) (by rw [hv26]) (l' := #[.val (.int p1), .val (.int p2), .val (.int 1), .val (.ref w2), .val (.int v19), .val (.int v26), .unset]) rfl (XS.iload X18.here hx rfl (hb hby at_75) rfl (XS.bipush X18.here hx rfl (hb hby at_77) k))) ?_
          by_cases c27 : v26 = (46 : Int32)
          · skip
            refine Go.by (B := (T18.setTop (mkF m 107 #[.val (.int p1), .val (.int p2), .val (.int 1), .val (.ref w2), .val (.int v19), .val (.int v26), .val (.int 1)] [(.int v26), (.ref w2)]))) (fun _ k => XS.icmpNo X18.here hx rfl (hb hby at_79) rfl (teq c27).2 (XS.iconst X18.here hx rfl (hb hby at_82) (XS.istore X18.here hx rfl (hb hby at_83) rfl (l' := #[.val (.int p1), .val (.int p2), .val (.int 1), .val (.ref w2), .val (.int v19), .val (.int v26), .val (.int 1)]) rfl (XS.goto X18.here hx rfl (pc0 := 85) (pc' := 104) rfl (hb hby at_85) (by decide) (by decide) (XS.aloadN X18.here hx rfl (hb hby at_104) rfl rfl (XS.iload X18.here hx rfl (hb hby at_105) rfl k)))))) ?_
            obtain ⟨cq28, kq28, q28a, q28b, q28c⟩ := isOf hZ e18 (pr3.ext pr0.2)
            obtain ⟨_, _, ⟨T28, L28, k28, n28⟩, -, X28, ⟨Lc28, hQ28, l28, y28, z28⟩, st28⟩ := X18.virtualBack hx (y := (⟨"com/example/floatroom/floatroom/CsvDialect", "readsAsDecimalSeparator", "(B)Z"⟩ : MethodName)) (z := (⟨"com/example/floatroom/floatroom/CsvDialect", "readsAsDecimalSeparator", "(B)Z"⟩ : MethodName)) hown (mvT hZ (wd hw 3 rfl)) (mvT hZ (wd hw 4 rfl)) (notFace_of_selects (args := #[]) (mvT hZ (wd hw 6 rfl))) (mvT hZ (wd hw 6 rfl)) (mvT hZ (wd hw 5 rfl)) (by decide) (backOf (W := 0) (rm_a l Z a0 hw [] w2 v26 (44 : Int32) h0 n0 Z0 (pr5.ext pr0.2) c27) hZ (wd hw 7 rfl) (wd hw 1 rfl) (by decide) (by decide)) q28a q28c (g := (mkF m 107 #[.val (.int p1), .val (.int p2), .val (.int 1), .val (.ref w2), .val (.int v19), .val (.int v26), .val (.int 1)] [(.int v26), (.ref w2)])) rfl (by rw [hml]; rfl) (Steps.refl _) (argsL := [(.int v26)]) (rest := []) (lenOf pd_0 rfl) rfl (by show 2 * 0 + _ ≤ _; exact Nat.le_of_eq rfl) (hb hby at_107) (fun _ _ => ⟨rfl, e18, Nat.le_of_ble_eq_true rfl, Nat.le_of_ble_eq_true rfl⟩)
            dsimp only [Pt.U, Pt.locs, Pt.cells, Pt.slots] at X28 l28 y28 z28 st28 hQ28
            subst l28 y28 z28
            obtain ⟨rfl, Nq28, hh28⟩ := hQ28
            have N28 := Fr.app N0 Nq28
            refine Go.by (B := (T28.setTop (mkF m 110 #[.val (.int p1), .val (.int p2), .val (.int 1), .val (.ref w2), .val (.int v19), .val (.int v26), .val (.int 1)] [(.int 1)]))) (fun _ k => st28.trans k) ?_
            refine Go.by (B := (T28.setTop (mkF m 120 #[.val (.int p1), .val (.int p2), .val (.int 1), .val (.ref w2), .val (.int v19), .val (.int v26), .val (.int 1)] [(.int 1)]))) (fun _ k => XS.iload X28.here hx rfl (hb hby at_110) rfl (XS.icmpNo X28.here hx rfl (hb hby at_112) rfl (teq (by decide : (1 : Int32) = (1 : Int32))).2 (XS.iconst X28.here hx rfl (hb hby at_115) (XS.goto X28.here hx rfl (pc0 := 116) (pc' := 120) rfl (hb hby at_116) (by decide) (by decide) k)))) ?_
            refine Go.ret X28 hx hlk (t := .boolean) hret rfl (Or.inl ⟨rfl, by simp, _, rfl⟩) (hb hby at_120) (by decide) (by decide) ?_
            exact ⟨rfl, N28⟩
          · skip
            refine Go.by (B := (T18.setTop (mkF m 92 #[.val (.int p1), .val (.int p2), .val (.int 1), .val (.ref w2), .val (.int v19), .val (.int v26), .unset] [(.int 44), (.int v26)]))) (fun _ k => XS.icmpYes X18.here hx rfl (pc0 := 79) (pc' := 88) rfl (hb hby at_79) rfl (feq c27).2 (by decide) (by decide) (XS.iload X18.here hx rfl (hb hby at_88) rfl (XS.bipush X18.here hx rfl (hb hby at_90) k))) ?_
            by_cases c29 : v26 = (44 : Int32)
            · skip
              refine Go.by (B := (T18.setTop (mkF m 107 #[.val (.int p1), .val (.int p2), .val (.int 1), .val (.ref w2), .val (.int v19), .val (.int v26), .val (.int 1)] [(.int v26), (.ref w2)]))) (fun _ k => XS.icmpNo X18.here hx rfl (hb hby at_92) rfl (teq c29).2 (XS.iloadN X18.here hx rfl (hb hby at_95) rfl (XS.istore X18.here hx rfl (hb hby at_96) rfl (l' := #[.val (.int p1), .val (.int p2), .val (.int 1), .val (.ref w2), .val (.int v19), .val (.int v26), .val (.int 1)]) rfl (XS.goto X18.here hx rfl (pc0 := 98) (pc' := 104) rfl (hb hby at_98) (by decide) (by decide) (XS.aloadN X18.here hx rfl (hb hby at_104) rfl rfl (XS.iload X18.here hx rfl (hb hby at_105) rfl k)))))) ?_
              obtain ⟨cq30, kq30, q30a, q30b, q30c⟩ := isOf hZ e18 (pr3.ext pr0.2)
              obtain ⟨_, _, ⟨T30, L30, k30, n30⟩, -, X30, ⟨Lc30, hQ30, l30, y30, z30⟩, st30⟩ := X18.virtualBack hx (y := (⟨"com/example/floatroom/floatroom/CsvDialect", "readsAsDecimalSeparator", "(B)Z"⟩ : MethodName)) (z := (⟨"com/example/floatroom/floatroom/CsvDialect", "readsAsDecimalSeparator", "(B)Z"⟩ : MethodName)) hown (mvT hZ (wd hw 3 rfl)) (mvT hZ (wd hw 4 rfl)) (notFace_of_selects (args := #[]) (mvT hZ (wd hw 6 rfl))) (mvT hZ (wd hw 6 rfl)) (mvT hZ (wd hw 5 rfl)) (by decide) (backOf (W := 0) (rm_b l Z a0 hw [] w2 v26 (44 : Int32) h0 n0 Z0 (pr5.ext pr0.2) c27 c29) hZ (wd hw 7 rfl) (wd hw 1 rfl) (by decide) (by decide)) q30a q30c (g := (mkF m 107 #[.val (.int p1), .val (.int p2), .val (.int 1), .val (.ref w2), .val (.int v19), .val (.int v26), .val (.int 1)] [(.int v26), (.ref w2)])) rfl (by rw [hml]; rfl) (Steps.refl _) (argsL := [(.int v26)]) (rest := []) (lenOf pd_0 rfl) rfl (by show 2 * 0 + _ ≤ _; exact Nat.le_of_eq rfl) (hb hby at_107) (fun _ _ => ⟨rfl, e18, Nat.le_of_ble_eq_true rfl, Nat.le_of_ble_eq_true rfl⟩)
              dsimp only [Pt.U, Pt.locs, Pt.cells, Pt.slots] at X30 l30 y30 z30 st30 hQ30
              subst l30 y30 z30
              obtain ⟨rfl, Nq30, hh30⟩ := hQ30
              have N30 := Fr.app N0 Nq30
              refine Go.by (B := (T30.setTop (mkF m 110 #[.val (.int p1), .val (.int p2), .val (.int 1), .val (.ref w2), .val (.int v19), .val (.int v26), .val (.int 1)] [(.int 1)]))) (fun _ k => st30.trans k) ?_
              refine Go.by (B := (T30.setTop (mkF m 120 #[.val (.int p1), .val (.int p2), .val (.int 1), .val (.ref w2), .val (.int v19), .val (.int v26), .val (.int 1)] [(.int 1)]))) (fun _ k => XS.iload X30.here hx rfl (hb hby at_110) rfl (XS.icmpNo X30.here hx rfl (hb hby at_112) rfl (teq (by decide : (1 : Int32) = (1 : Int32))).2 (XS.iconst X30.here hx rfl (hb hby at_115) (XS.goto X30.here hx rfl (pc0 := 116) (pc' := 120) rfl (hb hby at_116) (by decide) (by decide) k)))) ?_
              refine Go.ret X30 hx hlk (t := .boolean) hret rfl (Or.inl ⟨rfl, by simp, _, rfl⟩) (hb hby at_120) (by decide) (by decide) ?_
              exact ⟨rfl, N30⟩
            · skip
              refine Go.by (B := (T18.setTop (mkF m 107 #[.val (.int p1), .val (.int p2), .val (.int 1), .val (.ref w2), .val (.int v19), .val (.int v26), .val (.int 0)] [(.int v26), (.ref w2)]))) (fun _ k => XS.icmpYes X18.here hx rfl (pc0 := 92) (pc' := 101) rfl (hb hby at_92) rfl (feq c29).2 (by decide) (by decide) (XS.iconst X18.here hx rfl (hb hby at_101) (XS.istore X18.here hx rfl (hb hby at_102) rfl (l' := #[.val (.int p1), .val (.int p2), .val (.int 1), .val (.ref w2), .val (.int v19), .val (.int v26), .val (.int 0)]) rfl (XS.aloadN X18.here hx rfl (hb hby at_104) rfl rfl (XS.iload X18.here hx rfl (hb hby at_105) rfl k))))) ?_
              obtain ⟨cq31, kq31, q31a, q31b, q31c⟩ := isOf hZ e18 (pr3.ext pr0.2)
              obtain ⟨_, _, ⟨T31, L31, k31, n31⟩, -, X31, ⟨Lc31, hQ31, l31, y31, z31⟩, st31⟩ := X18.virtualBack hx (y := (⟨"com/example/floatroom/floatroom/CsvDialect", "readsAsDecimalSeparator", "(B)Z"⟩ : MethodName)) (z := (⟨"com/example/floatroom/floatroom/CsvDialect", "readsAsDecimalSeparator", "(B)Z"⟩ : MethodName)) hown (mvT hZ (wd hw 3 rfl)) (mvT hZ (wd hw 4 rfl)) (notFace_of_selects (args := #[]) (mvT hZ (wd hw 6 rfl))) (mvT hZ (wd hw 6 rfl)) (mvT hZ (wd hw 5 rfl)) (by decide) (backOf (W := 0) (rm_c l Z a0 hw [] w2 v26 (44 : Int32) h0 n0 Z0 (pr5.ext pr0.2) c27 c29) hZ (wd hw 7 rfl) (wd hw 1 rfl) (by decide) (by decide)) q31a q31c (g := (mkF m 107 #[.val (.int p1), .val (.int p2), .val (.int 1), .val (.ref w2), .val (.int v19), .val (.int v26), .val (.int 0)] [(.int v26), (.ref w2)])) rfl (by rw [hml]; rfl) (Steps.refl _) (argsL := [(.int v26)]) (rest := []) (lenOf pd_0 rfl) rfl (by show 2 * 0 + _ ≤ _; exact Nat.le_of_eq rfl) (hb hby at_107) (fun _ _ => ⟨rfl, e18, Nat.le_of_ble_eq_true rfl, Nat.le_of_ble_eq_true rfl⟩)
              dsimp only [Pt.U, Pt.locs, Pt.cells, Pt.slots] at X31 l31 y31 z31 st31 hQ31
              subst l31 y31 z31
              obtain ⟨rfl, Nq31, hh31⟩ := hQ31
              have N31 := Fr.app N0 Nq31
              refine Go.by (B := (T31.setTop (mkF m 110 #[.val (.int p1), .val (.int p2), .val (.int 1), .val (.ref w2), .val (.int v19), .val (.int v26), .val (.int 0)] [(.int 0)]))) (fun _ k => st31.trans k) ?_
              refine Go.by (B := (T31.setTop (mkF m 120 #[.val (.int p1), .val (.int p2), .val (.int 1), .val (.ref w2), .val (.int v19), .val (.int v26), .val (.int 0)] [(.int 1)]))) (fun _ k => XS.iload X31.here hx rfl (hb hby at_110) rfl (XS.icmpNo X31.here hx rfl (hb hby at_112) rfl (teq (by decide : (0 : Int32) = (0 : Int32))).2 (XS.iconst X31.here hx rfl (hb hby at_115) (XS.goto X31.here hx rfl (pc0 := 116) (pc' := 120) rfl (hb hby at_116) (by decide) (by decide) k)))) ?_
              refine Go.ret X31 hx hlk (t := .boolean) hret rfl (Or.inl ⟨rfl, by simp, _, rfl⟩) (hb hby at_120) (by decide) (by decide) ?_
              exact ⟨rfl, N31⟩
set_option maxRecDepth 65536 in
set_option maxHeartbeats 40000000 in
theorem comes_1 {Post : Tables → Env → Array Value → State → Outcome → State → Prop} (hpost : ∀ tb e args s v u, (limb_1_1.after args s (.returned v) u = true ∧ limb_1_2.after args s (.returned v) u = true ∧ True) → FrameEnd s (.returned v) u (Jvm.fieldLocs frame_1_writes args s ++ Jvm.arrayLocs frame_1_arrays args s ++ Jvm.staticLocs frame_1_statics s) 0 0 → Post tb e args s (.returned v) u) :
    ArmFor flags0 classFile x code maxLocals ret World_1 tables_1 room_1 Calls_1 rest_1 Pre_1 Post := by
  intro l hfl _ _ p e ha hc hk s m args below hf hA hF happ hP
  obtain ⟨hcalls, hrest, hpre⟩ := hP
  obtain ⟨-, -, -, hnamed, -, -, -, hat⟩ := (Spec.applies_iff hf).mp happ
  obtain ⟨hg, hn⟩ := and_e (Cond.before_iff.mp (show (Jvm.Cond.and given_1 narrow_1).before args s = true from hpre))
  obtain ⟨hg0, hgr0⟩ := and_e hg
  obtain ⟨ga0, hgr1⟩ := and_e hgr0
  obtain ⟨w0, w1, rfl⟩ : ∃ w0 w1 : Value, args = #[w0, w1] := by
    have hs : args.size = 2 := by simpa [Cond.value, given_1] using hg0
    obtain ⟨L⟩ := args
    match L, hs with
    | [w0, w1], _ => exact ⟨w0, w1, rfl⟩
  have hw := fun d (hd : d ∈ tables_1) => atoms_spec (ws := Jvm.Cond.code x code maxLocals ret :: tables_1) hat d (List.mem_cons_of_mem _ hd)
  have hfit : Fit s := fun {y c} hc i hi => by
    obtain ⟨ha, rfl⟩ := Array.getElem?_eq_some_iff.mp hc
    have q := List.all_eq_true.mp ((Array.all_eq_true_iff_forall_mem.mp hF) _ (Array.getElem_mem ha)) i (List.mem_range.mpr hi)
    simpa [Array.getElem?_eq_getElem hi] using q
  obtain ⟨i0, ei0⟩ := is_v ga0
  obtain rfl : w0 = (.int i0) := Option.some.inj ei0
  obtain ⟨i1, ei1⟩ := is_v hgr1
  obtain rfl : w1 = (.int i1) := Option.some.inj ei1
  obtain ⟨hn32, hn33⟩ := and_e hn
  obtain ⟨hn34, hn35⟩ := and_e hn33
  obtain ⟨hn36, hn37⟩ := and_e hn35
  obtain ⟨w_DECIMAL_COMMA, ev_w_DECIMAL_COMMA⟩ := exa_v hn32
  have S_w_DECIMAL_COMMA : Sta s s.heap "com/example/floatroom/floatroom/CsvDialect" "DECIMAL_COMMA" "Lcom/example/floatroom/floatroom/CsvDialect;" (.ref w_DECIMAL_COMMA) := Sta.start ev_w_DECIMAL_COMMA (Or.inr ⟨(wd hw 1 rfl), (wd hw 2 rfl)⟩)
  have E_w_DECIMAL_COMMA := Exa.start ev_w_DECIMAL_COMMA hn32
  obtain ⟨w_DECIMAL_POINT, ev_w_DECIMAL_POINT⟩ := exa_v hn36
  have S_w_DECIMAL_POINT : Sta s s.heap "com/example/floatroom/floatroom/CsvDialect" "DECIMAL_POINT" "Lcom/example/floatroom/floatroom/CsvDialect;" (.ref w_DECIMAL_POINT) := Sta.start ev_w_DECIMAL_POINT (Or.inr ⟨(wd hw 1 rfl), (wd hw 11 rfl)⟩)
  have E_w_DECIMAL_POINT := Exa.start ev_w_DECIMAL_POINT hn36
  have F_w_DECIMAL_COMMA__decimalSeparator : Fld s s.heap w_DECIMAL_COMMA "com/example/floatroom/floatroom/CsvDialect" "_decimalSeparator" "B" (.int 44) := Fld.start ((fld_at ev_w_DECIMAL_COMMA).symm.trans (own_eqk hn34))
  have F_w_DECIMAL_POINT__decimalSeparator : Fld s s.heap w_DECIMAL_POINT "com/example/floatroom/floatroom/CsvDialect" "_decimalSeparator" "B" (.int 46) := Fld.start ((fld_at ev_w_DECIMAL_POINT).symm.trans (own_eqk hn37))
  obtain ⟨n, o, h1, h2, h3, _, L, rfl, ⟨rfl, N⟩, hq⟩ := rm0 l s _ hw tables_1 i0 i1 w_DECIMAL_COMMA w_DECIMAL_POINT s.heap s.heap.size (Nat.le_refl _) (Old.start s) S_w_DECIMAL_COMMA S_w_DECIMAL_POINT E_w_DECIMAL_COMMA E_w_DECIMAL_POINT F_w_DECIMAL_COMMA__decimalSeparator F_w_DECIMAL_POINT__decimalSeparator p e ha hc hk s m _ below hf ((Spec.applies_iff_loose hf).mp happ).1 ⟨rfl, State.Warmed39.refl s, rfl⟩ trivial
  refine ⟨n, _, h1, h2, h3, hpost _ _ _ _ _ _ ⟨Cond.after_iff.mpr rfl, Cond.after_iff.mpr (eq_i res_at (Term.int_eval (1)) rfl), trivial⟩ ⟨hq.1, hq.2.1, (hq.2.2.sift fun y hy => Or.inr (N y hy)).mono (by decide) (by decide)⟩⟩
theorem main_1_1 : Claimed_1_1 := comes_1 fun _ _ _ _ _ _ h hF => ⟨h.1, hF⟩
theorem main_1_2 : Claimed_1_2 := comes_1 fun _ _ _ _ _ _ h hF => ⟨h.2.1, hF⟩
end Jvm.Pilot.@@N@@
namespace Jvm.Pilot.@@N@@
open Jvm Jvm.ClassFile Sem Op Lib Jvm.Free Jvm.Stand Jvm.Pilot.@@N@@.Jvm.D
/-! MADE BY PROGRAM (witnessworld.py) out of the Statement's table words and the real class files: 12 classes; the members and pool entries that the words name. The judged class is class 1, her method 1. -/
namespace start1
open Jvm.ClassFile
def u (s : String) : CpInfo := .utf8 (stringToUtf16 s)
/-- a pool by its gaps: so many unusable entries, then the entry; so many at the end -/
def gap : Nat → List CpInfo → List CpInfo
  | 0, r => r
  | n + 1, r => .unusable :: gap n r
def poolList (es : List (Nat × CpInfo)) (last : Nat) : List CpInfo := es.foldr (fun e r => gap e.1 (e.2 :: r)) (gap last [])
def pool (es : List (Nat × CpInfo)) (last : Nat) : Array CpInfo := ⟨poolList es last⟩
def fileOf (pool : Array CpInfo) (this : Nat) (attrs : Array Attribute := #[]) (ms : Array MethodInfo := #[]) (fl : Nat := 33) (sup : Nat := 0) (ifs : Array Nat := #[]) (fds : Array FieldInfo := #[]) : ClassFile where
  minorVersion := 0
  majorVersion := 65
  constantPool := pool
  accessFlags := fl
  thisClass := this
  superClass := sup
  interfaces := ifs
  fields := fds
  methods := ms
  attributes := attrs
def plain (name : String) (sup : Option ClassId) : Class where
  name := name
  kind := .ordinary
  loader := none
  accessFlags := 33
  super := sup
  interfaces := #[]
  cf := none
  fields := #[]
  methods := #[]
  instanceTypes := #[]
  staticTypes := #[]
  resolved := #[]
  callSites := []
  init := .initialized
  statics := none
  mirror := none

def pool0 : Array CpInfo := pool [(5, u "<init>"), (0, u "()V"), (1, .class_ 10), (1, u "java/lang/Object")] 113

def k0m0 : Method := { name := "<init>", desc := "()V", sig := { parameters := [], returnType := none }, accessFlags := 1, code := none }
/-- java/lang/Object -/
def k0 : Class := { plain "java/lang/Object" none with
  accessFlags := 33
  interfaces := #[]
  cf := some (fileOf pool0 8 #[] #[{ accessFlags := 1, nameIndex := 5, descriptorIndex := 6, attributes := #[] }] 33 0 #[] #[])
  fields := #[]
  methods := #[k0m0]
  instanceTypes := #[]
  staticTypes := #[]
  resolved := Array.replicate 124 none
  statics := none }

def pool1 : Array CpInfo := pool [(2, .class_ 4), (1, u "java/lang/Object"), (0, u "<init>"), (0, u "()V"), (0, .fieldref 8 9), (0, .class_ 10), (0, .nameAndType 11 12), (0, u "com/example/floatroom/floatroom/CsvDialect"), (0, u "DECIMAL_COMMA"), (0, u "Lcom/example/floatroom/floatroom/CsvDialect;"), (0, .fieldref 8 14), (0, .nameAndType 15 12), (0, u "DECIMAL_POINT"), (0, .methodref 8 17), (0, .nameAndType 18 19), (0, u "readsAsDecimalSeparator"), (0, u "(B)Z"), (0, .class_ 21), (0, u "com/example/floatroom/floatroom/CsvDialectReadsAsDecimalSeparatorPinLaw"), (2, u "law"), (0, u "(II)Z")] 3

def k1m0 : Method := { name := "<init>", desc := "()V", sig := { parameters := [], returnType := none }, accessFlags := 1, code := none }
def k1c1 : Code := { maxStack := 2, maxLocals := 7, code := code, exceptionTable := #[], attributes := #[] }
def k1m1 : Method := { name := "law", desc := "(II)Z", sig := { parameters := [.int, .int], returnType := some .boolean }, accessFlags := 9, code := some k1c1 }
/-- com/example/floatroom/floatroom/CsvDialectReadsAsDecimalSeparatorPinLaw -/
def k1 : Class := { plain "com/example/floatroom/floatroom/CsvDialectReadsAsDecimalSeparatorPinLaw" (some 0) with
  accessFlags := 49
  interfaces := #[]
  cf := some (fileOf pool1 20 #[] #[{ accessFlags := 1, nameIndex := 5, descriptorIndex := 6, attributes := #[] }, { accessFlags := 9, nameIndex := 24, descriptorIndex := 25, attributes := #[] }] 49 2 #[] #[])
  fields := #[]
  methods := #[k1m0, k1m1]
  instanceTypes := #[]
  staticTypes := #[]
  resolved := Array.replicate 29 none
  statics := none }

def pool2 : Array CpInfo := pool [(1, .class_ 2), (0, u "java/lang/constant/Constable"), (0, .class_ 4), (0, u "java/lang/Object")] 6

/-- java/lang/constant/Constable -/
def k2 : Class := { plain "java/lang/constant/Constable" (some 0) with
  accessFlags := 1537
  interfaces := #[]
  cf := some (fileOf pool2 1 #[] #[] 1537 3 #[] #[])
  fields := #[]
  methods := #[]
  instanceTypes := #[]
  staticTypes := #[]
  resolved := Array.replicate 11 none
  statics := none }

def pool3 : Array CpInfo := pool [(1, .class_ 2), (0, u "java/lang/Comparable"), (0, .class_ 4), (0, u "java/lang/Object")] 7

/-- java/lang/Comparable -/
def k3 : Class := { plain "java/lang/Comparable" (some 0) with
  accessFlags := 1537
  interfaces := #[]
  cf := some (fileOf pool3 1 #[] #[] 1537 3 #[] #[])
  fields := #[]
  methods := #[]
  instanceTypes := #[]
  staticTypes := #[]
  resolved := Array.replicate 12 none
  statics := none }

def pool4 : Array CpInfo := pool [(1, .class_ 2), (0, u "java/io/Serializable"), (0, .class_ 4), (0, u "java/lang/Object")] 2

/-- java/io/Serializable -/
def k4 : Class := { plain "java/io/Serializable" (some 0) with
  accessFlags := 1537
  interfaces := #[]
  cf := some (fileOf pool4 1 #[] #[] 1537 3 #[] #[])
  fields := #[]
  methods := #[]
  instanceTypes := #[]
  staticTypes := #[]
  resolved := Array.replicate 7 none
  statics := none }

def pool5 : Array CpInfo := pool [(2, .class_ 4), (1, u "java/lang/Enum"), (0, u "name"), (0, u "Ljava/lang/String;"), (2, u "ordinal"), (0, u "I"), (1, .class_ 14), (1, u "java/lang/Object"), (4, u "hash"), (86, .class_ 108), (1, u "java/lang/Enum$EnumDesc"), (2, .class_ 112), (0, u "java/lang/constant/Constable"), (0, .class_ 114), (0, u "java/lang/Comparable"), (0, .class_ 116), (0, u "java/io/Serializable")] 87

/-- java/lang/Enum -/
def k5 : Class := { plain "java/lang/Enum" (some 0) with
  accessFlags := 1057
  interfaces := #[2, 3, 4]
  cf := some (fileOf pool5 2 #[.nestMembers #[106]] #[] 1057 12 #[111, 113, 115] #[{ accessFlags := 18, nameIndex := 5, descriptorIndex := 6, attributes := #[] }, { accessFlags := 18, nameIndex := 9, descriptorIndex := 10, attributes := #[] }, { accessFlags := 2, nameIndex := 19, descriptorIndex := 10, attributes := #[] }])
  fields := #[{ name := "name", type := (.object "java/lang/String"), accessFlags := 18, slot := 0, constantValue := 0 }, { name := "ordinal", type := .int, accessFlags := 18, slot := 1, constantValue := 0 }, { name := "hash", type := .int, accessFlags := 2, slot := 2, constantValue := 0 }]
  methods := #[]
  instanceTypes := #[(.object "java/lang/String"), .int, .int]
  staticTypes := #[]
  resolved := Array.replicate 204 none
  statics := none }

def pool6 : Array CpInfo := pool [(1, .class_ 2), (0, u "com/example/floatroom/floatroom/CsvDialect"), (2, u "DECIMAL_POINT"), (0, u "Lcom/example/floatroom/floatroom/CsvDialect;"), (2, u "DECIMAL_COMMA"), (2, u "$VALUES"), (0, u "[Lcom/example/floatroom/floatroom/CsvDialect;"), (6, .class_ 22), (1, u "java/lang/Enum"), (8, u "_delimiter"), (0, u "B"), (0, .fieldref 1 34), (0, .nameAndType 35 32), (0, u "_decimalSeparator"), (19, u "readsAsDecimalSeparator"), (0, u "(B)Z")] 6

def k6c0 : Code := { maxStack := 2, maxLocals := 2, code := prog_9_method_6_code, exceptionTable := #[], attributes := #[] }
def k6m0 : Method := { name := "readsAsDecimalSeparator", desc := "(B)Z", sig := { parameters := [.byte], returnType := some .boolean }, accessFlags := 0, code := some k6c0 }
/-- com/example/floatroom/floatroom/CsvDialect -/
def k6 : Class := { plain "com/example/floatroom/floatroom/CsvDialect" (some 5) with
  accessFlags := 16432
  interfaces := #[]
  cf := some (fileOf pool6 1 #[] #[{ accessFlags := 0, nameIndex := 55, descriptorIndex := 56, attributes := #[] }] 16432 20 #[] #[{ accessFlags := 16409, nameIndex := 5, descriptorIndex := 6, attributes := #[] }, { accessFlags := 16409, nameIndex := 9, descriptorIndex := 6, attributes := #[] }, { accessFlags := 18, nameIndex := 31, descriptorIndex := 32, attributes := #[] }, { accessFlags := 18, nameIndex := 35, descriptorIndex := 32, attributes := #[] }, { accessFlags := 4122, nameIndex := 12, descriptorIndex := 13, attributes := #[] }])
  fields := #[{ name := "DECIMAL_POINT", type := (.object "com/example/floatroom/floatroom/CsvDialect"), accessFlags := 16409, slot := 0, constantValue := 0 }, { name := "DECIMAL_COMMA", type := (.object "com/example/floatroom/floatroom/CsvDialect"), accessFlags := 16409, slot := 1, constantValue := 0 }, { name := "_delimiter", type := .byte, accessFlags := 18, slot := 3, constantValue := 0 }, { name := "_decimalSeparator", type := .byte, accessFlags := 18, slot := 4, constantValue := 0 }, { name := "$VALUES", type := (.array (.object "com/example/floatroom/floatroom/CsvDialect")), accessFlags := 4122, slot := 2, constantValue := 0 }]
  methods := #[k6m0]
  instanceTypes := #[(.object "java/lang/String"), .int, .int, .byte, .byte]
  staticTypes := #[(.object "com/example/floatroom/floatroom/CsvDialect"), (.object "com/example/floatroom/floatroom/CsvDialect"), (.array (.object "com/example/floatroom/floatroom/CsvDialect"))]
  resolved := Array.replicate 63 none
  statics := some 0 }

def pool7 : Array CpInfo := pool [(1, u "java/lang/Cloneable"), (0, .class_ 1), (0, u "java/lang/Object"), (0, .class_ 3)] 3

/-- java/lang/Cloneable -/
def k7 : Class := { plain "java/lang/Cloneable" (some 0) with
  accessFlags := 1537
  interfaces := #[]
  cf := some (fileOf pool7 2 #[] #[] 1537 4 #[] #[])
  fields := #[]
  methods := #[]
  instanceTypes := #[]
  staticTypes := #[]
  resolved := Array.replicate 8 none
  statics := none }

/-- the primitive byte -/
def k8 : Class := { plain "byte" none with kind := .primitive 'B', accessFlags := 0x411 }
/-- [B -/
def k9 : Class := { plain "[B" (some 0) with kind := .array 8 .byte, interfaces := #[7, 4], accessFlags := 1041 }

/-- the primitive int -/
def k10 : Class := { plain "int" none with kind := .primitive 'I', accessFlags := 0x411 }
/-- [I -/
def k11 : Class := { plain "[I" (some 0) with kind := .array 10 .int, interfaces := #[7, 4], accessFlags := 1041 }

def heap : Heap := #[{ cls := 6, slots := #[.ref 2, .ref 1, .null], vm := .statics 6 },
  { cls := 6, slots := #[.null, .int 0, .int 0, .int 0, .int 44], vm := .none },
  { cls := 6, slots := #[.null, .int 0, .int 0, .int 0, .int 46], vm := .none }]
def classes : Array Class := #[k0, k1, k2, k3, k4, k5, k6, k7, k8, k9, k10, k11]
def interned : List (Array UInt16 × Addr) := []
def slotsUsed : Nat := 13
def theMethod : MethodId := ⟨1, 1⟩
def args0 : Array Value := #[.int 5, .int 6]
def aboutOver (below : List Frame) : State where
  vm := { classes := classes, interned := interned.toArray }
  heap := heap
  slotsUsed := slotsUsed
  threads := #[{ frames := .invoking theMethod args0 :: below }]
def below0 : List Frame := [.native { method := ⟨0, 0⟩, args := #[] }]
def about1 : State := aboutOver below0
def p0 : Program := .bare "" "" ""
def e0 : Env := launch0.env 0 0 0
theorem w_frames : about1.frames = Frame.invoking theMethod args0 :: below0 := rfl
set_option maxRecDepth 65536 in
theorem w_args : argsFit about1.vm theMethod args0 = true := by decide +kernel
set_option maxRecDepth 65536 in
theorem w_heap : heapFits about1 = true := by decide +kernel
set_option maxRecDepth 65536 in
theorem w_runnable : about1.curStatus? = some .runnable := by decide +kernel
set_option maxRecDepth 65536 in
theorem w_alone : about1.alone = true := by decide +kernel
set_option maxRecDepth 65536 in
theorem w_named : about1.methodNamed? x = some theMethod := by decide +kernel
set_option maxRecDepth 65536 in
theorem w_hears : about1.hears theMethod below0 = true := by decide +kernel
set_option maxRecDepth 65536 in
theorem w_ripe : about1.ripe theMethod args0 below0 = true := by decide +kernel
theorem w_running : about1.status = .running := rfl
set_option maxRecDepth 65536 in
theorem w_room : about1.hasRoom e0.platform room_1 = true :=
  launch0.hasRoom_least _ room_1 (by decide +kernel) (by decide +kernel) (by decide +kernel) (by decide +kernel) (by decide +kernel) (by decide +kernel)
theorem allAtoms_all (ts : List Jvm.Cond) (a : Array Jvm.Value) (st : Jvm.State) : (allAtoms ts).before a st = ts.all (fun c => c.before a st) := by
  induction ts with
  | nil => rfl
  | cons c t ih =>
    show (Jvm.Cond.and c (allAtoms t)).before a st = _
    rw [Jvm.Cond.before_and, ih, List.all_cons]
def words1 : List Jvm.Cond := Jvm.Cond.code x code maxLocals ret :: tables_1
/-- a 'code' word, met by the world's own term for the bytes: nothing is compared byte by byte -/
theorem code_word {y : MethodName} {bytes : ByteArray} {mx : Nat} {rt : Option FieldType} {a : Array Value} {s : State} {m : MethodId} {meth : Method} {c : Code} (h1 : s.methodNamed? y = some m) (h2 : s.vm.method? m = some meth) (h3 : meth.code = some c) (h4 : c.code = bytes)
    (h5 : (c.maxLocals == mx && c.exceptionTable.isEmpty && decide (c.maxStack ≤ mostOperands) && decide (meth.sig.returnType = rt) && !meth.locks && decide (parseMethodDescriptor y.desc = some meth.sig)) = true) : (Jvm.Cond.code y bytes mx rt).before a s = true := by
  simp only [Bool.and_eq_true, beq_iff_eq, Bool.not_eq_true', decide_eq_true_eq] at h5
  obtain ⟨⟨⟨⟨⟨g1, g2⟩, g3⟩, g4⟩, g5⟩, g6⟩ := h5
  simp [Cond.before, Cond.holds, Cond.value, h1, h2, h3, h4, g1, g2, g3, g4, g5, g6]
def isCode : Jvm.Cond → Bool
  | .code _ _ _ _ => true
  | _ => false
theorem all_split {L : List Jvm.Cond} {P : Jvm.Cond → Bool} (h1 : L.all (fun c => isCode c || P c) = true) (h2 : ∀ c ∈ L.filter isCode, P c = true) : L.all P = true := by
  refine List.all_eq_true.mpr fun c hc => ?_
  have h := List.all_eq_true.mp h1 c hc
  rcases Bool.eq_false_or_eq_true (isCode c) with hi | hi
  · exact h2 c (List.mem_filter.mpr ⟨hc, hi⟩)
  · simpa [hi] using h
set_option maxRecDepth 65536 in
theorem w_c0 : (Jvm.Cond.code x code maxLocals ret).before args0 about1 = true := code_word (m := ⟨1, 1⟩) (meth := k1m1) (c := k1c1) (by decide +kernel) rfl rfl rfl (by decide +kernel)
set_option maxRecDepth 65536 in
theorem w_c1 : (Jvm.Cond.code ({ cls := "com/example/floatroom/floatroom/CsvDialect", name := "readsAsDecimalSeparator", desc := "(B)Z" } : Jvm.MethodName) prog_9_method_6_code (2 : Nat) (Option.some Jvm.ClassFile.FieldType.boolean)).before args0 about1 = true := code_word (m := ⟨6, 0⟩) (meth := k6m0) (c := k6c0) (by decide +kernel) rfl rfl rfl (by decide +kernel)
def codes1 : List Jvm.Cond := [Jvm.Cond.code x code maxLocals ret, Jvm.Cond.code ({ cls := "com/example/floatroom/floatroom/CsvDialect", name := "readsAsDecimalSeparator", desc := "(B)Z" } : Jvm.MethodName) prog_9_method_6_code (2 : Nat) (Option.some Jvm.ClassFile.FieldType.boolean)]
set_option maxRecDepth 65536 in
theorem codes_eq : words1.filter isCode = codes1 := rfl
theorem w_codes : ∀ c ∈ words1.filter isCode, c.before args0 about1 = true := by
  rw [codes_eq]
  intro c hc
  simp only [codes1, List.mem_cons, List.not_mem_nil, or_false] at hc
  rcases hc with rfl | rfl
  · exact w_c0
  · exact w_c1
set_option maxRecDepth 65536 in
theorem w_t1 : words1.all (fun c => isCode c || c.before args0 about1) = true := by decide +kernel
theorem w_tables : (allAtoms (Jvm.Cond.code x code maxLocals ret :: tables_1)).before args0 about1 = true := by
  rw [allAtoms_all]
  show words1.all (fun c => c.before args0 about1) = true
  refine all_split ?_ w_codes
  rw [w_t1]
set_option maxRecDepth 65536 in
theorem w_case : (Jvm.Cond.and given_1 narrow_1).before args0 about1 = true := by decide +kernel
theorem w_applies : (headSpec (Jvm.Cond.code x code maxLocals ret :: tables_1) room_1).applies x e0.platform about1 = true :=
  (Spec.applies_iff w_frames).mpr ⟨w_running, w_runnable, w_alone, w_named, w_hears, w_ripe, w_room, w_tables⟩
theorem atStart : AtStart classFile x code maxLocals ret World_1 tables_1 room_1 Calls_1 rest_1 Pre_1 launch0 p0 e0 about1 theMethod args0 below0 :=
  ⟨lists_1, trivial, launch0.admits_env _ _ _, launch0.least_env, fairChoices_fair.cas, fairChoices_fair.clock, w_frames, w_args, w_heap, w_applies, trivial, trivial, w_case⟩
end start1
theorem witness_1 : WitnessClaimed_1 := ⟨start1.p0, start1.e0, start1.about1, start1.theMethod, start1.args0, start1.below0, start1.atStart⟩
end Jvm.Pilot.@@N@@
