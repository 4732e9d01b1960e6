import JvmDerived
import JvmDerived.Pilot.@@N@@Statement
import JvmDerived.Pilot.@@N@@Code
set_option linter.unusedVariables false
set_option linter.unusedSimpArgs false
namespace Jvm.RoadKit
open Sem ClassFile Op Lib Jvm.Stand Jvm.Free Jvm.LawKit
section Own
variable {p : Program} {l : Launch} {e : Env} {R : Room} {s : State} {m : MethodId} {args : Array Value} {below : List Frame} {meth : Method} {c : Code} {T A B : State} {locs : List Loc} {cells slots K N : Nat} {P : State → Outcome → Prop} {Q : Option Value → Heap → List Loc → Prop}
/-- the run that stands at A comes to an end of which P holds -/
def Go (p : Program) (e : Env) (below : List Frame) (P : State → Outcome → Prop) (A : State) : Prop := ∃ s₂ o, Steps p.tables e below A s₂ ∧ s₂.status = .running ∧ Ended s₂ below o ∧ P s₂ o
def PostW (s : State) (K N : Nat) (Q : Option Value → Heap → List Loc → Prop) : State → Outcome → Prop := fun s₂ o => ∃ v L, o = .returned v ∧ Q v s₂.heap L ∧ FrameEnd s o s₂ L K N
theorem Go.by (h : ∀ t, Steps p.tables e below B t → Steps p.tables e below A t) (k : Go p e below P B) : Go p e below P A := by
  obtain ⟨s₂, o, h1, h2⟩ := k
  exact ⟨s₂, o, h _ h1, h2⟩
theorem Go.to (h : Steps p.tables e below A B) (k : Go p e below P B) : Go p e below P A := Go.by (fun _ q => h.trans q) k
theorem Go.cast {g g' : JFrame} (q : g = g') (k : Go p e below P (T.setTop g')) : Go p e below P (T.setTop g) := q ▸ k
theorem Go.ret (X : Stand p l e R s m args below meth c T locs cells slots) (hx : p.tables.exec = Jvm.exec) (hlk : meth.locks = false) {pc : Nat} {Ls : Array Slot} {w : Value} {t : FieldType} {i : Instr} {rest : List Value} (hret : meth.sig.returnType = some t) (hn : narrow t w = w)
    (hi : (i = .ireturn ∧ (t = .int ∨ t = .boolean ∨ t = .byte ∨ t = .char ∨ t = .short) ∧ ∃ z, w = .int z) ∨ (i = .lreturn ∧ t = .long ∧ ∃ z, w = .long z) ∨ (i = .dreturn ∧ t = .double ∧ ∃ z, w = .double z) ∨ (i = .freturn ∧ t = .float ∧ ∃ z, w = .float z) ∨ (i = .areturn ∧ t.isReference = true ∧ w.isRef = true))
    (hd : decode c.code pc = .ok (i, 1)) (hc : cells ≤ K) (hs : slots ≤ N) (hQ : Q (some w) T.heap locs) : Go p e below (PostW s K N Q) (T.setTop (mkF m pc Ls (w :: rest))) := by
  obtain ⟨fs, hr, hrun, hended, hW, hsame⟩ := X.leave (v := some w) (fun h => by rw [hret] at h; cases h) hlk
  exact ⟨_, _, retOut X hx hret hn hi hd hr, hrun, hended, _, _, rfl, hQ, ⟨_, rfl⟩, hW, hsame.mono hc hs⟩
theorem Go.retZ (X : Stand p l e R s m args below meth c T locs cells slots) (hx : p.tables.exec = Jvm.exec) (hlk : meth.locks = false) {pc : Nat} {Ls : Array Slot} {z : Int32} {t : FieldType} {rest : List Value} (hret : meth.sig.returnType = some t) (ht : t = .boolean ∨ t = .byte ∨ t = .char ∨ t = .short)
    (hd : decode c.code pc = .ok (.ireturn, 1)) (hc : cells ≤ K) (hs : slots ≤ N) (hQ : Q (some (.int (nar t z))) T.heap locs) : Go p e below (PostW s K N Q) (T.setTop (mkF m pc Ls (.int z :: rest))) := by
  obtain ⟨fs, hr, hrun, hended, hW, hsame⟩ := X.leave (v := some (.int (nar t z))) (fun h => by rw [hret] at h; cases h) hlk
  exact ⟨_, _, retN X hx hret ht hd hr, hrun, hended, _, _, rfl, hQ, ⟨_, rfl⟩, hW, hsame.mono hc hs⟩
theorem own_cat {w : Value} (h : w.isRef = true) : w.category = 1 := by cases w <;> first | rfl | (simp [Value.isRef] at h)
theorem own_narR {w : Value} {t : FieldType} (h : w.isRef = true) (ht : t.isReference = true) : narrow t w = w := by cases t <;> first | (cases ht; done) | (cases w <;> first | rfl | (simp [Value.isRef] at h))
theorem own_fitR {w : Value} {t : FieldType} (h : w.isRef = true) (ht : t.isReference = true) : fits t w = true := by cases t <;> first | (cases ht; done) | (cases w <;> first | rfl | (simp [Value.isRef] at h))
theorem Go.retV (X : Stand p l e R s m args below meth c T locs cells slots) (hx : p.tables.exec = Jvm.exec) (hlk : meth.locks = false) {pc : Nat} {Ls : Array Slot} (hret : meth.sig.returnType = none)
    (hd : decode c.code pc = .ok (.return_, 1)) (hc : cells ≤ K) (hs : slots ≤ N) (hQ : Q none T.heap locs) : Go p e below (PostW s K N Q) (T.setTop (mkF m pc Ls [])) := by
  obtain ⟨fs, hr, hrun, hended, hW, hsame⟩ := X.leave (v := none) (fun _ => rfl) hlk
  exact ⟨_, _, X.returnOut hx hret hd hr, hrun, hended, _, _, rfl, hQ, ⟨_, rfl⟩, hW, hsame.mono hc hs⟩
theorem wd {L : List Cond} {a0 : Array Value} {Z : State} (hw : ∀ d ∈ L, d.before a0 Z = true) (i : Nat) {d : Cond} (h : L[i]? = some d) : d.before a0 Z = true := hw d (List.mem_of_getElem? h)
/-- a callee's contract, as the walks here say it -/
abbrev Met (l : Launch) (Z : State) (y : MethodName) (bytes : ByteArray) (maxL : Nat) (ret : Option FieldType) (ws : List Cond) (rm : Room) (as' : Array Value) (h0 : Heap) (Q : Option Value → Heap → List Loc → Prop) : Prop :=
  MetFree l y (head1 (Cond.code y bytes maxL ret :: ws) rm) (fun a U => a = as' ∧ Z.Warmed39 U.vm ∧ U.heap = h0) (fun _ _ _ _ _ => True) (fun _ U o U' => ∃ v L, o = .returned v ∧ Q v U'.heap L ∧ FrameEnd U o U' L rm.cells rm.slots)
theorem Met.enter {Z : State} {y : MethodName} {bytes : ByteArray} {maxL : Nat} {ret : Option FieldType} {ws : List Cond} {rm : Room} {as' : Array Value} {h0 : Heap} {f0 : MethodId → JFrame} (hpl : plainFor y = true) (hf0 : ∀ m, entryFrame m as' maxL = f0 m)
    (body : ∀ (p : Program) (e : Env) (s : State) (m : MethodId) (below : List Frame) (meth : Method) (c : Code) (s₁ : State), p.tables.exec = Jvm.exec → c.code = bytes → c.maxLocals = maxL → s.vm.findClass y.cls = some m.cls → meth.name = y.name → meth.sig.returnType = ret → meth.locks = false → Z.Warmed39 s.vm → Stand p l e rm s m as' below meth c s₁ [] 0 0 → s₁.heap = h0 → Go p e below (PostW s rm.cells rm.slots Q) (s₁.setTop (f0 m))) : Met l Z y bytes maxL ret ws rm as' h0 Q := by
  refine MetFree.of_bodySF hpl hisR ?_
  intro p e s m args below meth c s₁ Bd hml0 hP hK
  obtain ⟨rfl, hZ, hh⟩ := hP
  have q := body p e s m below meth c s₁ Bd.exec Bd.bytes hml0 (findClass_of_methodNamed Bd.named) (name_of_methodNamed Bd.named Bd.method).1 Bd.returns Bd.notSynchronized hZ (Stand.of_body Bd) (by rw [← hh, Bd.state]; rfl)
  rw [← hf0] at q
  exact q
end Own
end Jvm.RoadKit
namespace Jvm.Pilot.@@N@@
open Jvm Jvm.ClassFile Sem Op Lib Jvm.Free Jvm.Stand Jvm.LawKit Jvm.RoadKit Bundle Jvm.Pilot.@@N@@.Jvm.D
theorem own_eqk {args : Array Value} {first s : State} {o : Option Outcome} {idx : List Nat} {t : Term} {k : Int32} (h : (Jvm.Cond.eq t (Term.int k)).value args first o s idx = some true) : t.eval args first o idx s = some (.int k) := by
  obtain ⟨x, y, ex, ey, -, k2⟩ := cmp_v (Or.inl h)
  have e2 : y = .int k := Option.some.inj (ey.symm.trans (Term.int_eval k))
  subst e2
  obtain ⟨z, rfl⟩ := k2
  have := gotT (Cond.eq_ints ex (Term.int_eval k)) h
  rw [ex, this]

theorem own_eqR {args : Array Value} {first s : State} {o : Option Outcome} {idx : List Nat} {t u : Term} {a : Addr} (h : (Jvm.Cond.eq t u).value args first o s idx = some true) (hu : u.eval args first o idx s = some (.ref a)) : t.eval args first o idx s = some (.ref a) := by
  obtain ⟨x, y, ex, ey, k1, k2⟩ := cmp_v (Or.inl h)
  have e2 : y = .ref a := Option.some.inj (ey.symm.trans hu)
  subst e2
  have := gotT (eq_R ex hu k2.2 k2.1) h
  rw [ex, this]
theorem own_sizek {cl : Cell} {args : Array Value} {s : State} {t : Term} {a : Addr} {ty : FieldType} {k : Int32} (ht : t.eval args s none [] s = some (.ref a)) (A : Arr s s.heap a cl ty) (h : (Jvm.Cond.eq (Term.length t) (Term.int k)).value args s none s [] = some true) : cl.slots.size < 2 ^ 31 ∧ cl.slots.size.toInt32 = k := by
  have e := own_eqk h
  have hat : s.arrayAt? a = some cl := A.fin (State.Warmed39.refl s).alike
  by_cases q : cl.slots.size < 2 ^ 31
  · exact ⟨q, Value.int.inj (Option.some.inj ((len_f ht hat q).symm.trans e))⟩
  · simp [Term.eval, ht, hat, q] at e

theorem own_and3 {x v : Int32} (h : v = (x &&& (3 : Int32))) : v = 0 ∨ v = 1 ∨ v = 2 ∨ v = 3 := by
  have q := c_mask x 3 2 (by decide) (by decide)
  rw [← h] at q
  have h0 : (0 : Int32).toInt = 0 := by decide
  have h1 : (1 : Int32).toInt = 1 := by decide
  have h2 : (2 : Int32).toInt = 2 := by decide
  have h3 : (3 : Int32).toInt = 3 := by decide
  simp only [← Int32.toInt_inj, h0, h1, h2, h3]
  omega

theorem ef_rm_values (m : MethodId)  : entryFrame m #[] 0 = mkF m 0 #[] [] := by first | (simp [entryFrame, mkF, argsToLocals, Value.category]; done) | rfl
theorem d2_0 : decode prog_6_method_1_code 0 = .ok (.getstatic 16, 3) := by decide +kernel
theorem d2_3 : decode prog_6_method_1_code 3 = .ok (.invokevirtual 20, 3) := by decide +kernel
theorem d2_6 : decode prog_6_method_1_code 6 = .ok (.checkcast 21, 3) := by decide +kernel
theorem d2_9 : decode prog_6_method_1_code 9 = .ok (.areturn, 1) := by decide +kernel
theorem pn_com_example_aurel_aurel_catalog_ProductType : plainName "com/example/aurel/aurel/catalog/ProductType" = true := by first | (simp [plainName, overriddenIn]; done) | decide +kernel
def Q_rm_values (Z : State) (wv : Addr) (kv : ClassId) (w0 : Addr) (w1 : Addr) (w2 : Addr) (w3 : Addr) (h0 : Heap) (n0 : Nat) (v : Option Value) (h : Heap) (L : List Loc) : Prop := ∃ b : Addr, v = some (.ref b) ∧ Fr n0 L ∧ Keep h0 h [] ∧ Arv Z h b kv (.object "com/example/aurel/aurel/catalog/ProductType") (4 : Int32) [(.ref w0), (.ref w1), (.ref w2), (.ref w3)] .null ∧ h0.size ≤ b
set_option maxRecDepth 65536 in
set_option maxHeartbeats 40000000 in
theorem rm_values (l : Launch) (Z : State) (a0 : Array Value) (hw : ∀ d ∈ tables_1, d.before a0 Z = true) (ws : List Jvm.Cond) (wv : Addr) (kv : ClassId) (w0 : Addr) (w1 : Addr) (w2 : Addr) (w3 : Addr) (h0 : Heap) (n0 : Nat) (Z0 : n0 ≤ h0.size) (pr0 : Old Z n0 h0) (pr1 : Sta Z Z.heap "com/example/aurel/aurel/catalog/ProductType" "$VALUES" "[Lcom/example/aurel/aurel/catalog/ProductType;" (.ref wv)) (pr2 : Exa Z Z.heap wv "[Lcom/example/aurel/aurel/catalog/ProductType;") (pr3 : Arv Z Z.heap wv kv (.object "com/example/aurel/aurel/catalog/ProductType") (4 : Int32) [(.ref w0), (.ref w1), (.ref w2), (.ref w3)] .null) :
    Met l Z (⟨"com/example/aurel/aurel/catalog/ProductType", "values", "()[Lcom/example/aurel/aurel/catalog/ProductType;"⟩ : MethodName) prog_6_method_1_code 0 (some (.array (.object "com/example/aurel/aurel/catalog/ProductType"))) ws ({ frames := 1, cells := 1, slots := 4, locals := 14 } : Room) #[] h0 (Q_rm_values Z wv kv w0 w1 w2 w3 h0 n0) := by
  refine Met.enter (f0 := fun m => mkF m 0 #[] []) (plainFor_of_name pn_com_example_aurel_aurel_catalog_ProductType) (fun m => ef_rm_values m ) ?_
  intro p e s m below meth c s₁ hx hby hml hown hnm hret hlk hZ X0 e0
  have hown : s.vm.findClass "com/example/aurel/aurel/catalog/ProductType" = some m.cls := hown
  have hnm : meth.name = "values" := hnm
  have hml : c.maxLocals = 0 := hml
  have hby : c.code = prog_6_method_1_code := hby
  have N0 := Fr.nil n0
  obtain ⟨T1, X1, e1, st1⟩ := getS2 X0 hx hZ hown (host := "") (Or.inl (wd hw 7 rfl)) Via.refl e0 (pr1.ext pr0.2) (g := (mkF m 0 #[] [])) rfl (hb hby d2_0)
  refine Go.by (B := (T1.setTop (mkF m 3 #[] [(.ref wv)]))) st1 ?_
  obtain ⟨T2, h2, X2, e2, E2, V2, A2, st2⟩ := cloneH X1 hx hZ hown (wd hw 9 rfl) (wd hw 10 rfl) (wd hw 14 rfl) (wd hw 12 rfl) (wd hw 13 rfl) (wd hw 15 rfl) e1 (Arv.arh (pr3.ext pr0.2)) (pr2.ext pr0.2) (g := (mkF m 3 #[] [(.ref wv)])) rfl (by rw [hml]; rfl) rfl (hb hby d2_3) (by decide) (W := 0) (cap := 4) (by show 2 * 0 + _ ≤ _; exact Nat.le_of_eq rfl) (by decide) (by decide) (by decide) (by decide)
  obtain ⟨b2, g2⟩ : ∃ z, z = h0.size := ⟨_, rfl⟩
  rw [← g2] at V2 A2 st2
  have sz_b2 : h0.size ≤ b2 := Nat.le_of_eq g2.symm
  have V2' : Arv Z h2 b2 kv (.object "com/example/aurel/aurel/catalog/ProductType") (4 : Int32) [(.ref w0), (.ref w1), (.ref w2), (.ref w3)] .null := V2
  have O3 := pr0.ext E2
  have Z3 : n0 ≤ h2.size := Nat.le_trans Z0 E2.1
  refine Go.by (B := (T2.setTop (mkF m 6 #[] [(.ref b2)]))) st2 ?_
  obtain ⟨T4, X4, e4, st4⟩ := castY X2 hx hZ hown (wd hw 21 rfl) e2 (Ins.self A2) (g := (mkF m 6 #[] [(.ref b2)])) rfl rfl (hb hby d2_6)
  refine Go.by (B := (T4.setTop (mkF m 9 #[] [(.ref b2)]))) st4 ?_
  refine Go.ret X4 hx hlk (t := (.array (.object "com/example/aurel/aurel/catalog/ProductType"))) hret rfl (Or.inr (Or.inr (Or.inr (Or.inr ⟨rfl, rfl, rfl⟩)))) (hb hby d2_9) (by decide) (by decide) ?_
  rw [e4]
  exact ⟨b2, rfl, N0, ((Keep.refl h0 []).ext E2), V2', (Nat.le_trans (Nat.le_refl _) sz_b2)⟩
theorem ef_rm_from0 (m : MethodId)  : entryFrame m #[(.int 0)] 5 = mkF m 0 #[.val (.int 0), .unset, .unset, .unset, .unset] [] := by first | (simp [entryFrame, mkF, argsToLocals, Value.category]; done) | rfl
theorem d1_0 : decode prog_6_method_4_code 0 = .ok (.invokestatic 43, 3) := by decide +kernel
theorem pd_0 : parseMethodDescriptor "()[Lcom/example/aurel/aurel/catalog/ProductType;" = some ⟨[], some (.array (.object "com/example/aurel/aurel/catalog/ProductType"))⟩ := by decide +kernel
theorem d1_3 : decode prog_6_method_4_code 3 = .ok (.astore_n 1, 1) := by decide +kernel
theorem d1_4 : decode prog_6_method_4_code 4 = .ok (.aload_n 1, 1) := by decide +kernel
theorem d1_5 : decode prog_6_method_4_code 5 = .ok (.arraylength, 1) := by decide +kernel
theorem d1_6 : decode prog_6_method_4_code 6 = .ok (.istore_n 2, 1) := by decide +kernel
theorem d1_7 : decode prog_6_method_4_code 7 = .ok (.iconst 0, 1) := by decide +kernel
theorem d1_8 : decode prog_6_method_4_code 8 = .ok (.istore_n 3, 1) := by decide +kernel
theorem d1_9 : decode prog_6_method_4_code 9 = .ok (.iload_n 3, 1) := by decide +kernel
theorem d1_10 : decode prog_6_method_4_code 10 = .ok (.iload_n 2, 1) := by decide +kernel
theorem d1_11 : decode prog_6_method_4_code 11 = .ok (.if_icmp .ge 26, 3) := by decide +kernel
theorem d1_14 : decode prog_6_method_4_code 14 = .ok (.aload_n 1, 1) := by decide +kernel
theorem d1_15 : decode prog_6_method_4_code 15 = .ok (.iload_n 3, 1) := by decide +kernel
theorem d1_16 : decode prog_6_method_4_code 16 = .ok (.aaload, 1) := by decide +kernel
theorem d1_17 : decode prog_6_method_4_code 17 = .ok (.astore 4, 2) := by decide +kernel
theorem d1_19 : decode prog_6_method_4_code 19 = .ok (.aload 4, 2) := by decide +kernel
theorem d1_21 : decode prog_6_method_4_code 21 = .ok (.getfield 35, 3) := by decide +kernel
theorem d1_24 : decode prog_6_method_4_code 24 = .ok (.iload_n 0, 1) := by decide +kernel
theorem d1_25 : decode prog_6_method_4_code 25 = .ok (.if_icmp .ne 6, 3) := by decide +kernel
theorem d1_28 : decode prog_6_method_4_code 28 = .ok (.aload 4, 2) := by decide +kernel
theorem d1_30 : decode prog_6_method_4_code 30 = .ok (.areturn, 1) := by decide +kernel
def Q_rm_from0 (Z : State) (wv : Addr) (kv : ClassId) (w0 : Addr) (w1 : Addr) (w2 : Addr) (w3 : Addr) (h0 : Heap) (n0 : Nat) (v : Option Value) (h : Heap) (L : List Loc) : Prop := v = some (.ref w0) ∧ Fr n0 L ∧ Keep h0 h []
set_option maxRecDepth 65536 in
set_option maxHeartbeats 40000000 in
theorem rm_from0 (l : Launch) (Z : State) (a0 : Array Value) (hw : ∀ d ∈ tables_1, d.before a0 Z = true) (ws : List Jvm.Cond) (wv : Addr) (kv : ClassId) (w0 : Addr) (w1 : Addr) (w2 : Addr) (w3 : Addr) (h0 : Heap) (n0 : Nat) (Z0 : n0 ≤ h0.size) (pr0 : Old Z n0 h0) (pr1 : Sta Z Z.heap "com/example/aurel/aurel/catalog/ProductType" "$VALUES" "[Lcom/example/aurel/aurel/catalog/ProductType;" (.ref wv)) (pr2 : Exa Z Z.heap wv "[Lcom/example/aurel/aurel/catalog/ProductType;") (pr3 : Arv Z Z.heap wv kv (.object "com/example/aurel/aurel/catalog/ProductType") (4 : Int32) [(.ref w0), (.ref w1), (.ref w2), (.ref w3)] .null) (pr4 : Fld Z Z.heap w0 "com/example/aurel/aurel/catalog/ProductType" "code" "I" (.int 0)) (pr5 : Fld Z Z.heap w1 "com/example/aurel/aurel/catalog/ProductType" "code" "I" (.int 1)) (pr6 : Fld Z Z.heap w2 "com/example/aurel/aurel/catalog/ProductType" "code" "I" (.int 2)) (pr7 : Fld Z Z.heap w3 "com/example/aurel/aurel/catalog/ProductType" "code" "I" (.int 3)) :
    Met l Z (⟨"com/example/aurel/aurel/catalog/ProductType", "fromCode", "(I)Lcom/example/aurel/aurel/catalog/ProductType;"⟩ : MethodName) prog_6_method_4_code 5 (some (.object "com/example/aurel/aurel/catalog/ProductType")) ws ({ frames := 2, cells := 1, slots := 4, locals := 25 } : Room) #[(.int 0)] h0 (Q_rm_from0 Z wv kv w0 w1 w2 w3 h0 n0) := by
  refine Met.enter (f0 := fun m => mkF m 0 #[.val (.int 0), .unset, .unset, .unset, .unset] []) (plainFor_of_name pn_com_example_aurel_aurel_catalog_ProductType) (fun m => ef_rm_from0 m ) ?_
  intro p e s m below meth c s₁ hx hby hml hown hnm hret hlk hZ X0 e0
  have hown : s.vm.findClass "com/example/aurel/aurel/catalog/ProductType" = some m.cls := hown
  have hnm : meth.name = "fromCode" := hnm
  have hml : c.maxLocals = 5 := hml
  have hby : c.code = prog_6_method_4_code := hby
  have N0 := Fr.nil n0
  obtain ⟨_, _, ⟨T5, L5, k5, n5⟩, -, X5, ⟨Lc5, hQ5, l5, y5, z5⟩, st5⟩ := Jvm.LawKit.callS X0 hx (y := (⟨"com/example/aurel/aurel/catalog/ProductType", "values", "()[Lcom/example/aurel/aurel/catalog/ProductType;"⟩ : MethodName)) hown (mvT hZ (wd hw 4 rfl)) (mvT hZ (wd hw 5 rfl)) (mvT hZ (wd hw 2 rfl)) (mvT hZ (wd hw 6 rfl)) (by decide) (backOf (W := 0) (rm_values l Z a0 hw [] wv kv w0 w1 w2 w3 h0 n0 Z0 pr0 pr1 pr2 pr3) hZ (wd hw 6 rfl) (wd hw 2 rfl) (by decide) (by decide)) (g := (mkF m 0 #[.val (.int 0), .unset, .unset, .unset, .unset] [])) rfl (by rw [hml]; rfl) (argsL := []) (rest := []) (lenOf pd_0 rfl) rfl (by show 2 * 0 + _ ≤ _; exact Nat.le_of_eq rfl) (hb hby d1_0) (fun _ _ => ⟨rfl, e0, Nat.le_of_ble_eq_true rfl, Nat.le_of_ble_eq_true rfl⟩)
  dsimp only [Pt.U, Pt.locs, Pt.cells, Pt.slots] at X5 l5 y5 z5 st5 hQ5
  subst l5 y5 z5
  obtain ⟨b5, rfl, Nq5, K5, p5_0, p5_1⟩ := hQ5
  have N5 := Fr.app N0 Nq5
  have O6 := pr0.keep K5 all0
  have Z6 : n0 ≤ T5.heap.size := Nat.le_trans Z0 K5.1
  have sz_b5 : h0.size ≤ b5 := p5_1
  refine Go.by (B := (T5.setTop (mkF m 3 #[.val (.int 0), .unset, .unset, .unset, .unset] [(.ref b5)]))) (fun _ k => st5 _ k) ?_
  refine Go.by (B := (T5.setTop (mkF m 5 #[.val (.int 0), .val (.ref b5), .unset, .unset, .unset] [(.ref b5)]))) (fun _ k => XS.astoreN X5.here hx rfl (hb hby d1_3) rfl rfl (l' := #[.val (.int 0), .val (.ref b5), .unset, .unset, .unset]) rfl (XS.aloadN X5.here hx rfl (hb hby d1_4) rfl rfl k)) ?_
  obtain ⟨cl7, Ar7, q7, S7, N_7, Hs7, G7⟩ := id p5_0
  refine Go.by (B := (T5.setTop (mkF m 6 #[.val (.int 0), .val (.ref b5), .unset, .unset, .unset] [(.int 4)]))) (fun _ k => X5.arraylength hx Ar7.1 (State.isArrayOf_alike hZ.alike Ar7.2.1) (g := (mkF m 5 #[.val (.int 0), .val (.ref b5), .unset, .unset, .unset] [(.ref b5)])) rfl rfl (hb hby d1_5) _ (by rw [len_of S7 N_7]; exact k)) ?_
  refine Go.by (B := (T5.setTop (mkF m 16 #[.val (.int 0), .val (.ref b5), .val (.int 4), .val (.int 0), .unset] [(.int 0), (.ref b5)]))) (fun _ k => XS.istoreN X5.here hx rfl (hb hby d1_6) rfl (l' := #[.val (.int 0), .val (.ref b5), .val (.int 4), .unset, .unset]) rfl (XS.iconst X5.here hx rfl (hb hby d1_7) (XS.istoreN X5.here hx rfl (hb hby d1_8) rfl (l' := #[.val (.int 0), .val (.ref b5), .val (.int 4), .val (.int 0), .unset]) rfl (XS.iloadN X5.here hx rfl (hb hby d1_9) rfl (XS.iloadN X5.here hx rfl (hb hby d1_10) rfl (XS.icmpNo X5.here hx rfl (hb hby d1_11) rfl (tlt (by decide : (0 : Int32) < (4 : Int32))).2.1 (XS.aloadN X5.here hx rfl (hb hby d1_14) rfl rfl (XS.iloadN X5.here hx rfl (hb hby d1_15) rfl k)))))))) ?_
  obtain ⟨cl8, Ar8, q8, S8, N_8, Hs8, G8⟩ := id p5_0
  have hin9 : ¬ ((0 : Int32) < 0 ∨ cl8.slots.size ≤ ((0 : Int32)).toNatClampNeg) := inb_of S8 ⟨by decide, by decide⟩
  have hat9 : cl8.slots[((0 : Int32)).toNatClampNeg]? = some (.ref w0) := Hs8.at hin9 rfl
  refine Go.by (B := (T5.setTop (mkF m 17 #[.val (.int 0), .val (.ref b5), .val (.int 4), .val (.int 0), .unset] [(.ref w0)]))) (fun _ k => X5.aaload hx (j := (0 : Int32)) (v := (.ref w0)) Ar8.1 (State.isArrayOf_alike hZ.alike Ar8.2.1) rfl Ar8.2.2 hin9 hat9 (g := (mkF m 16 #[.val (.int 0), .val (.ref b5), .val (.int 4), .val (.int 0), .unset] [(.int 0), (.ref b5)])) rfl rfl (hb hby d1_16) _ k) ?_
  refine Go.by (B := (T5.setTop (mkF m 21 #[.val (.int 0), .val (.ref b5), .val (.int 4), .val (.int 0), .val (.ref w0)] [(.ref w0)]))) (fun _ k => XS.astore X5.here hx rfl (hb hby d1_17) rfl rfl (l' := #[.val (.int 0), .val (.ref b5), .val (.int 4), .val (.int 0), .val (.ref w0)]) rfl (XS.aload X5.here hx rfl (hb hby d1_19) rfl rfl k)) ?_
  obtain ⟨T10, X10, e10, st10⟩ := getF X5 hx hZ hown (host := "") (Or.inl (wd hw 23 rfl)) Via.refl rfl (pr4.ext O6.2) (g := (mkF m 21 #[.val (.int 0), .val (.ref b5), .val (.int 4), .val (.int 0), .val (.ref w0)] [(.ref w0)])) rfl rfl (hb hby d1_21)
  refine Go.by (B := (T10.setTop (mkF m 24 #[.val (.int 0), .val (.ref b5), .val (.int 4), .val (.int 0), .val (.ref w0)] [(.int 0)]))) st10 ?_
  refine Go.by (B := (T10.setTop (mkF m 30 #[.val (.int 0), .val (.ref b5), .val (.int 4), .val (.int 0), .val (.ref w0)] [(.ref w0)]))) (fun _ k => XS.iloadN X10.here hx rfl (hb hby d1_24) rfl (XS.icmpNo X10.here hx rfl (hb hby d1_25) rfl (teq (by decide : (0 : Int32) = (0 : Int32))).2 (XS.aload X10.here hx rfl (hb hby d1_28) rfl rfl k))) ?_
  refine Go.ret X10 hx hlk (t := (.object "com/example/aurel/aurel/catalog/ProductType")) hret rfl (Or.inr (Or.inr (Or.inr (Or.inr ⟨rfl, rfl, rfl⟩)))) (hb hby d1_30) (by decide) (by decide) ?_
  rw [e10]
  exact ⟨rfl, N5, ((Keep.refl h0 []).trans K5 all0)⟩
theorem ef_rm_from1 (m : MethodId)  : entryFrame m #[(.int 1)] 5 = mkF m 0 #[.val (.int 1), .unset, .unset, .unset, .unset] [] := by first | (simp [entryFrame, mkF, argsToLocals, Value.category]; done) | rfl
theorem d1_31 : decode prog_6_method_4_code 31 = .ok (.iinc 3 1, 3) := by decide +kernel
theorem d1_34 : decode prog_6_method_4_code 34 = .ok (.goto (-25), 3) := by decide +kernel
def Q_rm_from1 (Z : State) (wv : Addr) (kv : ClassId) (w0 : Addr) (w1 : Addr) (w2 : Addr) (w3 : Addr) (h0 : Heap) (n0 : Nat) (v : Option Value) (h : Heap) (L : List Loc) : Prop := v = some (.ref w1) ∧ Fr n0 L ∧ Keep h0 h []
set_option maxRecDepth 65536 in
set_option maxHeartbeats 40000000 in
theorem rm_from1 (l : Launch) (Z : State) (a0 : Array Value) (hw : ∀ d ∈ tables_1, d.before a0 Z = true) (ws : List Jvm.Cond) (wv : Addr) (kv : ClassId) (w0 : Addr) (w1 : Addr) (w2 : Addr) (w3 : Addr) (h0 : Heap) (n0 : Nat) (Z0 : n0 ≤ h0.size) (pr0 : Old Z n0 h0) (pr1 : Sta Z Z.heap "com/example/aurel/aurel/catalog/ProductType" "$VALUES" "[Lcom/example/aurel/aurel/catalog/ProductType;" (.ref wv)) (pr2 : Exa Z Z.heap wv "[Lcom/example/aurel/aurel/catalog/ProductType;") (pr3 : Arv Z Z.heap wv kv (.object "com/example/aurel/aurel/catalog/ProductType") (4 : Int32) [(.ref w0), (.ref w1), (.ref w2), (.ref w3)] .null) (pr4 : Fld Z Z.heap w0 "com/example/aurel/aurel/catalog/ProductType" "code" "I" (.int 0)) (pr5 : Fld Z Z.heap w1 "com/example/aurel/aurel/catalog/ProductType" "code" "I" (.int 1)) (pr6 : Fld Z Z.heap w2 "com/example/aurel/aurel/catalog/ProductType" "code" "I" (.int 2)) (pr7 : Fld Z Z.heap w3 "com/example/aurel/aurel/catalog/ProductType" "code" "I" (.int 3)) :
    Met l Z (⟨"com/example/aurel/aurel/catalog/ProductType", "fromCode", "(I)Lcom/example/aurel/aurel/catalog/ProductType;"⟩ : MethodName) prog_6_method_4_code 5 (some (.object "com/example/aurel/aurel/catalog/ProductType")) ws ({ frames := 2, cells := 1, slots := 4, locals := 25 } : Room) #[(.int 1)] h0 (Q_rm_from1 Z wv kv w0 w1 w2 w3 h0 n0) := by
  refine Met.enter (f0 := fun m => mkF m 0 #[.val (.int 1), .unset, .unset, .unset, .unset] []) (plainFor_of_name pn_com_example_aurel_aurel_catalog_ProductType) (fun m => ef_rm_from1 m ) ?_
  intro p e s m below meth c s₁ hx hby hml hown hnm hret hlk hZ X0 e0
  have hown : s.vm.findClass "com/example/aurel/aurel/catalog/ProductType" = some m.cls := hown
  have hnm : meth.name = "fromCode" := hnm
  have hml : c.maxLocals = 5 := hml
  have hby : c.code = prog_6_method_4_code := hby
  have N0 := Fr.nil n0
  obtain ⟨_, _, ⟨T11, L11, k11, n11⟩, -, X11, ⟨Lc11, hQ11, l11, y11, z11⟩, st11⟩ := Jvm.LawKit.callS X0 hx (y := (⟨"com/example/aurel/aurel/catalog/ProductType", "values", "()[Lcom/example/aurel/aurel/catalog/ProductType;"⟩ : MethodName)) hown (mvT hZ (wd hw 4 rfl)) (mvT hZ (wd hw 5 rfl)) (mvT hZ (wd hw 2 rfl)) (mvT hZ (wd hw 6 rfl)) (by decide) (backOf (W := 0) (rm_values l Z a0 hw [] wv kv w0 w1 w2 w3 h0 n0 Z0 pr0 pr1 pr2 pr3) hZ (wd hw 6 rfl) (wd hw 2 rfl) (by decide) (by decide)) (g := (mkF m 0 #[.val (.int 1), .unset, .unset, .unset, .unset] [])) rfl (by rw [hml]; rfl) (argsL := []) (rest := []) (lenOf pd_0 rfl) rfl (by show 2 * 0 + _ ≤ _; exact Nat.le_of_eq rfl) (hb hby d1_0) (fun _ _ => ⟨rfl, e0, Nat.le_of_ble_eq_true rfl, Nat.le_of_ble_eq_true rfl⟩)
  dsimp only [Pt.U, Pt.locs, Pt.cells, Pt.slots] at X11 l11 y11 z11 st11 hQ11
  subst l11 y11 z11
  obtain ⟨b11, rfl, Nq11, K11, p11_0, p11_1⟩ := hQ11
  have N11 := Fr.app N0 Nq11
  have O12 := pr0.keep K11 all0
  have Z12 : n0 ≤ T11.heap.size := Nat.le_trans Z0 K11.1
  have sz_b11 : h0.size ≤ b11 := p11_1
  refine Go.by (B := (T11.setTop (mkF m 3 #[.val (.int 1), .unset, .unset, .unset, .unset] [(.ref b11)]))) (fun _ k => st11 _ k) ?_
  refine Go.by (B := (T11.setTop (mkF m 5 #[.val (.int 1), .val (.ref b11), .unset, .unset, .unset] [(.ref b11)]))) (fun _ k => XS.astoreN X11.here hx rfl (hb hby d1_3) rfl rfl (l' := #[.val (.int 1), .val (.ref b11), .unset, .unset, .unset]) rfl (XS.aloadN X11.here hx rfl (hb hby d1_4) rfl rfl k)) ?_
  obtain ⟨cl13, Ar13, q13, S13, N_13, Hs13, G13⟩ := id p11_0
  refine Go.by (B := (T11.setTop (mkF m 6 #[.val (.int 1), .val (.ref b11), .unset, .unset, .unset] [(.int 4)]))) (fun _ k => X11.arraylength hx Ar13.1 (State.isArrayOf_alike hZ.alike Ar13.2.1) (g := (mkF m 5 #[.val (.int 1), .val (.ref b11), .unset, .unset, .unset] [(.ref b11)])) rfl rfl (hb hby d1_5) _ (by rw [len_of S13 N_13]; exact k)) ?_
  refine Go.by (B := (T11.setTop (mkF m 16 #[.val (.int 1), .val (.ref b11), .val (.int 4), .val (.int 0), .unset] [(.int 0), (.ref b11)]))) (fun _ k => XS.istoreN X11.here hx rfl (hb hby d1_6) rfl (l' := #[.val (.int 1), .val (.ref b11), .val (.int 4), .unset, .unset]) rfl (XS.iconst X11.here hx rfl (hb hby d1_7) (XS.istoreN X11.here hx rfl (hb hby d1_8) rfl (l' := #[.val (.int 1), .val (.ref b11), .val (.int 4), .val (.int 0), .unset]) rfl (XS.iloadN X11.here hx rfl (hb hby d1_9) rfl (XS.iloadN X11.here hx rfl (hb hby d1_10) rfl (XS.icmpNo X11.here hx rfl (hb hby d1_11) rfl (tlt (by decide : (0 : Int32) < (4 : Int32))).2.1 (XS.aloadN X11.here hx rfl (hb hby d1_14) rfl rfl (XS.iloadN X11.here hx rfl (hb hby d1_15) rfl k)))))))) ?_
  obtain ⟨cl14, Ar14, q14, S14, N_14, Hs14, G14⟩ := id p11_0
  have hin15 : ¬ ((0 : Int32) < 0 ∨ cl14.slots.size ≤ ((0 : Int32)).toNatClampNeg) := inb_of S14 ⟨by decide, by decide⟩
  have hat15 : cl14.slots[((0 : Int32)).toNatClampNeg]? = some (.ref w0) := Hs14.at hin15 rfl
  refine Go.by (B := (T11.setTop (mkF m 17 #[.val (.int 1), .val (.ref b11), .val (.int 4), .val (.int 0), .unset] [(.ref w0)]))) (fun _ k => X11.aaload hx (j := (0 : Int32)) (v := (.ref w0)) Ar14.1 (State.isArrayOf_alike hZ.alike Ar14.2.1) rfl Ar14.2.2 hin15 hat15 (g := (mkF m 16 #[.val (.int 1), .val (.ref b11), .val (.int 4), .val (.int 0), .unset] [(.int 0), (.ref b11)])) rfl rfl (hb hby d1_16) _ k) ?_
  refine Go.by (B := (T11.setTop (mkF m 21 #[.val (.int 1), .val (.ref b11), .val (.int 4), .val (.int 0), .val (.ref w0)] [(.ref w0)]))) (fun _ k => XS.astore X11.here hx rfl (hb hby d1_17) rfl rfl (l' := #[.val (.int 1), .val (.ref b11), .val (.int 4), .val (.int 0), .val (.ref w0)]) rfl (XS.aload X11.here hx rfl (hb hby d1_19) rfl rfl k)) ?_
  obtain ⟨T16, X16, e16, st16⟩ := getF X11 hx hZ hown (host := "") (Or.inl (wd hw 23 rfl)) Via.refl rfl (pr4.ext O12.2) (g := (mkF m 21 #[.val (.int 1), .val (.ref b11), .val (.int 4), .val (.int 0), .val (.ref w0)] [(.ref w0)])) rfl rfl (hb hby d1_21)
  refine Go.by (B := (T16.setTop (mkF m 24 #[.val (.int 1), .val (.ref b11), .val (.int 4), .val (.int 0), .val (.ref w0)] [(.int 0)]))) st16 ?_
  refine Go.by (B := (T16.setTop (mkF m 15 #[.val (.int 1), .val (.ref b11), .val (.int 4), .val (.int 1), .val (.ref w0)] [(.ref b11)]))) (fun _ k => XS.iloadN X16.here hx rfl (hb hby d1_24) rfl (XS.icmpYes X16.here hx rfl (pc0 := 25) (pc' := 31) rfl (hb hby d1_25) rfl (feq (by decide : ¬ ((0 : Int32) = (1 : Int32)))).2 (by decide) (by decide) (XS.iinc X16.here hx rfl (hb hby d1_31) rfl (l' := #[.val (.int 1), .val (.ref b11), .val (.int 4), .val (.int 1), .val (.ref w0)]) rfl (XS.goto X16.here hx rfl (pc0 := 34) (pc' := 9) rfl (hb hby d1_34) (by decide) (by decide) (XS.iloadN X16.here hx rfl (hb hby d1_9) rfl (XS.iloadN X16.here hx rfl (hb hby d1_10) rfl (XS.icmpNo X16.here hx rfl (hb hby d1_11) rfl (tlt (by decide : (1 : Int32) < (4 : Int32))).2.1 (XS.aloadN X16.here hx rfl (hb hby d1_14) rfl rfl k)))))))) ?_
  refine Go.by (B := (T16.setTop (mkF m 16 #[.val (.int 1), .val (.ref b11), .val (.int 4), .val (.int 1), .val (.ref w0)] [(.int 1), (.ref b11)]))) (fun _ k => XS.iloadN X16.here hx rfl (hb hby d1_15) rfl k) ?_
  obtain ⟨cl17, Ar17, q17, S17, N_17, Hs17, G17⟩ := id p11_0
  have hin18 : ¬ ((1 : Int32) < 0 ∨ cl17.slots.size ≤ ((1 : Int32)).toNatClampNeg) := inb_of S17 ⟨by decide, by decide⟩
  have hat18 : cl17.slots[((1 : Int32)).toNatClampNeg]? = some (.ref w1) := Hs17.at hin18 rfl
  refine Go.by (B := (T16.setTop (mkF m 17 #[.val (.int 1), .val (.ref b11), .val (.int 4), .val (.int 1), .val (.ref w0)] [(.ref w1)]))) (fun _ k => X16.aaload hx (j := (1 : Int32)) (v := (.ref w1)) (by rw [e16]; exact Ar17.1) (State.isArrayOf_alike hZ.alike Ar17.2.1) rfl Ar17.2.2 hin18 hat18 (g := (mkF m 16 #[.val (.int 1), .val (.ref b11), .val (.int 4), .val (.int 1), .val (.ref w0)] [(.int 1), (.ref b11)])) rfl rfl (hb hby d1_16) _ k) ?_
  refine Go.by (B := (T16.setTop (mkF m 21 #[.val (.int 1), .val (.ref b11), .val (.int 4), .val (.int 1), .val (.ref w1)] [(.ref w1)]))) (fun _ k => XS.astore X16.here hx rfl (hb hby d1_17) rfl rfl (l' := #[.val (.int 1), .val (.ref b11), .val (.int 4), .val (.int 1), .val (.ref w1)]) rfl (XS.aload X16.here hx rfl (hb hby d1_19) rfl rfl k)) ?_
  obtain ⟨T19, X19, e19, st19⟩ := getF X16 hx hZ hown (host := "") (Or.inl (wd hw 23 rfl)) Via.refl e16 (pr5.ext O12.2) (g := (mkF m 21 #[.val (.int 1), .val (.ref b11), .val (.int 4), .val (.int 1), .val (.ref w1)] [(.ref w1)])) rfl rfl (hb hby d1_21)
  refine Go.by (B := (T19.setTop (mkF m 24 #[.val (.int 1), .val (.ref b11), .val (.int 4), .val (.int 1), .val (.ref w1)] [(.int 1)]))) st19 ?_
  refine Go.by (B := (T19.setTop (mkF m 30 #[.val (.int 1), .val (.ref b11), .val (.int 4), .val (.int 1), .val (.ref w1)] [(.ref w1)]))) (fun _ k => XS.iloadN X19.here hx rfl (hb hby d1_24) rfl (XS.icmpNo X19.here hx rfl (hb hby d1_25) rfl (teq (by decide : (1 : Int32) = (1 : Int32))).2 (XS.aload X19.here hx rfl (hb hby d1_28) rfl rfl k))) ?_
  refine Go.ret X19 hx hlk (t := (.object "com/example/aurel/aurel/catalog/ProductType")) hret rfl (Or.inr (Or.inr (Or.inr (Or.inr ⟨rfl, rfl, rfl⟩)))) (hb hby d1_30) (by decide) (by decide) ?_
  rw [e19]
  exact ⟨rfl, N11, ((Keep.refl h0 []).trans K11 all0)⟩
theorem ef_rm_from2 (m : MethodId)  : entryFrame m #[(.int 2)] 5 = mkF m 0 #[.val (.int 2), .unset, .unset, .unset, .unset] [] := by first | (simp [entryFrame, mkF, argsToLocals, Value.category]; done) | rfl
def Q_rm_from2 (Z : State) (wv : Addr) (kv : ClassId) (w0 : Addr) (w1 : Addr) (w2 : Addr) (w3 : Addr) (h0 : Heap) (n0 : Nat) (v : Option Value) (h : Heap) (L : List Loc) : Prop := v = some (.ref w2) ∧ Fr n0 L ∧ Keep h0 h []
set_option maxRecDepth 65536 in
set_option maxHeartbeats 40000000 in
theorem rm_from2 (l : Launch) (Z : State) (a0 : Array Value) (hw : ∀ d ∈ tables_1, d.before a0 Z = true) (ws : List Jvm.Cond) (wv : Addr) (kv : ClassId) (w0 : Addr) (w1 : Addr) (w2 : Addr) (w3 : Addr) (h0 : Heap) (n0 : Nat) (Z0 : n0 ≤ h0.size) (pr0 : Old Z n0 h0) (pr1 : Sta Z Z.heap "com/example/aurel/aurel/catalog/ProductType" "$VALUES" "[Lcom/example/aurel/aurel/catalog/ProductType;" (.ref wv)) (pr2 : Exa Z Z.heap wv "[Lcom/example/aurel/aurel/catalog/ProductType;") (pr3 : Arv Z Z.heap wv kv (.object "com/example/aurel/aurel/catalog/ProductType") (4 : Int32) [(.ref w0), (.ref w1), (.ref w2), (.ref w3)] .null) (pr4 : Fld Z Z.heap w0 "com/example/aurel/aurel/catalog/ProductType" "code" "I" (.int 0)) (pr5 : Fld Z Z.heap w1 "com/example/aurel/aurel/catalog/ProductType" "code" "I" (.int 1)) (pr6 : Fld Z Z.heap w2 "com/example/aurel/aurel/catalog/ProductType" "code" "I" (.int 2)) (pr7 : Fld Z Z.heap w3 "com/example/aurel/aurel/catalog/ProductType" "code" "I" (.int 3)) :
    Met l Z (⟨"com/example/aurel/aurel/catalog/ProductType", "fromCode", "(I)Lcom/example/aurel/aurel/catalog/ProductType;"⟩ : MethodName) prog_6_method_4_code 5 (some (.object "com/example/aurel/aurel/catalog/ProductType")) ws ({ frames := 2, cells := 1, slots := 4, locals := 25 } : Room) #[(.int 2)] h0 (Q_rm_from2 Z wv kv w0 w1 w2 w3 h0 n0) := by
  refine Met.enter (f0 := fun m => mkF m 0 #[.val (.int 2), .unset, .unset, .unset, .unset] []) (plainFor_of_name pn_com_example_aurel_aurel_catalog_ProductType) (fun m => ef_rm_from2 m ) ?_
  intro p e s m below meth c s₁ hx hby hml hown hnm hret hlk hZ X0 e0
  have hown : s.vm.findClass "com/example/aurel/aurel/catalog/ProductType" = some m.cls := hown
  have hnm : meth.name = "fromCode" := hnm
  have hml : c.maxLocals = 5 := hml
  have hby : c.code = prog_6_method_4_code := hby
  have N0 := Fr.nil n0
  obtain ⟨_, _, ⟨T20, L20, k20, n20⟩, -, X20, ⟨Lc20, hQ20, l20, y20, z20⟩, st20⟩ := Jvm.LawKit.callS X0 hx (y := (⟨"com/example/aurel/aurel/catalog/ProductType", "values", "()[Lcom/example/aurel/aurel/catalog/ProductType;"⟩ : MethodName)) hown (mvT hZ (wd hw 4 rfl)) (mvT hZ (wd hw 5 rfl)) (mvT hZ (wd hw 2 rfl)) (mvT hZ (wd hw 6 rfl)) (by decide) (backOf (W := 0) (rm_values l Z a0 hw [] wv kv w0 w1 w2 w3 h0 n0 Z0 pr0 pr1 pr2 pr3) hZ (wd hw 6 rfl) (wd hw 2 rfl) (by decide) (by decide)) (g := (mkF m 0 #[.val (.int 2), .unset, .unset, .unset, .unset] [])) rfl (by rw [hml]; rfl) (argsL := []) (rest := []) (lenOf pd_0 rfl) rfl (by show 2 * 0 + _ ≤ _; exact Nat.le_of_eq rfl) (hb hby d1_0) (fun _ _ => ⟨rfl, e0, Nat.le_of_ble_eq_true rfl, Nat.le_of_ble_eq_true rfl⟩)
  dsimp only [Pt.U, Pt.locs, Pt.cells, Pt.slots] at X20 l20 y20 z20 st20 hQ20
  subst l20 y20 z20
  obtain ⟨b20, rfl, Nq20, K20, p20_0, p20_1⟩ := hQ20
  have N20 := Fr.app N0 Nq20
  have O21 := pr0.keep K20 all0
  have Z21 : n0 ≤ T20.heap.size := Nat.le_trans Z0 K20.1
  have sz_b20 : h0.size ≤ b20 := p20_1
  refine Go.by (B := (T20.setTop (mkF m 3 #[.val (.int 2), .unset, .unset, .unset, .unset] [(.ref b20)]))) (fun _ k => st20 _ k) ?_
  refine Go.by (B := (T20.setTop (mkF m 5 #[.val (.int 2), .val (.ref b20), .unset, .unset, .unset] [(.ref b20)]))) (fun _ k => XS.astoreN X20.here hx rfl (hb hby d1_3) rfl rfl (l' := #[.val (.int 2), .val (.ref b20), .unset, .unset, .unset]) rfl (XS.aloadN X20.here hx rfl (hb hby d1_4) rfl rfl k)) ?_
  obtain ⟨cl22, Ar22, q22, S22, N_22, Hs22, G22⟩ := id p20_0
  refine Go.by (B := (T20.setTop (mkF m 6 #[.val (.int 2), .val (.ref b20), .unset, .unset, .unset] [(.int 4)]))) (fun _ k => X20.arraylength hx Ar22.1 (State.isArrayOf_alike hZ.alike Ar22.2.1) (g := (mkF m 5 #[.val (.int 2), .val (.ref b20), .unset, .unset, .unset] [(.ref b20)])) rfl rfl (hb hby d1_5) _ (by rw [len_of S22 N_22]; exact k)) ?_
  refine Go.by (B := (T20.setTop (mkF m 16 #[.val (.int 2), .val (.ref b20), .val (.int 4), .val (.int 0), .unset] [(.int 0), (.ref b20)]))) (fun _ k => XS.istoreN X20.here hx rfl (hb hby d1_6) rfl (l' := #[.val (.int 2), .val (.ref b20), .val (.int 4), .unset, .unset]) rfl (XS.iconst X20.here hx rfl (hb hby d1_7) (XS.istoreN X20.here hx rfl (hb hby d1_8) rfl (l' := #[.val (.int 2), .val (.ref b20), .val (.int 4), .val (.int 0), .unset]) rfl (XS.iloadN X20.here hx rfl (hb hby d1_9) rfl (XS.iloadN X20.here hx rfl (hb hby d1_10) rfl (XS.icmpNo X20.here hx rfl (hb hby d1_11) rfl (tlt (by decide : (0 : Int32) < (4 : Int32))).2.1 (XS.aloadN X20.here hx rfl (hb hby d1_14) rfl rfl (XS.iloadN X20.here hx rfl (hb hby d1_15) rfl k)))))))) ?_
  obtain ⟨cl23, Ar23, q23, S23, N_23, Hs23, G23⟩ := id p20_0
  have hin24 : ¬ ((0 : Int32) < 0 ∨ cl23.slots.size ≤ ((0 : Int32)).toNatClampNeg) := inb_of S23 ⟨by decide, by decide⟩
  have hat24 : cl23.slots[((0 : Int32)).toNatClampNeg]? = some (.ref w0) := Hs23.at hin24 rfl
  refine Go.by (B := (T20.setTop (mkF m 17 #[.val (.int 2), .val (.ref b20), .val (.int 4), .val (.int 0), .unset] [(.ref w0)]))) (fun _ k => X20.aaload hx (j := (0 : Int32)) (v := (.ref w0)) Ar23.1 (State.isArrayOf_alike hZ.alike Ar23.2.1) rfl Ar23.2.2 hin24 hat24 (g := (mkF m 16 #[.val (.int 2), .val (.ref b20), .val (.int 4), .val (.int 0), .unset] [(.int 0), (.ref b20)])) rfl rfl (hb hby d1_16) _ k) ?_
  refine Go.by (B := (T20.setTop (mkF m 21 #[.val (.int 2), .val (.ref b20), .val (.int 4), .val (.int 0), .val (.ref w0)] [(.ref w0)]))) (fun _ k => XS.astore X20.here hx rfl (hb hby d1_17) rfl rfl (l' := #[.val (.int 2), .val (.ref b20), .val (.int 4), .val (.int 0), .val (.ref w0)]) rfl (XS.aload X20.here hx rfl (hb hby d1_19) rfl rfl k)) ?_
  obtain ⟨T25, X25, e25, st25⟩ := getF X20 hx hZ hown (host := "") (Or.inl (wd hw 23 rfl)) Via.refl rfl (pr4.ext O21.2) (g := (mkF m 21 #[.val (.int 2), .val (.ref b20), .val (.int 4), .val (.int 0), .val (.ref w0)] [(.ref w0)])) rfl rfl (hb hby d1_21)
  refine Go.by (B := (T25.setTop (mkF m 24 #[.val (.int 2), .val (.ref b20), .val (.int 4), .val (.int 0), .val (.ref w0)] [(.int 0)]))) st25 ?_
  refine Go.by (B := (T25.setTop (mkF m 15 #[.val (.int 2), .val (.ref b20), .val (.int 4), .val (.int 1), .val (.ref w0)] [(.ref b20)]))) (fun _ k => XS.iloadN X25.here hx rfl (hb hby d1_24) rfl (XS.icmpYes X25.here hx rfl (pc0 := 25) (pc' := 31) rfl (hb hby d1_25) rfl (feq (by decide : ¬ ((0 : Int32) = (2 : Int32)))).2 (by decide) (by decide) (XS.iinc X25.here hx rfl (hb hby d1_31) rfl (l' := #[.val (.int 2), .val (.ref b20), .val (.int 4), .val (.int 1), .val (.ref w0)]) rfl (XS.goto X25.here hx rfl (pc0 := 34) (pc' := 9) rfl (hb hby d1_34) (by decide) (by decide) (XS.iloadN X25.here hx rfl (hb hby d1_9) rfl (XS.iloadN X25.here hx rfl (hb hby d1_10) rfl (XS.icmpNo X25.here hx rfl (hb hby d1_11) rfl (tlt (by decide : (1 : Int32) < (4 : Int32))).2.1 (XS.aloadN X25.here hx rfl (hb hby d1_14) rfl rfl k)))))))) ?_
  refine Go.by (B := (T25.setTop (mkF m 16 #[.val (.int 2), .val (.ref b20), .val (.int 4), .val (.int 1), .val (.ref w0)] [(.int 1), (.ref b20)]))) (fun _ k => XS.iloadN X25.here hx rfl (hb hby d1_15) rfl k) ?_
  obtain ⟨cl26, Ar26, q26, S26, N_26, Hs26, G26⟩ := id p20_0
  have hin27 : ¬ ((1 : Int32) < 0 ∨ cl26.slots.size ≤ ((1 : Int32)).toNatClampNeg) := inb_of S26 ⟨by decide, by decide⟩
  have hat27 : cl26.slots[((1 : Int32)).toNatClampNeg]? = some (.ref w1) := Hs26.at hin27 rfl
  refine Go.by (B := (T25.setTop (mkF m 17 #[.val (.int 2), .val (.ref b20), .val (.int 4), .val (.int 1), .val (.ref w0)] [(.ref w1)]))) (fun _ k => X25.aaload hx (j := (1 : Int32)) (v := (.ref w1)) (by rw [e25]; exact Ar26.1) (State.isArrayOf_alike hZ.alike Ar26.2.1) rfl Ar26.2.2 hin27 hat27 (g := (mkF m 16 #[.val (.int 2), .val (.ref b20), .val (.int 4), .val (.int 1), .val (.ref w0)] [(.int 1), (.ref b20)])) rfl rfl (hb hby d1_16) _ k) ?_
  refine Go.by (B := (T25.setTop (mkF m 21 #[.val (.int 2), .val (.ref b20), .val (.int 4), .val (.int 1), .val (.ref w1)] [(.ref w1)]))) (fun _ k => XS.astore X25.here hx rfl (hb hby d1_17) rfl rfl (l' := #[.val (.int 2), .val (.ref b20), .val (.int 4), .val (.int 1), .val (.ref w1)]) rfl (XS.aload X25.here hx rfl (hb hby d1_19) rfl rfl k)) ?_
  obtain ⟨T28, X28, e28, st28⟩ := getF X25 hx hZ hown (host := "") (Or.inl (wd hw 23 rfl)) Via.refl e25 (pr5.ext O21.2) (g := (mkF m 21 #[.val (.int 2), .val (.ref b20), .val (.int 4), .val (.int 1), .val (.ref w1)] [(.ref w1)])) rfl rfl (hb hby d1_21)
  refine Go.by (B := (T28.setTop (mkF m 24 #[.val (.int 2), .val (.ref b20), .val (.int 4), .val (.int 1), .val (.ref w1)] [(.int 1)]))) st28 ?_
  refine Go.by (B := (T28.setTop (mkF m 15 #[.val (.int 2), .val (.ref b20), .val (.int 4), .val (.int 2), .val (.ref w1)] [(.ref b20)]))) (fun _ k => XS.iloadN X28.here hx rfl (hb hby d1_24) rfl (XS.icmpYes X28.here hx rfl (pc0 := 25) (pc' := 31) rfl (hb hby d1_25) rfl (feq (by decide : ¬ ((1 : Int32) = (2 : Int32)))).2 (by decide) (by decide) (XS.iinc X28.here hx rfl (hb hby d1_31) rfl (l' := #[.val (.int 2), .val (.ref b20), .val (.int 4), .val (.int 2), .val (.ref w1)]) rfl (XS.goto X28.here hx rfl (pc0 := 34) (pc' := 9) rfl (hb hby d1_34) (by decide) (by decide) (XS.iloadN X28.here hx rfl (hb hby d1_9) rfl (XS.iloadN X28.here hx rfl (hb hby d1_10) rfl (XS.icmpNo X28.here hx rfl (hb hby d1_11) rfl (tlt (by decide : (2 : Int32) < (4 : Int32))).2.1 (XS.aloadN X28.here hx rfl (hb hby d1_14) rfl rfl k)))))))) ?_
  refine Go.by (B := (T28.setTop (mkF m 16 #[.val (.int 2), .val (.ref b20), .val (.int 4), .val (.int 2), .val (.ref w1)] [(.int 2), (.ref b20)]))) (fun _ k => XS.iloadN X28.here hx rfl (hb hby d1_15) rfl k) ?_
  obtain ⟨cl29, Ar29, q29, S29, N_29, Hs29, G29⟩ := id p20_0
  have hin30 : ¬ ((2 : Int32) < 0 ∨ cl29.slots.size ≤ ((2 : Int32)).toNatClampNeg) := inb_of S29 ⟨by decide, by decide⟩
  have hat30 : cl29.slots[((2 : Int32)).toNatClampNeg]? = some (.ref w2) := Hs29.at hin30 rfl
  refine Go.by (B := (T28.setTop (mkF m 17 #[.val (.int 2), .val (.ref b20), .val (.int 4), .val (.int 2), .val (.ref w1)] [(.ref w2)]))) (fun _ k => X28.aaload hx (j := (2 : Int32)) (v := (.ref w2)) (by rw [e28]; exact Ar29.1) (State.isArrayOf_alike hZ.alike Ar29.2.1) rfl Ar29.2.2 hin30 hat30 (g := (mkF m 16 #[.val (.int 2), .val (.ref b20), .val (.int 4), .val (.int 2), .val (.ref w1)] [(.int 2), (.ref b20)])) rfl rfl (hb hby d1_16) _ k) ?_
  refine Go.by (B := (T28.setTop (mkF m 21 #[.val (.int 2), .val (.ref b20), .val (.int 4), .val (.int 2), .val (.ref w2)] [(.ref w2)]))) (fun _ k => XS.astore X28.here hx rfl (hb hby d1_17) rfl rfl (l' := #[.val (.int 2), .val (.ref b20), .val (.int 4), .val (.int 2), .val (.ref w2)]) rfl (XS.aload X28.here hx rfl (hb hby d1_19) rfl rfl k)) ?_
  obtain ⟨T31, X31, e31, st31⟩ := getF X28 hx hZ hown (host := "") (Or.inl (wd hw 23 rfl)) Via.refl e28 (pr6.ext O21.2) (g := (mkF m 21 #[.val (.int 2), .val (.ref b20), .val (.int 4), .val (.int 2), .val (.ref w2)] [(.ref w2)])) rfl rfl (hb hby d1_21)
  refine Go.by (B := (T31.setTop (mkF m 24 #[.val (.int 2), .val (.ref b20), .val (.int 4), .val (.int 2), .val (.ref w2)] [(.int 2)]))) st31 ?_
  refine Go.by (B := (T31.setTop (mkF m 30 #[.val (.int 2), .val (.ref b20), .val (.int 4), .val (.int 2), .val (.ref w2)] [(.ref w2)]))) (fun _ k => XS.iloadN X31.here hx rfl (hb hby d1_24) rfl (XS.icmpNo X31.here hx rfl (hb hby d1_25) rfl (teq (by decide : (2 : Int32) = (2 : Int32))).2 (XS.aload X31.here hx rfl (hb hby d1_28) rfl rfl k))) ?_
  refine Go.ret X31 hx hlk (t := (.object "com/example/aurel/aurel/catalog/ProductType")) hret rfl (Or.inr (Or.inr (Or.inr (Or.inr ⟨rfl, rfl, rfl⟩)))) (hb hby d1_30) (by decide) (by decide) ?_
  rw [e31]
  exact ⟨rfl, N20, ((Keep.refl h0 []).trans K20 all0)⟩
theorem ef_rm_from3 (m : MethodId)  : entryFrame m #[(.int 3)] 5 = mkF m 0 #[.val (.int 3), .unset, .unset, .unset, .unset] [] := by first | (simp [entryFrame, mkF, argsToLocals, Value.category]; done) | rfl
def Q_rm_from3 (Z : State) (wv : Addr) (kv : ClassId) (w0 : Addr) (w1 : Addr) (w2 : Addr) (w3 : Addr) (h0 : Heap) (n0 : Nat) (v : Option Value) (h : Heap) (L : List Loc) : Prop := v = some (.ref w3) ∧ Fr n0 L ∧ Keep h0 h []
set_option maxRecDepth 65536 in
set_option maxHeartbeats 40000000 in
theorem rm_from3 (l : Launch) (Z : State) (a0 : Array Value) (hw : ∀ d ∈ tables_1, d.before a0 Z = true) (ws : List Jvm.Cond) (wv : Addr) (kv : ClassId) (w0 : Addr) (w1 : Addr) (w2 : Addr) (w3 : Addr) (h0 : Heap) (n0 : Nat) (Z0 : n0 ≤ h0.size) (pr0 : Old Z n0 h0) (pr1 : Sta Z Z.heap "com/example/aurel/aurel/catalog/ProductType" "$VALUES" "[Lcom/example/aurel/aurel/catalog/ProductType;" (.ref wv)) (pr2 : Exa Z Z.heap wv "[Lcom/example/aurel/aurel/catalog/ProductType;") (pr3 : Arv Z Z.heap wv kv (.object "com/example/aurel/aurel/catalog/ProductType") (4 : Int32) [(.ref w0), (.ref w1), (.ref w2), (.ref w3)] .null) (pr4 : Fld Z Z.heap w0 "com/example/aurel/aurel/catalog/ProductType" "code" "I" (.int 0)) (pr5 : Fld Z Z.heap w1 "com/example/aurel/aurel/catalog/ProductType" "code" "I" (.int 1)) (pr6 : Fld Z Z.heap w2 "com/example/aurel/aurel/catalog/ProductType" "code" "I" (.int 2)) (pr7 : Fld Z Z.heap w3 "com/example/aurel/aurel/catalog/ProductType" "code" "I" (.int 3)) :
    Met l Z (⟨"com/example/aurel/aurel/catalog/ProductType", "fromCode", "(I)Lcom/example/aurel/aurel/catalog/ProductType;"⟩ : MethodName) prog_6_method_4_code 5 (some (.object "com/example/aurel/aurel/catalog/ProductType")) ws ({ frames := 2, cells := 1, slots := 4, locals := 25 } : Room) #[(.int 3)] h0 (Q_rm_from3 Z wv kv w0 w1 w2 w3 h0 n0) := by
  refine Met.enter (f0 := fun m => mkF m 0 #[.val (.int 3), .unset, .unset, .unset, .unset] []) (plainFor_of_name pn_com_example_aurel_aurel_catalog_ProductType) (fun m => ef_rm_from3 m ) ?_
  intro p e s m below meth c s₁ hx hby hml hown hnm hret hlk hZ X0 e0
  have hown : s.vm.findClass "com/example/aurel/aurel/catalog/ProductType" = some m.cls := hown
  have hnm : meth.name = "fromCode" := hnm
  have hml : c.maxLocals = 5 := hml
  have hby : c.code = prog_6_method_4_code := hby
  have N0 := Fr.nil n0
  obtain ⟨_, _, ⟨T32, L32, k32, n32⟩, -, X32, ⟨Lc32, hQ32, l32, y32, z32⟩, st32⟩ := Jvm.LawKit.callS X0 hx (y := (⟨"com/example/aurel/aurel/catalog/ProductType", "values", "()[Lcom/example/aurel/aurel/catalog/ProductType;"⟩ : MethodName)) hown (mvT hZ (wd hw 4 rfl)) (mvT hZ (wd hw 5 rfl)) (mvT hZ (wd hw 2 rfl)) (mvT hZ (wd hw 6 rfl)) (by decide) (backOf (W := 0) (rm_values l Z a0 hw [] wv kv w0 w1 w2 w3 h0 n0 Z0 pr0 pr1 pr2 pr3) hZ (wd hw 6 rfl) (wd hw 2 rfl) (by decide) (by decide)) (g := (mkF m 0 #[.val (.int 3), .unset, .unset, .unset, .unset] [])) rfl (by rw [hml]; rfl) (argsL := []) (rest := []) (lenOf pd_0 rfl) rfl (by show 2 * 0 + _ ≤ _; exact Nat.le_of_eq rfl) (hb hby d1_0) (fun _ _ => ⟨rfl, e0, Nat.le_of_ble_eq_true rfl, Nat.le_of_ble_eq_true rfl⟩)
  dsimp only [Pt.U, Pt.locs, Pt.cells, Pt.slots] at X32 l32 y32 z32 st32 hQ32
  subst l32 y32 z32
  obtain ⟨b32, rfl, Nq32, K32, p32_0, p32_1⟩ := hQ32
  have N32 := Fr.app N0 Nq32
  have O33 := pr0.keep K32 all0
  have Z33 : n0 ≤ T32.heap.size := Nat.le_trans Z0 K32.1
  have sz_b32 : h0.size ≤ b32 := p32_1
  refine Go.by (B := (T32.setTop (mkF m 3 #[.val (.int 3), .unset, .unset, .unset, .unset] [(.ref b32)]))) (fun _ k => st32 _ k) ?_
  refine Go.by (B := (T32.setTop (mkF m 5 #[.val (.int 3), .val (.ref b32), .unset, .unset, .unset] [(.ref b32)]))) (fun _ k => XS.astoreN X32.here hx rfl (hb hby d1_3) rfl rfl (l' := #[.val (.int 3), .val (.ref b32), .unset, .unset, .unset]) rfl (XS.aloadN X32.here hx rfl (hb hby d1_4) rfl rfl k)) ?_
  obtain ⟨cl34, Ar34, q34, S34, N_34, Hs34, G34⟩ := id p32_0
  refine Go.by (B := (T32.setTop (mkF m 6 #[.val (.int 3), .val (.ref b32), .unset, .unset, .unset] [(.int 4)]))) (fun _ k => X32.arraylength hx Ar34.1 (State.isArrayOf_alike hZ.alike Ar34.2.1) (g := (mkF m 5 #[.val (.int 3), .val (.ref b32), .unset, .unset, .unset] [(.ref b32)])) rfl rfl (hb hby d1_5) _ (by rw [len_of S34 N_34]; exact k)) ?_
  refine Go.by (B := (T32.setTop (mkF m 16 #[.val (.int 3), .val (.ref b32), .val (.int 4), .val (.int 0), .unset] [(.int 0), (.ref b32)]))) (fun _ k => XS.istoreN X32.here hx rfl (hb hby d1_6) rfl (l' := #[.val (.int 3), .val (.ref b32), .val (.int 4), .unset, .unset]) rfl (XS.iconst X32.here hx rfl (hb hby d1_7) (XS.istoreN X32.here hx rfl (hb hby d1_8) rfl (l' := #[.val (.int 3), .val (.ref b32), .val (.int 4), .val (.int 0), .unset]) rfl (XS.iloadN X32.here hx rfl (hb hby d1_9) rfl (XS.iloadN X32.here hx rfl (hb hby d1_10) rfl (XS.icmpNo X32.here hx rfl (hb hby d1_11) rfl (tlt (by decide : (0 : Int32) < (4 : Int32))).2.1 (XS.aloadN X32.here hx rfl (hb hby d1_14) rfl rfl (XS.iloadN X32.here hx rfl (hb hby d1_15) rfl k)))))))) ?_
  obtain ⟨cl35, Ar35, q35, S35, N_35, Hs35, G35⟩ := id p32_0
  have hin36 : ¬ ((0 : Int32) < 0 ∨ cl35.slots.size ≤ ((0 : Int32)).toNatClampNeg) := inb_of S35 ⟨by decide, by decide⟩
  have hat36 : cl35.slots[((0 : Int32)).toNatClampNeg]? = some (.ref w0) := Hs35.at hin36 rfl
  refine Go.by (B := (T32.setTop (mkF m 17 #[.val (.int 3), .val (.ref b32), .val (.int 4), .val (.int 0), .unset] [(.ref w0)]))) (fun _ k => X32.aaload hx (j := (0 : Int32)) (v := (.ref w0)) Ar35.1 (State.isArrayOf_alike hZ.alike Ar35.2.1) rfl Ar35.2.2 hin36 hat36 (g := (mkF m 16 #[.val (.int 3), .val (.ref b32), .val (.int 4), .val (.int 0), .unset] [(.int 0), (.ref b32)])) rfl rfl (hb hby d1_16) _ k) ?_
  refine Go.by (B := (T32.setTop (mkF m 21 #[.val (.int 3), .val (.ref b32), .val (.int 4), .val (.int 0), .val (.ref w0)] [(.ref w0)]))) (fun _ k => XS.astore X32.here hx rfl (hb hby d1_17) rfl rfl (l' := #[.val (.int 3), .val (.ref b32), .val (.int 4), .val (.int 0), .val (.ref w0)]) rfl (XS.aload X32.here hx rfl (hb hby d1_19) rfl rfl k)) ?_
  obtain ⟨T37, X37, e37, st37⟩ := getF X32 hx hZ hown (host := "") (Or.inl (wd hw 23 rfl)) Via.refl rfl (pr4.ext O33.2) (g := (mkF m 21 #[.val (.int 3), .val (.ref b32), .val (.int 4), .val (.int 0), .val (.ref w0)] [(.ref w0)])) rfl rfl (hb hby d1_21)
  refine Go.by (B := (T37.setTop (mkF m 24 #[.val (.int 3), .val (.ref b32), .val (.int 4), .val (.int 0), .val (.ref w0)] [(.int 0)]))) st37 ?_
  refine Go.by (B := (T37.setTop (mkF m 15 #[.val (.int 3), .val (.ref b32), .val (.int 4), .val (.int 1), .val (.ref w0)] [(.ref b32)]))) (fun _ k => XS.iloadN X37.here hx rfl (hb hby d1_24) rfl (XS.icmpYes X37.here hx rfl (pc0 := 25) (pc' := 31) rfl (hb hby d1_25) rfl (feq (by decide : ¬ ((0 : Int32) = (3 : Int32)))).2 (by decide) (by decide) (XS.iinc X37.here hx rfl (hb hby d1_31) rfl (l' := #[.val (.int 3), .val (.ref b32), .val (.int 4), .val (.int 1), .val (.ref w0)]) rfl (XS.goto X37.here hx rfl (pc0 := 34) (pc' := 9) rfl (hb hby d1_34) (by decide) (by decide) (XS.iloadN X37.here hx rfl (hb hby d1_9) rfl (XS.iloadN X37.here hx rfl (hb hby d1_10) rfl (XS.icmpNo X37.here hx rfl (hb hby d1_11) rfl (tlt (by decide : (1 : Int32) < (4 : Int32))).2.1 (XS.aloadN X37.here hx rfl (hb hby d1_14) rfl rfl k)))))))) ?_
  refine Go.by (B := (T37.setTop (mkF m 16 #[.val (.int 3), .val (.ref b32), .val (.int 4), .val (.int 1), .val (.ref w0)] [(.int 1), (.ref b32)]))) (fun _ k => XS.iloadN X37.here hx rfl (hb hby d1_15) rfl k) ?_
  obtain ⟨cl38, Ar38, q38, S38, N_38, Hs38, G38⟩ := id p32_0
  have hin39 : ¬ ((1 : Int32) < 0 ∨ cl38.slots.size ≤ ((1 : Int32)).toNatClampNeg) := inb_of S38 ⟨by decide, by decide⟩
  have hat39 : cl38.slots[((1 : Int32)).toNatClampNeg]? = some (.ref w1) := Hs38.at hin39 rfl
  refine Go.by (B := (T37.setTop (mkF m 17 #[.val (.int 3), .val (.ref b32), .val (.int 4), .val (.int 1), .val (.ref w0)] [(.ref w1)]))) (fun _ k => X37.aaload hx (j := (1 : Int32)) (v := (.ref w1)) (by rw [e37]; exact Ar38.1) (State.isArrayOf_alike hZ.alike Ar38.2.1) rfl Ar38.2.2 hin39 hat39 (g := (mkF m 16 #[.val (.int 3), .val (.ref b32), .val (.int 4), .val (.int 1), .val (.ref w0)] [(.int 1), (.ref b32)])) rfl rfl (hb hby d1_16) _ k) ?_
  refine Go.by (B := (T37.setTop (mkF m 21 #[.val (.int 3), .val (.ref b32), .val (.int 4), .val (.int 1), .val (.ref w1)] [(.ref w1)]))) (fun _ k => XS.astore X37.here hx rfl (hb hby d1_17) rfl rfl (l' := #[.val (.int 3), .val (.ref b32), .val (.int 4), .val (.int 1), .val (.ref w1)]) rfl (XS.aload X37.here hx rfl (hb hby d1_19) rfl rfl k)) ?_
  obtain ⟨T40, X40, e40, st40⟩ := getF X37 hx hZ hown (host := "") (Or.inl (wd hw 23 rfl)) Via.refl e37 (pr5.ext O33.2) (g := (mkF m 21 #[.val (.int 3), .val (.ref b32), .val (.int 4), .val (.int 1), .val (.ref w1)] [(.ref w1)])) rfl rfl (hb hby d1_21)
  refine Go.by (B := (T40.setTop (mkF m 24 #[.val (.int 3), .val (.ref b32), .val (.int 4), .val (.int 1), .val (.ref w1)] [(.int 1)]))) st40 ?_
  refine Go.by (B := (T40.setTop (mkF m 15 #[.val (.int 3), .val (.ref b32), .val (.int 4), .val (.int 2), .val (.ref w1)] [(.ref b32)]))) (fun _ k => XS.iloadN X40.here hx rfl (hb hby d1_24) rfl (XS.icmpYes X40.here hx rfl (pc0 := 25) (pc' := 31) rfl (hb hby d1_25) rfl (feq (by decide : ¬ ((1 : Int32) = (3 : Int32)))).2 (by decide) (by decide) (XS.iinc X40.here hx rfl (hb hby d1_31) rfl (l' := #[.val (.int 3), .val (.ref b32), .val (.int 4), .val (.int 2), .val (.ref w1)]) rfl (XS.goto X40.here hx rfl (pc0 := 34) (pc' := 9) rfl (hb hby d1_34) (by decide) (by decide) (XS.iloadN X40.here hx rfl (hb hby d1_9) rfl (XS.iloadN X40.here hx rfl (hb hby d1_10) rfl (XS.icmpNo X40.here hx rfl (hb hby d1_11) rfl (tlt (by decide : (2 : Int32) < (4 : Int32))).2.1 (XS.aloadN X40.here hx rfl (hb hby d1_14) rfl rfl k)))))))) ?_
  refine Go.by (B := (T40.setTop (mkF m 16 #[.val (.int 3), .val (.ref b32), .val (.int 4), .val (.int 2), .val (.ref w1)] [(.int 2), (.ref b32)]))) (fun _ k => XS.iloadN X40.here hx rfl (hb hby d1_15) rfl k) ?_
  obtain ⟨cl41, Ar41, q41, S41, N_41, Hs41, G41⟩ := id p32_0
  have hin42 : ¬ ((2 : Int32) < 0 ∨ cl41.slots.size ≤ ((2 : Int32)).toNatClampNeg) := inb_of S41 ⟨by decide, by decide⟩
  have hat42 : cl41.slots[((2 : Int32)).toNatClampNeg]? = some (.ref w2) := Hs41.at hin42 rfl
  refine Go.by (B := (T40.setTop (mkF m 17 #[.val (.int 3), .val (.ref b32), .val (.int 4), .val (.int 2), .val (.ref w1)] [(.ref w2)]))) (fun _ k => X40.aaload hx (j := (2 : Int32)) (v := (.ref w2)) (by rw [e40]; exact Ar41.1) (State.isArrayOf_alike hZ.alike Ar41.2.1) rfl Ar41.2.2 hin42 hat42 (g := (mkF m 16 #[.val (.int 3), .val (.ref b32), .val (.int 4), .val (.int 2), .val (.ref w1)] [(.int 2), (.ref b32)])) rfl rfl (hb hby d1_16) _ k) ?_
  refine Go.by (B := (T40.setTop (mkF m 21 #[.val (.int 3), .val (.ref b32), .val (.int 4), .val (.int 2), .val (.ref w2)] [(.ref w2)]))) (fun _ k => XS.astore X40.here hx rfl (hb hby d1_17) rfl rfl (l' := #[.val (.int 3), .val (.ref b32), .val (.int 4), .val (.int 2), .val (.ref w2)]) rfl (XS.aload X40.here hx rfl (hb hby d1_19) rfl rfl k)) ?_
  obtain ⟨T43, X43, e43, st43⟩ := getF X40 hx hZ hown (host := "") (Or.inl (wd hw 23 rfl)) Via.refl e40 (pr6.ext O33.2) (g := (mkF m 21 #[.val (.int 3), .val (.ref b32), .val (.int 4), .val (.int 2), .val (.ref w2)] [(.ref w2)])) rfl rfl (hb hby d1_21)
  refine Go.by (B := (T43.setTop (mkF m 24 #[.val (.int 3), .val (.ref b32), .val (.int 4), .val (.int 2), .val (.ref w2)] [(.int 2)]))) st43 ?_
  refine Go.by (B := (T43.setTop (mkF m 15 #[.val (.int 3), .val (.ref b32), .val (.int 4), .val (.int 3), .val (.ref w2)] [(.ref b32)]))) (fun _ k => XS.iloadN X43.here hx rfl (hb hby d1_24) rfl (XS.icmpYes X43.here hx rfl (pc0 := 25) (pc' := 31) rfl (hb hby d1_25) rfl (feq (by decide : ¬ ((2 : Int32) = (3 : Int32)))).2 (by decide) (by decide) (XS.iinc X43.here hx rfl (hb hby d1_31) rfl (l' := #[.val (.int 3), .val (.ref b32), .val (.int 4), .val (.int 3), .val (.ref w2)]) rfl (XS.goto X43.here hx rfl (pc0 := 34) (pc' := 9) rfl (hb hby d1_34) (by decide) (by decide) (XS.iloadN X43.here hx rfl (hb hby d1_9) rfl (XS.iloadN X43.here hx rfl (hb hby d1_10) rfl (XS.icmpNo X43.here hx rfl (hb hby d1_11) rfl (tlt (by decide : (3 : Int32) < (4 : Int32))).2.1 (XS.aloadN X43.here hx rfl (hb hby d1_14) rfl rfl k)))))))) ?_
  refine Go.by (B := (T43.setTop (mkF m 16 #[.val (.int 3), .val (.ref b32), .val (.int 4), .val (.int 3), .val (.ref w2)] [(.int 3), (.ref b32)]))) (fun _ k => XS.iloadN X43.here hx rfl (hb hby d1_15) rfl k) ?_
  obtain ⟨cl44, Ar44, q44, S44, N_44, Hs44, G44⟩ := id p32_0
  have hin45 : ¬ ((3 : Int32) < 0 ∨ cl44.slots.size ≤ ((3 : Int32)).toNatClampNeg) := inb_of S44 ⟨by decide, by decide⟩
  have hat45 : cl44.slots[((3 : Int32)).toNatClampNeg]? = some (.ref w3) := Hs44.at hin45 rfl
  refine Go.by (B := (T43.setTop (mkF m 17 #[.val (.int 3), .val (.ref b32), .val (.int 4), .val (.int 3), .val (.ref w2)] [(.ref w3)]))) (fun _ k => X43.aaload hx (j := (3 : Int32)) (v := (.ref w3)) (by rw [e43]; exact Ar44.1) (State.isArrayOf_alike hZ.alike Ar44.2.1) rfl Ar44.2.2 hin45 hat45 (g := (mkF m 16 #[.val (.int 3), .val (.ref b32), .val (.int 4), .val (.int 3), .val (.ref w2)] [(.int 3), (.ref b32)])) rfl rfl (hb hby d1_16) _ k) ?_
  refine Go.by (B := (T43.setTop (mkF m 21 #[.val (.int 3), .val (.ref b32), .val (.int 4), .val (.int 3), .val (.ref w3)] [(.ref w3)]))) (fun _ k => XS.astore X43.here hx rfl (hb hby d1_17) rfl rfl (l' := #[.val (.int 3), .val (.ref b32), .val (.int 4), .val (.int 3), .val (.ref w3)]) rfl (XS.aload X43.here hx rfl (hb hby d1_19) rfl rfl k)) ?_
  obtain ⟨T46, X46, e46, st46⟩ := getF X43 hx hZ hown (host := "") (Or.inl (wd hw 23 rfl)) Via.refl e43 (pr7.ext O33.2) (g := (mkF m 21 #[.val (.int 3), .val (.ref b32), .val (.int 4), .val (.int 3), .val (.ref w3)] [(.ref w3)])) rfl rfl (hb hby d1_21)
  refine Go.by (B := (T46.setTop (mkF m 24 #[.val (.int 3), .val (.ref b32), .val (.int 4), .val (.int 3), .val (.ref w3)] [(.int 3)]))) st46 ?_
  refine Go.by (B := (T46.setTop (mkF m 30 #[.val (.int 3), .val (.ref b32), .val (.int 4), .val (.int 3), .val (.ref w3)] [(.ref w3)]))) (fun _ k => XS.iloadN X46.here hx rfl (hb hby d1_24) rfl (XS.icmpNo X46.here hx rfl (hb hby d1_25) rfl (teq (by decide : (3 : Int32) = (3 : Int32))).2 (XS.aload X46.here hx rfl (hb hby d1_28) rfl rfl k))) ?_
  refine Go.ret X46 hx hlk (t := (.object "com/example/aurel/aurel/catalog/ProductType")) hret rfl (Or.inr (Or.inr (Or.inr (Or.inr ⟨rfl, rfl, rfl⟩)))) (hb hby d1_30) (by decide) (by decide) ?_
  rw [e46]
  exact ⟨rfl, N32, ((Keep.refl h0 []).trans K32 all0)⟩
theorem ef_rm_exp0 (m : MethodId)  : entryFrame m #[(.int 0)] 1 = mkF m 0 #[.val (.int 0)] [] := by first | (simp [entryFrame, mkF, argsToLocals, Value.category]; done) | rfl
theorem d3_0 : decode method_2_code 0 = .ok (.iload_n 0, 1) := by decide +kernel
theorem d3_1 : decode method_2_code 1 = .ok (.ifCond .ne 7, 3) := by decide +kernel
theorem d3_4 : decode method_2_code 4 = .ok (.getstatic 7, 3) := by decide +kernel
theorem d3_7 : decode method_2_code 7 = .ok (.areturn, 1) := by decide +kernel
theorem pn_com_example_aurel_aurel_catalog_ProductTypeFromCodePinLaw : plainName "com/example/aurel/aurel/catalog/ProductTypeFromCodePinLaw" = true := by first | (simp [plainName, overriddenIn]; done) | decide +kernel
def Q_rm_exp0 (Z : State) (w0 : Addr) (h0 : Heap) (n0 : Nat) (v : Option Value) (h : Heap) (L : List Loc) : Prop := v = some (.ref w0) ∧ Fr n0 L ∧ h = h0
set_option maxRecDepth 65536 in
set_option maxHeartbeats 40000000 in
theorem rm_exp0 (l : Launch) (Z : State) (a0 : Array Value) (hw : ∀ d ∈ tables_1, d.before a0 Z = true) (ws : List Jvm.Cond) (w0 : Addr) (h0 : Heap) (n0 : Nat) (Z0 : n0 ≤ h0.size) (pr0 : Old Z n0 h0) (pr1 : Sta Z Z.heap "com/example/aurel/aurel/catalog/ProductType" "CONSUMABLE" "Lcom/example/aurel/aurel/catalog/ProductType;" (.ref w0)) :
    Met l Z (⟨"com/example/aurel/aurel/catalog/ProductTypeFromCodePinLaw", "expected", "(I)Lcom/example/aurel/aurel/catalog/ProductType;"⟩ : MethodName) method_2_code 1 (some (.object "com/example/aurel/aurel/catalog/ProductType")) ws ({ frames := 0, cells := 0, slots := 0, locals := 0 } : Room) #[(.int 0)] h0 (Q_rm_exp0 Z w0 h0 n0) := by
  refine Met.enter (f0 := fun m => mkF m 0 #[.val (.int 0)] []) (plainFor_of_name pn_com_example_aurel_aurel_catalog_ProductTypeFromCodePinLaw) (fun m => ef_rm_exp0 m ) ?_
  intro p e s m below meth c s₁ hx hby hml hown hnm hret hlk hZ X0 e0
  have hown : s.vm.findClass "com/example/aurel/aurel/catalog/ProductTypeFromCodePinLaw" = some m.cls := hown
  have hnm : meth.name = "expected" := hnm
  have hml : c.maxLocals = 1 := hml
  have hby : c.code = method_2_code := hby
  have N0 := Fr.nil n0
  refine Go.by (B := (s₁.setTop (mkF m 4 #[.val (.int 0)] []))) (fun _ k => XS.iloadN X0.here hx rfl (hb hby d3_0) rfl (XS.ifNo X0.here hx rfl (hb hby d3_1) rfl ((if0 _ _).trans (teq (by decide : (0 : Int32) = (0 : Int32))).2) k)) ?_
  obtain ⟨T47, X47, e47, st47⟩ := getS2 X0 hx hZ hown (host := "") (Or.inl (wd hw 29 rfl)) Via.refl e0 (pr1.ext pr0.2) (g := (mkF m 4 #[.val (.int 0)] [])) rfl (hb hby d3_4)
  refine Go.by (B := (T47.setTop (mkF m 7 #[.val (.int 0)] [(.ref w0)]))) st47 ?_
  refine Go.ret X47 hx hlk (t := (.object "com/example/aurel/aurel/catalog/ProductType")) hret rfl (Or.inr (Or.inr (Or.inr (Or.inr ⟨rfl, rfl, rfl⟩)))) (hb hby d3_7) (by decide) (by decide) ?_
  rw [e47]
  exact ⟨rfl, N0, rfl⟩
theorem ef_rm_exp1 (m : MethodId)  : entryFrame m #[(.int 1)] 1 = mkF m 0 #[.val (.int 1)] [] := by first | (simp [entryFrame, mkF, argsToLocals, Value.category]; done) | rfl
theorem d3_8 : decode method_2_code 8 = .ok (.iload_n 0, 1) := by decide +kernel
theorem d3_9 : decode method_2_code 9 = .ok (.iconst 1, 1) := by decide +kernel
theorem d3_10 : decode method_2_code 10 = .ok (.if_icmp .ne 7, 3) := by decide +kernel
theorem d3_13 : decode method_2_code 13 = .ok (.getstatic 13, 3) := by decide +kernel
theorem d3_16 : decode method_2_code 16 = .ok (.areturn, 1) := by decide +kernel
def Q_rm_exp1 (Z : State) (w1 : Addr) (h0 : Heap) (n0 : Nat) (v : Option Value) (h : Heap) (L : List Loc) : Prop := v = some (.ref w1) ∧ Fr n0 L ∧ h = h0
set_option maxRecDepth 65536 in
set_option maxHeartbeats 40000000 in
theorem rm_exp1 (l : Launch) (Z : State) (a0 : Array Value) (hw : ∀ d ∈ tables_1, d.before a0 Z = true) (ws : List Jvm.Cond) (w1 : Addr) (h0 : Heap) (n0 : Nat) (Z0 : n0 ≤ h0.size) (pr0 : Old Z n0 h0) (pr1 : Sta Z Z.heap "com/example/aurel/aurel/catalog/ProductType" "NON_CONSUMABLE" "Lcom/example/aurel/aurel/catalog/ProductType;" (.ref w1)) :
    Met l Z (⟨"com/example/aurel/aurel/catalog/ProductTypeFromCodePinLaw", "expected", "(I)Lcom/example/aurel/aurel/catalog/ProductType;"⟩ : MethodName) method_2_code 1 (some (.object "com/example/aurel/aurel/catalog/ProductType")) ws ({ frames := 0, cells := 0, slots := 0, locals := 0 } : Room) #[(.int 1)] h0 (Q_rm_exp1 Z w1 h0 n0) := by
  refine Met.enter (f0 := fun m => mkF m 0 #[.val (.int 1)] []) (plainFor_of_name pn_com_example_aurel_aurel_catalog_ProductTypeFromCodePinLaw) (fun m => ef_rm_exp1 m ) ?_
  intro p e s m below meth c s₁ hx hby hml hown hnm hret hlk hZ X0 e0
  have hown : s.vm.findClass "com/example/aurel/aurel/catalog/ProductTypeFromCodePinLaw" = some m.cls := hown
  have hnm : meth.name = "expected" := hnm
  have hml : c.maxLocals = 1 := hml
  have hby : c.code = method_2_code := hby
  have N0 := Fr.nil n0
  refine Go.by (B := (s₁.setTop (mkF m 13 #[.val (.int 1)] []))) (fun _ k => XS.iloadN X0.here hx rfl (hb hby d3_0) rfl (XS.ifYes X0.here hx rfl (pc0 := 1) (pc' := 8) rfl (hb hby d3_1) rfl ((if0 _ _).trans (feq (by decide : ¬ ((1 : Int32) = (0 : Int32)))).2) (by decide) (by decide) (XS.iloadN X0.here hx rfl (hb hby d3_8) rfl (XS.iconst X0.here hx rfl (hb hby d3_9) (XS.icmpNo X0.here hx rfl (hb hby d3_10) rfl (teq (by decide : (1 : Int32) = (1 : Int32))).2 k))))) ?_
  obtain ⟨T48, X48, e48, st48⟩ := getS2 X0 hx hZ hown (host := "") (Or.inl (wd hw 37 rfl)) Via.refl e0 (pr1.ext pr0.2) (g := (mkF m 13 #[.val (.int 1)] [])) rfl (hb hby d3_13)
  refine Go.by (B := (T48.setTop (mkF m 16 #[.val (.int 1)] [(.ref w1)]))) st48 ?_
  refine Go.ret X48 hx hlk (t := (.object "com/example/aurel/aurel/catalog/ProductType")) hret rfl (Or.inr (Or.inr (Or.inr (Or.inr ⟨rfl, rfl, rfl⟩)))) (hb hby d3_16) (by decide) (by decide) ?_
  rw [e48]
  exact ⟨rfl, N0, rfl⟩
theorem ef_rm_exp2 (m : MethodId)  : entryFrame m #[(.int 2)] 1 = mkF m 0 #[.val (.int 2)] [] := by first | (simp [entryFrame, mkF, argsToLocals, Value.category]; done) | rfl
theorem d3_17 : decode method_2_code 17 = .ok (.iload_n 0, 1) := by decide +kernel
theorem d3_18 : decode method_2_code 18 = .ok (.iconst 2, 1) := by decide +kernel
theorem d3_19 : decode method_2_code 19 = .ok (.if_icmp .ne 7, 3) := by decide +kernel
theorem d3_22 : decode method_2_code 22 = .ok (.getstatic 16, 3) := by decide +kernel
theorem d3_25 : decode method_2_code 25 = .ok (.areturn, 1) := by decide +kernel
def Q_rm_exp2 (Z : State) (w2 : Addr) (h0 : Heap) (n0 : Nat) (v : Option Value) (h : Heap) (L : List Loc) : Prop := v = some (.ref w2) ∧ Fr n0 L ∧ h = h0
set_option maxRecDepth 65536 in
set_option maxHeartbeats 40000000 in
theorem rm_exp2 (l : Launch) (Z : State) (a0 : Array Value) (hw : ∀ d ∈ tables_1, d.before a0 Z = true) (ws : List Jvm.Cond) (w2 : Addr) (h0 : Heap) (n0 : Nat) (Z0 : n0 ≤ h0.size) (pr0 : Old Z n0 h0) (pr1 : Sta Z Z.heap "com/example/aurel/aurel/catalog/ProductType" "AUTO_RENEWING_SUBSCRIPTION" "Lcom/example/aurel/aurel/catalog/ProductType;" (.ref w2)) :
    Met l Z (⟨"com/example/aurel/aurel/catalog/ProductTypeFromCodePinLaw", "expected", "(I)Lcom/example/aurel/aurel/catalog/ProductType;"⟩ : MethodName) method_2_code 1 (some (.object "com/example/aurel/aurel/catalog/ProductType")) ws ({ frames := 0, cells := 0, slots := 0, locals := 0 } : Room) #[(.int 2)] h0 (Q_rm_exp2 Z w2 h0 n0) := by
  refine Met.enter (f0 := fun m => mkF m 0 #[.val (.int 2)] []) (plainFor_of_name pn_com_example_aurel_aurel_catalog_ProductTypeFromCodePinLaw) (fun m => ef_rm_exp2 m ) ?_
  intro p e s m below meth c s₁ hx hby hml hown hnm hret hlk hZ X0 e0
  have hown : s.vm.findClass "com/example/aurel/aurel/catalog/ProductTypeFromCodePinLaw" = some m.cls := hown
  have hnm : meth.name = "expected" := hnm
  have hml : c.maxLocals = 1 := hml
  have hby : c.code = method_2_code := hby
  have N0 := Fr.nil n0
  refine Go.by (B := (s₁.setTop (mkF m 22 #[.val (.int 2)] []))) (fun _ k => XS.iloadN X0.here hx rfl (hb hby d3_0) rfl (XS.ifYes X0.here hx rfl (pc0 := 1) (pc' := 8) rfl (hb hby d3_1) rfl ((if0 _ _).trans (feq (by decide : ¬ ((2 : Int32) = (0 : Int32)))).2) (by decide) (by decide) (XS.iloadN X0.here hx rfl (hb hby d3_8) rfl (XS.iconst X0.here hx rfl (hb hby d3_9) (XS.icmpYes X0.here hx rfl (pc0 := 10) (pc' := 17) rfl (hb hby d3_10) rfl (feq (by decide : ¬ ((2 : Int32) = (1 : Int32)))).2 (by decide) (by decide) (XS.iloadN X0.here hx rfl (hb hby d3_17) rfl (XS.iconst X0.here hx rfl (hb hby d3_18) (XS.icmpNo X0.here hx rfl (hb hby d3_19) rfl (teq (by decide : (2 : Int32) = (2 : Int32))).2 k)))))))) ?_
  obtain ⟨T49, X49, e49, st49⟩ := getS2 X0 hx hZ hown (host := "") (Or.inl (wd hw 36 rfl)) Via.refl e0 (pr1.ext pr0.2) (g := (mkF m 22 #[.val (.int 2)] [])) rfl (hb hby d3_22)
  refine Go.by (B := (T49.setTop (mkF m 25 #[.val (.int 2)] [(.ref w2)]))) st49 ?_
  refine Go.ret X49 hx hlk (t := (.object "com/example/aurel/aurel/catalog/ProductType")) hret rfl (Or.inr (Or.inr (Or.inr (Or.inr ⟨rfl, rfl, rfl⟩)))) (hb hby d3_25) (by decide) (by decide) ?_
  rw [e49]
  exact ⟨rfl, N0, rfl⟩
theorem ef_rm_exp3 (m : MethodId)  : entryFrame m #[(.int 3)] 1 = mkF m 0 #[.val (.int 3)] [] := by first | (simp [entryFrame, mkF, argsToLocals, Value.category]; done) | rfl
theorem d3_26 : decode method_2_code 26 = .ok (.getstatic 19, 3) := by decide +kernel
theorem d3_29 : decode method_2_code 29 = .ok (.areturn, 1) := by decide +kernel
def Q_rm_exp3 (Z : State) (w3 : Addr) (h0 : Heap) (n0 : Nat) (v : Option Value) (h : Heap) (L : List Loc) : Prop := v = some (.ref w3) ∧ Fr n0 L ∧ h = h0
set_option maxRecDepth 65536 in
set_option maxHeartbeats 40000000 in
theorem rm_exp3 (l : Launch) (Z : State) (a0 : Array Value) (hw : ∀ d ∈ tables_1, d.before a0 Z = true) (ws : List Jvm.Cond) (w3 : Addr) (h0 : Heap) (n0 : Nat) (Z0 : n0 ≤ h0.size) (pr0 : Old Z n0 h0) (pr1 : Sta Z Z.heap "com/example/aurel/aurel/catalog/ProductType" "NON_RENEWING_SUBSCRIPTION" "Lcom/example/aurel/aurel/catalog/ProductType;" (.ref w3)) :
    Met l Z (⟨"com/example/aurel/aurel/catalog/ProductTypeFromCodePinLaw", "expected", "(I)Lcom/example/aurel/aurel/catalog/ProductType;"⟩ : MethodName) method_2_code 1 (some (.object "com/example/aurel/aurel/catalog/ProductType")) ws ({ frames := 0, cells := 0, slots := 0, locals := 0 } : Room) #[(.int 3)] h0 (Q_rm_exp3 Z w3 h0 n0) := by
  refine Met.enter (f0 := fun m => mkF m 0 #[.val (.int 3)] []) (plainFor_of_name pn_com_example_aurel_aurel_catalog_ProductTypeFromCodePinLaw) (fun m => ef_rm_exp3 m ) ?_
  intro p e s m below meth c s₁ hx hby hml hown hnm hret hlk hZ X0 e0
  have hown : s.vm.findClass "com/example/aurel/aurel/catalog/ProductTypeFromCodePinLaw" = some m.cls := hown
  have hnm : meth.name = "expected" := hnm
  have hml : c.maxLocals = 1 := hml
  have hby : c.code = method_2_code := hby
  have N0 := Fr.nil n0
  refine Go.by (B := (s₁.setTop (mkF m 26 #[.val (.int 3)] []))) (fun _ k => XS.iloadN X0.here hx rfl (hb hby d3_0) rfl (XS.ifYes X0.here hx rfl (pc0 := 1) (pc' := 8) rfl (hb hby d3_1) rfl ((if0 _ _).trans (feq (by decide : ¬ ((3 : Int32) = (0 : Int32)))).2) (by decide) (by decide) (XS.iloadN X0.here hx rfl (hb hby d3_8) rfl (XS.iconst X0.here hx rfl (hb hby d3_9) (XS.icmpYes X0.here hx rfl (pc0 := 10) (pc' := 17) rfl (hb hby d3_10) rfl (feq (by decide : ¬ ((3 : Int32) = (1 : Int32)))).2 (by decide) (by decide) (XS.iloadN X0.here hx rfl (hb hby d3_17) rfl (XS.iconst X0.here hx rfl (hb hby d3_18) (XS.icmpYes X0.here hx rfl (pc0 := 19) (pc' := 26) rfl (hb hby d3_19) rfl (feq (by decide : ¬ ((3 : Int32) = (2 : Int32)))).2 (by decide) (by decide) k)))))))) ?_
  obtain ⟨T50, X50, e50, st50⟩ := getS2 X0 hx hZ hown (host := "") (Or.inl (wd hw 35 rfl)) Via.refl e0 (pr1.ext pr0.2) (g := (mkF m 26 #[.val (.int 3)] [])) rfl (hb hby d3_26)
  refine Go.by (B := (T50.setTop (mkF m 29 #[.val (.int 3)] [(.ref w3)]))) st50 ?_
  refine Go.ret X50 hx hlk (t := (.object "com/example/aurel/aurel/catalog/ProductType")) hret rfl (Or.inr (Or.inr (Or.inr (Or.inr ⟨rfl, rfl, rfl⟩)))) (hb hby d3_29) (by decide) (by decide) ?_
  rw [e50]
  exact ⟨rfl, N0, rfl⟩
theorem ef_rm_code (m : MethodId) (x0 : Addr) : entryFrame m #[(.ref x0)] 1 = mkF m 0 #[.val (.ref x0)] [] := by first | (simp [entryFrame, mkF, argsToLocals, Value.category]; done) | rfl
theorem d4_0 : decode prog_6_method_5_code 0 = .ok (.aload_n 0, 1) := by decide +kernel
theorem d4_1 : decode prog_6_method_5_code 1 = .ok (.getfield 35, 3) := by decide +kernel
theorem d4_4 : decode prog_6_method_5_code 4 = .ok (.ireturn, 1) := by decide +kernel
def Q_rm_code (Z : State) (a1 : Addr) (p1 : Int32) (h0 : Heap) (n0 : Nat) (v : Option Value) (h : Heap) (L : List Loc) : Prop := v = some (.int p1) ∧ Fr n0 L ∧ h = h0
set_option maxRecDepth 65536 in
set_option maxHeartbeats 40000000 in
theorem rm_code (l : Launch) (Z : State) (a0 : Array Value) (hw : ∀ d ∈ tables_1, d.before a0 Z = true) (ws : List Jvm.Cond) (a1 : Addr) (p1 : Int32) (h0 : Heap) (n0 : Nat) (Z0 : n0 ≤ h0.size) (pr0 : Fld Z h0 a1 "com/example/aurel/aurel/catalog/ProductType" "code" "I" (.int p1)) :
    Met l Z (⟨"com/example/aurel/aurel/catalog/ProductType", "code", "()I"⟩ : MethodName) prog_6_method_5_code 1 (some .int) ws ({ frames := 0, cells := 0, slots := 0, locals := 0 } : Room) #[(.ref a1)] h0 (Q_rm_code Z a1 p1 h0 n0) := by
  refine Met.enter (f0 := fun m => mkF m 0 #[.val (.ref a1)] []) (plainFor_of_name pn_com_example_aurel_aurel_catalog_ProductType) (fun m => ef_rm_code m a1) ?_
  intro p e s m below meth c s₁ hx hby hml hown hnm hret hlk hZ X0 e0
  have hown : s.vm.findClass "com/example/aurel/aurel/catalog/ProductType" = some m.cls := hown
  have hnm : meth.name = "code" := hnm
  have hml : c.maxLocals = 1 := hml
  have hby : c.code = prog_6_method_5_code := hby
  have N0 := Fr.nil n0
  refine Go.by (B := (s₁.setTop (mkF m 1 #[.val (.ref a1)] [(.ref a1)]))) (fun _ k => XS.aloadN X0.here hx rfl (hb hby d4_0) rfl rfl k) ?_
  obtain ⟨T51, X51, e51, st51⟩ := getF X0 hx hZ hown (host := "") (Or.inl (wd hw 23 rfl)) Via.refl e0 pr0 (g := (mkF m 1 #[.val (.ref a1)] [(.ref a1)])) rfl rfl (hb hby d4_1)
  refine Go.by (B := (T51.setTop (mkF m 4 #[.val (.ref a1)] [(.int p1)]))) st51 ?_
  refine Go.ret X51 hx hlk (t := .int) hret rfl (Or.inl ⟨rfl, by simp, _, rfl⟩) (hb hby d4_4) (by decide) (by decide) ?_
  rw [e51]
  exact ⟨rfl, N0, rfl⟩
theorem ef_rm0 (m : MethodId) (x0 : Int32) : entryFrame m #[(.int x0)] maxLocals = mkF m 0 #[.val (.int x0), .unset, .unset] [] := by first | (simp [entryFrame, mkF, argsToLocals, Value.category, maxLocals]; done) | rfl
theorem pd_1 : parseMethodDescriptor "(I)Lcom/example/aurel/aurel/catalog/ProductType;" = some ⟨[.int], some (.object "com/example/aurel/aurel/catalog/ProductType")⟩ := by decide +kernel
theorem pd_2 : parseMethodDescriptor "()I" = some ⟨[], some .int⟩ := by decide +kernel
def Q_rm0 (Z : State) (p1 : Int32) (wv : Addr) (kv : ClassId) (w0 : Addr) (w1 : Addr) (w2 : Addr) (w3 : Addr) (h0 : Heap) (n0 : Nat) (v : Option Value) (h : Heap) (L : List Loc) : Prop := v = some (.int 1) ∧ Fr n0 L
set_option maxRecDepth 65536 in
set_option maxHeartbeats 40000000 in
theorem rm0 (l : Launch) (Z : State) (a0 : Array Value) (hw : ∀ d ∈ tables_1, d.before a0 Z = true) (ws : List Jvm.Cond) (p1 : Int32) (wv : Addr) (kv : ClassId) (w0 : Addr) (w1 : Addr) (w2 : Addr) (w3 : Addr) (h0 : Heap) (n0 : Nat) (Z0 : n0 ≤ h0.size) (pr0 : Old Z n0 h0) (pr1 : Sta Z Z.heap "com/example/aurel/aurel/catalog/ProductType" "$VALUES" "[Lcom/example/aurel/aurel/catalog/ProductType;" (.ref wv)) (pr2 : Exa Z Z.heap wv "[Lcom/example/aurel/aurel/catalog/ProductType;") (pr3 : Arv Z Z.heap wv kv (.object "com/example/aurel/aurel/catalog/ProductType") (4 : Int32) [(.ref w0), (.ref w1), (.ref w2), (.ref w3)] .null) (pr4 : Fld Z Z.heap w0 "com/example/aurel/aurel/catalog/ProductType" "code" "I" (.int 0)) (pr5 : Fld Z Z.heap w1 "com/example/aurel/aurel/catalog/ProductType" "code" "I" (.int 1)) (pr6 : Fld Z Z.heap w2 "com/example/aurel/aurel/catalog/ProductType" "code" "I" (.int 2)) (pr7 : Fld Z Z.heap w3 "com/example/aurel/aurel/catalog/ProductType" "code" "I" (.int 3)) (pr8 : Sta Z Z.heap "com/example/aurel/aurel/catalog/ProductType" "CONSUMABLE" "Lcom/example/aurel/aurel/catalog/ProductType;" (.ref w0)) (pr9 : Sta Z Z.heap "com/example/aurel/aurel/catalog/ProductType" "NON_CONSUMABLE" "Lcom/example/aurel/aurel/catalog/ProductType;" (.ref w1)) (pr10 : Sta Z Z.heap "com/example/aurel/aurel/catalog/ProductType" "AUTO_RENEWING_SUBSCRIPTION" "Lcom/example/aurel/aurel/catalog/ProductType;" (.ref w2)) (pr11 : Sta Z Z.heap "com/example/aurel/aurel/catalog/ProductType" "NON_RENEWING_SUBSCRIPTION" "Lcom/example/aurel/aurel/catalog/ProductType;" (.ref w3)) (pr12 : Exa Z Z.heap w0 "com/example/aurel/aurel/catalog/ProductType") (pr13 : Exa Z Z.heap w1 "com/example/aurel/aurel/catalog/ProductType") (pr14 : Exa Z Z.heap w2 "com/example/aurel/aurel/catalog/ProductType") (pr15 : Exa Z Z.heap w3 "com/example/aurel/aurel/catalog/ProductType") :
    Met l Z x code maxLocals ret ws room_1 #[(.int p1)] h0 (Q_rm0 Z p1 wv kv w0 w1 w2 w3 h0 n0) := by
  refine Met.enter (f0 := fun m => mkF m 0 #[.val (.int p1), .unset, .unset] []) (plainFor_of_name pn_com_example_aurel_aurel_catalog_ProductTypeFromCodePinLaw) (fun m => ef_rm0 m p1) ?_
  intro p e s m below meth c s₁ hx hby hml hown hnm hret hlk hZ X0 e0
  have hown : s.vm.findClass "com/example/aurel/aurel/catalog/ProductTypeFromCodePinLaw" = some m.cls := hown
  have hnm : meth.name = "law" := hnm
  have hml : c.maxLocals = 3 := hml
  have hby : c.code = code := hby
  have N0 := Fr.nil n0
  refine Go.by (B := (s₁.setTop (mkF m 3 #[.val (.int p1), .unset, .unset] [(.int (p1 &&& (3 : Int32)))]))) (fun _ k => XS.iloadN X0.here hx rfl (hb hby at_0) rfl (XS.iconst X0.here hx rfl (hb hby at_1) (XS.iand X0.here hx rfl (hb hby at_2) rfl k))) ?_
  obtain ⟨v52, hv52⟩ : ∃ v, v = (p1 &&& (3 : Int32)) := ⟨_, rfl⟩
  refine Go.by (B := (s₁.setTop (mkF m 4 #[.val (.int p1), .val (.int v52), .unset] []))) (fun _ k => XS.istoreN (x := v52) (rest := []) X0.here hx rfl (hb hby at_3) (by rw [hv52]) (l' := #[.val (.int p1), .val (.int v52), .unset]) rfl k) ?_
  rcases own_and3 hv52 with rfl | rfl | rfl | rfl
  · skip
    refine Go.by (B := (s₁.setTop (mkF m 5 #[.val (.int p1), .val (.int 0), .unset] [(.int 0)]))) (fun _ k => XS.iloadN X0.here hx rfl (hb hby at_4) rfl k) ?_
    obtain ⟨_, _, ⟨T53, L53, k53, n53⟩, -, X53, ⟨Lc53, hQ53, l53, y53, z53⟩, st53⟩ := Jvm.LawKit.callS X0 hx (y := (⟨"com/example/aurel/aurel/catalog/ProductType", "fromCode", "(I)Lcom/example/aurel/aurel/catalog/ProductType;"⟩ : MethodName)) hown (mvT hZ (wd hw 0 rfl)) (mvT hZ (wd hw 1 rfl)) (mvT hZ (wd hw 2 rfl)) (mvT hZ (wd hw 3 rfl)) (by decide) (backOf (W := 0) (rm_from0 l Z a0 hw [] wv kv w0 w1 w2 w3 h0 n0 Z0 pr0 pr1 pr2 pr3 pr4 pr5 pr6 pr7) hZ (wd hw 3 rfl) (wd hw 2 rfl) (by decide) (by decide)) (g := (mkF m 5 #[.val (.int p1), .val (.int 0), .unset] [(.int 0)])) rfl (by rw [hml]; rfl) (argsL := [(.int 0)]) (rest := []) (lenOf pd_1 rfl) rfl (by show 2 * 0 + _ ≤ _; exact Nat.le_of_eq rfl) (hb hby at_5) (fun _ _ => ⟨rfl, e0, Nat.le_of_ble_eq_true rfl, Nat.le_of_ble_eq_true rfl⟩)
    dsimp only [Pt.U, Pt.locs, Pt.cells, Pt.slots] at X53 l53 y53 z53 st53 hQ53
    subst l53 y53 z53
    obtain ⟨rfl, Nq53, K53⟩ := hQ53
    have N53 := Fr.app N0 Nq53
    have O54 := pr0.keep K53 all0
    have Z54 : n0 ≤ T53.heap.size := Nat.le_trans Z0 K53.1
    refine Go.by (B := (T53.setTop (mkF m 8 #[.val (.int p1), .val (.int 0), .unset] [(.ref w0)]))) (fun _ k => st53 _ k) ?_
    refine Go.by (B := (T53.setTop (mkF m 11 #[.val (.int p1), .val (.int 0), .val (.ref w0)] [(.int 0), (.ref w0)]))) (fun _ k => XS.astoreN X53.here hx rfl (hb hby at_8) rfl rfl (l' := #[.val (.int p1), .val (.int 0), .val (.ref w0)]) rfl (XS.aloadN X53.here hx rfl (hb hby at_9) rfl rfl (XS.iloadN X53.here hx rfl (hb hby at_10) rfl k))) ?_
    obtain ⟨_, _, ⟨T55, L55, k55, n55⟩, -, X55, ⟨Lc55, hQ55, l55, y55, z55⟩, st55⟩ := Jvm.LawKit.callS X53 hx (y := (⟨"com/example/aurel/aurel/catalog/ProductTypeFromCodePinLaw", "expected", "(I)Lcom/example/aurel/aurel/catalog/ProductType;"⟩ : MethodName)) hown (mvT hZ (wd hw 25 rfl)) (mvT hZ (wd hw 26 rfl)) (mvT hZ (wd hw 27 rfl)) (mvT hZ (wd hw 28 rfl)) (by decide) (backOf (W := 1) (rm_exp0 l Z a0 hw [] w0 T53.heap n0 Z54 O54 pr8) hZ (wd hw 28 rfl) (wd hw 27 rfl) (by decide) (by decide)) (g := (mkF m 11 #[.val (.int p1), .val (.int 0), .val (.ref w0)] [(.int 0), (.ref w0)])) rfl (by rw [hml]; rfl) (argsL := [(.int 0)]) (rest := [(.ref w0)]) (lenOf pd_1 rfl) rfl (by show 2 * 0 + _ ≤ _; exact Nat.le_of_eq rfl) (hb hby at_11) (fun _ _ => ⟨rfl, rfl, Nat.le_of_ble_eq_true rfl, Nat.le_of_ble_eq_true rfl⟩)
    dsimp only [Pt.U, Pt.locs, Pt.cells, Pt.slots] at X55 l55 y55 z55 st55 hQ55
    subst l55 y55 z55
    obtain ⟨rfl, Nq55, hh55⟩ := hQ55
    have N55 := Fr.app N53 Nq55
    refine Go.by (B := (T55.setTop (mkF m 14 #[.val (.int p1), .val (.int 0), .val (.ref w0)] [(.ref w0), (.ref w0)]))) (fun _ k => st55 _ k) ?_
    refine Go.by (B := (T55.setTop (mkF m 18 #[.val (.int p1), .val (.int 0), .val (.ref w0)] [(.ref w0)]))) (fun _ k => Jvm.RoadKit.acmp (g := (mkF m 14 #[.val (.int p1), .val (.int 0), .val (.ref w0)] [(.ref w0), (.ref w0)])) X55 hx rfl rfl rfl (pc0 := 14) (pc' := 17) (same := true) rfl (hb hby at_14) rfl (decide_eq_true rfl) (by decide) (by decide) (XS.aloadN X55.here hx rfl (hb hby at_17) rfl rfl k)) ?_
    obtain ⟨cq56, kq56, q56a, q56b, q56c⟩ := isOf hZ hh55 (pr12.ext O54.2)
    obtain ⟨_, _, ⟨T56, L56, k56, n56⟩, -, X56, ⟨Lc56, hQ56, l56, y56, z56⟩, st56⟩ := X55.virtualBack hx (y := (⟨"com/example/aurel/aurel/catalog/ProductType", "code", "()I"⟩ : MethodName)) (z := (⟨"com/example/aurel/aurel/catalog/ProductType", "code", "()I"⟩ : MethodName)) hown (mvT hZ (wd hw 30 rfl)) (mvT hZ (wd hw 31 rfl)) (notFace_of_selects (args := #[]) (mvT hZ (wd hw 33 rfl))) (mvT hZ (wd hw 33 rfl)) (mvT hZ (wd hw 32 rfl)) (by decide) (backOf (W := 0) (rm_code l Z a0 hw [] w0 (0 : Int32) T53.heap n0 Z54 (pr4.ext O54.2)) hZ (wd hw 34 rfl) (wd hw 2 rfl) (by decide) (by decide)) q56a q56c (g := (mkF m 18 #[.val (.int p1), .val (.int 0), .val (.ref w0)] [(.ref w0)])) rfl (by rw [hml]; rfl) (Steps.refl _) (argsL := []) (rest := []) (lenOf pd_2 rfl) rfl (by show 2 * 0 + _ ≤ _; exact Nat.le_of_eq rfl) (hb hby at_18) (fun _ _ => ⟨rfl, hh55, Nat.le_of_ble_eq_true rfl, Nat.le_of_ble_eq_true rfl⟩)
    dsimp only [Pt.U, Pt.locs, Pt.cells, Pt.slots] at X56 l56 y56 z56 st56 hQ56
    subst l56 y56 z56
    obtain ⟨rfl, Nq56, hh56⟩ := hQ56
    have N56 := Fr.app N55 Nq56
    refine Go.by (B := (T56.setTop (mkF m 21 #[.val (.int p1), .val (.int 0), .val (.ref w0)] [(.int 0)]))) (fun _ k => st56.trans k) ?_
    refine Go.by (B := (T56.setTop (mkF m 30 #[.val (.int p1), .val (.int 0), .val (.ref w0)] [(.int 1)]))) (fun _ k => XS.iloadN X56.here hx rfl (hb hby at_21) rfl (XS.icmpNo X56.here hx rfl (hb hby at_22) rfl (teq (by decide : (0 : Int32) = (0 : Int32))).2 (XS.iconst X56.here hx rfl (hb hby at_25) (XS.goto X56.here hx rfl (pc0 := 26) (pc' := 30) rfl (hb hby at_26) (by decide) (by decide) k)))) ?_
    refine Go.ret X56 hx hlk (t := .boolean) hret rfl (Or.inl ⟨rfl, by simp, _, rfl⟩) (hb hby at_30) (by decide) (by decide) ?_
    exact ⟨rfl, N56⟩
  · skip
    refine Go.by (B := (s₁.setTop (mkF m 5 #[.val (.int p1), .val (.int 1), .unset] [(.int 1)]))) (fun _ k => XS.iloadN X0.here hx rfl (hb hby at_4) rfl k) ?_
    obtain ⟨_, _, ⟨T57, L57, k57, n57⟩, -, X57, ⟨Lc57, hQ57, l57, y57, z57⟩, st57⟩ := Jvm.LawKit.callS X0 hx (y := (⟨"com/example/aurel/aurel/catalog/ProductType", "fromCode", "(I)Lcom/example/aurel/aurel/catalog/ProductType;"⟩ : MethodName)) hown (mvT hZ (wd hw 0 rfl)) (mvT hZ (wd hw 1 rfl)) (mvT hZ (wd hw 2 rfl)) (mvT hZ (wd hw 3 rfl)) (by decide) (backOf (W := 0) (rm_from1 l Z a0 hw [] wv kv w0 w1 w2 w3 h0 n0 Z0 pr0 pr1 pr2 pr3 pr4 pr5 pr6 pr7) hZ (wd hw 3 rfl) (wd hw 2 rfl) (by decide) (by decide)) (g := (mkF m 5 #[.val (.int p1), .val (.int 1), .unset] [(.int 1)])) rfl (by rw [hml]; rfl) (argsL := [(.int 1)]) (rest := []) (lenOf pd_1 rfl) rfl (by show 2 * 0 + _ ≤ _; exact Nat.le_of_eq rfl) (hb hby at_5) (fun _ _ => ⟨rfl, e0, Nat.le_of_ble_eq_true rfl, Nat.le_of_ble_eq_true rfl⟩)
    dsimp only [Pt.U, Pt.locs, Pt.cells, Pt.slots] at X57 l57 y57 z57 st57 hQ57
    subst l57 y57 z57
    obtain ⟨rfl, Nq57, K57⟩ := hQ57
    have N57 := Fr.app N0 Nq57
    have O58 := pr0.keep K57 all0
    have Z58 : n0 ≤ T57.heap.size := Nat.le_trans Z0 K57.1
    refine Go.by (B := (T57.setTop (mkF m 8 #[.val (.int p1), .val (.int 1), .unset] [(.ref w1)]))) (fun _ k => st57 _ k) ?_
    refine Go.by (B := (T57.setTop (mkF m 11 #[.val (.int p1), .val (.int 1), .val (.ref w1)] [(.int 1), (.ref w1)]))) (fun _ k => XS.astoreN X57.here hx rfl (hb hby at_8) rfl rfl (l' := #[.val (.int p1), .val (.int 1), .val (.ref w1)]) rfl (XS.aloadN X57.here hx rfl (hb hby at_9) rfl rfl (XS.iloadN X57.here hx rfl (hb hby at_10) rfl k))) ?_
    obtain ⟨_, _, ⟨T59, L59, k59, n59⟩, -, X59, ⟨Lc59, hQ59, l59, y59, z59⟩, st59⟩ := Jvm.LawKit.callS X57 hx (y := (⟨"com/example/aurel/aurel/catalog/ProductTypeFromCodePinLaw", "expected", "(I)Lcom/example/aurel/aurel/catalog/ProductType;"⟩ : MethodName)) hown (mvT hZ (wd hw 25 rfl)) (mvT hZ (wd hw 26 rfl)) (mvT hZ (wd hw 27 rfl)) (mvT hZ (wd hw 28 rfl)) (by decide) (backOf (W := 1) (rm_exp1 l Z a0 hw [] w1 T57.heap n0 Z58 O58 pr9) hZ (wd hw 28 rfl) (wd hw 27 rfl) (by decide) (by decide)) (g := (mkF m 11 #[.val (.int p1), .val (.int 1), .val (.ref w1)] [(.int 1), (.ref w1)])) rfl (by rw [hml]; rfl) (argsL := [(.int 1)]) (rest := [(.ref w1)]) (lenOf pd_1 rfl) rfl (by show 2 * 0 + _ ≤ _; exact Nat.le_of_eq rfl) (hb hby at_11) (fun _ _ => ⟨rfl, rfl, Nat.le_of_ble_eq_true rfl, Nat.le_of_ble_eq_true rfl⟩)
    dsimp only [Pt.U, Pt.locs, Pt.cells, Pt.slots] at X59 l59 y59 z59 st59 hQ59
    subst l59 y59 z59
    obtain ⟨rfl, Nq59, hh59⟩ := hQ59
    have N59 := Fr.app N57 Nq59
    refine Go.by (B := (T59.setTop (mkF m 14 #[.val (.int p1), .val (.int 1), .val (.ref w1)] [(.ref w1), (.ref w1)]))) (fun _ k => st59 _ k) ?_
    refine Go.by (B := (T59.setTop (mkF m 18 #[.val (.int p1), .val (.int 1), .val (.ref w1)] [(.ref w1)]))) (fun _ k => Jvm.RoadKit.acmp (g := (mkF m 14 #[.val (.int p1), .val (.int 1), .val (.ref w1)] [(.ref w1), (.ref w1)])) X59 hx rfl rfl rfl (pc0 := 14) (pc' := 17) (same := true) rfl (hb hby at_14) rfl (decide_eq_true rfl) (by decide) (by decide) (XS.aloadN X59.here hx rfl (hb hby at_17) rfl rfl k)) ?_
    obtain ⟨cq60, kq60, q60a, q60b, q60c⟩ := isOf hZ hh59 (pr13.ext O58.2)
    obtain ⟨_, _, ⟨T60, L60, k60, n60⟩, -, X60, ⟨Lc60, hQ60, l60, y60, z60⟩, st60⟩ := X59.virtualBack hx (y := (⟨"com/example/aurel/aurel/catalog/ProductType", "code", "()I"⟩ : MethodName)) (z := (⟨"com/example/aurel/aurel/catalog/ProductType", "code", "()I"⟩ : MethodName)) hown (mvT hZ (wd hw 30 rfl)) (mvT hZ (wd hw 31 rfl)) (notFace_of_selects (args := #[]) (mvT hZ (wd hw 33 rfl))) (mvT hZ (wd hw 33 rfl)) (mvT hZ (wd hw 32 rfl)) (by decide) (backOf (W := 0) (rm_code l Z a0 hw [] w1 (1 : Int32) T57.heap n0 Z58 (pr5.ext O58.2)) hZ (wd hw 34 rfl) (wd hw 2 rfl) (by decide) (by decide)) q60a q60c (g := (mkF m 18 #[.val (.int p1), .val (.int 1), .val (.ref w1)] [(.ref w1)])) rfl (by rw [hml]; rfl) (Steps.refl _) (argsL := []) (rest := []) (lenOf pd_2 rfl) rfl (by show 2 * 0 + _ ≤ _; exact Nat.le_of_eq rfl) (hb hby at_18) (fun _ _ => ⟨rfl, hh59, Nat.le_of_ble_eq_true rfl, Nat.le_of_ble_eq_true rfl⟩)
    dsimp only [Pt.U, Pt.locs, Pt.cells, Pt.slots] at X60 l60 y60 z60 st60 hQ60
    subst l60 y60 z60
    obtain ⟨rfl, Nq60, hh60⟩ := hQ60
    have N60 := Fr.app N59 Nq60
    refine Go.by (B := (T60.setTop (mkF m 21 #[.val (.int p1), .val (.int 1), .val (.ref w1)] [(.int 1)]))) (fun _ k => st60.trans k) ?_
    refine Go.by (B := (T60.setTop (mkF m 30 #[.val (.int p1), .val (.int 1), .val (.ref w1)] [(.int 1)]))) (fun _ k => XS.iloadN X60.here hx rfl (hb hby at_21) rfl (XS.icmpNo X60.here hx rfl (hb hby at_22) rfl (teq (by decide : (1 : Int32) = (1 : Int32))).2 (XS.iconst X60.here hx rfl (hb hby at_25) (XS.goto X60.here hx rfl (pc0 := 26) (pc' := 30) rfl (hb hby at_26) (by decide) (by decide) k)))) ?_
    refine Go.ret X60 hx hlk (t := .boolean) hret rfl (Or.inl ⟨rfl, by simp, _, rfl⟩) (hb hby at_30) (by decide) (by decide) ?_
    exact ⟨rfl, N60⟩
  · skip
    refine Go.by (B := (s₁.setTop (mkF m 5 #[.val (.int p1), .val (.int 2), .unset] [(.int 2)]))) (fun _ k => XS.iloadN X0.here hx rfl (hb hby at_4) rfl k) ?_
    obtain ⟨_, _, ⟨T61, L61, k61, n61⟩, -, X61, ⟨Lc61, hQ61, l61, y61, z61⟩, st61⟩ := Jvm.LawKit.callS X0 hx (y := (⟨"com/example/aurel/aurel/catalog/ProductType", "fromCode", "(I)Lcom/example/aurel/aurel/catalog/ProductType;"⟩ : MethodName)) hown (mvT hZ (wd hw 0 rfl)) (mvT hZ (wd hw 1 rfl)) (mvT hZ (wd hw 2 rfl)) (mvT hZ (wd hw 3 rfl)) (by decide) (backOf (W := 0) (rm_from2 l Z a0 hw [] wv kv w0 w1 w2 w3 h0 n0 Z0 pr0 pr1 pr2 pr3 pr4 pr5 pr6 pr7) hZ (wd hw 3 rfl) (wd hw 2 rfl) (by decide) (by decide)) (g := (mkF m 5 #[.val (.int p1), .val (.int 2), .unset] [(.int 2)])) rfl (by rw [hml]; rfl) (argsL := [(.int 2)]) (rest := []) (lenOf pd_1 rfl) rfl (by show 2 * 0 + _ ≤ _; exact Nat.le_of_eq rfl) (hb hby at_5) (fun _ _ => ⟨rfl, e0, Nat.le_of_ble_eq_true rfl, Nat.le_of_ble_eq_true rfl⟩)
    dsimp only [Pt.U, Pt.locs, Pt.cells, Pt.slots] at X61 l61 y61 z61 st61 hQ61
    subst l61 y61 z61
    obtain ⟨rfl, Nq61, K61⟩ := hQ61
    have N61 := Fr.app N0 Nq61
    have O62 := pr0.keep K61 all0
    have Z62 : n0 ≤ T61.heap.size := Nat.le_trans Z0 K61.1
    refine Go.by (B := (T61.setTop (mkF m 8 #[.val (.int p1), .val (.int 2), .unset] [(.ref w2)]))) (fun _ k => st61 _ k) ?_
    refine Go.by (B := (T61.setTop (mkF m 11 #[.val (.int p1), .val (.int 2), .val (.ref w2)] [(.int 2), (.ref w2)]))) (fun _ k => XS.astoreN X61.here hx rfl (hb hby at_8) rfl rfl (l' := #[.val (.int p1), .val (.int 2), .val (.ref w2)]) rfl (XS.aloadN X61.here hx rfl (hb hby at_9) rfl rfl (XS.iloadN X61.here hx rfl (hb hby at_10) rfl k))) ?_
    obtain ⟨_, _, ⟨T63, L63, k63, n63⟩, -, X63, ⟨Lc63, hQ63, l63, y63, z63⟩, st63⟩ := Jvm.LawKit.callS X61 hx (y := (⟨"com/example/aurel/aurel/catalog/ProductTypeFromCodePinLaw", "expected", "(I)Lcom/example/aurel/aurel/catalog/ProductType;"⟩ : MethodName)) hown (mvT hZ (wd hw 25 rfl)) (mvT hZ (wd hw 26 rfl)) (mvT hZ (wd hw 27 rfl)) (mvT hZ (wd hw 28 rfl)) (by decide) (backOf (W := 1) (rm_exp2 l Z a0 hw [] w2 T61.heap n0 Z62 O62 pr10) hZ (wd hw 28 rfl) (wd hw 27 rfl) (by decide) (by decide)) (g := (mkF m 11 #[.val (.int p1), .val (.int 2), .val (.ref w2)] [(.int 2), (.ref w2)])) rfl (by rw [hml]; rfl) (argsL := [(.int 2)]) (rest := [(.ref w2)]) (lenOf pd_1 rfl) rfl (by show 2 * 0 + _ ≤ _; exact Nat.le_of_eq rfl) (hb hby at_11) (fun _ _ => ⟨rfl, rfl, Nat.le_of_ble_eq_true rfl, Nat.le_of_ble_eq_true rfl⟩)
    dsimp only [Pt.U, Pt.locs, Pt.cells, Pt.slots] at X63 l63 y63 z63 st63 hQ63
    subst l63 y63 z63
    obtain ⟨rfl, Nq63, hh63⟩ := hQ63
    have N63 := Fr.app N61 Nq63
    refine Go.by (B := (T63.setTop (mkF m 14 #[.val (.int p1), .val (.int 2), .val (.ref w2)] [(.ref w2), (.ref w2)]))) (fun _ k => st63 _ k) ?_
    refine Go.by (B := (T63.setTop (mkF m 18 #[.val (.int p1), .val (.int 2), .val (.ref w2)] [(.ref w2)]))) (fun _ k => Jvm.RoadKit.acmp (g := (mkF m 14 #[.val (.int p1), .val (.int 2), .val (.ref w2)] [(.ref w2), (.ref w2)])) X63 hx rfl rfl rfl (pc0 := 14) (pc' := 17) (same := true) rfl (hb hby at_14) rfl (decide_eq_true rfl) (by decide) (by decide) (XS.aloadN X63.here hx rfl (hb hby at_17) rfl rfl k)) ?_
    obtain ⟨cq64, kq64, q64a, q64b, q64c⟩ := isOf hZ hh63 (pr14.ext O62.2)
    obtain ⟨_, _, ⟨T64, L64, k64, n64⟩, -, X64, ⟨Lc64, hQ64, l64, y64, z64⟩, st64⟩ := X63.virtualBack hx (y := (⟨"com/example/aurel/aurel/catalog/ProductType", "code", "()I"⟩ : MethodName)) (z := (⟨"com/example/aurel/aurel/catalog/ProductType", "code", "()I"⟩ : MethodName)) hown (mvT hZ (wd hw 30 rfl)) (mvT hZ (wd hw 31 rfl)) (notFace_of_selects (args := #[]) (mvT hZ (wd hw 33 rfl))) (mvT hZ (wd hw 33 rfl)) (mvT hZ (wd hw 32 rfl)) (by decide) (backOf (W := 0) (rm_code l Z a0 hw [] w2 (2 : Int32) T61.heap n0 Z62 (pr6.ext O62.2)) hZ (wd hw 34 rfl) (wd hw 2 rfl) (by decide) (by decide)) q64a q64c (g := (mkF m 18 #[.val (.int p1), .val (.int 2), .val (.ref w2)] [(.ref w2)])) rfl (by rw [hml]; rfl) (Steps.refl _) (argsL := []) (rest := []) (lenOf pd_2 rfl) rfl (by show 2 * 0 + _ ≤ _; exact Nat.le_of_eq rfl) (hb hby at_18) (fun _ _ => ⟨rfl, hh63, Nat.le_of_ble_eq_true rfl, Nat.le_of_ble_eq_true rfl⟩)
    dsimp only [Pt.U, Pt.locs, Pt.cells, Pt.slots] at X64 l64 y64 z64 st64 hQ64
    subst l64 y64 z64
    obtain ⟨rfl, Nq64, hh64⟩ := hQ64
    have N64 := Fr.app N63 Nq64
    refine Go.by (B := (T64.setTop (mkF m 21 #[.val (.int p1), .val (.int 2), .val (.ref w2)] [(.int 2)]))) (fun _ k => st64.trans k) ?_
    refine Go.by (B := (T64.setTop (mkF m 30 #[.val (.int p1), .val (.int 2), .val (.ref w2)] [(.int 1)]))) (fun _ k => XS.iloadN X64.here hx rfl (hb hby at_21) rfl (XS.icmpNo X64.here hx rfl (hb hby at_22) rfl (teq (by decide : (2 : Int32) = (2 : Int32))).2 (XS.iconst X64.here hx rfl (hb hby at_25) (XS.goto X64.here hx rfl (pc0 := 26) (pc' := 30) rfl (hb hby at_26) (by decide) (by decide) k)))) ?_
    refine Go.ret X64 hx hlk (t := .boolean) hret rfl (Or.inl ⟨rfl, by simp, _, rfl⟩) (hb hby at_30) (by decide) (by decide) ?_
    exact ⟨rfl, N64⟩
  · skip
    refine Go.by (B := (s₁.setTop (mkF m 5 #[.val (.int p1), .val (.int 3), .unset] [(.int 3)]))) (fun _ k => XS.iloadN X0.here hx rfl (hb hby at_4) rfl k) ?_
    obtain ⟨_, _, ⟨T65, L65, k65, n65⟩, -, X65, ⟨Lc65, hQ65, l65, y65, z65⟩, st65⟩ := Jvm.LawKit.callS X0 hx (y := (⟨"com/example/aurel/aurel/catalog/ProductType", "fromCode", "(I)Lcom/example/aurel/aurel/catalog/ProductType;"⟩ : MethodName)) hown (mvT hZ (wd hw 0 rfl)) (mvT hZ (wd hw 1 rfl)) (mvT hZ (wd hw 2 rfl)) (mvT hZ (wd hw 3 rfl)) (by decide) (backOf (W := 0) (rm_from3 l Z a0 hw [] wv kv w0 w1 w2 w3 h0 n0 Z0 pr0 pr1 pr2 pr3 pr4 pr5 pr6 pr7) hZ (wd hw 3 rfl) (wd hw 2 rfl) (by decide) (by decide)) (g := (mkF m 5 #[.val (.int p1), .val (.int 3), .unset] [(.int 3)])) rfl (by rw [hml]; rfl) (argsL := [(.int 3)]) (rest := []) (lenOf pd_1 rfl) rfl (by show 2 * 0 + _ ≤ _; exact Nat.le_of_eq rfl) (hb hby at_5) (fun _ _ => ⟨rfl, e0, Nat.le_of_ble_eq_true rfl, Nat.le_of_ble_eq_true rfl⟩)
    dsimp only [Pt.U, Pt.locs, Pt.cells, Pt.slots] at X65 l65 y65 z65 st65 hQ65
    subst l65 y65 z65
    obtain ⟨rfl, Nq65, K65⟩ := hQ65
    have N65 := Fr.app N0 Nq65
    have O66 := pr0.keep K65 all0
    have Z66 : n0 ≤ T65.heap.size := Nat.le_trans Z0 K65.1
    refine Go.by (B := (T65.setTop (mkF m 8 #[.val (.int p1), .val (.int 3), .unset] [(.ref w3)]))) (fun _ k => st65 _ k) ?_
    refine Go.by (B := (T65.setTop (mkF m 11 #[.val (.int p1), .val (.int 3), .val (.ref w3)] [(.int 3), (.ref w3)]))) (fun _ k => XS.astoreN X65.here hx rfl (hb hby at_8) rfl rfl (l' := #[.val (.int p1), .val (.int 3), .val (.ref w3)]) rfl (XS.aloadN X65.here hx rfl (hb hby at_9) rfl rfl (XS.iloadN X65.here hx rfl (hb hby at_10) rfl k))) ?_
    obtain ⟨_, _, ⟨T67, L67, k67, n67⟩, -, X67, ⟨Lc67, hQ67, l67, y67, z67⟩, st67⟩ := Jvm.LawKit.callS X65 hx (y := (⟨"com/example/aurel/aurel/catalog/ProductTypeFromCodePinLaw", "expected", "(I)Lcom/example/aurel/aurel/catalog/ProductType;"⟩ : MethodName)) hown (mvT hZ (wd hw 25 rfl)) (mvT hZ (wd hw 26 rfl)) (mvT hZ (wd hw 27 rfl)) (mvT hZ (wd hw 28 rfl)) (by decide) (backOf (W := 1) (rm_exp3 l Z a0 hw [] w3 T65.heap n0 Z66 O66 pr11) hZ (wd hw 28 rfl) (wd hw 27 rfl) (by decide) (by decide)) (g := (mkF m 11 #[.val (.int p1), .val (.int 3), .val (.ref w3)] [(.int 3), (.ref w3)])) rfl (by rw [hml]; rfl) (argsL := [(.int 3)]) (rest := [(.ref w3)]) (lenOf pd_1 rfl) rfl (by show 2 * 0 + _ ≤ _; exact Nat.le_of_eq rfl) (hb hby at_11) (fun _ _ => ⟨rfl, rfl, Nat.le_of_ble_eq_true rfl, Nat.le_of_ble_eq_true rfl⟩)
    dsimp only [Pt.U, Pt.locs, Pt.cells, Pt.slots] at X67 l67 y67 z67 st67 hQ67
    subst l67 y67 z67
    obtain ⟨rfl, Nq67, hh67⟩ := hQ67
    have N67 := Fr.app N65 Nq67
    refine Go.by (B := (T67.setTop (mkF m 14 #[.val (.int p1), .val (.int 3), .val (.ref w3)] [(.ref w3), (.ref w3)]))) (fun _ k => st67 _ k) ?_
    refine Go.by (B := (T67.setTop (mkF m 18 #[.val (.int p1), .val (.int 3), .val (.ref w3)] [(.ref w3)]))) (fun _ k => Jvm.RoadKit.acmp (g := (mkF m 14 #[.val (.int p1), .val (.int 3), .val (.ref w3)] [(.ref w3), (.ref w3)])) X67 hx rfl rfl rfl (pc0 := 14) (pc' := 17) (same := true) rfl (hb hby at_14) rfl (decide_eq_true rfl) (by decide) (by decide) (XS.aloadN X67.here hx rfl (hb hby at_17) rfl rfl k)) ?_
    obtain ⟨cq68, kq68, q68a, q68b, q68c⟩ := isOf hZ hh67 (pr15.ext O66.2)
    obtain ⟨_, _, ⟨T68, L68, k68, n68⟩, -, X68, ⟨Lc68, hQ68, l68, y68, z68⟩, st68⟩ := X67.virtualBack hx (y := (⟨"com/example/aurel/aurel/catalog/ProductType", "code", "()I"⟩ : MethodName)) (z := (⟨"com/example/aurel/aurel/catalog/ProductType", "code", "()I"⟩ : MethodName)) hown (mvT hZ (wd hw 30 rfl)) (mvT hZ (wd hw 31 rfl)) (notFace_of_selects (args := #[]) (mvT hZ (wd hw 33 rfl))) (mvT hZ (wd hw 33 rfl)) (mvT hZ (wd hw 32 rfl)) (by decide) (backOf (W := 0) (rm_code l Z a0 hw [] w3 (3 : Int32) T65.heap n0 Z66 (pr7.ext O66.2)) hZ (wd hw 34 rfl) (wd hw 2 rfl) (by decide) (by decide)) q68a q68c (g := (mkF m 18 #[.val (.int p1), .val (.int 3), .val (.ref w3)] [(.ref w3)])) rfl (by rw [hml]; rfl) (Steps.refl _) (argsL := []) (rest := []) (lenOf pd_2 rfl) rfl (by show 2 * 0 + _ ≤ _; exact Nat.le_of_eq rfl) (hb hby at_18) (fun _ _ => ⟨rfl, hh67, Nat.le_of_ble_eq_true rfl, Nat.le_of_ble_eq_true rfl⟩)
    dsimp only [Pt.U, Pt.locs, Pt.cells, Pt.slots] at X68 l68 y68 z68 st68 hQ68
    subst l68 y68 z68
    obtain ⟨rfl, Nq68, hh68⟩ := hQ68
    have N68 := Fr.app N67 Nq68
    refine Go.by (B := (T68.setTop (mkF m 21 #[.val (.int p1), .val (.int 3), .val (.ref w3)] [(.int 3)]))) (fun _ k => st68.trans k) ?_
    refine Go.by (B := (T68.setTop (mkF m 30 #[.val (.int p1), .val (.int 3), .val (.ref w3)] [(.int 1)]))) (fun _ k => XS.iloadN X68.here hx rfl (hb hby at_21) rfl (XS.icmpNo X68.here hx rfl (hb hby at_22) rfl (teq (by decide : (3 : Int32) = (3 : Int32))).2 (XS.iconst X68.here hx rfl (hb hby at_25) (XS.goto X68.here hx rfl (pc0 := 26) (pc' := 30) rfl (hb hby at_26) (by decide) (by decide) k)))) ?_
    refine Go.ret X68 hx hlk (t := .boolean) hret rfl (Or.inl ⟨rfl, by simp, _, rfl⟩) (hb hby at_30) (by decide) (by decide) ?_
    exact ⟨rfl, N68⟩
set_option maxRecDepth 65536 in
set_option maxHeartbeats 40000000 in
theorem comes_1 {Post : Tables → Env → Array Value → State → Outcome → State → Prop} (hpost : ∀ tb e args s v u, (limb_1_1.after args s (.returned v) u = true ∧ limb_1_2.after args s (.returned v) u = true ∧ True) → FrameEnd s (.returned v) u (Jvm.fieldLocs frame_1_writes args s ++ Jvm.arrayLocs frame_1_arrays args s ++ Jvm.staticLocs frame_1_statics s) 16 128 → Post tb e args s (.returned v) u) :
    ArmFor flags0 classFile x code maxLocals ret World_1 tables_1 room_1 Calls_1 rest_1 Pre_1 Post := by
  intro l hfl _ _ p e ha hc hk s m args below hf hA hF happ hP
  obtain ⟨hcalls, hrest, hpre⟩ := hP
  obtain ⟨-, -, -, hnamed, -, -, -, hat⟩ := (Spec.applies_iff hf).mp happ
  obtain ⟨hg, hn⟩ := and_e (Cond.before_iff.mp (show (Jvm.Cond.and given_1 narrow_1).before args s = true from hpre))
  obtain ⟨hg0, hgr0⟩ := and_e hg
  obtain ⟨w0, rfl⟩ : ∃ w0 : Value, args = #[w0] := by
    have hs : args.size = 1 := by simpa [Cond.value, given_1] using hg0
    obtain ⟨L⟩ := args
    match L, hs with
    | [w0], _ => exact ⟨w0, rfl⟩
  have hw := fun d (hd : d ∈ tables_1) => atoms_spec (ws := Jvm.Cond.code x code maxLocals ret :: tables_1) hat d (List.mem_cons_of_mem _ hd)
  have hfit : Fit s := fun {y c} hc i hi => by
    obtain ⟨ha, rfl⟩ := Array.getElem?_eq_some_iff.mp hc
    have q := List.all_eq_true.mp ((Array.all_eq_true_iff_forall_mem.mp hF) _ (Array.getElem_mem ha)) i (List.mem_range.mpr hi)
    simpa [Array.getElem?_eq_getElem hi] using q
  obtain ⟨i0, ei0⟩ := is_v hgr0
  obtain rfl : w0 = (.int i0) := Option.some.inj ei0
  obtain ⟨hn69, hn70⟩ := and_e hn
  obtain ⟨hn71, hn72⟩ := and_e hn70
  obtain ⟨hn73, hn74⟩ := and_e hn72
  obtain ⟨hn75, hn76⟩ := and_e hn74
  obtain ⟨hn77, hn78⟩ := and_e hn76
  obtain ⟨hn79, hn80⟩ := and_e hn78
  obtain ⟨hn81, hn82⟩ := and_e hn80
  obtain ⟨hn83, hn84⟩ := and_e hn82
  obtain ⟨hn85, hn86⟩ := and_e hn84
  obtain ⟨hn87, hn88⟩ := and_e hn86
  obtain ⟨hn89, hn90⟩ := and_e hn88
  obtain ⟨hn91, hn92⟩ := and_e hn90
  obtain ⟨hn93, hn94⟩ := and_e hn92
  obtain ⟨hn95, hn96⟩ := and_e hn94
  obtain ⟨w__VALUES, ev_w__VALUES⟩ := exa_v hn71
  have S_w__VALUES : Sta s s.heap "com/example/aurel/aurel/catalog/ProductType" "$VALUES" "[Lcom/example/aurel/aurel/catalog/ProductType;" (.ref w__VALUES) := Sta.start ev_w__VALUES (Or.inr ⟨(wd hw 2 rfl), (wd hw 8 rfl)⟩)
  have E_w__VALUES := Exa.start ev_w__VALUES hn71
  obtain ⟨w_CONSUMABLE, ev_w_CONSUMABLE⟩ := exa_v hn75
  have S_w_CONSUMABLE : Sta s s.heap "com/example/aurel/aurel/catalog/ProductType" "CONSUMABLE" "Lcom/example/aurel/aurel/catalog/ProductType;" (.ref w_CONSUMABLE) := Sta.start ev_w_CONSUMABLE (Or.inr ⟨(wd hw 2 rfl), (wd hw 16 rfl)⟩)
  have E_w_CONSUMABLE := Exa.start ev_w_CONSUMABLE hn75
  obtain ⟨w_NON_CONSUMABLE, ev_w_NON_CONSUMABLE⟩ := exa_v hn79
  have S_w_NON_CONSUMABLE : Sta s s.heap "com/example/aurel/aurel/catalog/ProductType" "NON_CONSUMABLE" "Lcom/example/aurel/aurel/catalog/ProductType;" (.ref w_NON_CONSUMABLE) := Sta.start ev_w_NON_CONSUMABLE (Or.inr ⟨(wd hw 2 rfl), (wd hw 17 rfl)⟩)
  have E_w_NON_CONSUMABLE := Exa.start ev_w_NON_CONSUMABLE hn79
  obtain ⟨w_AUTO_RENEWING_SUBSCRIPTION, ev_w_AUTO_RENEWING_SUBSCRIPTION⟩ := exa_v hn83
  have S_w_AUTO_RENEWING_SUBSCRIPTION : Sta s s.heap "com/example/aurel/aurel/catalog/ProductType" "AUTO_RENEWING_SUBSCRIPTION" "Lcom/example/aurel/aurel/catalog/ProductType;" (.ref w_AUTO_RENEWING_SUBSCRIPTION) := Sta.start ev_w_AUTO_RENEWING_SUBSCRIPTION (Or.inr ⟨(wd hw 2 rfl), (wd hw 18 rfl)⟩)
  have E_w_AUTO_RENEWING_SUBSCRIPTION := Exa.start ev_w_AUTO_RENEWING_SUBSCRIPTION hn83
  obtain ⟨w_NON_RENEWING_SUBSCRIPTION, ev_w_NON_RENEWING_SUBSCRIPTION⟩ := exa_v hn87
  have S_w_NON_RENEWING_SUBSCRIPTION : Sta s s.heap "com/example/aurel/aurel/catalog/ProductType" "NON_RENEWING_SUBSCRIPTION" "Lcom/example/aurel/aurel/catalog/ProductType;" (.ref w_NON_RENEWING_SUBSCRIPTION) := Sta.start ev_w_NON_RENEWING_SUBSCRIPTION (Or.inr ⟨(wd hw 2 rfl), (wd hw 19 rfl)⟩)
  have E_w_NON_RENEWING_SUBSCRIPTION := Exa.start ev_w_NON_RENEWING_SUBSCRIPTION hn87
  obtain ⟨cl_w__VALUES, A_w__VALUES⟩ := Arr.start ev_w__VALUES hn69
  have sz_w__VALUES := own_sizek ev_w__VALUES A_w__VALUES hn73
  have el_w__VALUES_0 : cl_w__VALUES.slots[0]? = some (.ref w_CONSUMABLE) := (elem_in (own_eqR hn77 ev_w_CONSUMABLE) ev_w__VALUES (Term.int_eval _) A_w__VALUES.1).2
  have el_w__VALUES_1 : cl_w__VALUES.slots[1]? = some (.ref w_NON_CONSUMABLE) := (elem_in (own_eqR hn81 ev_w_NON_CONSUMABLE) ev_w__VALUES (Term.int_eval _) A_w__VALUES.1).2
  have el_w__VALUES_2 : cl_w__VALUES.slots[2]? = some (.ref w_AUTO_RENEWING_SUBSCRIPTION) := (elem_in (own_eqR hn85 ev_w_AUTO_RENEWING_SUBSCRIPTION) ev_w__VALUES (Term.int_eval _) A_w__VALUES.1).2
  have el_w__VALUES_3 : cl_w__VALUES.slots[3]? = some (.ref w_NON_RENEWING_SUBSCRIPTION) := (elem_in (own_eqR hn89 ev_w_NON_RENEWING_SUBSCRIPTION) ev_w__VALUES (Term.int_eval _) A_w__VALUES.1).2
  have V_w__VALUES : Arv s s.heap w__VALUES cl_w__VALUES.cls (.object "com/example/aurel/aurel/catalog/ProductType") (4 : Int32) [(.ref w_CONSUMABLE), (.ref w_NON_CONSUMABLE), (.ref w_AUTO_RENEWING_SUBSCRIPTION), (.ref w_NON_RENEWING_SUBSCRIPTION)] .null := Arv.start hfit A_w__VALUES sz_w__VALUES.1 sz_w__VALUES.2 (by decide) rfl ⟨el_w__VALUES_0, el_w__VALUES_1, el_w__VALUES_2, el_w__VALUES_3, trivial⟩
  have F_w_CONSUMABLE_code : Fld s s.heap w_CONSUMABLE "com/example/aurel/aurel/catalog/ProductType" "code" "I" (.int 0) := Fld.start ((fld_at ev_w_CONSUMABLE).symm.trans (own_eqk hn91))
  have F_w_NON_CONSUMABLE_code : Fld s s.heap w_NON_CONSUMABLE "com/example/aurel/aurel/catalog/ProductType" "code" "I" (.int 1) := Fld.start ((fld_at ev_w_NON_CONSUMABLE).symm.trans (own_eqk hn93))
  have F_w_AUTO_RENEWING_SUBSCRIPTION_code : Fld s s.heap w_AUTO_RENEWING_SUBSCRIPTION "com/example/aurel/aurel/catalog/ProductType" "code" "I" (.int 2) := Fld.start ((fld_at ev_w_AUTO_RENEWING_SUBSCRIPTION).symm.trans (own_eqk hn95))
  have F_w_NON_RENEWING_SUBSCRIPTION_code : Fld s s.heap w_NON_RENEWING_SUBSCRIPTION "com/example/aurel/aurel/catalog/ProductType" "code" "I" (.int 3) := Fld.start ((fld_at ev_w_NON_RENEWING_SUBSCRIPTION).symm.trans (own_eqk hn96))
  obtain ⟨n, o, h1, h2, h3, _, L, rfl, ⟨rfl, N⟩, hq⟩ := rm0 l s _ hw tables_1 i0 w__VALUES (cl_w__VALUES.cls) w_CONSUMABLE w_NON_CONSUMABLE w_AUTO_RENEWING_SUBSCRIPTION w_NON_RENEWING_SUBSCRIPTION s.heap s.heap.size (Nat.le_refl _) (Old.start s) S_w__VALUES E_w__VALUES V_w__VALUES F_w_CONSUMABLE_code F_w_NON_CONSUMABLE_code F_w_AUTO_RENEWING_SUBSCRIPTION_code F_w_NON_RENEWING_SUBSCRIPTION_code S_w_CONSUMABLE S_w_NON_CONSUMABLE S_w_AUTO_RENEWING_SUBSCRIPTION S_w_NON_RENEWING_SUBSCRIPTION E_w_CONSUMABLE E_w_NON_CONSUMABLE E_w_AUTO_RENEWING_SUBSCRIPTION E_w_NON_RENEWING_SUBSCRIPTION p e ha hc hk s m _ below hf ((Spec.applies_iff_loose hf).mp happ).1 ⟨rfl, State.Warmed39.refl s, rfl⟩ trivial
  refine ⟨n, _, h1, h2, h3, hpost _ _ _ _ _ _ ⟨Cond.after_iff.mpr rfl, Cond.after_iff.mpr (eq_i res_at (Term.int_eval (1)) rfl), trivial⟩ ⟨hq.1, hq.2.1, (hq.2.2.sift fun y hy => Or.inr (N y hy)).mono (by decide) (by decide)⟩⟩
theorem main_1_1 : Claimed_1_1 := comes_1 fun _ _ _ _ _ _ h hF => ⟨h.1, hF⟩
theorem main_1_2 : Claimed_1_2 := comes_1 fun _ _ _ _ _ _ h hF => ⟨h.2.1, hF⟩
end Jvm.Pilot.@@N@@
namespace Jvm.Pilot.@@N@@
open Jvm Jvm.ClassFile Sem Op Lib Jvm.Free Jvm.Stand Jvm.Pilot.@@N@@.Jvm.D
/-! MADE BY PROGRAM (witnessworld.py) out of the Statement's table words and the real class files: 13 classes; the members and pool entries that the words name. The judged class is class 1, her method 2. -/
namespace start1
open Jvm.ClassFile
def u (s : String) : CpInfo := .utf8 (stringToUtf16 s)
/-- a pool by its gaps: so many unusable entries, then the entry; so many at the end -/
def gap : Nat → List CpInfo → List CpInfo
  | 0, r => r
  | n + 1, r => .unusable :: gap n r
def poolList (es : List (Nat × CpInfo)) (last : Nat) : List CpInfo := es.foldr (fun e r => gap e.1 (e.2 :: r)) (gap last [])
def pool (es : List (Nat × CpInfo)) (last : Nat) : Array CpInfo := ⟨poolList es last⟩
def fileOf (pool : Array CpInfo) (this : Nat) (attrs : Array Attribute := #[]) (ms : Array MethodInfo := #[]) (fl : Nat := 33) (sup : Nat := 0) (ifs : Array Nat := #[]) (fds : Array FieldInfo := #[]) : ClassFile where
  minorVersion := 0
  majorVersion := 65
  constantPool := pool
  accessFlags := fl
  thisClass := this
  superClass := sup
  interfaces := ifs
  fields := fds
  methods := ms
  attributes := attrs
def plain (name : String) (sup : Option ClassId) : Class where
  name := name
  kind := .ordinary
  loader := none
  accessFlags := 33
  super := sup
  interfaces := #[]
  cf := none
  fields := #[]
  methods := #[]
  instanceTypes := #[]
  staticTypes := #[]
  resolved := #[]
  callSites := []
  init := .initialized
  statics := none
  mirror := none

def pool0 : Array CpInfo := pool [(5, u "<init>"), (0, u "()V"), (1, .class_ 10), (1, u "java/lang/Object"), (85, u "clone"), (0, u "()Ljava/lang/Object;")] 26

def k0m0 : Method := { name := "<init>", desc := "()V", sig := { parameters := [], returnType := none }, accessFlags := 1, code := none }
def k0m1 : Method := { name := "clone", desc := "()Ljava/lang/Object;", sig := { parameters := [], returnType := some (.object "java/lang/Object") }, accessFlags := 260, code := none }
/-- java/lang/Object -/
def k0 : Class := { plain "java/lang/Object" none with
  accessFlags := 33
  interfaces := #[]
  cf := some (fileOf pool0 8 #[] #[{ accessFlags := 1, nameIndex := 5, descriptorIndex := 6, attributes := #[] }, { accessFlags := 260, nameIndex := 96, descriptorIndex := 97, attributes := #[] }] 33 0 #[] #[])
  fields := #[]
  methods := #[k0m0, k0m1]
  instanceTypes := #[]
  staticTypes := #[]
  resolved := Array.replicate 124 none
  statics := none }

def pool1 : Array CpInfo := pool [(2, .class_ 4), (1, u "java/lang/Object"), (0, u "<init>"), (0, u "()V"), (0, .fieldref 8 9), (0, .class_ 10), (0, .nameAndType 11 12), (0, u "com/example/aurel/aurel/catalog/ProductType"), (0, u "CONSUMABLE"), (0, u "Lcom/example/aurel/aurel/catalog/ProductType;"), (0, .fieldref 8 14), (0, .nameAndType 15 12), (0, u "NON_CONSUMABLE"), (0, .fieldref 8 17), (0, .nameAndType 18 12), (0, u "AUTO_RENEWING_SUBSCRIPTION"), (0, .fieldref 8 20), (0, .nameAndType 21 12), (0, u "NON_RENEWING_SUBSCRIPTION"), (0, .methodref 8 23), (0, .nameAndType 24 25), (0, u "fromCode"), (0, u "(I)Lcom/example/aurel/aurel/catalog/ProductType;"), (0, .methodref 27 28), (0, .class_ 29), (0, .nameAndType 30 25), (0, u "com/example/aurel/aurel/catalog/ProductTypeFromCodePinLaw"), (0, u "expected"), (0, .methodref 8 32), (0, .nameAndType 33 34), (0, u "code"), (0, u "()I"), (3, u "law"), (0, u "(I)Z")] 2

def k1m0 : Method := { name := "<init>", desc := "()V", sig := { parameters := [], returnType := none }, accessFlags := 2, code := none }
def k1c1 : Code := { maxStack := 2, maxLocals := 1, code := method_2_code, exceptionTable := #[], attributes := #[] }
def k1m1 : Method := { name := "expected", desc := "(I)Lcom/example/aurel/aurel/catalog/ProductType;", sig := { parameters := [.int], returnType := some (.object "com/example/aurel/aurel/catalog/ProductType") }, accessFlags := 10, code := some k1c1 }
def k1c2 : Code := { maxStack := 2, maxLocals := 3, code := code, exceptionTable := #[], attributes := #[] }
def k1m2 : Method := { name := "law", desc := "(I)Z", sig := { parameters := [.int], returnType := some .boolean }, accessFlags := 9, code := some k1c2 }
/-- com/example/aurel/aurel/catalog/ProductTypeFromCodePinLaw -/
def k1 : Class := { plain "com/example/aurel/aurel/catalog/ProductTypeFromCodePinLaw" (some 0) with
  accessFlags := 49
  interfaces := #[]
  cf := some (fileOf pool1 27 #[] #[{ accessFlags := 2, nameIndex := 5, descriptorIndex := 6, attributes := #[] }, { accessFlags := 10, nameIndex := 30, descriptorIndex := 25, attributes := #[] }, { accessFlags := 9, nameIndex := 38, descriptorIndex := 39, attributes := #[] }] 49 2 #[] #[])
  fields := #[]
  methods := #[k1m0, k1m1, k1m2]
  instanceTypes := #[]
  staticTypes := #[]
  resolved := Array.replicate 42 none
  statics := none }

def pool2 : Array CpInfo := pool [(1, .class_ 2), (0, u "java/lang/constant/Constable"), (0, .class_ 4), (0, u "java/lang/Object")] 6

/-- java/lang/constant/Constable -/
def k2 : Class := { plain "java/lang/constant/Constable" (some 0) with
  accessFlags := 1537
  interfaces := #[]
  cf := some (fileOf pool2 1 #[] #[] 1537 3 #[] #[])
  fields := #[]
  methods := #[]
  instanceTypes := #[]
  staticTypes := #[]
  resolved := Array.replicate 11 none
  statics := none }

def pool3 : Array CpInfo := pool [(1, .class_ 2), (0, u "java/lang/Comparable"), (0, .class_ 4), (0, u "java/lang/Object")] 7

/-- java/lang/Comparable -/
def k3 : Class := { plain "java/lang/Comparable" (some 0) with
  accessFlags := 1537
  interfaces := #[]
  cf := some (fileOf pool3 1 #[] #[] 1537 3 #[] #[])
  fields := #[]
  methods := #[]
  instanceTypes := #[]
  staticTypes := #[]
  resolved := Array.replicate 12 none
  statics := none }

def pool4 : Array CpInfo := pool [(1, .class_ 2), (0, u "java/io/Serializable"), (0, .class_ 4), (0, u "java/lang/Object")] 2

/-- java/io/Serializable -/
def k4 : Class := { plain "java/io/Serializable" (some 0) with
  accessFlags := 1537
  interfaces := #[]
  cf := some (fileOf pool4 1 #[] #[] 1537 3 #[] #[])
  fields := #[]
  methods := #[]
  instanceTypes := #[]
  staticTypes := #[]
  resolved := Array.replicate 7 none
  statics := none }

def pool5 : Array CpInfo := pool [(2, .class_ 4), (1, u "java/lang/Enum"), (0, u "name"), (0, u "Ljava/lang/String;"), (2, u "ordinal"), (0, u "I"), (1, .class_ 14), (1, u "java/lang/Object"), (4, u "hash"), (86, .class_ 108), (1, u "java/lang/Enum$EnumDesc"), (2, .class_ 112), (0, u "java/lang/constant/Constable"), (0, .class_ 114), (0, u "java/lang/Comparable"), (0, .class_ 116), (0, u "java/io/Serializable")] 87

/-- java/lang/Enum -/
def k5 : Class := { plain "java/lang/Enum" (some 0) with
  accessFlags := 1057
  interfaces := #[2, 3, 4]
  cf := some (fileOf pool5 2 #[.nestMembers #[106]] #[] 1057 12 #[111, 113, 115] #[{ accessFlags := 18, nameIndex := 5, descriptorIndex := 6, attributes := #[] }, { accessFlags := 18, nameIndex := 9, descriptorIndex := 10, attributes := #[] }, { accessFlags := 2, nameIndex := 19, descriptorIndex := 10, attributes := #[] }])
  fields := #[{ name := "name", type := (.object "java/lang/String"), accessFlags := 18, slot := 0, constantValue := 0 }, { name := "ordinal", type := .int, accessFlags := 18, slot := 1, constantValue := 0 }, { name := "hash", type := .int, accessFlags := 2, slot := 2, constantValue := 0 }]
  methods := #[]
  instanceTypes := #[(.object "java/lang/String"), .int, .int]
  staticTypes := #[]
  resolved := Array.replicate 204 none
  statics := none }

def pool6 : Array CpInfo := pool [(1, .class_ 2), (0, u "com/example/aurel/aurel/catalog/ProductType"), (2, u "CONSUMABLE"), (0, u "Lcom/example/aurel/aurel/catalog/ProductType;"), (2, u "NON_CONSUMABLE"), (2, u "AUTO_RENEWING_SUBSCRIPTION"), (2, u "NON_RENEWING_SUBSCRIPTION"), (0, .fieldref 1 17), (0, .nameAndType 18 19), (0, u "$VALUES"), (0, u "[Lcom/example/aurel/aurel/catalog/ProductType;"), (0, .methodref 21 22), (0, .class_ 19), (0, .nameAndType 23 24), (0, u "clone"), (0, u "()Ljava/lang/Object;"), (1, .class_ 28), (1, u "java/lang/Enum"), (6, .fieldref 1 36), (0, .nameAndType 37 38), (0, u "code"), (0, u "I"), (2, u "description"), (0, u "Ljava/lang/String;"), (0, .methodref 1 44), (0, .nameAndType 45 46), (0, u "values"), (0, u "()[Lcom/example/aurel/aurel/catalog/ProductType;"), (33, u "fromCode"), (0, u "(I)Lcom/example/aurel/aurel/catalog/ProductType;"), (1, u "()I")] 21

def k6c0 : Code := { maxStack := 1, maxLocals := 0, code := prog_6_method_1_code, exceptionTable := #[], attributes := #[] }
def k6m0 : Method := { name := "values", desc := "()[Lcom/example/aurel/aurel/catalog/ProductType;", sig := { parameters := [], returnType := some (.array (.object "com/example/aurel/aurel/catalog/ProductType")) }, accessFlags := 9, code := some k6c0 }
def k6c1 : Code := { maxStack := 3, maxLocals := 5, code := prog_6_method_4_code, exceptionTable := #[], attributes := #[] }
def k6m1 : Method := { name := "fromCode", desc := "(I)Lcom/example/aurel/aurel/catalog/ProductType;", sig := { parameters := [.int], returnType := some (.object "com/example/aurel/aurel/catalog/ProductType") }, accessFlags := 9, code := some k6c1 }
def k6c2 : Code := { maxStack := 1, maxLocals := 1, code := prog_6_method_5_code, exceptionTable := #[], attributes := #[] }
def k6m2 : Method := { name := "code", desc := "()I", sig := { parameters := [], returnType := some .int }, accessFlags := 1, code := some k6c2 }
/-- com/example/aurel/aurel/catalog/ProductType -/
def k6 : Class := { plain "com/example/aurel/aurel/catalog/ProductType" (some 5) with
  accessFlags := 16433
  interfaces := #[]
  cf := some (fileOf pool6 1 #[] #[{ accessFlags := 9, nameIndex := 45, descriptorIndex := 46, attributes := #[] }, { accessFlags := 9, nameIndex := 80, descriptorIndex := 81, attributes := #[] }, { accessFlags := 1, nameIndex := 37, descriptorIndex := 83, attributes := #[] }] 16433 26 #[] #[{ accessFlags := 16409, nameIndex := 5, descriptorIndex := 6, attributes := #[] }, { accessFlags := 16409, nameIndex := 9, descriptorIndex := 6, attributes := #[] }, { accessFlags := 16409, nameIndex := 12, descriptorIndex := 6, attributes := #[] }, { accessFlags := 16409, nameIndex := 15, descriptorIndex := 6, attributes := #[] }, { accessFlags := 18, nameIndex := 37, descriptorIndex := 38, attributes := #[] }, { accessFlags := 18, nameIndex := 41, descriptorIndex := 42, attributes := #[] }, { accessFlags := 4122, nameIndex := 18, descriptorIndex := 19, attributes := #[] }])
  fields := #[{ name := "CONSUMABLE", type := (.object "com/example/aurel/aurel/catalog/ProductType"), accessFlags := 16409, slot := 0, constantValue := 0 }, { name := "NON_CONSUMABLE", type := (.object "com/example/aurel/aurel/catalog/ProductType"), accessFlags := 16409, slot := 1, constantValue := 0 }, { name := "AUTO_RENEWING_SUBSCRIPTION", type := (.object "com/example/aurel/aurel/catalog/ProductType"), accessFlags := 16409, slot := 2, constantValue := 0 }, { name := "NON_RENEWING_SUBSCRIPTION", type := (.object "com/example/aurel/aurel/catalog/ProductType"), accessFlags := 16409, slot := 3, constantValue := 0 }, { name := "code", type := .int, accessFlags := 18, slot := 3, constantValue := 0 }, { name := "description", type := (.object "java/lang/String"), accessFlags := 18, slot := 4, constantValue := 0 }, { name := "$VALUES", type := (.array (.object "com/example/aurel/aurel/catalog/ProductType")), accessFlags := 4122, slot := 4, constantValue := 0 }]
  methods := #[k6m0, k6m1, k6m2]
  instanceTypes := #[(.object "java/lang/String"), .int, .int, .int, (.object "java/lang/String")]
  staticTypes := #[(.object "com/example/aurel/aurel/catalog/ProductType"), (.object "com/example/aurel/aurel/catalog/ProductType"), (.object "com/example/aurel/aurel/catalog/ProductType"), (.object "com/example/aurel/aurel/catalog/ProductType"), (.array (.object "com/example/aurel/aurel/catalog/ProductType"))]
  resolved := Array.replicate 105 none
  statics := some 0 }

def pool7 : Array CpInfo := pool [(1, .class_ 2), (0, u "java/lang/Cloneable"), (0, .class_ 4), (0, u "java/lang/Object")] 2

/-- java/lang/Cloneable -/
def k7 : Class := { plain "java/lang/Cloneable" (some 0) with
  accessFlags := 1537
  interfaces := #[]
  cf := some (fileOf pool7 1 #[] #[] 1537 3 #[] #[])
  fields := #[]
  methods := #[]
  instanceTypes := #[]
  staticTypes := #[]
  resolved := Array.replicate 7 none
  statics := none }

/-- the primitive byte -/
def k8 : Class := { plain "byte" none with kind := .primitive 'B', accessFlags := 0x411 }
/-- [B -/
def k9 : Class := { plain "[B" (some 0) with kind := .array 8 .byte, interfaces := #[7, 4], accessFlags := 1041 }

/-- the primitive int -/
def k10 : Class := { plain "int" none with kind := .primitive 'I', accessFlags := 0x411 }
/-- [I -/
def k11 : Class := { plain "[I" (some 0) with kind := .array 10 .int, interfaces := #[7, 4], accessFlags := 1041 }

/-- [Lcom/example/aurel/aurel/catalog/ProductType; -/
def k12 : Class := { plain "[Lcom/example/aurel/aurel/catalog/ProductType;" (some 0) with kind := .array 6 (.object "com/example/aurel/aurel/catalog/ProductType"), interfaces := #[7, 4], accessFlags := 1041 }

def heap : Heap := #[{ cls := 6, slots := #[.ref 2, .ref 3, .ref 4, .ref 5, .ref 1], vm := .statics 6 },
  { cls := 12, slots := #[.ref 2, .ref 3, .ref 4, .ref 5], vm := .none },
  { cls := 6, slots := #[.null, .int 0, .int 0, .int 0, .null], vm := .none },
  { cls := 6, slots := #[.null, .int 0, .int 0, .int 1, .null], vm := .none },
  { cls := 6, slots := #[.null, .int 0, .int 0, .int 2, .null], vm := .none },
  { cls := 6, slots := #[.null, .int 0, .int 0, .int 3, .null], vm := .none }]
def classes : Array Class := #[k0, k1, k2, k3, k4, k5, k6, k7, k8, k9, k10, k11, k12]
def interned : List (Array UInt16 × Addr) := []
def slotsUsed : Nat := 29
def theMethod : MethodId := ⟨1, 2⟩
def args0 : Array Value := #[.int 5]
def aboutOver (below : List Frame) : State where
  vm := { classes := classes, interned := interned.toArray }
  heap := heap
  slotsUsed := slotsUsed
  threads := #[{ frames := .invoking theMethod args0 :: below }]
def below0 : List Frame := [.native { method := ⟨0, 0⟩, args := #[] }]
def about1 : State := aboutOver below0
def p0 : Program := .bare "" "" ""
def e0 : Env := launch0.env 0 0 0
theorem w_frames : about1.frames = Frame.invoking theMethod args0 :: below0 := rfl
set_option maxRecDepth 65536 in
theorem w_args : argsFit about1.vm theMethod args0 = true := by decide +kernel
set_option maxRecDepth 65536 in
theorem w_heap : heapFits about1 = true := by decide +kernel
set_option maxRecDepth 65536 in
theorem w_runnable : about1.curStatus? = some .runnable := by decide +kernel
set_option maxRecDepth 65536 in
theorem w_alone : about1.alone = true := by decide +kernel
set_option maxRecDepth 65536 in
theorem w_named : about1.methodNamed? x = some theMethod := by decide +kernel
set_option maxRecDepth 65536 in
theorem w_hears : about1.hears theMethod below0 = true := by decide +kernel
set_option maxRecDepth 65536 in
theorem w_ripe : about1.ripe theMethod args0 below0 = true := by decide +kernel
theorem w_running : about1.status = .running := rfl
set_option maxRecDepth 65536 in
theorem w_room : about1.hasRoom e0.platform room_1 = true :=
  launch0.hasRoom_least _ room_1 (by decide +kernel) (by decide +kernel) (by decide +kernel) (by decide +kernel) (by decide +kernel) (by decide +kernel)
theorem allAtoms_all (ts : List Jvm.Cond) (a : Array Jvm.Value) (st : Jvm.State) : (allAtoms ts).before a st = ts.all (fun c => c.before a st) := by
  induction ts with
  | nil => rfl
  | cons c t ih =>
    show (Jvm.Cond.and c (allAtoms t)).before a st = _
    rw [Jvm.Cond.before_and, ih, List.all_cons]
def words1 : List Jvm.Cond := Jvm.Cond.code x code maxLocals ret :: tables_1
/-- a 'code' word, met by the world's own term for the bytes: nothing is compared byte by byte -/
theorem code_word {y : MethodName} {bytes : ByteArray} {mx : Nat} {rt : Option FieldType} {a : Array Value} {s : State} {m : MethodId} {meth : Method} {c : Code} (h1 : s.methodNamed? y = some m) (h2 : s.vm.method? m = some meth) (h3 : meth.code = some c) (h4 : c.code = bytes)
    (h5 : (c.maxLocals == mx && c.exceptionTable.isEmpty && decide (c.maxStack ≤ mostOperands) && decide (meth.sig.returnType = rt) && !meth.locks && decide (parseMethodDescriptor y.desc = some meth.sig)) = true) : (Jvm.Cond.code y bytes mx rt).before a s = true := by
  simp only [Bool.and_eq_true, beq_iff_eq, Bool.not_eq_true', decide_eq_true_eq] at h5
  obtain ⟨⟨⟨⟨⟨g1, g2⟩, g3⟩, g4⟩, g5⟩, g6⟩ := h5
  simp [Cond.before, Cond.holds, Cond.value, h1, h2, h3, h4, g1, g2, g3, g4, g5, g6]
def isCode : Jvm.Cond → Bool
  | .code _ _ _ _ => true
  | _ => false
theorem all_split {L : List Jvm.Cond} {P : Jvm.Cond → Bool} (h1 : L.all (fun c => isCode c || P c) = true) (h2 : ∀ c ∈ L.filter isCode, P c = true) : L.all P = true := by
  refine List.all_eq_true.mpr fun c hc => ?_
  have h := List.all_eq_true.mp h1 c hc
  rcases Bool.eq_false_or_eq_true (isCode c) with hi | hi
  · exact h2 c (List.mem_filter.mpr ⟨hc, hi⟩)
  · simpa [hi] using h
set_option maxRecDepth 65536 in
theorem w_c0 : (Jvm.Cond.code x code maxLocals ret).before args0 about1 = true := code_word (m := ⟨1, 2⟩) (meth := k1m2) (c := k1c2) (by decide +kernel) rfl rfl rfl (by decide +kernel)
set_option maxRecDepth 65536 in
theorem w_c1 : (Jvm.Cond.code ({ cls := "com/example/aurel/aurel/catalog/ProductType", name := "fromCode", desc := "(I)Lcom/example/aurel/aurel/catalog/ProductType;" } : Jvm.MethodName) prog_6_method_4_code (5 : Nat) (Option.some (Jvm.ClassFile.FieldType.object "com/example/aurel/aurel/catalog/ProductType"))).before args0 about1 = true := code_word (m := ⟨6, 1⟩) (meth := k6m1) (c := k6c1) (by decide +kernel) rfl rfl rfl (by decide +kernel)
set_option maxRecDepth 65536 in
theorem w_c2 : (Jvm.Cond.code ({ cls := "com/example/aurel/aurel/catalog/ProductType", name := "values", desc := "()[Lcom/example/aurel/aurel/catalog/ProductType;" } : Jvm.MethodName) prog_6_method_1_code (0 : Nat) (Option.some (Jvm.ClassFile.FieldType.array (Jvm.ClassFile.FieldType.object "com/example/aurel/aurel/catalog/ProductType")))).before args0 about1 = true := code_word (m := ⟨6, 0⟩) (meth := k6m0) (c := k6c0) (by decide +kernel) rfl rfl rfl (by decide +kernel)
set_option maxRecDepth 65536 in
theorem w_c3 : (Jvm.Cond.code ({ cls := "com/example/aurel/aurel/catalog/ProductTypeFromCodePinLaw", name := "expected", desc := "(I)Lcom/example/aurel/aurel/catalog/ProductType;" } : Jvm.MethodName) method_2_code (1 : Nat) (Option.some (Jvm.ClassFile.FieldType.object "com/example/aurel/aurel/catalog/ProductType"))).before args0 about1 = true := code_word (m := ⟨1, 1⟩) (meth := k1m1) (c := k1c1) (by decide +kernel) rfl rfl rfl (by decide +kernel)
set_option maxRecDepth 65536 in
theorem w_c4 : (Jvm.Cond.code ({ cls := "com/example/aurel/aurel/catalog/ProductType", name := "code", desc := "()I" } : Jvm.MethodName) prog_6_method_5_code (1 : Nat) (Option.some Jvm.ClassFile.FieldType.int)).before args0 about1 = true := code_word (m := ⟨6, 2⟩) (meth := k6m2) (c := k6c2) (by decide +kernel) rfl rfl rfl (by decide +kernel)
def codes1 : List Jvm.Cond := [Jvm.Cond.code x code maxLocals ret, Jvm.Cond.code ({ cls := "com/example/aurel/aurel/catalog/ProductType", name := "fromCode", desc := "(I)Lcom/example/aurel/aurel/catalog/ProductType;" } : Jvm.MethodName) prog_6_method_4_code (5 : Nat) (Option.some (Jvm.ClassFile.FieldType.object "com/example/aurel/aurel/catalog/ProductType")), Jvm.Cond.code ({ cls := "com/example/aurel/aurel/catalog/ProductType", name := "values", desc := "()[Lcom/example/aurel/aurel/catalog/ProductType;" } : Jvm.MethodName) prog_6_method_1_code (0 : Nat) (Option.some (Jvm.ClassFile.FieldType.array (Jvm.ClassFile.FieldType.object "com/example/aurel/aurel/catalog/ProductType"))), Jvm.Cond.code ({ cls := "com/example/aurel/aurel/catalog/ProductTypeFromCodePinLaw", name := "expected", desc := "(I)Lcom/example/aurel/aurel/catalog/ProductType;" } : Jvm.MethodName) method_2_code (1 : Nat) (Option.some (Jvm.ClassFile.FieldType.object "com/example/aurel/aurel/catalog/ProductType")), Jvm.Cond.code ({ cls := "com/example/aurel/aurel/catalog/ProductType", name := "code", desc := "()I" } : Jvm.MethodName) prog_6_method_5_code (1 : Nat) (Option.some Jvm.ClassFile.FieldType.int)]
set_option maxRecDepth 65536 in
theorem codes_eq : words1.filter isCode = codes1 := rfl
theorem w_codes : ∀ c ∈ words1.filter isCode, c.before args0 about1 = true := by
  rw [codes_eq]
  intro c hc
  simp only [codes1, List.mem_cons, List.not_mem_nil, or_false] at hc
  rcases hc with rfl | rfl | rfl | rfl | rfl
  · exact w_c0
  · exact w_c1
  · exact w_c2
  · exact w_c3
  · exact w_c4
set_option maxRecDepth 65536 in
theorem w_t1 : (words1.take 24).all (fun c => isCode c || c.before args0 about1) = true := by decide +kernel
set_option maxRecDepth 65536 in
theorem w_t2 : (words1.drop 24).all (fun c => isCode c || c.before args0 about1) = true := by decide +kernel
theorem w_tables : (allAtoms (Jvm.Cond.code x code maxLocals ret :: tables_1)).before args0 about1 = true := by
  rw [allAtoms_all]
  show words1.all (fun c => c.before args0 about1) = true
  refine all_split ?_ w_codes
  rw [← List.take_append_drop 24 words1, List.all_append, w_t1, w_t2]
  rfl
set_option maxRecDepth 65536 in
theorem w_case : (Jvm.Cond.and given_1 narrow_1).before args0 about1 = true := by decide +kernel
theorem w_applies : (headSpec (Jvm.Cond.code x code maxLocals ret :: tables_1) room_1).applies x e0.platform about1 = true :=
  (Spec.applies_iff w_frames).mpr ⟨w_running, w_runnable, w_alone, w_named, w_hears, w_ripe, w_room, w_tables⟩
theorem atStart : AtStart classFile x code maxLocals ret World_1 tables_1 room_1 Calls_1 rest_1 Pre_1 launch0 p0 e0 about1 theMethod args0 below0 :=
  ⟨lists_1, trivial, launch0.admits_env _ _ _, launch0.least_env, fairChoices_fair.cas, fairChoices_fair.clock, w_frames, w_args, w_heap, w_applies, trivial, trivial, w_case⟩
end start1
theorem witness_1 : WitnessClaimed_1 := ⟨start1.p0, start1.e0, start1.about1, start1.theMethod, start1.args0, start1.below0, start1.atStart⟩
end Jvm.Pilot.@@N@@
