import JvmDerived
import JvmDerived.Pilot.@@N@@Statement
import JvmDerived.Pilot.@@N@@Code
set_option linter.unusedVariables false
set_option linter.unusedSimpArgs false
namespace Jvm.RoadKit
open Sem ClassFile Op Lib Jvm.Stand Jvm.Free Jvm.LawKit
section Own
variable {p : Program} {l : Launch} {e : Env} {R : Room} {s : State} {m : MethodId} {args : Array Value} {below : List Frame} {meth : Method} {c : Code} {T A B : State} {locs : List Loc} {cells slots K N : Nat} {P : State → Outcome → Prop} {Q : Option Value → Heap → List Loc → Prop}
/-- the run that stands at A comes to an end of which P holds -/
def Go (p : Program) (e : Env) (below : List Frame) (P : State → Outcome → Prop) (A : State) : Prop := ∃ s₂ o, Steps p.tables e below A s₂ ∧ s₂.status = .running ∧ Ended s₂ below o ∧ P s₂ o
def PostW (s : State) (K N : Nat) (Q : Option Value → Heap → List Loc → Prop) : State → Outcome → Prop := fun s₂ o => ∃ v L, o = .returned v ∧ Q v s₂.heap L ∧ FrameEnd s o s₂ L K N
theorem Go.by (h : ∀ t, Steps p.tables e below B t → Steps p.tables e below A t) (k : Go p e below P B) : Go p e below P A := by
  obtain ⟨s₂, o, h1, h2⟩ := k
  exact ⟨s₂, o, h _ h1, h2⟩
abbrev vi (n : Int32) : Slot := .val (.int n)
abbrev vr (a : Addr) : Slot := .val (.ref a)
abbrev St (T : State) (m : MethodId) (pc : Nat) (L : Array Slot) (S : List Value) : State := T.setTop (mkF m pc L S)
theorem gy (B : State) (h : ∀ t, Steps p.tables e below B t → Steps p.tables e below A t) (k : Go p e below P B) : Go p e below P A := Go.by h k
theorem Go.to (h : Steps p.tables e below A B) (k : Go p e below P B) : Go p e below P A := Go.by (fun _ q => h.trans q) k
theorem Go.cast {g g' : JFrame} (q : g = g') (k : Go p e below P (T.setTop g')) : Go p e below P (T.setTop g) := q ▸ k
theorem Go.ret (X : Stand p l e R s m args below meth c T locs cells slots) (hx : p.tables.exec = Jvm.exec) (hlk : meth.locks = false) {pc : Nat} {Ls : Array Slot} {w : Value} {t : FieldType} {i : Instr} {rest : List Value} (hret : meth.sig.returnType = some t) (hn : narrow t w = w)
    (hi : (i = .ireturn ∧ (t = .int ∨ t = .boolean ∨ t = .byte ∨ t = .char ∨ t = .short) ∧ ∃ z, w = .int z) ∨ (i = .lreturn ∧ t = .long ∧ ∃ z, w = .long z) ∨ (i = .dreturn ∧ t = .double ∧ ∃ z, w = .double z) ∨ (i = .freturn ∧ t = .float ∧ ∃ z, w = .float z) ∨ (i = .areturn ∧ t.isReference = true ∧ w.isRef = true))
    (hd : decode c.code pc = .ok (i, 1)) (hc : cells ≤ K) (hs : slots ≤ N) (hQ : Q (some w) T.heap locs) : Go p e below (PostW s K N Q) (T.setTop (mkF m pc Ls (w :: rest))) := by
  obtain ⟨fs, hr, hrun, hended, hW, hsame⟩ := X.leave (v := some w) (fun h => by rw [hret] at h; cases h) hlk
  exact ⟨_, _, retOut X hx hret hn hi hd hr, hrun, hended, _, _, rfl, hQ, ⟨_, rfl⟩, hW, hsame.mono hc hs⟩
theorem Go.retZ (X : Stand p l e R s m args below meth c T locs cells slots) (hx : p.tables.exec = Jvm.exec) (hlk : meth.locks = false) {pc : Nat} {Ls : Array Slot} {z : Int32} {t : FieldType} {rest : List Value} (hret : meth.sig.returnType = some t) (ht : t = .boolean ∨ t = .byte ∨ t = .char ∨ t = .short)
    (hd : decode c.code pc = .ok (.ireturn, 1)) (hc : cells ≤ K) (hs : slots ≤ N) (hQ : Q (some (.int (nar t z))) T.heap locs) : Go p e below (PostW s K N Q) (T.setTop (mkF m pc Ls (.int z :: rest))) := by
  obtain ⟨fs, hr, hrun, hended, hW, hsame⟩ := X.leave (v := some (.int (nar t z))) (fun h => by rw [hret] at h; cases h) hlk
  exact ⟨_, _, retN X hx hret ht hd hr, hrun, hended, _, _, rfl, hQ, ⟨_, rfl⟩, hW, hsame.mono hc hs⟩
theorem own_cat {w : Value} (h : w.isRef = true) : w.category = 1 := by cases w <;> first | rfl | (simp [Value.isRef] at h)
theorem own_narR {w : Value} {t : FieldType} (h : w.isRef = true) (ht : t.isReference = true) : narrow t w = w := by cases t <;> first | (cases ht; done) | (cases w <;> first | rfl | (simp [Value.isRef] at h))
theorem own_fitR {w : Value} {t : FieldType} (h : w.isRef = true) (ht : t.isReference = true) : fits t w = true := by cases t <;> first | (cases ht; done) | (cases w <;> first | rfl | (simp [Value.isRef] at h))
theorem own_a {P : Value → Prop} {x : Value} {r : List Value} (h : P x) (k : ∀ v ∈ r, P v) : ∀ v ∈ x :: r, P v := List.forall_mem_cons.2 ⟨h, k⟩
theorem own_push (acc : Array Slot) {v : Value} (h : v.category = 1) : (if v.category = 2 then (acc.push (.val v)).push .second else acc.push (.val v)) = acc.push (.val v) := by rw [if_neg]; rw [h]; decide
theorem own_fold {xs : List Value} (h : ∀ v ∈ xs, v.category = 1) : ∀ acc : Array Slot, xs.foldl (fun acc v => if v.category = 2 then (acc.push (.val v)).push .second else acc.push (.val v)) acc = acc ++ (xs.map Slot.val).toArray := by
  induction xs with
  | nil => intro acc; simp
  | cons x r ih =>
    intro acc
    rw [List.foldl_cons, own_push acc (h x (List.mem_cons_self ..)), ih (fun v q => h v (List.mem_cons_of_mem _ q))]
    simp
theorem own_ent (m : MethodId) {xs : List Value} {n : Nat} {k : Nat} (h : ∀ v ∈ xs, v.category = 1) (hn : n = xs.length + k) : entryFrame m xs.toArray n = mkF m 0 ((xs.map Slot.val) ++ List.replicate k Slot.unset).toArray [] := by
  have e : xs.toArray.foldl (init := #[]) (fun acc v => if v.category = 2 then (acc.push (.val v)).push .second else acc.push (.val v)) = (xs.map Slot.val).toArray := by
    rw [List.foldl_toArray, own_fold h]; simp
  have z : n - (xs.map Slot.val).toArray.size = k := by simp; omega
  have q : argsToLocals xs.toArray n = ((xs.map Slot.val) ++ List.replicate k Slot.unset).toArray := by
    show (xs.toArray.foldl _ #[]) ++ Array.replicate (n - (xs.toArray.foldl _ #[]).size) Slot.unset = _
    rw [e, z]; simp
  show ({ method := m, pc := 0, locals := argsToLocals xs.toArray n, stack := [], locked := none } : JFrame) = _
  rw [q]
theorem Go.retV (X : Stand p l e R s m args below meth c T locs cells slots) (hx : p.tables.exec = Jvm.exec) (hlk : meth.locks = false) {pc : Nat} {Ls : Array Slot} (hret : meth.sig.returnType = none)
    (hd : decode c.code pc = .ok (.return_, 1)) (hc : cells ≤ K) (hs : slots ≤ N) (hQ : Q none T.heap locs) : Go p e below (PostW s K N Q) (T.setTop (mkF m pc Ls [])) := by
  obtain ⟨fs, hr, hrun, hended, hW, hsame⟩ := X.leave (v := none) (fun _ => rfl) hlk
  exact ⟨_, _, X.returnOut hx hret hd hr, hrun, hended, _, _, rfl, hQ, ⟨_, rfl⟩, hW, hsame.mono hc hs⟩
theorem wd {L : List Cond} {a0 : Array Value} {Z : State} (hw : ∀ d ∈ L, d.before a0 Z = true) (i : Nat) {d : Cond} (h : L[i]? = some d) : d.before a0 Z = true := hw d (List.mem_of_getElem? h)
/-- a callee's contract, as the walks here say it -/
abbrev Met (l : Launch) (Z : State) (y : MethodName) (bytes : ByteArray) (maxL : Nat) (ret : Option FieldType) (ws : List Cond) (rm : Room) (as' : Array Value) (h0 : Heap) (Q : Option Value → Heap → List Loc → Prop) : Prop :=
  MetFree l y (head1 (Cond.code y bytes maxL ret :: ws) rm) (fun a U => a = as' ∧ Z.Warmed39 U.vm ∧ U.heap = h0) (fun _ _ _ _ _ => True) (fun _ U o U' => ∃ v L, o = .returned v ∧ Q v U'.heap L ∧ FrameEnd U o U' L rm.cells rm.slots)
theorem Met.enter {Z : State} {y : MethodName} {bytes : ByteArray} {maxL : Nat} {ret : Option FieldType} {ws : List Cond} {rm : Room} {as' : Array Value} {h0 : Heap} {f0 : MethodId → JFrame} (hpl : plainFor y = true) (hf0 : ∀ m, entryFrame m as' maxL = f0 m)
    (body : ∀ (p : Program) (e : Env) (s : State) (m : MethodId) (below : List Frame) (meth : Method) (c : Code) (s₁ : State), p.tables.exec = Jvm.exec → c.code = bytes → c.maxLocals = maxL → s.vm.findClass y.cls = some m.cls → meth.name = y.name → meth.sig.returnType = ret → meth.locks = false → Z.Warmed39 s.vm → Stand p l e rm s m as' below meth c s₁ [] 0 0 → s₁.heap = h0 → Go p e below (PostW s rm.cells rm.slots Q) (s₁.setTop (f0 m))) : Met l Z y bytes maxL ret ws rm as' h0 Q := by
  refine MetFree.of_bodySF hpl hisR ?_
  intro p e s m args below meth c s₁ Bd hml0 hP hK
  obtain ⟨rfl, hZ, hh⟩ := hP
  have q := body p e s m below meth c s₁ Bd.exec Bd.bytes hml0 (findClass_of_methodNamed Bd.named) (name_of_methodNamed Bd.named Bd.method).1 Bd.returns Bd.notSynchronized hZ (Stand.of_body Bd) (by rw [← hh, Bd.state]; rfl)
  rw [← hf0] at q
  exact q
end Own
end Jvm.RoadKit
namespace Jvm.RoadKit
open Sem ClassFile Op Lib Bundle Jvm.Stand Jvm.Free Jvm.LawKit Jvm.Free.SB Jvm.Free.SBG
section OwnS
variable {p : Program} {l : Launch} {e : Env} {R : Room} {s : State} {m : MethodId} {args : Array Value} {below : List Frame} {meth : Method} {c : Code} {T A B : State} {locs : List Loc} {cells slots K N : Nat} {Q : Option Value → Heap → List Loc → Prop} {Z : State} {a0 : Array Value} {EL : List (String × Nat)} {vm0 : Vm} {k0 : Nat}
def PostS (Z : State) (EL : List (String × Nat)) (s : State) (K N : Nat) (Q : Option Value → Heap → List Loc → Prop) : State → Outcome → Prop := fun s₂ o => ∃ v L, o = .returned v ∧ Q v s₂.heap L ∧ CHr Z EL s.vm s.heap s₂.vm s₂.heap ∧ ReturnedEndW s o s₂ L K N
theorem own_monoW {t : State} {o : Outcome} {L : List Loc} {k n : Nat} (h : ReturnedEndW s o t L k n) (hk : k ≤ K) (hn : n ≤ N) : ReturnedEndW s o t L K N := ⟨h.1, h.2.1, h.2.2.1, h.2.2.2.mono hk hn⟩
theorem Go.retS (X : Stand p l e R (s.setVm vm0) m args below meth c T locs cells slots) (hx : p.tables.exec = Jvm.exec) (hlk : meth.locks = false) (hS : s.Since vm0 k0) (hk : k0 ≤ T.heap.size) (hZ : Z.Warmed39 vm0) (hEL : EW Z a0 EL) (C : CHr Z EL s.vm s.heap vm0 T.heap) {pc : Nat} {Ls : Array Slot} {w : Value} {t : FieldType} {i : Instr} {rest : List Value} (hret : meth.sig.returnType = some t) (hn : narrow t w = w)
    (hi : (i = .ireturn ∧ (t = .int ∨ t = .boolean ∨ t = .byte ∨ t = .char ∨ t = .short) ∧ ∃ z, w = .int z) ∨ (i = .lreturn ∧ t = .long ∧ ∃ z, w = .long z) ∨ (i = .dreturn ∧ t = .double ∧ ∃ z, w = .double z) ∨ (i = .freturn ∧ t = .float ∧ ∃ z, w = .float z) ∨ (i = .areturn ∧ t.isReference = true ∧ w.isRef = true))
    (hd : decode c.code pc = .ok (i, 1)) (hc : cells ≤ K) (hs : slots ≤ N) (hQ : Q (some w) T.heap locs) : Go p e below (PostS Z EL s K N Q) (T.setTop (mkF m pc Ls (w :: rest))) := by
  obtain ⟨fs, hr, hrun, hended, hW⟩ := X.leaveW hS hk (v := some w) (fun h => by rw [hret] at h; cases h) hlk
  exact ⟨_, _, retOut X hx hret hn hi hd hr, hrun, hended, _, _, rfl, hQ, (show CHr Z EL s.vm s.heap T.vm T.heap from C.trans (CHv.at X hZ hEL C.1)), own_monoW hW hc hs⟩
theorem Go.retZS (X : Stand p l e R (s.setVm vm0) m args below meth c T locs cells slots) (hx : p.tables.exec = Jvm.exec) (hlk : meth.locks = false) (hS : s.Since vm0 k0) (hk : k0 ≤ T.heap.size) (hZ : Z.Warmed39 vm0) (hEL : EW Z a0 EL) (C : CHr Z EL s.vm s.heap vm0 T.heap) {pc : Nat} {Ls : Array Slot} {z : Int32} {t : FieldType} {rest : List Value} (hret : meth.sig.returnType = some t) (ht : t = .boolean ∨ t = .byte ∨ t = .char ∨ t = .short)
    (hd : decode c.code pc = .ok (.ireturn, 1)) (hc : cells ≤ K) (hs : slots ≤ N) (hQ : Q (some (.int (nar t z))) T.heap locs) : Go p e below (PostS Z EL s K N Q) (T.setTop (mkF m pc Ls (.int z :: rest))) := by
  obtain ⟨fs, hr, hrun, hended, hW⟩ := X.leaveW hS hk (v := some (.int (nar t z))) (fun h => by rw [hret] at h; cases h) hlk
  exact ⟨_, _, retN X hx hret ht hd hr, hrun, hended, _, _, rfl, hQ, (show CHr Z EL s.vm s.heap T.vm T.heap from C.trans (CHv.at X hZ hEL C.1)), own_monoW hW hc hs⟩
theorem Go.retVS (X : Stand p l e R (s.setVm vm0) m args below meth c T locs cells slots) (hx : p.tables.exec = Jvm.exec) (hlk : meth.locks = false) (hS : s.Since vm0 k0) (hk : k0 ≤ T.heap.size) (hZ : Z.Warmed39 vm0) (hEL : EW Z a0 EL) (C : CHr Z EL s.vm s.heap vm0 T.heap) {pc : Nat} {Ls : Array Slot} (hret : meth.sig.returnType = none)
    (hd : decode c.code pc = .ok (.return_, 1)) (hc : cells ≤ K) (hs : slots ≤ N) (hQ : Q none T.heap locs) : Go p e below (PostS Z EL s K N Q) (T.setTop (mkF m pc Ls [])) := by
  obtain ⟨fs, hr, hrun, hended, hW⟩ := X.leaveW hS hk (v := none) (fun _ => rfl) hlk
  exact ⟨_, _, X.returnOut hx hret hd hr, hrun, hended, _, _, rfl, hQ, (show CHr Z EL s.vm s.heap T.vm T.heap from C.trans (CHv.at X hZ hEL C.1)), own_monoW hW hc hs⟩
abbrev MetS (l : Launch) (Z : State) (EL : List (String × Nat)) (y : MethodName) (bytes : ByteArray) (maxL : Nat) (ret : Option FieldType) (ws : List Cond) (rm : Room) (as' : Array Value) (h0 : Heap) (Q : Option Value → Heap → List Loc → Prop) : Prop :=
  MetFree l y (head1 (Cond.code y bytes maxL ret :: ws) rm) (fun a U => a = as' ∧ Z.Warmed39 U.vm ∧ U.heap = h0 ∧ CHv Z EL U.vm h0) (fun _ _ _ _ _ => True) (fun _ U o U' => ∃ v L, o = .returned v ∧ Q v U'.heap L ∧ CHr Z EL U.vm U.heap U'.vm U'.heap ∧ ReturnedEndW U o U' L rm.cells rm.slots)
theorem MetS.enter {y : MethodName} {bytes : ByteArray} {maxL : Nat} {ret : Option FieldType} {ws : List Cond} {rm : Room} {as' : Array Value} {h0 : Heap} {f0 : MethodId → JFrame} (hpl : plainFor y = true) (hf0 : ∀ m, entryFrame m as' maxL = f0 m)
    (body : ∀ (p : Program) (e : Env) (s : State) (m : MethodId) (below : List Frame) (meth : Method) (c : Code) (s₁ : State), p.tables.exec = Jvm.exec → c.code = bytes → c.maxLocals = maxL → s.vm.findClass y.cls = some m.cls → meth.name = y.name → meth.sig.returnType = ret → meth.locks = false → Z.Warmed39 s.vm → Stand p l e rm (s.setVm s.vm) m as' below meth c s₁ [] 0 0 → s₁.heap = h0 → s.Since s.vm h0.size → CHr Z EL s.vm s.heap s.vm h0 → Go p e below (PostS Z EL s rm.cells rm.slots Q) (s₁.setTop (f0 m))) : MetS l Z EL y bytes maxL ret ws rm as' h0 Q := by
  refine MetFree.of_bodySF hpl hisR ?_
  intro p e s m args below meth c s₁ Bd hml0 hP hK
  obtain ⟨rfl, hZ, hh, hC⟩ := hP
  have q := body p e s m below meth c s₁ Bd.exec Bd.bytes hml0 (findClass_of_methodNamed Bd.named) (name_of_methodNamed Bd.named Bd.method).1 Bd.returns Bd.notSynchronized hZ (Stand.of_body Bd) (by rw [← hh, Bd.state]; rfl) ((State.WarmedH.refl s).since _) (by rw [hh]; exact CHr.refl hC)
  rw [← hf0] at q
  exact q
/-- an object whose 'value' is null is no booked String, nor a booked String's array -/
theorem own_safe0 {h : Heap} {x : Addr} {vm : Vm} (hal : Z.vm.Alike vm) (E : Exa Z h x "java/lang/String") (F : Fld Z h x "java/lang/String" "value" "[B" .null) : Safe Z EL vm h x := fun B => by
  obtain ⟨p, -, u, a, -, q, -, S, rfl | rfl⟩ := B
  · obtain ⟨cS, ⟨⟨s1, s2, s3, ⟨cv, kv, iv, s4, s4'⟩, -, s6, -, s8, -⟩, -⟩, -⟩ := S
    obtain ⟨cell, cf, k, i, f, h1, h2, -, -, -, -, h7⟩ := F
    obtain ⟨kv', z4⟩ := ff_back hal s4
    have e1 := h2.symm.trans z4
    simp only [Option.some.injEq, Prod.mk.injEq] at e1
    have e2 : cell = q.sC := Option.some.inj (h1.symm.trans s1)
    rw [e2, e1.2.2.2, s8] at h7
    cases h7
  · obtain ⟨cS, ⟨⟨-, -, -, -, -, -, -, -, -, s10, -⟩, -⟩, -, hB, -⟩ := S
    obtain ⟨cell, k, h1, h2, -⟩ := E
    have e2 : cell = q.SA := Option.some.inj (h1.symm.trans s10)
    have hB' : vm.findClass "[B" = some q.SA.cls := hB
    rw [hal.findClass] at hB'
    rw [e2] at h2
    obtain ⟨k1, q1, q2⟩ := Vm.findClass_spec hB'
    obtain ⟨k2, q3, q4⟩ := Vm.findClass_spec h2
    cases q1.symm.trans q3
    have := q2.symm.trans q4
    revert this
    decide
end OwnS
end Jvm.RoadKit
namespace Jvm.Pilot.@@N@@
open Jvm Jvm.ClassFile Sem Op Lib Jvm.Free Jvm.Stand Jvm.LawKit Jvm.RoadKit Bundle Jvm.Pilot.@@N@@.Jvm.D
abbrev HW (a0 : Array Value) (Z : State) : Prop := ∀ d ∈ tables_1, d.before a0 Z = true
abbrev Y0 : MethodName := ⟨"com/example/vestwright/vestwright/Formats", "digits", "(Ljava/lang/String;II)Z"⟩
abbrev Y1 : MethodName := ⟨"com/example/vestwright/vestwright/Formats", "isYear", "(Ljava/lang/String;)Z"⟩
abbrev Y2 : MethodName := ⟨"com/example/vestwright/vestwright/FormatsIsYearPinLaw", "dig", "(C)Z"⟩
abbrev Y3 : MethodName := ⟨"com/example/vestwright/vestwright/FormatsIsYearPinLaw", "draw", "(I)C"⟩
abbrev Y4 : MethodName := ⟨"com/example/vestwright/vestwright/FormatsIsYearPinLaw", "str", "(ICCCCC)Ljava/lang/String;"⟩
abbrev Y5 : MethodName := ⟨"java/lang/String", "<init>", "([C)V"⟩
abbrev Y6 : MethodName := ⟨"java/lang/String", "<init>", "([CIILjava/lang/Void;)V"⟩
abbrev Y7 : MethodName := ⟨"java/lang/String", "charAt", "(I)C"⟩
abbrev Y8 : MethodName := ⟨"java/lang/String", "checkIndex", "(II)V"⟩
abbrev Y9 : MethodName := ⟨"java/lang/String", "coder", "()B"⟩
abbrev Y10 : MethodName := ⟨"java/lang/String", "isLatin1", "()Z"⟩
abbrev Y11 : MethodName := ⟨"java/lang/String", "length", "()I"⟩
abbrev Y12 : MethodName := ⟨"java/lang/StringLatin1", "charAt", "([BI)C"⟩
abbrev Y13 : MethodName := ⟨"java/lang/StringUTF16", "charAt", "([BI)C"⟩
abbrev Y14 : MethodName := ⟨"java/lang/StringUTF16", "checkIndex", "(I[B)V"⟩
abbrev Y15 : MethodName := ⟨"java/lang/StringUTF16", "coderFromArrayLen", "([BI)B"⟩
abbrev Y16 : MethodName := ⟨"java/lang/StringUTF16", "compress", "([CII)[B"⟩
abbrev Y17 : MethodName := ⟨"java/lang/StringUTF16", "compress", "([CI[BII)I"⟩
abbrev Y18 : MethodName := ⟨"java/lang/StringUTF16", "getChar", "([BI)C"⟩
abbrev Y19 : MethodName := ⟨"java/lang/StringUTF16", "length", "([B)I"⟩
abbrev Y20 : MethodName := ⟨"java/lang/StringUTF16", "newBytesFor", "(I)[B"⟩
abbrev Y21 : MethodName := ⟨"java/lang/StringUTF16", "newBytesLength", "(I)I"⟩
abbrev Y22 : MethodName := ⟨"java/lang/StringUTF16", "putChar", "([BII)V"⟩
abbrev Y23 : MethodName := ⟨"java/lang/StringUTF16", "toBytes", "([CII)[B"⟩
abbrev Y24 : MethodName := ⟨"jdk/internal/util/Preconditions", "checkIndex", "(IILjava/util/function/BiFunction;)I"⟩
theorem own_eqk {args : Array Value} {first s : State} {o : Option Outcome} {idx : List Nat} {t : Term} {k : Int32} (h : (Jvm.Cond.eq t (Term.int k)).value args first o s idx = some true) : t.eval args first o idx s = some (.int k) := by
  obtain ⟨x, y, ex, ey, -, k2⟩ := cmp_v (Or.inl h)
  have e2 : y = .int k := Option.some.inj (ey.symm.trans (Term.int_eval k))
  subst e2
  obtain ⟨z, rfl⟩ := k2
  have := gotT (Cond.eq_ints ex (Term.int_eval k)) h
  rw [ex, this]

theorem own_ch (x : Int32) : ¬ (255 : Int32) < (x &&& (255 : Int32)).toUInt32.toUInt16.toUInt32.toInt32 := by
  rw [i2c_mask]
  have q := c_mask x 255 8 (by decide) (by decide)
  have z : (255 : Int32).toInt = 255 := by decide
  rw [Int32.lt_iff_toInt_lt, z]
  omega
theorem own_ch0 (x : Int32) : ¬ (x &&& (255 : Int32)).toUInt32.toUInt16.toUInt32.toInt32 < (0 : Int32) := by
  rw [i2c_mask]
  have q := c_mask x 255 8 (by decide) (by decide)
  have z : (0 : Int32).toInt = 0 := by decide
  rw [Int32.lt_iff_toInt_lt, z]
  omega
theorem own_nar (x : Int32) : nar .char ((x &&& (255 : Int32)).toUInt32.toUInt16.toUInt32.toInt32) = (x &&& (255 : Int32)) := by
  show ((x &&& (255 : Int32)).toUInt32.toUInt16.toUInt32.toInt32).toUInt32.toUInt16.toUInt32.toInt32 = _
  rw [i2c_mask, i2c_mask]
theorem own_chn (x : Int32) : ¬ (255 : Int32) < nar .char ((x &&& (255 : Int32)).toUInt32.toUInt16.toUInt32.toInt32) := by
  rw [own_nar]
  have q := c_mask x 255 8 (by decide) (by decide)
  have z : (255 : Int32).toInt = 255 := by decide
  rw [Int32.lt_iff_toInt_lt, z]
  omega

abbrev own_EL : List (String × Nat) := [("java/lang/String", 7)]
theorem own_hEL {Z : State} {a0 : Array Value} (hw : HW a0 Z) : EW Z a0 own_EL := (EW.cons (wd hw 23 rfl) (by decide) EW.nil)
theorem own_wS {Z : State} {a0 : Array Value} (hw : HW a0 Z) : ∀ a ∈ Bundle.stringAtoms, a.before a0 Z = true := fun a ha => by
  simp only [Bundle.stringAtoms, Bundle.sN, List.mem_cons, List.not_mem_nil, or_false] at ha
  rcases ha with rfl | rfl | rfl | rfl | rfl | rfl | rfl
  · exact (wd hw 11 rfl)
  · exact (wd hw 10 rfl)
  · exact (wd hw 24 rfl)
  · exact (wd hw 25 rfl)
  · exact (wd hw 26 rfl)
  · exact (wd hw 27 rfl)
  · exact (wd hw 28 rfl)
def own_rng (c : Int32) : Prop := ¬ c < (0 : Int32) ∧ ¬ (65535 : Int32) < c
theorem own_rngI {c : Int32} (h : own_rng c) : 0 ≤ c.toInt ∧ c.toInt ≤ 65535 := by
  obtain ⟨h1, h2⟩ := h
  have z1 : (0 : Int32).toInt = 0 := by decide
  have z2 : (65535 : Int32).toInt = 65535 := by decide
  rw [Int32.lt_iff_toInt_lt] at h1 h2
  omega
theorem own_nc {c : Int32} (h : own_rng c) : nar .char c = c := by
  have q := own_rngI h
  have r := c_i2c c
  show c.toUInt32.toUInt16.toUInt32.toInt32 = c
  rw [← Int32.toInt_inj]
  omega
theorem own_fc {c : Int32} (h : own_rng c) : fits .char (.int c) = true := by
  have := fits_nar_char c
  rwa [own_nc h] at this
theorem own_rngC (x : Int32) : own_rng (nar .char x) := rng_char (fits_nar_char x)
abbrev own_b0 (c : Int32) : Int32 := nar .byte ((c >>> ((0 : Int32) &&& 31)).toInt8.toInt32)
abbrev own_b1 (c : Int32) : Int32 := nar .byte ((c >>> ((8 : Int32) &&& 31)).toInt8.toInt32)
theorem own_nb (x : Int32) : nar .byte (x.toInt8.toInt32) = x.toInt8.toInt32 := by
  show x.toInt8.toInt32.toInt8.toInt32 = x.toInt8.toInt32
  simp
theorem own_gc {c : Int32} (h : own_rng c) : nar .char (((((own_b0 c) &&& (255 : Int32)) <<< ((0 : Int32) &&& 31)) ||| (((own_b1 c) &&& (255 : Int32)) <<< ((8 : Int32) &&& 31))).toUInt32.toUInt16.toUInt32.toInt32) = c := by
  have q := own_rngI h
  obtain ⟨lo, hlo⟩ : ∃ v, v = ((own_b0 c) &&& (255 : Int32)) <<< ((0 : Int32) &&& 31) := ⟨_, rfl⟩
  obtain ⟨hi, hhi⟩ : ∃ v, v = ((own_b1 c) &&& (255 : Int32)) <<< ((8 : Int32) &&& 31) := ⟨_, rfl⟩
  rw [← hlo, ← hhi]
  have a1 := c_ishr c 0 0 (by decide)
  have a2 := c_ishr c 8 8 (by decide)
  have b1 := c_i2b (c >>> ((0 : Int32) &&& 31))
  have b2 := c_i2b (c >>> ((8 : Int32) &&& 31))
  have m1 := c_mask (own_b0 c) 255 8 (by decide) (by decide)
  have m2 := c_mask (own_b1 c) 255 8 (by decide) (by decide)
  have e1 : own_b0 c = (c >>> ((0 : Int32) &&& 31)).toInt8.toInt32 := own_nb _
  have e2 : own_b1 c = (c >>> ((8 : Int32) &&& 31)).toInt8.toInt32 := own_nb _
  rw [e1] at m1
  rw [e2] at m2
  have s1 := c_ishl ((own_b0 c) &&& (255 : Int32)) 0 0 (by decide)
  have s2 := c_ishl ((own_b1 c) &&& (255 : Int32)) 8 8 (by decide)
  rw [← hlo, e1] at s1
  rw [← hhi, e2] at s2
  have g1 := rng32 lo
  have g2 := rng32 hi
  have f1 : lo.toInt = c.toInt % 256 := by omega
  have f2 : hi.toInt = (c.toInt / 256) * 256 := by omega
  have o1 := c_or' lo hi 8 (by decide) 256 (by decide) (by omega) (by omega) (by omega)
  have g3 := rng32 (lo ||| hi)
  have f3 : (lo ||| hi).toInt = c.toInt := by omega
  have f4 : (lo ||| hi) = c := Int32.toInt_inj.mp f3
  rw [f4]
  have r := c_i2c c
  have f5 : c.toUInt32.toUInt16.toUInt32.toInt32 = c := by rw [← Int32.toInt_inj]; omega
  rw [f5, own_nc h]
theorem own_lc {c : Int32} (h : own_rng c) (h2 : ¬ (255 : Int32) < c) : nar .char (((nar .byte (c.toInt8.toInt32)) &&& (255 : Int32)).toUInt32.toUInt16.toUInt32.toInt32) = c := by
  have q := own_rngI h
  have z : (255 : Int32).toInt = 255 := by decide
  rw [Int32.lt_iff_toInt_lt, z] at h2
  rw [own_nb, i2c_mask]
  have b1 := c_i2b c
  have m1 := c_mask (c.toInt8.toInt32) 255 8 (by decide) (by decide)
  have f : (c.toInt8.toInt32 &&& (255 : Int32)) = c := by rw [← Int32.toInt_inj]; omega
  rw [f, own_nc h]

def own_dig (c : Int32) : Prop := ¬ c < (48 : Int32) ∧ ¬ (57 : Int32) < c
theorem own_mod6 {x v : Int32} (h : v = ((x &&& (2147483647 : Int32)) % (6 : Int32))) : v = 0 ∨ v = 1 ∨ v = 2 ∨ v = 3 ∨ v = 4 ∨ v = 5 := by
  have q := c_mask x 2147483647 31 (by decide) (by decide)
  have r := (c_irem (x &&& (2147483647 : Int32)) 6 6 (by decide)).1 (by omega)
  rw [← h] at r
  have h0 : (0 : Int32).toInt = 0 := by decide
  have h1 : (1 : Int32).toInt = 1 := by decide
  have h2 : (2 : Int32).toInt = 2 := by decide
  have h3 : (3 : Int32).toInt = 3 := by decide
  have h4 : (4 : Int32).toInt = 4 := by decide
  have h5 : (5 : Int32).toInt = 5 := by decide
  simp only [← Int32.toInt_inj, h0, h1, h2, h3, h4, h5]
  omega

theorem ef_rm_draw (m : MethodId) (x0 : Int32) : entryFrame m #[(.int x0)] 2 = mkF m 0 #[vi x0, .unset] [] := by first | (simp [entryFrame, mkF, argsToLocals, Value.category]; done) | rfl
theorem d1_0 : decode method_2_code 0 = .ok (.iload_n 0, 1) := by decide +kernel
theorem d1_1 : decode method_2_code 1 = .ok (.bipush 16, 2) := by decide +kernel
theorem d1_3 : decode method_2_code 3 = .ok (.iushr, 1) := by decide +kernel
theorem d1_4 : decode method_2_code 4 = .ok (.iconst 3, 1) := by decide +kernel
theorem d1_5 : decode method_2_code 5 = .ok (.iand, 1) := by decide +kernel
theorem d1_6 : decode method_2_code 6 = .ok (.istore_n 1, 1) := by decide +kernel
theorem d1_7 : decode method_2_code 7 = .ok (.iload_n 1, 1) := by decide +kernel
theorem d1_8 : decode method_2_code 8 = .ok (.ifCond .ne 9, 3) := by decide +kernel
theorem d1_11 : decode method_2_code 11 = .ok (.iload_n 0, 1) := by decide +kernel
theorem d1_12 : decode method_2_code 12 = .ok (.ldc 7, 2) := by decide +kernel
theorem d1_14 : decode method_2_code 14 = .ok (.iand, 1) := by decide +kernel
theorem d1_15 : decode method_2_code 15 = .ok (.i2c, 1) := by decide +kernel
theorem d1_16 : decode method_2_code 16 = .ok (.ireturn, 1) := by decide +kernel
theorem d1_17 : decode method_2_code 17 = .ok (.iload_n 1, 1) := by decide +kernel
theorem d1_18 : decode method_2_code 18 = .ok (.iconst 1, 1) := by decide +kernel
theorem d1_19 : decode method_2_code 19 = .ok (.if_icmp .ne 12, 3) := by decide +kernel
theorem d1_22 : decode method_2_code 22 = .ok (.bipush 42, 2) := by decide +kernel
theorem d1_24 : decode method_2_code 24 = .ok (.iload_n 0, 1) := by decide +kernel
theorem d1_25 : decode method_2_code 25 = .ok (.bipush 31, 2) := by decide +kernel
theorem d1_27 : decode method_2_code 27 = .ok (.iand, 1) := by decide +kernel
theorem d1_28 : decode method_2_code 28 = .ok (.iadd, 1) := by decide +kernel
theorem d1_29 : decode method_2_code 29 = .ok (.i2c, 1) := by decide +kernel
theorem d1_30 : decode method_2_code 30 = .ok (.ireturn, 1) := by decide +kernel
theorem d1_31 : decode method_2_code 31 = .ok (.bipush 48, 2) := by decide +kernel
theorem d1_33 : decode method_2_code 33 = .ok (.iload_n 0, 1) := by decide +kernel
theorem d1_34 : decode method_2_code 34 = .ok (.ldc 7, 2) := by decide +kernel
theorem d1_36 : decode method_2_code 36 = .ok (.iand, 1) := by decide +kernel
theorem d1_37 : decode method_2_code 37 = .ok (.bipush 10, 2) := by decide +kernel
theorem d1_39 : decode method_2_code 39 = .ok (.irem, 1) := by decide +kernel
theorem d1_40 : decode method_2_code 40 = .ok (.iadd, 1) := by decide +kernel
theorem d1_41 : decode method_2_code 41 = .ok (.i2c, 1) := by decide +kernel
theorem d1_42 : decode method_2_code 42 = .ok (.ireturn, 1) := by decide +kernel
theorem pn_com_example_vestwright_vestwright_FormatsIsYearPinLaw : plainName "com/example/vestwright/vestwright/FormatsIsYearPinLaw" = true := by first | (simp [plainName, overriddenIn]; done) | decide +kernel
def Q_rm_draw (Z : State) (p1 : Int32) (h0 : Heap) (n0 : Nat) (vv : Option Value) (h : Heap) (L : List Loc) : Prop := ∃ v : Int32, vv = some (.int v) ∧ Fr n0 L ∧ h = h0 ∧ own_rng v
set_option maxRecDepth 65536 in
set_option maxHeartbeats 40000000 in
theorem rm_draw (l : Launch) (Z : State) (a0 : Array Value) (hw : HW a0 Z) (ws : List Jvm.Cond) (p1 : Int32) (h0 : Heap) (n0 : Nat) (Z0 : n0 ≤ h0.size) :
    Met l Z Y3 method_2_code 2 (some .char) ws ({ frames := 0, cells := 0, slots := 0, locals := 0 } : Room) #[(.int p1)] h0 (Q_rm_draw Z p1 h0 n0) := by
  refine Met.enter (f0 := fun m => mkF m 0 #[vi p1, .unset] []) (plainFor_of_name pn_com_example_vestwright_vestwright_FormatsIsYearPinLaw) (fun m => ef_rm_draw m p1) ?_
  intro p e s m below meth c s₁ hx hby hml hown hnm hret hlk hZ X0 e0
  have hown : s.vm.findClass "com/example/vestwright/vestwright/FormatsIsYearPinLaw" = some m.cls := hown
  have hnm : meth.name = "draw" := hnm
  have hml : c.maxLocals = 2 := hml
  have dk : ∀ {i : Nat} {r : Except DecodeError (Instr × Nat)}, decode method_2_code i = r → decode c.code i = r := fun h => hb hby h
  have N0 := Fr.nil n0
  refine gy (St s₁ m 6 #[vi p1, .unset] [(.int (((p1.toUInt32 >>> ((16 : Int32) &&& 31).toUInt32).toInt32) &&& (3 : Int32)))]) (fun _ k => XS.iloadN X0.here hx rfl (dk d1_0) rfl (XS.bipush X0.here hx rfl (dk d1_1) (XS.iushr X0.here hx rfl (dk d1_3) rfl (XS.iconst X0.here hx rfl (dk d1_4) (XS.iand X0.here hx rfl (dk d1_5) rfl k))))) ?_
  obtain ⟨v1, hv1⟩ : ∃ v, v = (((p1.toUInt32 >>> ((16 : Int32) &&& 31).toUInt32).toInt32) &&& (3 : Int32)) := ⟨_, rfl⟩
  refine gy (St s₁ m 8 #[vi p1, vi v1] [(.int v1)]) (fun _ k => XS.istoreN (x := v1) (rest := []) X0.here hx rfl (dk d1_6) (by rw [hv1]) (l' := #[vi p1, vi v1]) rfl (XS.iloadN X0.here hx rfl (dk d1_7) rfl k)) ?_
  by_cases c2 : v1 = (0 : Int32)
  · skip
    refine gy (St s₁ m 16 #[vi p1, vi v1] [(.int ((p1 &&& (65535 : Int32)).toUInt32.toUInt16.toUInt32.toInt32))]) (fun _ k => XS.ifNo X0.here hx rfl (dk d1_8) rfl ((if0 _ _).trans (teq c2).2) (XS.iloadN X0.here hx rfl (dk d1_11) rfl (X0.ldcInt hx hown (mvT hZ (wd hw 5 rfl)) (g := (mkF m 12 #[vi p1, vi v1] [(.int p1)])) rfl (dk d1_12) _ (XS.iand X0.here hx rfl (dk d1_14) rfl (XS.i2c X0.here hx rfl (dk d1_15) rfl k))))) ?_
    refine Go.retZ X0 hx hlk (t := .char) hret (by simp) (dk d1_16) (by decide) (by decide) ?_
    rw [e0]
    exact ⟨(nar .char ((p1 &&& (65535 : Int32)).toUInt32.toUInt16.toUInt32.toInt32)), rfl, N0, rfl, (own_rngC _)⟩
  · skip
    refine gy (St s₁ m 19 #[vi p1, vi v1] [(.int 1), (.int v1)]) (fun _ k => XS.ifYes X0.here hx rfl (pc0 := 8) (pc' := 17) rfl (dk d1_8) rfl ((if0 _ _).trans (feq c2).2) (by decide) (by decide) (XS.iloadN X0.here hx rfl (dk d1_17) rfl (XS.iconst X0.here hx rfl (dk d1_18) k))) ?_
    by_cases c3 : v1 = (1 : Int32)
    · skip
      refine gy (St s₁ m 30 #[vi p1, vi v1] [(.int (((42 : Int32) + (p1 &&& (31 : Int32))).toUInt32.toUInt16.toUInt32.toInt32))]) (fun _ k => XS.icmpNo X0.here hx rfl (dk d1_19) rfl (teq c3).2 (XS.bipush X0.here hx rfl (dk d1_22) (XS.iloadN X0.here hx rfl (dk d1_24) rfl (XS.bipush X0.here hx rfl (dk d1_25) (XS.iand X0.here hx rfl (dk d1_27) rfl (XS.iadd X0.here hx rfl (dk d1_28) rfl (XS.i2c X0.here hx rfl (dk d1_29) rfl k))))))) ?_
      refine Go.retZ X0 hx hlk (t := .char) hret (by simp) (dk d1_30) (by decide) (by decide) ?_
      rw [e0]
      exact ⟨(nar .char (((42 : Int32) + (p1 &&& (31 : Int32))).toUInt32.toUInt16.toUInt32.toInt32)), rfl, N0, rfl, (own_rngC _)⟩
    · skip
      refine gy (St s₁ m 41 #[vi p1, vi v1] [(.int ((48 : Int32) + ((p1 &&& (65535 : Int32)) % (10 : Int32))))]) (fun _ k => XS.icmpYes X0.here hx rfl (pc0 := 19) (pc' := 31) rfl (dk d1_19) rfl (feq c3).2 (by decide) (by decide) (XS.bipush X0.here hx rfl (dk d1_31) (XS.iloadN X0.here hx rfl (dk d1_33) rfl (X0.ldcInt hx hown (mvT hZ (wd hw 5 rfl)) (g := (mkF m 34 #[vi p1, vi v1] [(.int p1), (.int 48)])) rfl (dk d1_34) _ (XS.iand X0.here hx rfl (dk d1_36) rfl (XS.bipush X0.here hx rfl (dk d1_37) (iremM X0 hx (g := (mkF m 39 #[vi p1, vi v1] [(.int 10), (.int (p1 &&& (65535 : Int32))), (.int 48)])) rfl (dk d1_39) rfl (by decide) (XS.iadd X0.here hx rfl (dk d1_40) rfl k)))))))) ?_
      refine gy (St s₁ m 42 #[vi p1, vi v1] [(.int (((48 : Int32) + ((p1 &&& (65535 : Int32)) % (10 : Int32))).toUInt32.toUInt16.toUInt32.toInt32))]) (fun _ k => XS.i2c X0.here hx rfl (dk d1_41) rfl k) ?_
      refine Go.retZ X0 hx hlk (t := .char) hret (by simp) (dk d1_42) (by decide) (by decide) ?_
      rw [e0]
      exact ⟨(nar .char (((48 : Int32) + ((p1 &&& (65535 : Int32)) % (10 : Int32))).toUInt32.toUInt16.toUInt32.toInt32)), rfl, N0, rfl, (own_rngC _)⟩
theorem ef_rm_dig (m : MethodId) (x0 : Int32) : entryFrame m #[(.int x0)] 1 = mkF m 0 #[vi x0] [] := by first | (simp [entryFrame, mkF, argsToLocals, Value.category]; done) | rfl
theorem d12_0 : decode method_3_code 0 = .ok (.iload_n 0, 1) := by decide +kernel
theorem d12_1 : decode method_3_code 1 = .ok (.bipush 48, 2) := by decide +kernel
theorem d12_3 : decode method_3_code 3 = .ok (.if_icmp .lt 13, 3) := by decide +kernel
theorem d12_16 : decode method_3_code 16 = .ok (.iconst 0, 1) := by decide +kernel
theorem d12_17 : decode method_3_code 17 = .ok (.ireturn, 1) := by decide +kernel
theorem d12_6 : decode method_3_code 6 = .ok (.iload_n 0, 1) := by decide +kernel
theorem d12_7 : decode method_3_code 7 = .ok (.bipush 57, 2) := by decide +kernel
theorem d12_9 : decode method_3_code 9 = .ok (.if_icmp .gt 7, 3) := by decide +kernel
theorem d12_12 : decode method_3_code 12 = .ok (.iconst 1, 1) := by decide +kernel
theorem d12_13 : decode method_3_code 13 = .ok (.goto 4, 3) := by decide +kernel
def Q_rm_dig (Z : State) (p1 : Int32) (h0 : Heap) (n0 : Nat) (vv : Option Value) (h : Heap) (L : List Loc) : Prop := ∃ v : Int32, vv = some (.int v) ∧ Fr n0 L ∧ h = h0 ∧ ((v = 1 ∧ own_dig p1) ∨ (v = 0 ∧ ¬ own_dig p1))
set_option maxRecDepth 65536 in
set_option maxHeartbeats 40000000 in
theorem rm_dig (l : Launch) (Z : State) (a0 : Array Value) (hw : HW a0 Z) (ws : List Jvm.Cond) (p1 : Int32) (h0 : Heap) (n0 : Nat) (Z0 : n0 ≤ h0.size) :
    Met l Z Y2 method_3_code 1 (some .boolean) ws ({ frames := 0, cells := 0, slots := 0, locals := 0 } : Room) #[(.int p1)] h0 (Q_rm_dig Z p1 h0 n0) := by
  refine Met.enter (f0 := fun m => mkF m 0 #[vi p1] []) (plainFor_of_name pn_com_example_vestwright_vestwright_FormatsIsYearPinLaw) (fun m => ef_rm_dig m p1) ?_
  intro p e s m below meth c s₁ hx hby hml hown hnm hret hlk hZ X0 e0
  have hown : s.vm.findClass "com/example/vestwright/vestwright/FormatsIsYearPinLaw" = some m.cls := hown
  have hnm : meth.name = "dig" := hnm
  have hml : c.maxLocals = 1 := hml
  have dk : ∀ {i : Nat} {r : Except DecodeError (Instr × Nat)}, decode method_3_code i = r → decode c.code i = r := fun h => hb hby h
  have N0 := Fr.nil n0
  refine gy (St s₁ m 3 #[vi p1] [(.int 48), (.int p1)]) (fun _ k => XS.iloadN X0.here hx rfl (dk d12_0) rfl (XS.bipush X0.here hx rfl (dk d12_1) k)) ?_
  by_cases c4 : p1 < (48 : Int32)
  · skip
    refine gy (St s₁ m 17 #[vi p1] [(.int 0)]) (fun _ k => XS.icmpYes X0.here hx rfl (pc0 := 3) (pc' := 16) rfl (dk d12_3) rfl (tlt c4).1 (by decide) (by decide) (XS.iconst X0.here hx rfl (dk d12_16) k)) ?_
    refine Go.ret X0 hx hlk (t := .boolean) hret rfl (Or.inl ⟨rfl, by simp, _, rfl⟩) (dk d12_17) (by decide) (by decide) ?_
    rw [e0]
    exact ⟨(0 : Int32), rfl, N0, rfl, (Or.inr ⟨rfl, fun q => q.1 c4⟩)⟩
  · skip
    refine gy (St s₁ m 9 #[vi p1] [(.int 57), (.int p1)]) (fun _ k => XS.icmpNo X0.here hx rfl (dk d12_3) rfl (flt c4).1 (XS.iloadN X0.here hx rfl (dk d12_6) rfl (XS.bipush X0.here hx rfl (dk d12_7) k))) ?_
    by_cases c5 : (57 : Int32) < p1
    · skip
      refine gy (St s₁ m 17 #[vi p1] [(.int 0)]) (fun _ k => XS.icmpYes X0.here hx rfl (pc0 := 9) (pc' := 16) rfl (dk d12_9) rfl (tlt c5).2.2.1 (by decide) (by decide) (XS.iconst X0.here hx rfl (dk d12_16) k)) ?_
      refine Go.ret X0 hx hlk (t := .boolean) hret rfl (Or.inl ⟨rfl, by simp, _, rfl⟩) (dk d12_17) (by decide) (by decide) ?_
      rw [e0]
      exact ⟨(0 : Int32), rfl, N0, rfl, (Or.inr ⟨rfl, fun q => q.2 c5⟩)⟩
    · skip
      refine gy (St s₁ m 17 #[vi p1] [(.int 1)]) (fun _ k => XS.icmpNo X0.here hx rfl (dk d12_9) rfl (flt c5).2.2.1 (XS.iconst X0.here hx rfl (dk d12_12) (XS.goto X0.here hx rfl (pc0 := 13) (pc' := 17) rfl (dk d12_13) (by decide) (by decide) k))) ?_
      refine Go.ret X0 hx hlk (t := .boolean) hret rfl (Or.inl ⟨rfl, by simp, _, rfl⟩) (dk d12_17) (by decide) (by decide) ?_
      rw [e0]
      exact ⟨(1 : Int32), rfl, N0, rfl, (Or.inl ⟨rfl, c4, c5⟩)⟩
theorem ef_rm_put_0 (m : MethodId) (x0 : Addr) (x2 : Int32) : entryFrame m #[(.ref x0), (.int 0), (.int x2)] 3 = mkF m 0 #[vr x0, vi 0, vi x2] [] := by first | (simp [entryFrame, mkF, argsToLocals, Value.category]; done) | rfl
theorem d22_0 : decode jdk_52_method_4_code 0 = .ok (.getstatic 44, 3) := by decide +kernel
theorem d22_3 : decode jdk_52_method_4_code 3 = .ok (.ifCond .ne 25, 3) := by decide +kernel
theorem d22_28 : decode jdk_52_method_4_code 28 = .ok (.iload_n 1, 1) := by decide +kernel
theorem d22_29 : decode jdk_52_method_4_code 29 = .ok (.iconst 1, 1) := by decide +kernel
theorem d22_30 : decode jdk_52_method_4_code 30 = .ok (.ishl, 1) := by decide +kernel
theorem d22_31 : decode jdk_52_method_4_code 31 = .ok (.istore_n 1, 1) := by decide +kernel
theorem d22_32 : decode jdk_52_method_4_code 32 = .ok (.aload_n 0, 1) := by decide +kernel
theorem d22_33 : decode jdk_52_method_4_code 33 = .ok (.iload_n 1, 1) := by decide +kernel
theorem d22_34 : decode jdk_52_method_4_code 34 = .ok (.iinc 1 1, 3) := by decide +kernel
theorem d22_37 : decode jdk_52_method_4_code 37 = .ok (.iload_n 2, 1) := by decide +kernel
theorem d22_38 : decode jdk_52_method_4_code 38 = .ok (.getstatic 59, 3) := by decide +kernel
theorem d22_41 : decode jdk_52_method_4_code 41 = .ok (.ishr, 1) := by decide +kernel
theorem d22_42 : decode jdk_52_method_4_code 42 = .ok (.i2b, 1) := by decide +kernel
theorem d22_43 : decode jdk_52_method_4_code 43 = .ok (.bastore, 1) := by decide +kernel
theorem d22_44 : decode jdk_52_method_4_code 44 = .ok (.aload_n 0, 1) := by decide +kernel
theorem d22_45 : decode jdk_52_method_4_code 45 = .ok (.iload_n 1, 1) := by decide +kernel
theorem d22_46 : decode jdk_52_method_4_code 46 = .ok (.iload_n 2, 1) := by decide +kernel
theorem d22_47 : decode jdk_52_method_4_code 47 = .ok (.getstatic 63, 3) := by decide +kernel
theorem d22_50 : decode jdk_52_method_4_code 50 = .ok (.ishr, 1) := by decide +kernel
theorem d22_51 : decode jdk_52_method_4_code 51 = .ok (.i2b, 1) := by decide +kernel
theorem d22_52 : decode jdk_52_method_4_code 52 = .ok (.bastore, 1) := by decide +kernel
theorem d22_53 : decode jdk_52_method_4_code 53 = .ok (.return_, 1) := by decide +kernel
theorem pn_java_lang_StringUTF16 : plainName "java/lang/StringUTF16" = true := by first | (simp [plainName, overriddenIn]; done) | decide +kernel
def Q_rm_put_0 (Z : State) (b1 : Addr) (kb : ClassId) (cc : Int32) (z : Int32) (vs : List Value) (h0 : Heap) (n0 : Nat) (vv : Option Value) (h : Heap) (L : List Loc) : Prop := vv = none ∧ Fr n0 L ∧ Keep h0 h [b1] ∧ Arv Z h b1 kb .byte z ((vs.set 0 (.int (own_b0 cc))).set 1 (.int (own_b1 cc))) (.int 0)
set_option maxRecDepth 65536 in
set_option maxHeartbeats 40000000 in
theorem rm_put_0 (l : Launch) (Z : State) (a0 : Array Value) (hw : HW a0 Z) (ws : List Jvm.Cond) (b1 : Addr) (kb : ClassId) (cc : Int32) (z : Int32) (vs : List Value) (h0 : Heap) (n0 : Nat) (Z0 : n0 ≤ h0.size) (pr0 : Old Z n0 h0) (pr1 : Sta Z Z.heap "java/lang/StringUTF16" "$assertionsDisabled" "Z" (.int 1)) (pr2 : Sta Z Z.heap "java/lang/StringUTF16" "HI_BYTE_SHIFT" "I" (.int 0)) (pr3 : Sta Z Z.heap "java/lang/StringUTF16" "LO_BYTE_SHIFT" "I" (.int 8)) (pr4 : Arv Z h0 b1 kb .byte z vs (.int 0)) (pr5 : n0 ≤ b1) (hz0 : (0 : Int32) < z) (hz1 : (1 : Int32) < z) (hl0 : 0 < vs.length) (hl1 : 1 < vs.length) :
    Met l Z Y22 jdk_52_method_4_code 3 none ws ({ frames := 0, cells := 0, slots := 0, locals := 0 } : Room) #[(.ref b1), (.int 0), (.int cc)] h0 (Q_rm_put_0 Z b1 kb cc z vs h0 n0) := by
  refine Met.enter (f0 := fun m => mkF m 0 #[vr b1, vi 0, vi cc] []) (plainFor_of_name pn_java_lang_StringUTF16) (fun m => ef_rm_put_0 m b1 cc) ?_
  intro p e s m below meth c s₁ hx hby hml hown hnm hret hlk hZ X0 e0
  have hown : s.vm.findClass "java/lang/StringUTF16" = some m.cls := hown
  have hnm : meth.name = "putChar" := hnm
  have hml : c.maxLocals = 3 := hml
  have dk : ∀ {i : Nat} {r : Except DecodeError (Instr × Nat)}, decode jdk_52_method_4_code i = r → decode c.code i = r := fun h => hb hby h
  have N0 := Fr.nil n0
  obtain ⟨T6, X6, e6, st6⟩ := getS2 X0 hx hZ hown (host := "") (Or.inl (wd hw 97 rfl)) Via.refl e0 (pr1.ext pr0.2) (g := (mkF m 0 #[vr b1, vi 0, vi cc] [])) rfl (dk d22_0)
  refine gy (St T6 m 3 #[vr b1, vi 0, vi cc] [(.int 1)]) st6 ?_
  refine gy (St T6 m 37 #[vr b1, vi 1, vi cc] [(.int 0), (.ref b1)]) (fun _ k => XS.ifYes X6.here hx rfl (pc0 := 3) (pc' := 28) rfl (dk d22_3) rfl ((if0 _ _).trans (feq (by decide : ¬ ((1 : Int32) = (0 : Int32)))).2) (by decide) (by decide) (XS.iloadN X6.here hx rfl (dk d22_28) rfl (XS.iconst X6.here hx rfl (dk d22_29) (XS.ishl X6.here hx rfl (dk d22_30) rfl (XS.istoreN X6.here hx rfl (dk d22_31) rfl (l' := #[vr b1, vi 0, vi cc]) rfl (XS.aloadN X6.here hx rfl (dk d22_32) rfl rfl (XS.iloadN X6.here hx rfl (dk d22_33) rfl (XS.iinc X6.here hx rfl (dk d22_34) rfl (l' := #[vr b1, vi 1, vi cc]) rfl k)))))))) ?_
  refine gy (St T6 m 38 #[vr b1, vi 1, vi cc] [(.int cc), (.int 0), (.ref b1)]) (fun _ k => XS.iloadN X6.here hx rfl (dk d22_37) rfl k) ?_
  obtain ⟨T7, X7, e7, st7⟩ := getS2 X6 hx hZ hown (host := "") (Or.inl (wd hw 98 rfl)) Via.refl e6 (pr2.ext pr0.2) (g := (mkF m 38 #[vr b1, vi 1, vi cc] [(.int cc), (.int 0), (.ref b1)])) rfl (dk d22_38)
  refine gy (St T7 m 41 #[vr b1, vi 1, vi cc] [(.int 0), (.int cc), (.int 0), (.ref b1)]) st7 ?_
  refine gy (St T7 m 43 #[vr b1, vi 1, vi cc] [(.int ((cc >>> ((0 : Int32) &&& 31)).toInt8.toInt32)), (.int 0), (.ref b1)]) (fun _ k => XS.ishr X7.here hx rfl (dk d22_41) rfl (XS.i2b X7.here hx rfl (dk d22_42) rfl k)) ?_
  obtain ⟨cl8, Ar8, q8, S8, N_8, Hs8, G8⟩ := id pr4
  have hin9 : ¬ ((0 : Int32) < 0 ∨ cl8.slots.size ≤ ((0 : Int32)).toNatClampNeg) := inb_of S8 ⟨by decide, hz0⟩
  obtain ⟨T9, h9, X9, e9, W9, st9⟩ := stB X7 hx hZ e7 Ar8 (j := (0 : Int32)) hin9 (g := (mkF m 43 #[vr b1, vi 1, vi cc] [(.int ((cc >>> ((0 : Int32) &&& 31)).toInt8.toInt32)), (.int 0), (.ref b1)])) rfl rfl (dk d22_43)
  have O10 := pr0.wr W9 pr5
  have Z10 : n0 ≤ h9.size := Nat.le_trans Z0 (Keep.of_wr W9).1
  have V9 : Arv Z h9 b1 kb .byte z (vs.set 0 (.int (nar .byte ((cc >>> ((0 : Int32) &&& 31)).toInt8.toInt32)))) (.int 0) := Arv.set Ar8 q8 S8 N_8 Hs8 G8 (fits_nar_byte _) W9 0 rfl (by simpa using hl0)
  have N9 := Fr.snoc X9 N0 pr5
  refine gy (St T9 m 44 #[vr b1, vi 1, vi cc] []) st9 ?_
  refine gy (St T9 m 47 #[vr b1, vi 1, vi cc] [(.int cc), (.int 1), (.ref b1)]) (fun _ k => XS.aloadN X9.here hx rfl (dk d22_44) rfl rfl (XS.iloadN X9.here hx rfl (dk d22_45) rfl (XS.iloadN X9.here hx rfl (dk d22_46) rfl k))) ?_
  obtain ⟨T11, X11, e11, st11⟩ := getS2 X9 hx hZ hown (host := "") (Or.inl (wd hw 99 rfl)) Via.refl e9 (pr3.ext O10.2) (g := (mkF m 47 #[vr b1, vi 1, vi cc] [(.int cc), (.int 1), (.ref b1)])) rfl (dk d22_47)
  refine gy (St T11 m 50 #[vr b1, vi 1, vi cc] [(.int 8), (.int cc), (.int 1), (.ref b1)]) st11 ?_
  refine gy (St T11 m 52 #[vr b1, vi 1, vi cc] [(.int ((cc >>> ((8 : Int32) &&& 31)).toInt8.toInt32)), (.int 1), (.ref b1)]) (fun _ k => XS.ishr X11.here hx rfl (dk d22_50) rfl (XS.i2b X11.here hx rfl (dk d22_51) rfl k)) ?_
  obtain ⟨cl12, Ar12, q12, S12, N_12, Hs12, G12⟩ := id V9
  have hin13 : ¬ ((1 : Int32) < 0 ∨ cl12.slots.size ≤ ((1 : Int32)).toNatClampNeg) := inb_of S12 ⟨by decide, hz1⟩
  obtain ⟨T13, h13, X13, e13, W13, st13⟩ := stB X11 hx hZ e11 Ar12 (j := (1 : Int32)) hin13 (g := (mkF m 52 #[vr b1, vi 1, vi cc] [(.int ((cc >>> ((8 : Int32) &&& 31)).toInt8.toInt32)), (.int 1), (.ref b1)])) rfl rfl (dk d22_52)
  have O14 := O10.wr W13 pr5
  have Z14 : n0 ≤ h13.size := Nat.le_trans Z10 (Keep.of_wr W13).1
  have V13 : Arv Z h13 b1 kb .byte z ((vs.set 0 (.int (nar .byte ((cc >>> ((0 : Int32) &&& 31)).toInt8.toInt32)))).set 1 (.int (nar .byte ((cc >>> ((8 : Int32) &&& 31)).toInt8.toInt32)))) (.int 0) := Arv.set Ar12 q12 S12 N_12 Hs12 G12 (fits_nar_byte _) W13 1 rfl (by simpa using hl1)
  have N13 := Fr.snoc X13 N9 pr5
  refine gy (St T13 m 53 #[vr b1, vi 1, vi cc] []) st13 ?_
  refine Go.retV X13 hx hlk hret (dk d22_53) (by decide) (by decide) ?_
  rw [e13]
  exact ⟨rfl, N13, (((Keep.refl h0 [b1]).wr W9 (Or.inl (List.mem_of_getElem? (i := 0) rfl))).wr W13 (Or.inl (List.mem_of_getElem? (i := 0) rfl))), V13⟩
theorem ef_rm_get_0 (m : MethodId) (x0 : Addr) : entryFrame m #[(.ref x0), (.int 0)] 2 = mkF m 0 #[vr x0, vi 0] [] := by first | (simp [entryFrame, mkF, argsToLocals, Value.category]; done) | rfl
theorem d23_0 : decode jdk_52_method_5_code 0 = .ok (.getstatic 44, 3) := by decide +kernel
theorem d23_3 : decode jdk_52_method_5_code 3 = .ok (.ifCond .ne 25, 3) := by decide +kernel
theorem d23_28 : decode jdk_52_method_5_code 28 = .ok (.iload_n 1, 1) := by decide +kernel
theorem d23_29 : decode jdk_52_method_5_code 29 = .ok (.iconst 1, 1) := by decide +kernel
theorem d23_30 : decode jdk_52_method_5_code 30 = .ok (.ishl, 1) := by decide +kernel
theorem d23_31 : decode jdk_52_method_5_code 31 = .ok (.istore_n 1, 1) := by decide +kernel
theorem d23_32 : decode jdk_52_method_5_code 32 = .ok (.aload_n 0, 1) := by decide +kernel
theorem d23_33 : decode jdk_52_method_5_code 33 = .ok (.iload_n 1, 1) := by decide +kernel
theorem d23_34 : decode jdk_52_method_5_code 34 = .ok (.iinc 1 1, 3) := by decide +kernel
theorem d23_37 : decode jdk_52_method_5_code 37 = .ok (.baload, 1) := by decide +kernel
theorem d23_38 : decode jdk_52_method_5_code 38 = .ok (.sipush 255, 3) := by decide +kernel
theorem d23_41 : decode jdk_52_method_5_code 41 = .ok (.iand, 1) := by decide +kernel
theorem d23_42 : decode jdk_52_method_5_code 42 = .ok (.getstatic 59, 3) := by decide +kernel
theorem d23_45 : decode jdk_52_method_5_code 45 = .ok (.ishl, 1) := by decide +kernel
theorem d23_46 : decode jdk_52_method_5_code 46 = .ok (.aload_n 0, 1) := by decide +kernel
theorem d23_47 : decode jdk_52_method_5_code 47 = .ok (.iload_n 1, 1) := by decide +kernel
theorem d23_48 : decode jdk_52_method_5_code 48 = .ok (.baload, 1) := by decide +kernel
theorem d23_49 : decode jdk_52_method_5_code 49 = .ok (.sipush 255, 3) := by decide +kernel
theorem d23_52 : decode jdk_52_method_5_code 52 = .ok (.iand, 1) := by decide +kernel
theorem d23_53 : decode jdk_52_method_5_code 53 = .ok (.getstatic 63, 3) := by decide +kernel
theorem d23_56 : decode jdk_52_method_5_code 56 = .ok (.ishl, 1) := by decide +kernel
theorem d23_57 : decode jdk_52_method_5_code 57 = .ok (.ior, 1) := by decide +kernel
theorem d23_58 : decode jdk_52_method_5_code 58 = .ok (.i2c, 1) := by decide +kernel
theorem d23_59 : decode jdk_52_method_5_code 59 = .ok (.ireturn, 1) := by decide +kernel
def Q_rm_get_0 (Z : State) (b1 : Addr) (kb : ClassId) (cc : Int32) (z : Int32) (vs : List Value) (h0 : Heap) (n0 : Nat) (vv : Option Value) (h : Heap) (L : List Loc) : Prop := vv = some (.int cc) ∧ Fr n0 L ∧ h = h0
set_option maxRecDepth 65536 in
set_option maxHeartbeats 40000000 in
theorem rm_get_0 (l : Launch) (Z : State) (a0 : Array Value) (hw : HW a0 Z) (ws : List Jvm.Cond) (b1 : Addr) (kb : ClassId) (cc : Int32) (z : Int32) (vs : List Value) (h0 : Heap) (n0 : Nat) (Z0 : n0 ≤ h0.size) (pr0 : Old Z n0 h0) (pr1 : Sta Z Z.heap "java/lang/StringUTF16" "$assertionsDisabled" "Z" (.int 1)) (pr2 : Sta Z Z.heap "java/lang/StringUTF16" "HI_BYTE_SHIFT" "I" (.int 0)) (pr3 : Sta Z Z.heap "java/lang/StringUTF16" "LO_BYTE_SHIFT" "I" (.int 8)) (pr4 : Arv Z h0 b1 kb .byte z vs (.int 0)) (hz0 : (0 : Int32) < z) (hz1 : (1 : Int32) < z) (he0 : vs.getD 0 (.int 0) = .int (own_b0 cc)) (he1 : vs.getD 1 (.int 0) = .int (own_b1 cc)) (hr : own_rng cc) :
    Met l Z Y18 jdk_52_method_5_code 2 (some .char) ws ({ frames := 0, cells := 0, slots := 0, locals := 0 } : Room) #[(.ref b1), (.int 0)] h0 (Q_rm_get_0 Z b1 kb cc z vs h0 n0) := by
  refine Met.enter (f0 := fun m => mkF m 0 #[vr b1, vi 0] []) (plainFor_of_name pn_java_lang_StringUTF16) (fun m => ef_rm_get_0 m b1) ?_
  intro p e s m below meth c s₁ hx hby hml hown hnm hret hlk hZ X0 e0
  have hown : s.vm.findClass "java/lang/StringUTF16" = some m.cls := hown
  have hnm : meth.name = "getChar" := hnm
  have hml : c.maxLocals = 2 := hml
  have dk : ∀ {i : Nat} {r : Except DecodeError (Instr × Nat)}, decode jdk_52_method_5_code i = r → decode c.code i = r := fun h => hb hby h
  have N0 := Fr.nil n0
  obtain ⟨T15, X15, e15, st15⟩ := getS2 X0 hx hZ hown (host := "") (Or.inl (wd hw 97 rfl)) Via.refl e0 (pr1.ext pr0.2) (g := (mkF m 0 #[vr b1, vi 0] [])) rfl (dk d23_0)
  refine gy (St T15 m 3 #[vr b1, vi 0] [(.int 1)]) st15 ?_
  refine gy (St T15 m 37 #[vr b1, vi 1] [(.int 0), (.ref b1)]) (fun _ k => XS.ifYes X15.here hx rfl (pc0 := 3) (pc' := 28) rfl (dk d23_3) rfl ((if0 _ _).trans (feq (by decide : ¬ ((1 : Int32) = (0 : Int32)))).2) (by decide) (by decide) (XS.iloadN X15.here hx rfl (dk d23_28) rfl (XS.iconst X15.here hx rfl (dk d23_29) (XS.ishl X15.here hx rfl (dk d23_30) rfl (XS.istoreN X15.here hx rfl (dk d23_31) rfl (l' := #[vr b1, vi 0]) rfl (XS.aloadN X15.here hx rfl (dk d23_32) rfl rfl (XS.iloadN X15.here hx rfl (dk d23_33) rfl (XS.iinc X15.here hx rfl (dk d23_34) rfl (l' := #[vr b1, vi 1]) rfl k)))))))) ?_
  obtain ⟨cl16, Ar16, q16, S16, N_16, Hs16, G16⟩ := id pr4
  have hin17 : ¬ ((0 : Int32) < 0 ∨ cl16.slots.size ≤ ((0 : Int32)).toNatClampNeg) := inb_of S16 ⟨by decide, hz0⟩
  have hat17 : cl16.slots[((0 : Int32)).toNatClampNeg]? = some (.int (own_b0 cc)) := Hs16.at hin17 he0
  refine gy (St T15 m 38 #[vr b1, vi 1] [(.int (own_b0 cc))]) (fun _ k => X15.baloadBytes hx (j := (0 : Int32)) (v := (.int (own_b0 cc))) (by rw [e15]; exact Ar16.1) (State.isArrayOf_alike hZ.alike Ar16.2.1) Ar16.2.2 hin17 hat17 (g := (mkF m 37 #[vr b1, vi 1] [(.int 0), (.ref b1)])) rfl rfl (dk d23_37) _ k) ?_
  refine gy (St T15 m 42 #[vr b1, vi 1] [(.int ((own_b0 cc) &&& (255 : Int32)))]) (fun _ k => XS.sipush X15.here hx rfl (dk d23_38) (XS.iand X15.here hx rfl (dk d23_41) rfl k)) ?_
  obtain ⟨T18, X18, e18, st18⟩ := getS2 X15 hx hZ hown (host := "") (Or.inl (wd hw 98 rfl)) Via.refl e15 (pr2.ext pr0.2) (g := (mkF m 42 #[vr b1, vi 1] [(.int ((own_b0 cc) &&& (255 : Int32)))])) rfl (dk d23_42)
  refine gy (St T18 m 45 #[vr b1, vi 1] [(.int 0), (.int ((own_b0 cc) &&& (255 : Int32)))]) st18 ?_
  refine gy (St T18 m 48 #[vr b1, vi 1] [(.int 1), (.ref b1), (.int (((own_b0 cc) &&& (255 : Int32)) <<< ((0 : Int32) &&& 31)))]) (fun _ k => XS.ishl X18.here hx rfl (dk d23_45) rfl (XS.aloadN X18.here hx rfl (dk d23_46) rfl rfl (XS.iloadN X18.here hx rfl (dk d23_47) rfl k))) ?_
  obtain ⟨cl19, Ar19, q19, S19, N_19, Hs19, G19⟩ := id pr4
  have hin20 : ¬ ((1 : Int32) < 0 ∨ cl19.slots.size ≤ ((1 : Int32)).toNatClampNeg) := inb_of S19 ⟨by decide, hz1⟩
  have hat20 : cl19.slots[((1 : Int32)).toNatClampNeg]? = some (.int (own_b1 cc)) := Hs19.at hin20 he1
  refine gy (St T18 m 49 #[vr b1, vi 1] [(.int (own_b1 cc)), (.int (((own_b0 cc) &&& (255 : Int32)) <<< ((0 : Int32) &&& 31)))]) (fun _ k => X18.baloadBytes hx (j := (1 : Int32)) (v := (.int (own_b1 cc))) (by rw [e18]; exact Ar19.1) (State.isArrayOf_alike hZ.alike Ar19.2.1) Ar19.2.2 hin20 hat20 (g := (mkF m 48 #[vr b1, vi 1] [(.int 1), (.ref b1), (.int (((own_b0 cc) &&& (255 : Int32)) <<< ((0 : Int32) &&& 31)))])) rfl rfl (dk d23_48) _ k) ?_
  refine gy (St T18 m 53 #[vr b1, vi 1] [(.int ((own_b1 cc) &&& (255 : Int32))), (.int (((own_b0 cc) &&& (255 : Int32)) <<< ((0 : Int32) &&& 31)))]) (fun _ k => XS.sipush X18.here hx rfl (dk d23_49) (XS.iand X18.here hx rfl (dk d23_52) rfl k)) ?_
  obtain ⟨T21, X21, e21, st21⟩ := getS2 X18 hx hZ hown (host := "") (Or.inl (wd hw 99 rfl)) Via.refl e18 (pr3.ext pr0.2) (g := (mkF m 53 #[vr b1, vi 1] [(.int ((own_b1 cc) &&& (255 : Int32))), (.int (((own_b0 cc) &&& (255 : Int32)) <<< ((0 : Int32) &&& 31)))])) rfl (dk d23_53)
  refine gy (St T21 m 56 #[vr b1, vi 1] [(.int 8), (.int ((own_b1 cc) &&& (255 : Int32))), (.int (((own_b0 cc) &&& (255 : Int32)) <<< ((0 : Int32) &&& 31)))]) st21 ?_
  refine gy (St T21 m 59 #[vr b1, vi 1] [(.int (((((own_b0 cc) &&& (255 : Int32)) <<< ((0 : Int32) &&& 31)) ||| (((own_b1 cc) &&& (255 : Int32)) <<< ((8 : Int32) &&& 31))).toUInt32.toUInt16.toUInt32.toInt32))]) (fun _ k => XS.ishl X21.here hx rfl (dk d23_56) rfl (XS.ior X21.here hx rfl (dk d23_57) rfl (XS.i2c X21.here hx rfl (dk d23_58) rfl k))) ?_
  refine Go.retZ X21 hx hlk (t := .char) hret (by simp) (dk d23_59) (by decide) (by decide) ?_
  rw [e21]
  exact ⟨(congrArg (fun q => some (Value.int q)) (own_gc hr)), N0, rfl⟩
theorem ef_rm_put_1 (m : MethodId) (x0 : Addr) (x2 : Int32) : entryFrame m #[(.ref x0), (.int 1), (.int x2)] 3 = mkF m 0 #[vr x0, vi 1, vi x2] [] := by first | (simp [entryFrame, mkF, argsToLocals, Value.category]; done) | rfl
def Q_rm_put_1 (Z : State) (b1 : Addr) (kb : ClassId) (cc : Int32) (z : Int32) (vs : List Value) (h0 : Heap) (n0 : Nat) (vv : Option Value) (h : Heap) (L : List Loc) : Prop := vv = none ∧ Fr n0 L ∧ Keep h0 h [b1] ∧ Arv Z h b1 kb .byte z ((vs.set 2 (.int (own_b0 cc))).set 3 (.int (own_b1 cc))) (.int 0)
set_option maxRecDepth 65536 in
set_option maxHeartbeats 40000000 in
theorem rm_put_1 (l : Launch) (Z : State) (a0 : Array Value) (hw : HW a0 Z) (ws : List Jvm.Cond) (b1 : Addr) (kb : ClassId) (cc : Int32) (z : Int32) (vs : List Value) (h0 : Heap) (n0 : Nat) (Z0 : n0 ≤ h0.size) (pr0 : Old Z n0 h0) (pr1 : Sta Z Z.heap "java/lang/StringUTF16" "$assertionsDisabled" "Z" (.int 1)) (pr2 : Sta Z Z.heap "java/lang/StringUTF16" "HI_BYTE_SHIFT" "I" (.int 0)) (pr3 : Sta Z Z.heap "java/lang/StringUTF16" "LO_BYTE_SHIFT" "I" (.int 8)) (pr4 : Arv Z h0 b1 kb .byte z vs (.int 0)) (pr5 : n0 ≤ b1) (hz0 : (2 : Int32) < z) (hz1 : (3 : Int32) < z) (hl0 : 2 < vs.length) (hl1 : 3 < vs.length) :
    Met l Z Y22 jdk_52_method_4_code 3 none ws ({ frames := 0, cells := 0, slots := 0, locals := 0 } : Room) #[(.ref b1), (.int 1), (.int cc)] h0 (Q_rm_put_1 Z b1 kb cc z vs h0 n0) := by
  refine Met.enter (f0 := fun m => mkF m 0 #[vr b1, vi 1, vi cc] []) (plainFor_of_name pn_java_lang_StringUTF16) (fun m => ef_rm_put_1 m b1 cc) ?_
  intro p e s m below meth c s₁ hx hby hml hown hnm hret hlk hZ X0 e0
  have hown : s.vm.findClass "java/lang/StringUTF16" = some m.cls := hown
  have hnm : meth.name = "putChar" := hnm
  have hml : c.maxLocals = 3 := hml
  have dk : ∀ {i : Nat} {r : Except DecodeError (Instr × Nat)}, decode jdk_52_method_4_code i = r → decode c.code i = r := fun h => hb hby h
  have N0 := Fr.nil n0
  obtain ⟨T22, X22, e22, st22⟩ := getS2 X0 hx hZ hown (host := "") (Or.inl (wd hw 97 rfl)) Via.refl e0 (pr1.ext pr0.2) (g := (mkF m 0 #[vr b1, vi 1, vi cc] [])) rfl (dk d22_0)
  refine gy (St T22 m 3 #[vr b1, vi 1, vi cc] [(.int 1)]) st22 ?_
  refine gy (St T22 m 37 #[vr b1, vi 3, vi cc] [(.int 2), (.ref b1)]) (fun _ k => XS.ifYes X22.here hx rfl (pc0 := 3) (pc' := 28) rfl (dk d22_3) rfl ((if0 _ _).trans (feq (by decide : ¬ ((1 : Int32) = (0 : Int32)))).2) (by decide) (by decide) (XS.iloadN X22.here hx rfl (dk d22_28) rfl (XS.iconst X22.here hx rfl (dk d22_29) (XS.ishl X22.here hx rfl (dk d22_30) rfl (XS.istoreN X22.here hx rfl (dk d22_31) rfl (l' := #[vr b1, vi 2, vi cc]) rfl (XS.aloadN X22.here hx rfl (dk d22_32) rfl rfl (XS.iloadN X22.here hx rfl (dk d22_33) rfl (XS.iinc X22.here hx rfl (dk d22_34) rfl (l' := #[vr b1, vi 3, vi cc]) rfl k)))))))) ?_
  refine gy (St T22 m 38 #[vr b1, vi 3, vi cc] [(.int cc), (.int 2), (.ref b1)]) (fun _ k => XS.iloadN X22.here hx rfl (dk d22_37) rfl k) ?_
  obtain ⟨T23, X23, e23, st23⟩ := getS2 X22 hx hZ hown (host := "") (Or.inl (wd hw 98 rfl)) Via.refl e22 (pr2.ext pr0.2) (g := (mkF m 38 #[vr b1, vi 3, vi cc] [(.int cc), (.int 2), (.ref b1)])) rfl (dk d22_38)
  refine gy (St T23 m 41 #[vr b1, vi 3, vi cc] [(.int 0), (.int cc), (.int 2), (.ref b1)]) st23 ?_
  refine gy (St T23 m 43 #[vr b1, vi 3, vi cc] [(.int ((cc >>> ((0 : Int32) &&& 31)).toInt8.toInt32)), (.int 2), (.ref b1)]) (fun _ k => XS.ishr X23.here hx rfl (dk d22_41) rfl (XS.i2b X23.here hx rfl (dk d22_42) rfl k)) ?_
  obtain ⟨cl24, Ar24, q24, S24, N_24, Hs24, G24⟩ := id pr4
  have hin25 : ¬ ((2 : Int32) < 0 ∨ cl24.slots.size ≤ ((2 : Int32)).toNatClampNeg) := inb_of S24 ⟨by decide, hz0⟩
  obtain ⟨T25, h25, X25, e25, W25, st25⟩ := stB X23 hx hZ e23 Ar24 (j := (2 : Int32)) hin25 (g := (mkF m 43 #[vr b1, vi 3, vi cc] [(.int ((cc >>> ((0 : Int32) &&& 31)).toInt8.toInt32)), (.int 2), (.ref b1)])) rfl rfl (dk d22_43)
  have O26 := pr0.wr W25 pr5
  have Z26 : n0 ≤ h25.size := Nat.le_trans Z0 (Keep.of_wr W25).1
  have V25 : Arv Z h25 b1 kb .byte z (vs.set 2 (.int (nar .byte ((cc >>> ((0 : Int32) &&& 31)).toInt8.toInt32)))) (.int 0) := Arv.set Ar24 q24 S24 N_24 Hs24 G24 (fits_nar_byte _) W25 2 rfl (by simpa using hl0)
  have N25 := Fr.snoc X25 N0 pr5
  refine gy (St T25 m 44 #[vr b1, vi 3, vi cc] []) st25 ?_
  refine gy (St T25 m 47 #[vr b1, vi 3, vi cc] [(.int cc), (.int 3), (.ref b1)]) (fun _ k => XS.aloadN X25.here hx rfl (dk d22_44) rfl rfl (XS.iloadN X25.here hx rfl (dk d22_45) rfl (XS.iloadN X25.here hx rfl (dk d22_46) rfl k))) ?_
  obtain ⟨T27, X27, e27, st27⟩ := getS2 X25 hx hZ hown (host := "") (Or.inl (wd hw 99 rfl)) Via.refl e25 (pr3.ext O26.2) (g := (mkF m 47 #[vr b1, vi 3, vi cc] [(.int cc), (.int 3), (.ref b1)])) rfl (dk d22_47)
  refine gy (St T27 m 50 #[vr b1, vi 3, vi cc] [(.int 8), (.int cc), (.int 3), (.ref b1)]) st27 ?_
  refine gy (St T27 m 52 #[vr b1, vi 3, vi cc] [(.int ((cc >>> ((8 : Int32) &&& 31)).toInt8.toInt32)), (.int 3), (.ref b1)]) (fun _ k => XS.ishr X27.here hx rfl (dk d22_50) rfl (XS.i2b X27.here hx rfl (dk d22_51) rfl k)) ?_
  obtain ⟨cl28, Ar28, q28, S28, N_28, Hs28, G28⟩ := id V25
  have hin29 : ¬ ((3 : Int32) < 0 ∨ cl28.slots.size ≤ ((3 : Int32)).toNatClampNeg) := inb_of S28 ⟨by decide, hz1⟩
  obtain ⟨T29, h29, X29, e29, W29, st29⟩ := stB X27 hx hZ e27 Ar28 (j := (3 : Int32)) hin29 (g := (mkF m 52 #[vr b1, vi 3, vi cc] [(.int ((cc >>> ((8 : Int32) &&& 31)).toInt8.toInt32)), (.int 3), (.ref b1)])) rfl rfl (dk d22_52)
  have O30 := O26.wr W29 pr5
  have Z30 : n0 ≤ h29.size := Nat.le_trans Z26 (Keep.of_wr W29).1
  have V29 : Arv Z h29 b1 kb .byte z ((vs.set 2 (.int (nar .byte ((cc >>> ((0 : Int32) &&& 31)).toInt8.toInt32)))).set 3 (.int (nar .byte ((cc >>> ((8 : Int32) &&& 31)).toInt8.toInt32)))) (.int 0) := Arv.set Ar28 q28 S28 N_28 Hs28 G28 (fits_nar_byte _) W29 3 rfl (by simpa using hl1)
  have N29 := Fr.snoc X29 N25 pr5
  refine gy (St T29 m 53 #[vr b1, vi 3, vi cc] []) st29 ?_
  refine Go.retV X29 hx hlk hret (dk d22_53) (by decide) (by decide) ?_
  rw [e29]
  exact ⟨rfl, N29, (((Keep.refl h0 [b1]).wr W25 (Or.inl (List.mem_of_getElem? (i := 0) rfl))).wr W29 (Or.inl (List.mem_of_getElem? (i := 0) rfl))), V29⟩
theorem ef_rm_get_1 (m : MethodId) (x0 : Addr) : entryFrame m #[(.ref x0), (.int 1)] 2 = mkF m 0 #[vr x0, vi 1] [] := by first | (simp [entryFrame, mkF, argsToLocals, Value.category]; done) | rfl
def Q_rm_get_1 (Z : State) (b1 : Addr) (kb : ClassId) (cc : Int32) (z : Int32) (vs : List Value) (h0 : Heap) (n0 : Nat) (vv : Option Value) (h : Heap) (L : List Loc) : Prop := vv = some (.int cc) ∧ Fr n0 L ∧ h = h0
set_option maxRecDepth 65536 in
set_option maxHeartbeats 40000000 in
theorem rm_get_1 (l : Launch) (Z : State) (a0 : Array Value) (hw : HW a0 Z) (ws : List Jvm.Cond) (b1 : Addr) (kb : ClassId) (cc : Int32) (z : Int32) (vs : List Value) (h0 : Heap) (n0 : Nat) (Z0 : n0 ≤ h0.size) (pr0 : Old Z n0 h0) (pr1 : Sta Z Z.heap "java/lang/StringUTF16" "$assertionsDisabled" "Z" (.int 1)) (pr2 : Sta Z Z.heap "java/lang/StringUTF16" "HI_BYTE_SHIFT" "I" (.int 0)) (pr3 : Sta Z Z.heap "java/lang/StringUTF16" "LO_BYTE_SHIFT" "I" (.int 8)) (pr4 : Arv Z h0 b1 kb .byte z vs (.int 0)) (hz0 : (2 : Int32) < z) (hz1 : (3 : Int32) < z) (he0 : vs.getD 2 (.int 0) = .int (own_b0 cc)) (he1 : vs.getD 3 (.int 0) = .int (own_b1 cc)) (hr : own_rng cc) :
    Met l Z Y18 jdk_52_method_5_code 2 (some .char) ws ({ frames := 0, cells := 0, slots := 0, locals := 0 } : Room) #[(.ref b1), (.int 1)] h0 (Q_rm_get_1 Z b1 kb cc z vs h0 n0) := by
  refine Met.enter (f0 := fun m => mkF m 0 #[vr b1, vi 1] []) (plainFor_of_name pn_java_lang_StringUTF16) (fun m => ef_rm_get_1 m b1) ?_
  intro p e s m below meth c s₁ hx hby hml hown hnm hret hlk hZ X0 e0
  have hown : s.vm.findClass "java/lang/StringUTF16" = some m.cls := hown
  have hnm : meth.name = "getChar" := hnm
  have hml : c.maxLocals = 2 := hml
  have dk : ∀ {i : Nat} {r : Except DecodeError (Instr × Nat)}, decode jdk_52_method_5_code i = r → decode c.code i = r := fun h => hb hby h
  have N0 := Fr.nil n0
  obtain ⟨T31, X31, e31, st31⟩ := getS2 X0 hx hZ hown (host := "") (Or.inl (wd hw 97 rfl)) Via.refl e0 (pr1.ext pr0.2) (g := (mkF m 0 #[vr b1, vi 1] [])) rfl (dk d23_0)
  refine gy (St T31 m 3 #[vr b1, vi 1] [(.int 1)]) st31 ?_
  refine gy (St T31 m 37 #[vr b1, vi 3] [(.int 2), (.ref b1)]) (fun _ k => XS.ifYes X31.here hx rfl (pc0 := 3) (pc' := 28) rfl (dk d23_3) rfl ((if0 _ _).trans (feq (by decide : ¬ ((1 : Int32) = (0 : Int32)))).2) (by decide) (by decide) (XS.iloadN X31.here hx rfl (dk d23_28) rfl (XS.iconst X31.here hx rfl (dk d23_29) (XS.ishl X31.here hx rfl (dk d23_30) rfl (XS.istoreN X31.here hx rfl (dk d23_31) rfl (l' := #[vr b1, vi 2]) rfl (XS.aloadN X31.here hx rfl (dk d23_32) rfl rfl (XS.iloadN X31.here hx rfl (dk d23_33) rfl (XS.iinc X31.here hx rfl (dk d23_34) rfl (l' := #[vr b1, vi 3]) rfl k)))))))) ?_
  obtain ⟨cl32, Ar32, q32, S32, N_32, Hs32, G32⟩ := id pr4
  have hin33 : ¬ ((2 : Int32) < 0 ∨ cl32.slots.size ≤ ((2 : Int32)).toNatClampNeg) := inb_of S32 ⟨by decide, hz0⟩
  have hat33 : cl32.slots[((2 : Int32)).toNatClampNeg]? = some (.int (own_b0 cc)) := Hs32.at hin33 he0
  refine gy (St T31 m 38 #[vr b1, vi 3] [(.int (own_b0 cc))]) (fun _ k => X31.baloadBytes hx (j := (2 : Int32)) (v := (.int (own_b0 cc))) (by rw [e31]; exact Ar32.1) (State.isArrayOf_alike hZ.alike Ar32.2.1) Ar32.2.2 hin33 hat33 (g := (mkF m 37 #[vr b1, vi 3] [(.int 2), (.ref b1)])) rfl rfl (dk d23_37) _ k) ?_
  refine gy (St T31 m 42 #[vr b1, vi 3] [(.int ((own_b0 cc) &&& (255 : Int32)))]) (fun _ k => XS.sipush X31.here hx rfl (dk d23_38) (XS.iand X31.here hx rfl (dk d23_41) rfl k)) ?_
  obtain ⟨T34, X34, e34, st34⟩ := getS2 X31 hx hZ hown (host := "") (Or.inl (wd hw 98 rfl)) Via.refl e31 (pr2.ext pr0.2) (g := (mkF m 42 #[vr b1, vi 3] [(.int ((own_b0 cc) &&& (255 : Int32)))])) rfl (dk d23_42)
  refine gy (St T34 m 45 #[vr b1, vi 3] [(.int 0), (.int ((own_b0 cc) &&& (255 : Int32)))]) st34 ?_
  refine gy (St T34 m 48 #[vr b1, vi 3] [(.int 3), (.ref b1), (.int (((own_b0 cc) &&& (255 : Int32)) <<< ((0 : Int32) &&& 31)))]) (fun _ k => XS.ishl X34.here hx rfl (dk d23_45) rfl (XS.aloadN X34.here hx rfl (dk d23_46) rfl rfl (XS.iloadN X34.here hx rfl (dk d23_47) rfl k))) ?_
  obtain ⟨cl35, Ar35, q35, S35, N_35, Hs35, G35⟩ := id pr4
  have hin36 : ¬ ((3 : Int32) < 0 ∨ cl35.slots.size ≤ ((3 : Int32)).toNatClampNeg) := inb_of S35 ⟨by decide, hz1⟩
  have hat36 : cl35.slots[((3 : Int32)).toNatClampNeg]? = some (.int (own_b1 cc)) := Hs35.at hin36 he1
  refine gy (St T34 m 49 #[vr b1, vi 3] [(.int (own_b1 cc)), (.int (((own_b0 cc) &&& (255 : Int32)) <<< ((0 : Int32) &&& 31)))]) (fun _ k => X34.baloadBytes hx (j := (3 : Int32)) (v := (.int (own_b1 cc))) (by rw [e34]; exact Ar35.1) (State.isArrayOf_alike hZ.alike Ar35.2.1) Ar35.2.2 hin36 hat36 (g := (mkF m 48 #[vr b1, vi 3] [(.int 3), (.ref b1), (.int (((own_b0 cc) &&& (255 : Int32)) <<< ((0 : Int32) &&& 31)))])) rfl rfl (dk d23_48) _ k) ?_
  refine gy (St T34 m 53 #[vr b1, vi 3] [(.int ((own_b1 cc) &&& (255 : Int32))), (.int (((own_b0 cc) &&& (255 : Int32)) <<< ((0 : Int32) &&& 31)))]) (fun _ k => XS.sipush X34.here hx rfl (dk d23_49) (XS.iand X34.here hx rfl (dk d23_52) rfl k)) ?_
  obtain ⟨T37, X37, e37, st37⟩ := getS2 X34 hx hZ hown (host := "") (Or.inl (wd hw 99 rfl)) Via.refl e34 (pr3.ext pr0.2) (g := (mkF m 53 #[vr b1, vi 3] [(.int ((own_b1 cc) &&& (255 : Int32))), (.int (((own_b0 cc) &&& (255 : Int32)) <<< ((0 : Int32) &&& 31)))])) rfl (dk d23_53)
  refine gy (St T37 m 56 #[vr b1, vi 3] [(.int 8), (.int ((own_b1 cc) &&& (255 : Int32))), (.int (((own_b0 cc) &&& (255 : Int32)) <<< ((0 : Int32) &&& 31)))]) st37 ?_
  refine gy (St T37 m 59 #[vr b1, vi 3] [(.int (((((own_b0 cc) &&& (255 : Int32)) <<< ((0 : Int32) &&& 31)) ||| (((own_b1 cc) &&& (255 : Int32)) <<< ((8 : Int32) &&& 31))).toUInt32.toUInt16.toUInt32.toInt32))]) (fun _ k => XS.ishl X37.here hx rfl (dk d23_56) rfl (XS.ior X37.here hx rfl (dk d23_57) rfl (XS.i2c X37.here hx rfl (dk d23_58) rfl k))) ?_
  refine Go.retZ X37 hx hlk (t := .char) hret (by simp) (dk d23_59) (by decide) (by decide) ?_
  rw [e37]
  exact ⟨(congrArg (fun q => some (Value.int q)) (own_gc hr)), N0, rfl⟩
theorem ef_rm_put_2 (m : MethodId) (x0 : Addr) (x2 : Int32) : entryFrame m #[(.ref x0), (.int 2), (.int x2)] 3 = mkF m 0 #[vr x0, vi 2, vi x2] [] := by first | (simp [entryFrame, mkF, argsToLocals, Value.category]; done) | rfl
def Q_rm_put_2 (Z : State) (b1 : Addr) (kb : ClassId) (cc : Int32) (z : Int32) (vs : List Value) (h0 : Heap) (n0 : Nat) (vv : Option Value) (h : Heap) (L : List Loc) : Prop := vv = none ∧ Fr n0 L ∧ Keep h0 h [b1] ∧ Arv Z h b1 kb .byte z ((vs.set 4 (.int (own_b0 cc))).set 5 (.int (own_b1 cc))) (.int 0)
set_option maxRecDepth 65536 in
set_option maxHeartbeats 40000000 in
theorem rm_put_2 (l : Launch) (Z : State) (a0 : Array Value) (hw : HW a0 Z) (ws : List Jvm.Cond) (b1 : Addr) (kb : ClassId) (cc : Int32) (z : Int32) (vs : List Value) (h0 : Heap) (n0 : Nat) (Z0 : n0 ≤ h0.size) (pr0 : Old Z n0 h0) (pr1 : Sta Z Z.heap "java/lang/StringUTF16" "$assertionsDisabled" "Z" (.int 1)) (pr2 : Sta Z Z.heap "java/lang/StringUTF16" "HI_BYTE_SHIFT" "I" (.int 0)) (pr3 : Sta Z Z.heap "java/lang/StringUTF16" "LO_BYTE_SHIFT" "I" (.int 8)) (pr4 : Arv Z h0 b1 kb .byte z vs (.int 0)) (pr5 : n0 ≤ b1) (hz0 : (4 : Int32) < z) (hz1 : (5 : Int32) < z) (hl0 : 4 < vs.length) (hl1 : 5 < vs.length) :
    Met l Z Y22 jdk_52_method_4_code 3 none ws ({ frames := 0, cells := 0, slots := 0, locals := 0 } : Room) #[(.ref b1), (.int 2), (.int cc)] h0 (Q_rm_put_2 Z b1 kb cc z vs h0 n0) := by
  refine Met.enter (f0 := fun m => mkF m 0 #[vr b1, vi 2, vi cc] []) (plainFor_of_name pn_java_lang_StringUTF16) (fun m => ef_rm_put_2 m b1 cc) ?_
  intro p e s m below meth c s₁ hx hby hml hown hnm hret hlk hZ X0 e0
  have hown : s.vm.findClass "java/lang/StringUTF16" = some m.cls := hown
  have hnm : meth.name = "putChar" := hnm
  have hml : c.maxLocals = 3 := hml
  have dk : ∀ {i : Nat} {r : Except DecodeError (Instr × Nat)}, decode jdk_52_method_4_code i = r → decode c.code i = r := fun h => hb hby h
  have N0 := Fr.nil n0
  obtain ⟨T38, X38, e38, st38⟩ := getS2 X0 hx hZ hown (host := "") (Or.inl (wd hw 97 rfl)) Via.refl e0 (pr1.ext pr0.2) (g := (mkF m 0 #[vr b1, vi 2, vi cc] [])) rfl (dk d22_0)
  refine gy (St T38 m 3 #[vr b1, vi 2, vi cc] [(.int 1)]) st38 ?_
  refine gy (St T38 m 37 #[vr b1, vi 5, vi cc] [(.int 4), (.ref b1)]) (fun _ k => XS.ifYes X38.here hx rfl (pc0 := 3) (pc' := 28) rfl (dk d22_3) rfl ((if0 _ _).trans (feq (by decide : ¬ ((1 : Int32) = (0 : Int32)))).2) (by decide) (by decide) (XS.iloadN X38.here hx rfl (dk d22_28) rfl (XS.iconst X38.here hx rfl (dk d22_29) (XS.ishl X38.here hx rfl (dk d22_30) rfl (XS.istoreN X38.here hx rfl (dk d22_31) rfl (l' := #[vr b1, vi 4, vi cc]) rfl (XS.aloadN X38.here hx rfl (dk d22_32) rfl rfl (XS.iloadN X38.here hx rfl (dk d22_33) rfl (XS.iinc X38.here hx rfl (dk d22_34) rfl (l' := #[vr b1, vi 5, vi cc]) rfl k)))))))) ?_
  refine gy (St T38 m 38 #[vr b1, vi 5, vi cc] [(.int cc), (.int 4), (.ref b1)]) (fun _ k => XS.iloadN X38.here hx rfl (dk d22_37) rfl k) ?_
  obtain ⟨T39, X39, e39, st39⟩ := getS2 X38 hx hZ hown (host := "") (Or.inl (wd hw 98 rfl)) Via.refl e38 (pr2.ext pr0.2) (g := (mkF m 38 #[vr b1, vi 5, vi cc] [(.int cc), (.int 4), (.ref b1)])) rfl (dk d22_38)
  refine gy (St T39 m 41 #[vr b1, vi 5, vi cc] [(.int 0), (.int cc), (.int 4), (.ref b1)]) st39 ?_
  refine gy (St T39 m 43 #[vr b1, vi 5, vi cc] [(.int ((cc >>> ((0 : Int32) &&& 31)).toInt8.toInt32)), (.int 4), (.ref b1)]) (fun _ k => XS.ishr X39.here hx rfl (dk d22_41) rfl (XS.i2b X39.here hx rfl (dk d22_42) rfl k)) ?_
  obtain ⟨cl40, Ar40, q40, S40, N_40, Hs40, G40⟩ := id pr4
  have hin41 : ¬ ((4 : Int32) < 0 ∨ cl40.slots.size ≤ ((4 : Int32)).toNatClampNeg) := inb_of S40 ⟨by decide, hz0⟩
  obtain ⟨T41, h41, X41, e41, W41, st41⟩ := stB X39 hx hZ e39 Ar40 (j := (4 : Int32)) hin41 (g := (mkF m 43 #[vr b1, vi 5, vi cc] [(.int ((cc >>> ((0 : Int32) &&& 31)).toInt8.toInt32)), (.int 4), (.ref b1)])) rfl rfl (dk d22_43)
  have O42 := pr0.wr W41 pr5
  have Z42 : n0 ≤ h41.size := Nat.le_trans Z0 (Keep.of_wr W41).1
  have V41 : Arv Z h41 b1 kb .byte z (vs.set 4 (.int (nar .byte ((cc >>> ((0 : Int32) &&& 31)).toInt8.toInt32)))) (.int 0) := Arv.set Ar40 q40 S40 N_40 Hs40 G40 (fits_nar_byte _) W41 4 rfl (by simpa using hl0)
  have N41 := Fr.snoc X41 N0 pr5
  refine gy (St T41 m 44 #[vr b1, vi 5, vi cc] []) st41 ?_
  refine gy (St T41 m 47 #[vr b1, vi 5, vi cc] [(.int cc), (.int 5), (.ref b1)]) (fun _ k => XS.aloadN X41.here hx rfl (dk d22_44) rfl rfl (XS.iloadN X41.here hx rfl (dk d22_45) rfl (XS.iloadN X41.here hx rfl (dk d22_46) rfl k))) ?_
  obtain ⟨T43, X43, e43, st43⟩ := getS2 X41 hx hZ hown (host := "") (Or.inl (wd hw 99 rfl)) Via.refl e41 (pr3.ext O42.2) (g := (mkF m 47 #[vr b1, vi 5, vi cc] [(.int cc), (.int 5), (.ref b1)])) rfl (dk d22_47)
  refine gy (St T43 m 50 #[vr b1, vi 5, vi cc] [(.int 8), (.int cc), (.int 5), (.ref b1)]) st43 ?_
  refine gy (St T43 m 52 #[vr b1, vi 5, vi cc] [(.int ((cc >>> ((8 : Int32) &&& 31)).toInt8.toInt32)), (.int 5), (.ref b1)]) (fun _ k => XS.ishr X43.here hx rfl (dk d22_50) rfl (XS.i2b X43.here hx rfl (dk d22_51) rfl k)) ?_
  obtain ⟨cl44, Ar44, q44, S44, N_44, Hs44, G44⟩ := id V41
  have hin45 : ¬ ((5 : Int32) < 0 ∨ cl44.slots.size ≤ ((5 : Int32)).toNatClampNeg) := inb_of S44 ⟨by decide, hz1⟩
  obtain ⟨T45, h45, X45, e45, W45, st45⟩ := stB X43 hx hZ e43 Ar44 (j := (5 : Int32)) hin45 (g := (mkF m 52 #[vr b1, vi 5, vi cc] [(.int ((cc >>> ((8 : Int32) &&& 31)).toInt8.toInt32)), (.int 5), (.ref b1)])) rfl rfl (dk d22_52)
  have O46 := O42.wr W45 pr5
  have Z46 : n0 ≤ h45.size := Nat.le_trans Z42 (Keep.of_wr W45).1
  have V45 : Arv Z h45 b1 kb .byte z ((vs.set 4 (.int (nar .byte ((cc >>> ((0 : Int32) &&& 31)).toInt8.toInt32)))).set 5 (.int (nar .byte ((cc >>> ((8 : Int32) &&& 31)).toInt8.toInt32)))) (.int 0) := Arv.set Ar44 q44 S44 N_44 Hs44 G44 (fits_nar_byte _) W45 5 rfl (by simpa using hl1)
  have N45 := Fr.snoc X45 N41 pr5
  refine gy (St T45 m 53 #[vr b1, vi 5, vi cc] []) st45 ?_
  refine Go.retV X45 hx hlk hret (dk d22_53) (by decide) (by decide) ?_
  rw [e45]
  exact ⟨rfl, N45, (((Keep.refl h0 [b1]).wr W41 (Or.inl (List.mem_of_getElem? (i := 0) rfl))).wr W45 (Or.inl (List.mem_of_getElem? (i := 0) rfl))), V45⟩
theorem ef_rm_get_2 (m : MethodId) (x0 : Addr) : entryFrame m #[(.ref x0), (.int 2)] 2 = mkF m 0 #[vr x0, vi 2] [] := by first | (simp [entryFrame, mkF, argsToLocals, Value.category]; done) | rfl
def Q_rm_get_2 (Z : State) (b1 : Addr) (kb : ClassId) (cc : Int32) (z : Int32) (vs : List Value) (h0 : Heap) (n0 : Nat) (vv : Option Value) (h : Heap) (L : List Loc) : Prop := vv = some (.int cc) ∧ Fr n0 L ∧ h = h0
set_option maxRecDepth 65536 in
set_option maxHeartbeats 40000000 in
theorem rm_get_2 (l : Launch) (Z : State) (a0 : Array Value) (hw : HW a0 Z) (ws : List Jvm.Cond) (b1 : Addr) (kb : ClassId) (cc : Int32) (z : Int32) (vs : List Value) (h0 : Heap) (n0 : Nat) (Z0 : n0 ≤ h0.size) (pr0 : Old Z n0 h0) (pr1 : Sta Z Z.heap "java/lang/StringUTF16" "$assertionsDisabled" "Z" (.int 1)) (pr2 : Sta Z Z.heap "java/lang/StringUTF16" "HI_BYTE_SHIFT" "I" (.int 0)) (pr3 : Sta Z Z.heap "java/lang/StringUTF16" "LO_BYTE_SHIFT" "I" (.int 8)) (pr4 : Arv Z h0 b1 kb .byte z vs (.int 0)) (hz0 : (4 : Int32) < z) (hz1 : (5 : Int32) < z) (he0 : vs.getD 4 (.int 0) = .int (own_b0 cc)) (he1 : vs.getD 5 (.int 0) = .int (own_b1 cc)) (hr : own_rng cc) :
    Met l Z Y18 jdk_52_method_5_code 2 (some .char) ws ({ frames := 0, cells := 0, slots := 0, locals := 0 } : Room) #[(.ref b1), (.int 2)] h0 (Q_rm_get_2 Z b1 kb cc z vs h0 n0) := by
  refine Met.enter (f0 := fun m => mkF m 0 #[vr b1, vi 2] []) (plainFor_of_name pn_java_lang_StringUTF16) (fun m => ef_rm_get_2 m b1) ?_
  intro p e s m below meth c s₁ hx hby hml hown hnm hret hlk hZ X0 e0
  have hown : s.vm.findClass "java/lang/StringUTF16" = some m.cls := hown
  have hnm : meth.name = "getChar" := hnm
  have hml : c.maxLocals = 2 := hml
  have dk : ∀ {i : Nat} {r : Except DecodeError (Instr × Nat)}, decode jdk_52_method_5_code i = r → decode c.code i = r := fun h => hb hby h
  have N0 := Fr.nil n0
  obtain ⟨T47, X47, e47, st47⟩ := getS2 X0 hx hZ hown (host := "") (Or.inl (wd hw 97 rfl)) Via.refl e0 (pr1.ext pr0.2) (g := (mkF m 0 #[vr b1, vi 2] [])) rfl (dk d23_0)
  refine gy (St T47 m 3 #[vr b1, vi 2] [(.int 1)]) st47 ?_
  refine gy (St T47 m 37 #[vr b1, vi 5] [(.int 4), (.ref b1)]) (fun _ k => XS.ifYes X47.here hx rfl (pc0 := 3) (pc' := 28) rfl (dk d23_3) rfl ((if0 _ _).trans (feq (by decide : ¬ ((1 : Int32) = (0 : Int32)))).2) (by decide) (by decide) (XS.iloadN X47.here hx rfl (dk d23_28) rfl (XS.iconst X47.here hx rfl (dk d23_29) (XS.ishl X47.here hx rfl (dk d23_30) rfl (XS.istoreN X47.here hx rfl (dk d23_31) rfl (l' := #[vr b1, vi 4]) rfl (XS.aloadN X47.here hx rfl (dk d23_32) rfl rfl (XS.iloadN X47.here hx rfl (dk d23_33) rfl (XS.iinc X47.here hx rfl (dk d23_34) rfl (l' := #[vr b1, vi 5]) rfl k)))))))) ?_
  obtain ⟨cl48, Ar48, q48, S48, N_48, Hs48, G48⟩ := id pr4
  have hin49 : ¬ ((4 : Int32) < 0 ∨ cl48.slots.size ≤ ((4 : Int32)).toNatClampNeg) := inb_of S48 ⟨by decide, hz0⟩
  have hat49 : cl48.slots[((4 : Int32)).toNatClampNeg]? = some (.int (own_b0 cc)) := Hs48.at hin49 he0
  refine gy (St T47 m 38 #[vr b1, vi 5] [(.int (own_b0 cc))]) (fun _ k => X47.baloadBytes hx (j := (4 : Int32)) (v := (.int (own_b0 cc))) (by rw [e47]; exact Ar48.1) (State.isArrayOf_alike hZ.alike Ar48.2.1) Ar48.2.2 hin49 hat49 (g := (mkF m 37 #[vr b1, vi 5] [(.int 4), (.ref b1)])) rfl rfl (dk d23_37) _ k) ?_
  refine gy (St T47 m 42 #[vr b1, vi 5] [(.int ((own_b0 cc) &&& (255 : Int32)))]) (fun _ k => XS.sipush X47.here hx rfl (dk d23_38) (XS.iand X47.here hx rfl (dk d23_41) rfl k)) ?_
  obtain ⟨T50, X50, e50, st50⟩ := getS2 X47 hx hZ hown (host := "") (Or.inl (wd hw 98 rfl)) Via.refl e47 (pr2.ext pr0.2) (g := (mkF m 42 #[vr b1, vi 5] [(.int ((own_b0 cc) &&& (255 : Int32)))])) rfl (dk d23_42)
  refine gy (St T50 m 45 #[vr b1, vi 5] [(.int 0), (.int ((own_b0 cc) &&& (255 : Int32)))]) st50 ?_
  refine gy (St T50 m 48 #[vr b1, vi 5] [(.int 5), (.ref b1), (.int (((own_b0 cc) &&& (255 : Int32)) <<< ((0 : Int32) &&& 31)))]) (fun _ k => XS.ishl X50.here hx rfl (dk d23_45) rfl (XS.aloadN X50.here hx rfl (dk d23_46) rfl rfl (XS.iloadN X50.here hx rfl (dk d23_47) rfl k))) ?_
  obtain ⟨cl51, Ar51, q51, S51, N_51, Hs51, G51⟩ := id pr4
  have hin52 : ¬ ((5 : Int32) < 0 ∨ cl51.slots.size ≤ ((5 : Int32)).toNatClampNeg) := inb_of S51 ⟨by decide, hz1⟩
  have hat52 : cl51.slots[((5 : Int32)).toNatClampNeg]? = some (.int (own_b1 cc)) := Hs51.at hin52 he1
  refine gy (St T50 m 49 #[vr b1, vi 5] [(.int (own_b1 cc)), (.int (((own_b0 cc) &&& (255 : Int32)) <<< ((0 : Int32) &&& 31)))]) (fun _ k => X50.baloadBytes hx (j := (5 : Int32)) (v := (.int (own_b1 cc))) (by rw [e50]; exact Ar51.1) (State.isArrayOf_alike hZ.alike Ar51.2.1) Ar51.2.2 hin52 hat52 (g := (mkF m 48 #[vr b1, vi 5] [(.int 5), (.ref b1), (.int (((own_b0 cc) &&& (255 : Int32)) <<< ((0 : Int32) &&& 31)))])) rfl rfl (dk d23_48) _ k) ?_
  refine gy (St T50 m 53 #[vr b1, vi 5] [(.int ((own_b1 cc) &&& (255 : Int32))), (.int (((own_b0 cc) &&& (255 : Int32)) <<< ((0 : Int32) &&& 31)))]) (fun _ k => XS.sipush X50.here hx rfl (dk d23_49) (XS.iand X50.here hx rfl (dk d23_52) rfl k)) ?_
  obtain ⟨T53, X53, e53, st53⟩ := getS2 X50 hx hZ hown (host := "") (Or.inl (wd hw 99 rfl)) Via.refl e50 (pr3.ext pr0.2) (g := (mkF m 53 #[vr b1, vi 5] [(.int ((own_b1 cc) &&& (255 : Int32))), (.int (((own_b0 cc) &&& (255 : Int32)) <<< ((0 : Int32) &&& 31)))])) rfl (dk d23_53)
  refine gy (St T53 m 56 #[vr b1, vi 5] [(.int 8), (.int ((own_b1 cc) &&& (255 : Int32))), (.int (((own_b0 cc) &&& (255 : Int32)) <<< ((0 : Int32) &&& 31)))]) st53 ?_
  refine gy (St T53 m 59 #[vr b1, vi 5] [(.int (((((own_b0 cc) &&& (255 : Int32)) <<< ((0 : Int32) &&& 31)) ||| (((own_b1 cc) &&& (255 : Int32)) <<< ((8 : Int32) &&& 31))).toUInt32.toUInt16.toUInt32.toInt32))]) (fun _ k => XS.ishl X53.here hx rfl (dk d23_56) rfl (XS.ior X53.here hx rfl (dk d23_57) rfl (XS.i2c X53.here hx rfl (dk d23_58) rfl k))) ?_
  refine Go.retZ X53 hx hlk (t := .char) hret (by simp) (dk d23_59) (by decide) (by decide) ?_
  rw [e53]
  exact ⟨(congrArg (fun q => some (Value.int q)) (own_gc hr)), N0, rfl⟩
theorem ef_rm_put_3 (m : MethodId) (x0 : Addr) (x2 : Int32) : entryFrame m #[(.ref x0), (.int 3), (.int x2)] 3 = mkF m 0 #[vr x0, vi 3, vi x2] [] := by first | (simp [entryFrame, mkF, argsToLocals, Value.category]; done) | rfl
def Q_rm_put_3 (Z : State) (b1 : Addr) (kb : ClassId) (cc : Int32) (z : Int32) (vs : List Value) (h0 : Heap) (n0 : Nat) (vv : Option Value) (h : Heap) (L : List Loc) : Prop := vv = none ∧ Fr n0 L ∧ Keep h0 h [b1] ∧ Arv Z h b1 kb .byte z ((vs.set 6 (.int (own_b0 cc))).set 7 (.int (own_b1 cc))) (.int 0)
set_option maxRecDepth 65536 in
set_option maxHeartbeats 40000000 in
theorem rm_put_3 (l : Launch) (Z : State) (a0 : Array Value) (hw : HW a0 Z) (ws : List Jvm.Cond) (b1 : Addr) (kb : ClassId) (cc : Int32) (z : Int32) (vs : List Value) (h0 : Heap) (n0 : Nat) (Z0 : n0 ≤ h0.size) (pr0 : Old Z n0 h0) (pr1 : Sta Z Z.heap "java/lang/StringUTF16" "$assertionsDisabled" "Z" (.int 1)) (pr2 : Sta Z Z.heap "java/lang/StringUTF16" "HI_BYTE_SHIFT" "I" (.int 0)) (pr3 : Sta Z Z.heap "java/lang/StringUTF16" "LO_BYTE_SHIFT" "I" (.int 8)) (pr4 : Arv Z h0 b1 kb .byte z vs (.int 0)) (pr5 : n0 ≤ b1) (hz0 : (6 : Int32) < z) (hz1 : (7 : Int32) < z) (hl0 : 6 < vs.length) (hl1 : 7 < vs.length) :
    Met l Z Y22 jdk_52_method_4_code 3 none ws ({ frames := 0, cells := 0, slots := 0, locals := 0 } : Room) #[(.ref b1), (.int 3), (.int cc)] h0 (Q_rm_put_3 Z b1 kb cc z vs h0 n0) := by
  refine Met.enter (f0 := fun m => mkF m 0 #[vr b1, vi 3, vi cc] []) (plainFor_of_name pn_java_lang_StringUTF16) (fun m => ef_rm_put_3 m b1 cc) ?_
  intro p e s m below meth c s₁ hx hby hml hown hnm hret hlk hZ X0 e0
  have hown : s.vm.findClass "java/lang/StringUTF16" = some m.cls := hown
  have hnm : meth.name = "putChar" := hnm
  have hml : c.maxLocals = 3 := hml
  have dk : ∀ {i : Nat} {r : Except DecodeError (Instr × Nat)}, decode jdk_52_method_4_code i = r → decode c.code i = r := fun h => hb hby h
  have N0 := Fr.nil n0
  obtain ⟨T54, X54, e54, st54⟩ := getS2 X0 hx hZ hown (host := "") (Or.inl (wd hw 97 rfl)) Via.refl e0 (pr1.ext pr0.2) (g := (mkF m 0 #[vr b1, vi 3, vi cc] [])) rfl (dk d22_0)
  refine gy (St T54 m 3 #[vr b1, vi 3, vi cc] [(.int 1)]) st54 ?_
  refine gy (St T54 m 37 #[vr b1, vi 7, vi cc] [(.int 6), (.ref b1)]) (fun _ k => XS.ifYes X54.here hx rfl (pc0 := 3) (pc' := 28) rfl (dk d22_3) rfl ((if0 _ _).trans (feq (by decide : ¬ ((1 : Int32) = (0 : Int32)))).2) (by decide) (by decide) (XS.iloadN X54.here hx rfl (dk d22_28) rfl (XS.iconst X54.here hx rfl (dk d22_29) (XS.ishl X54.here hx rfl (dk d22_30) rfl (XS.istoreN X54.here hx rfl (dk d22_31) rfl (l' := #[vr b1, vi 6, vi cc]) rfl (XS.aloadN X54.here hx rfl (dk d22_32) rfl rfl (XS.iloadN X54.here hx rfl (dk d22_33) rfl (XS.iinc X54.here hx rfl (dk d22_34) rfl (l' := #[vr b1, vi 7, vi cc]) rfl k)))))))) ?_
  refine gy (St T54 m 38 #[vr b1, vi 7, vi cc] [(.int cc), (.int 6), (.ref b1)]) (fun _ k => XS.iloadN X54.here hx rfl (dk d22_37) rfl k) ?_
  obtain ⟨T55, X55, e55, st55⟩ := getS2 X54 hx hZ hown (host := "") (Or.inl (wd hw 98 rfl)) Via.refl e54 (pr2.ext pr0.2) (g := (mkF m 38 #[vr b1, vi 7, vi cc] [(.int cc), (.int 6), (.ref b1)])) rfl (dk d22_38)
  refine gy (St T55 m 41 #[vr b1, vi 7, vi cc] [(.int 0), (.int cc), (.int 6), (.ref b1)]) st55 ?_
  refine gy (St T55 m 43 #[vr b1, vi 7, vi cc] [(.int ((cc >>> ((0 : Int32) &&& 31)).toInt8.toInt32)), (.int 6), (.ref b1)]) (fun _ k => XS.ishr X55.here hx rfl (dk d22_41) rfl (XS.i2b X55.here hx rfl (dk d22_42) rfl k)) ?_
  obtain ⟨cl56, Ar56, q56, S56, N_56, Hs56, G56⟩ := id pr4
  have hin57 : ¬ ((6 : Int32) < 0 ∨ cl56.slots.size ≤ ((6 : Int32)).toNatClampNeg) := inb_of S56 ⟨by decide, hz0⟩
  obtain ⟨T57, h57, X57, e57, W57, st57⟩ := stB X55 hx hZ e55 Ar56 (j := (6 : Int32)) hin57 (g := (mkF m 43 #[vr b1, vi 7, vi cc] [(.int ((cc >>> ((0 : Int32) &&& 31)).toInt8.toInt32)), (.int 6), (.ref b1)])) rfl rfl (dk d22_43)
  have O58 := pr0.wr W57 pr5
  have Z58 : n0 ≤ h57.size := Nat.le_trans Z0 (Keep.of_wr W57).1
  have V57 : Arv Z h57 b1 kb .byte z (vs.set 6 (.int (nar .byte ((cc >>> ((0 : Int32) &&& 31)).toInt8.toInt32)))) (.int 0) := Arv.set Ar56 q56 S56 N_56 Hs56 G56 (fits_nar_byte _) W57 6 rfl (by simpa using hl0)
  have N57 := Fr.snoc X57 N0 pr5
  refine gy (St T57 m 44 #[vr b1, vi 7, vi cc] []) st57 ?_
  refine gy (St T57 m 47 #[vr b1, vi 7, vi cc] [(.int cc), (.int 7), (.ref b1)]) (fun _ k => XS.aloadN X57.here hx rfl (dk d22_44) rfl rfl (XS.iloadN X57.here hx rfl (dk d22_45) rfl (XS.iloadN X57.here hx rfl (dk d22_46) rfl k))) ?_
  obtain ⟨T59, X59, e59, st59⟩ := getS2 X57 hx hZ hown (host := "") (Or.inl (wd hw 99 rfl)) Via.refl e57 (pr3.ext O58.2) (g := (mkF m 47 #[vr b1, vi 7, vi cc] [(.int cc), (.int 7), (.ref b1)])) rfl (dk d22_47)
  refine gy (St T59 m 50 #[vr b1, vi 7, vi cc] [(.int 8), (.int cc), (.int 7), (.ref b1)]) st59 ?_
  refine gy (St T59 m 52 #[vr b1, vi 7, vi cc] [(.int ((cc >>> ((8 : Int32) &&& 31)).toInt8.toInt32)), (.int 7), (.ref b1)]) (fun _ k => XS.ishr X59.here hx rfl (dk d22_50) rfl (XS.i2b X59.here hx rfl (dk d22_51) rfl k)) ?_
  obtain ⟨cl60, Ar60, q60, S60, N_60, Hs60, G60⟩ := id V57
  have hin61 : ¬ ((7 : Int32) < 0 ∨ cl60.slots.size ≤ ((7 : Int32)).toNatClampNeg) := inb_of S60 ⟨by decide, hz1⟩
  obtain ⟨T61, h61, X61, e61, W61, st61⟩ := stB X59 hx hZ e59 Ar60 (j := (7 : Int32)) hin61 (g := (mkF m 52 #[vr b1, vi 7, vi cc] [(.int ((cc >>> ((8 : Int32) &&& 31)).toInt8.toInt32)), (.int 7), (.ref b1)])) rfl rfl (dk d22_52)
  have O62 := O58.wr W61 pr5
  have Z62 : n0 ≤ h61.size := Nat.le_trans Z58 (Keep.of_wr W61).1
  have V61 : Arv Z h61 b1 kb .byte z ((vs.set 6 (.int (nar .byte ((cc >>> ((0 : Int32) &&& 31)).toInt8.toInt32)))).set 7 (.int (nar .byte ((cc >>> ((8 : Int32) &&& 31)).toInt8.toInt32)))) (.int 0) := Arv.set Ar60 q60 S60 N_60 Hs60 G60 (fits_nar_byte _) W61 7 rfl (by simpa using hl1)
  have N61 := Fr.snoc X61 N57 pr5
  refine gy (St T61 m 53 #[vr b1, vi 7, vi cc] []) st61 ?_
  refine Go.retV X61 hx hlk hret (dk d22_53) (by decide) (by decide) ?_
  rw [e61]
  exact ⟨rfl, N61, (((Keep.refl h0 [b1]).wr W57 (Or.inl (List.mem_of_getElem? (i := 0) rfl))).wr W61 (Or.inl (List.mem_of_getElem? (i := 0) rfl))), V61⟩
theorem ef_rm_get_3 (m : MethodId) (x0 : Addr) : entryFrame m #[(.ref x0), (.int 3)] 2 = mkF m 0 #[vr x0, vi 3] [] := by first | (simp [entryFrame, mkF, argsToLocals, Value.category]; done) | rfl
def Q_rm_get_3 (Z : State) (b1 : Addr) (kb : ClassId) (cc : Int32) (z : Int32) (vs : List Value) (h0 : Heap) (n0 : Nat) (vv : Option Value) (h : Heap) (L : List Loc) : Prop := vv = some (.int cc) ∧ Fr n0 L ∧ h = h0
set_option maxRecDepth 65536 in
set_option maxHeartbeats 40000000 in
theorem rm_get_3 (l : Launch) (Z : State) (a0 : Array Value) (hw : HW a0 Z) (ws : List Jvm.Cond) (b1 : Addr) (kb : ClassId) (cc : Int32) (z : Int32) (vs : List Value) (h0 : Heap) (n0 : Nat) (Z0 : n0 ≤ h0.size) (pr0 : Old Z n0 h0) (pr1 : Sta Z Z.heap "java/lang/StringUTF16" "$assertionsDisabled" "Z" (.int 1)) (pr2 : Sta Z Z.heap "java/lang/StringUTF16" "HI_BYTE_SHIFT" "I" (.int 0)) (pr3 : Sta Z Z.heap "java/lang/StringUTF16" "LO_BYTE_SHIFT" "I" (.int 8)) (pr4 : Arv Z h0 b1 kb .byte z vs (.int 0)) (hz0 : (6 : Int32) < z) (hz1 : (7 : Int32) < z) (he0 : vs.getD 6 (.int 0) = .int (own_b0 cc)) (he1 : vs.getD 7 (.int 0) = .int (own_b1 cc)) (hr : own_rng cc) :
    Met l Z Y18 jdk_52_method_5_code 2 (some .char) ws ({ frames := 0, cells := 0, slots := 0, locals := 0 } : Room) #[(.ref b1), (.int 3)] h0 (Q_rm_get_3 Z b1 kb cc z vs h0 n0) := by
  refine Met.enter (f0 := fun m => mkF m 0 #[vr b1, vi 3] []) (plainFor_of_name pn_java_lang_StringUTF16) (fun m => ef_rm_get_3 m b1) ?_
  intro p e s m below meth c s₁ hx hby hml hown hnm hret hlk hZ X0 e0
  have hown : s.vm.findClass "java/lang/StringUTF16" = some m.cls := hown
  have hnm : meth.name = "getChar" := hnm
  have hml : c.maxLocals = 2 := hml
  have dk : ∀ {i : Nat} {r : Except DecodeError (Instr × Nat)}, decode jdk_52_method_5_code i = r → decode c.code i = r := fun h => hb hby h
  have N0 := Fr.nil n0
  obtain ⟨T63, X63, e63, st63⟩ := getS2 X0 hx hZ hown (host := "") (Or.inl (wd hw 97 rfl)) Via.refl e0 (pr1.ext pr0.2) (g := (mkF m 0 #[vr b1, vi 3] [])) rfl (dk d23_0)
  refine gy (St T63 m 3 #[vr b1, vi 3] [(.int 1)]) st63 ?_
  refine gy (St T63 m 37 #[vr b1, vi 7] [(.int 6), (.ref b1)]) (fun _ k => XS.ifYes X63.here hx rfl (pc0 := 3) (pc' := 28) rfl (dk d23_3) rfl ((if0 _ _).trans (feq (by decide : ¬ ((1 : Int32) = (0 : Int32)))).2) (by decide) (by decide) (XS.iloadN X63.here hx rfl (dk d23_28) rfl (XS.iconst X63.here hx rfl (dk d23_29) (XS.ishl X63.here hx rfl (dk d23_30) rfl (XS.istoreN X63.here hx rfl (dk d23_31) rfl (l' := #[vr b1, vi 6]) rfl (XS.aloadN X63.here hx rfl (dk d23_32) rfl rfl (XS.iloadN X63.here hx rfl (dk d23_33) rfl (XS.iinc X63.here hx rfl (dk d23_34) rfl (l' := #[vr b1, vi 7]) rfl k)))))))) ?_
  obtain ⟨cl64, Ar64, q64, S64, N_64, Hs64, G64⟩ := id pr4
  have hin65 : ¬ ((6 : Int32) < 0 ∨ cl64.slots.size ≤ ((6 : Int32)).toNatClampNeg) := inb_of S64 ⟨by decide, hz0⟩
  have hat65 : cl64.slots[((6 : Int32)).toNatClampNeg]? = some (.int (own_b0 cc)) := Hs64.at hin65 he0
  refine gy (St T63 m 38 #[vr b1, vi 7] [(.int (own_b0 cc))]) (fun _ k => X63.baloadBytes hx (j := (6 : Int32)) (v := (.int (own_b0 cc))) (by rw [e63]; exact Ar64.1) (State.isArrayOf_alike hZ.alike Ar64.2.1) Ar64.2.2 hin65 hat65 (g := (mkF m 37 #[vr b1, vi 7] [(.int 6), (.ref b1)])) rfl rfl (dk d23_37) _ k) ?_
  refine gy (St T63 m 42 #[vr b1, vi 7] [(.int ((own_b0 cc) &&& (255 : Int32)))]) (fun _ k => XS.sipush X63.here hx rfl (dk d23_38) (XS.iand X63.here hx rfl (dk d23_41) rfl k)) ?_
  obtain ⟨T66, X66, e66, st66⟩ := getS2 X63 hx hZ hown (host := "") (Or.inl (wd hw 98 rfl)) Via.refl e63 (pr2.ext pr0.2) (g := (mkF m 42 #[vr b1, vi 7] [(.int ((own_b0 cc) &&& (255 : Int32)))])) rfl (dk d23_42)
  refine gy (St T66 m 45 #[vr b1, vi 7] [(.int 0), (.int ((own_b0 cc) &&& (255 : Int32)))]) st66 ?_
  refine gy (St T66 m 48 #[vr b1, vi 7] [(.int 7), (.ref b1), (.int (((own_b0 cc) &&& (255 : Int32)) <<< ((0 : Int32) &&& 31)))]) (fun _ k => XS.ishl X66.here hx rfl (dk d23_45) rfl (XS.aloadN X66.here hx rfl (dk d23_46) rfl rfl (XS.iloadN X66.here hx rfl (dk d23_47) rfl k))) ?_
  obtain ⟨cl67, Ar67, q67, S67, N_67, Hs67, G67⟩ := id pr4
  have hin68 : ¬ ((7 : Int32) < 0 ∨ cl67.slots.size ≤ ((7 : Int32)).toNatClampNeg) := inb_of S67 ⟨by decide, hz1⟩
  have hat68 : cl67.slots[((7 : Int32)).toNatClampNeg]? = some (.int (own_b1 cc)) := Hs67.at hin68 he1
  refine gy (St T66 m 49 #[vr b1, vi 7] [(.int (own_b1 cc)), (.int (((own_b0 cc) &&& (255 : Int32)) <<< ((0 : Int32) &&& 31)))]) (fun _ k => X66.baloadBytes hx (j := (7 : Int32)) (v := (.int (own_b1 cc))) (by rw [e66]; exact Ar67.1) (State.isArrayOf_alike hZ.alike Ar67.2.1) Ar67.2.2 hin68 hat68 (g := (mkF m 48 #[vr b1, vi 7] [(.int 7), (.ref b1), (.int (((own_b0 cc) &&& (255 : Int32)) <<< ((0 : Int32) &&& 31)))])) rfl rfl (dk d23_48) _ k) ?_
  refine gy (St T66 m 53 #[vr b1, vi 7] [(.int ((own_b1 cc) &&& (255 : Int32))), (.int (((own_b0 cc) &&& (255 : Int32)) <<< ((0 : Int32) &&& 31)))]) (fun _ k => XS.sipush X66.here hx rfl (dk d23_49) (XS.iand X66.here hx rfl (dk d23_52) rfl k)) ?_
  obtain ⟨T69, X69, e69, st69⟩ := getS2 X66 hx hZ hown (host := "") (Or.inl (wd hw 99 rfl)) Via.refl e66 (pr3.ext pr0.2) (g := (mkF m 53 #[vr b1, vi 7] [(.int ((own_b1 cc) &&& (255 : Int32))), (.int (((own_b0 cc) &&& (255 : Int32)) <<< ((0 : Int32) &&& 31)))])) rfl (dk d23_53)
  refine gy (St T69 m 56 #[vr b1, vi 7] [(.int 8), (.int ((own_b1 cc) &&& (255 : Int32))), (.int (((own_b0 cc) &&& (255 : Int32)) <<< ((0 : Int32) &&& 31)))]) st69 ?_
  refine gy (St T69 m 59 #[vr b1, vi 7] [(.int (((((own_b0 cc) &&& (255 : Int32)) <<< ((0 : Int32) &&& 31)) ||| (((own_b1 cc) &&& (255 : Int32)) <<< ((8 : Int32) &&& 31))).toUInt32.toUInt16.toUInt32.toInt32))]) (fun _ k => XS.ishl X69.here hx rfl (dk d23_56) rfl (XS.ior X69.here hx rfl (dk d23_57) rfl (XS.i2c X69.here hx rfl (dk d23_58) rfl k))) ?_
  refine Go.retZ X69 hx hlk (t := .char) hret (by simp) (dk d23_59) (by decide) (by decide) ?_
  rw [e69]
  exact ⟨(congrArg (fun q => some (Value.int q)) (own_gc hr)), N0, rfl⟩
theorem ef_rm_put_4 (m : MethodId) (x0 : Addr) (x2 : Int32) : entryFrame m #[(.ref x0), (.int 4), (.int x2)] 3 = mkF m 0 #[vr x0, vi 4, vi x2] [] := by first | (simp [entryFrame, mkF, argsToLocals, Value.category]; done) | rfl
def Q_rm_put_4 (Z : State) (b1 : Addr) (kb : ClassId) (cc : Int32) (z : Int32) (vs : List Value) (h0 : Heap) (n0 : Nat) (vv : Option Value) (h : Heap) (L : List Loc) : Prop := vv = none ∧ Fr n0 L ∧ Keep h0 h [b1] ∧ Arv Z h b1 kb .byte z ((vs.set 8 (.int (own_b0 cc))).set 9 (.int (own_b1 cc))) (.int 0)
set_option maxRecDepth 65536 in
set_option maxHeartbeats 40000000 in
theorem rm_put_4 (l : Launch) (Z : State) (a0 : Array Value) (hw : HW a0 Z) (ws : List Jvm.Cond) (b1 : Addr) (kb : ClassId) (cc : Int32) (z : Int32) (vs : List Value) (h0 : Heap) (n0 : Nat) (Z0 : n0 ≤ h0.size) (pr0 : Old Z n0 h0) (pr1 : Sta Z Z.heap "java/lang/StringUTF16" "$assertionsDisabled" "Z" (.int 1)) (pr2 : Sta Z Z.heap "java/lang/StringUTF16" "HI_BYTE_SHIFT" "I" (.int 0)) (pr3 : Sta Z Z.heap "java/lang/StringUTF16" "LO_BYTE_SHIFT" "I" (.int 8)) (pr4 : Arv Z h0 b1 kb .byte z vs (.int 0)) (pr5 : n0 ≤ b1) (hz0 : (8 : Int32) < z) (hz1 : (9 : Int32) < z) (hl0 : 8 < vs.length) (hl1 : 9 < vs.length) :
    Met l Z Y22 jdk_52_method_4_code 3 none ws ({ frames := 0, cells := 0, slots := 0, locals := 0 } : Room) #[(.ref b1), (.int 4), (.int cc)] h0 (Q_rm_put_4 Z b1 kb cc z vs h0 n0) := by
  refine Met.enter (f0 := fun m => mkF m 0 #[vr b1, vi 4, vi cc] []) (plainFor_of_name pn_java_lang_StringUTF16) (fun m => ef_rm_put_4 m b1 cc) ?_
  intro p e s m below meth c s₁ hx hby hml hown hnm hret hlk hZ X0 e0
  have hown : s.vm.findClass "java/lang/StringUTF16" = some m.cls := hown
  have hnm : meth.name = "putChar" := hnm
  have hml : c.maxLocals = 3 := hml
  have dk : ∀ {i : Nat} {r : Except DecodeError (Instr × Nat)}, decode jdk_52_method_4_code i = r → decode c.code i = r := fun h => hb hby h
  have N0 := Fr.nil n0
  obtain ⟨T70, X70, e70, st70⟩ := getS2 X0 hx hZ hown (host := "") (Or.inl (wd hw 97 rfl)) Via.refl e0 (pr1.ext pr0.2) (g := (mkF m 0 #[vr b1, vi 4, vi cc] [])) rfl (dk d22_0)
  refine gy (St T70 m 3 #[vr b1, vi 4, vi cc] [(.int 1)]) st70 ?_
  refine gy (St T70 m 37 #[vr b1, vi 9, vi cc] [(.int 8), (.ref b1)]) (fun _ k => XS.ifYes X70.here hx rfl (pc0 := 3) (pc' := 28) rfl (dk d22_3) rfl ((if0 _ _).trans (feq (by decide : ¬ ((1 : Int32) = (0 : Int32)))).2) (by decide) (by decide) (XS.iloadN X70.here hx rfl (dk d22_28) rfl (XS.iconst X70.here hx rfl (dk d22_29) (XS.ishl X70.here hx rfl (dk d22_30) rfl (XS.istoreN X70.here hx rfl (dk d22_31) rfl (l' := #[vr b1, vi 8, vi cc]) rfl (XS.aloadN X70.here hx rfl (dk d22_32) rfl rfl (XS.iloadN X70.here hx rfl (dk d22_33) rfl (XS.iinc X70.here hx rfl (dk d22_34) rfl (l' := #[vr b1, vi 9, vi cc]) rfl k)))))))) ?_
  refine gy (St T70 m 38 #[vr b1, vi 9, vi cc] [(.int cc), (.int 8), (.ref b1)]) (fun _ k => XS.iloadN X70.here hx rfl (dk d22_37) rfl k) ?_
  obtain ⟨T71, X71, e71, st71⟩ := getS2 X70 hx hZ hown (host := "") (Or.inl (wd hw 98 rfl)) Via.refl e70 (pr2.ext pr0.2) (g := (mkF m 38 #[vr b1, vi 9, vi cc] [(.int cc), (.int 8), (.ref b1)])) rfl (dk d22_38)
  refine gy (St T71 m 41 #[vr b1, vi 9, vi cc] [(.int 0), (.int cc), (.int 8), (.ref b1)]) st71 ?_
  refine gy (St T71 m 43 #[vr b1, vi 9, vi cc] [(.int ((cc >>> ((0 : Int32) &&& 31)).toInt8.toInt32)), (.int 8), (.ref b1)]) (fun _ k => XS.ishr X71.here hx rfl (dk d22_41) rfl (XS.i2b X71.here hx rfl (dk d22_42) rfl k)) ?_
  obtain ⟨cl72, Ar72, q72, S72, N_72, Hs72, G72⟩ := id pr4
  have hin73 : ¬ ((8 : Int32) < 0 ∨ cl72.slots.size ≤ ((8 : Int32)).toNatClampNeg) := inb_of S72 ⟨by decide, hz0⟩
  obtain ⟨T73, h73, X73, e73, W73, st73⟩ := stB X71 hx hZ e71 Ar72 (j := (8 : Int32)) hin73 (g := (mkF m 43 #[vr b1, vi 9, vi cc] [(.int ((cc >>> ((0 : Int32) &&& 31)).toInt8.toInt32)), (.int 8), (.ref b1)])) rfl rfl (dk d22_43)
  have O74 := pr0.wr W73 pr5
  have Z74 : n0 ≤ h73.size := Nat.le_trans Z0 (Keep.of_wr W73).1
  have V73 : Arv Z h73 b1 kb .byte z (vs.set 8 (.int (nar .byte ((cc >>> ((0 : Int32) &&& 31)).toInt8.toInt32)))) (.int 0) := Arv.set Ar72 q72 S72 N_72 Hs72 G72 (fits_nar_byte _) W73 8 rfl (by simpa using hl0)
  have N73 := Fr.snoc X73 N0 pr5
  refine gy (St T73 m 44 #[vr b1, vi 9, vi cc] []) st73 ?_
  refine gy (St T73 m 47 #[vr b1, vi 9, vi cc] [(.int cc), (.int 9), (.ref b1)]) (fun _ k => XS.aloadN X73.here hx rfl (dk d22_44) rfl rfl (XS.iloadN X73.here hx rfl (dk d22_45) rfl (XS.iloadN X73.here hx rfl (dk d22_46) rfl k))) ?_
  obtain ⟨T75, X75, e75, st75⟩ := getS2 X73 hx hZ hown (host := "") (Or.inl (wd hw 99 rfl)) Via.refl e73 (pr3.ext O74.2) (g := (mkF m 47 #[vr b1, vi 9, vi cc] [(.int cc), (.int 9), (.ref b1)])) rfl (dk d22_47)
  refine gy (St T75 m 50 #[vr b1, vi 9, vi cc] [(.int 8), (.int cc), (.int 9), (.ref b1)]) st75 ?_
  refine gy (St T75 m 52 #[vr b1, vi 9, vi cc] [(.int ((cc >>> ((8 : Int32) &&& 31)).toInt8.toInt32)), (.int 9), (.ref b1)]) (fun _ k => XS.ishr X75.here hx rfl (dk d22_50) rfl (XS.i2b X75.here hx rfl (dk d22_51) rfl k)) ?_
  obtain ⟨cl76, Ar76, q76, S76, N_76, Hs76, G76⟩ := id V73
  have hin77 : ¬ ((9 : Int32) < 0 ∨ cl76.slots.size ≤ ((9 : Int32)).toNatClampNeg) := inb_of S76 ⟨by decide, hz1⟩
  obtain ⟨T77, h77, X77, e77, W77, st77⟩ := stB X75 hx hZ e75 Ar76 (j := (9 : Int32)) hin77 (g := (mkF m 52 #[vr b1, vi 9, vi cc] [(.int ((cc >>> ((8 : Int32) &&& 31)).toInt8.toInt32)), (.int 9), (.ref b1)])) rfl rfl (dk d22_52)
  have O78 := O74.wr W77 pr5
  have Z78 : n0 ≤ h77.size := Nat.le_trans Z74 (Keep.of_wr W77).1
  have V77 : Arv Z h77 b1 kb .byte z ((vs.set 8 (.int (nar .byte ((cc >>> ((0 : Int32) &&& 31)).toInt8.toInt32)))).set 9 (.int (nar .byte ((cc >>> ((8 : Int32) &&& 31)).toInt8.toInt32)))) (.int 0) := Arv.set Ar76 q76 S76 N_76 Hs76 G76 (fits_nar_byte _) W77 9 rfl (by simpa using hl1)
  have N77 := Fr.snoc X77 N73 pr5
  refine gy (St T77 m 53 #[vr b1, vi 9, vi cc] []) st77 ?_
  refine Go.retV X77 hx hlk hret (dk d22_53) (by decide) (by decide) ?_
  rw [e77]
  exact ⟨rfl, N77, (((Keep.refl h0 [b1]).wr W73 (Or.inl (List.mem_of_getElem? (i := 0) rfl))).wr W77 (Or.inl (List.mem_of_getElem? (i := 0) rfl))), V77⟩
theorem ef_rm_get_4 (m : MethodId) (x0 : Addr) : entryFrame m #[(.ref x0), (.int 4)] 2 = mkF m 0 #[vr x0, vi 4] [] := by first | (simp [entryFrame, mkF, argsToLocals, Value.category]; done) | rfl
def Q_rm_get_4 (Z : State) (b1 : Addr) (kb : ClassId) (cc : Int32) (z : Int32) (vs : List Value) (h0 : Heap) (n0 : Nat) (vv : Option Value) (h : Heap) (L : List Loc) : Prop := vv = some (.int cc) ∧ Fr n0 L ∧ h = h0
set_option maxRecDepth 65536 in
set_option maxHeartbeats 40000000 in
theorem rm_get_4 (l : Launch) (Z : State) (a0 : Array Value) (hw : HW a0 Z) (ws : List Jvm.Cond) (b1 : Addr) (kb : ClassId) (cc : Int32) (z : Int32) (vs : List Value) (h0 : Heap) (n0 : Nat) (Z0 : n0 ≤ h0.size) (pr0 : Old Z n0 h0) (pr1 : Sta Z Z.heap "java/lang/StringUTF16" "$assertionsDisabled" "Z" (.int 1)) (pr2 : Sta Z Z.heap "java/lang/StringUTF16" "HI_BYTE_SHIFT" "I" (.int 0)) (pr3 : Sta Z Z.heap "java/lang/StringUTF16" "LO_BYTE_SHIFT" "I" (.int 8)) (pr4 : Arv Z h0 b1 kb .byte z vs (.int 0)) (hz0 : (8 : Int32) < z) (hz1 : (9 : Int32) < z) (he0 : vs.getD 8 (.int 0) = .int (own_b0 cc)) (he1 : vs.getD 9 (.int 0) = .int (own_b1 cc)) (hr : own_rng cc) :
    Met l Z Y18 jdk_52_method_5_code 2 (some .char) ws ({ frames := 0, cells := 0, slots := 0, locals := 0 } : Room) #[(.ref b1), (.int 4)] h0 (Q_rm_get_4 Z b1 kb cc z vs h0 n0) := by
  refine Met.enter (f0 := fun m => mkF m 0 #[vr b1, vi 4] []) (plainFor_of_name pn_java_lang_StringUTF16) (fun m => ef_rm_get_4 m b1) ?_
  intro p e s m below meth c s₁ hx hby hml hown hnm hret hlk hZ X0 e0
  have hown : s.vm.findClass "java/lang/StringUTF16" = some m.cls := hown
  have hnm : meth.name = "getChar" := hnm
  have hml : c.maxLocals = 2 := hml
  have dk : ∀ {i : Nat} {r : Except DecodeError (Instr × Nat)}, decode jdk_52_method_5_code i = r → decode c.code i = r := fun h => hb hby h
  have N0 := Fr.nil n0
  obtain ⟨T79, X79, e79, st79⟩ := getS2 X0 hx hZ hown (host := "") (Or.inl (wd hw 97 rfl)) Via.refl e0 (pr1.ext pr0.2) (g := (mkF m 0 #[vr b1, vi 4] [])) rfl (dk d23_0)
  refine gy (St T79 m 3 #[vr b1, vi 4] [(.int 1)]) st79 ?_
  refine gy (St T79 m 37 #[vr b1, vi 9] [(.int 8), (.ref b1)]) (fun _ k => XS.ifYes X79.here hx rfl (pc0 := 3) (pc' := 28) rfl (dk d23_3) rfl ((if0 _ _).trans (feq (by decide : ¬ ((1 : Int32) = (0 : Int32)))).2) (by decide) (by decide) (XS.iloadN X79.here hx rfl (dk d23_28) rfl (XS.iconst X79.here hx rfl (dk d23_29) (XS.ishl X79.here hx rfl (dk d23_30) rfl (XS.istoreN X79.here hx rfl (dk d23_31) rfl (l' := #[vr b1, vi 8]) rfl (XS.aloadN X79.here hx rfl (dk d23_32) rfl rfl (XS.iloadN X79.here hx rfl (dk d23_33) rfl (XS.iinc X79.here hx rfl (dk d23_34) rfl (l' := #[vr b1, vi 9]) rfl k)))))))) ?_
  obtain ⟨cl80, Ar80, q80, S80, N_80, Hs80, G80⟩ := id pr4
  have hin81 : ¬ ((8 : Int32) < 0 ∨ cl80.slots.size ≤ ((8 : Int32)).toNatClampNeg) := inb_of S80 ⟨by decide, hz0⟩
  have hat81 : cl80.slots[((8 : Int32)).toNatClampNeg]? = some (.int (own_b0 cc)) := Hs80.at hin81 he0
  refine gy (St T79 m 38 #[vr b1, vi 9] [(.int (own_b0 cc))]) (fun _ k => X79.baloadBytes hx (j := (8 : Int32)) (v := (.int (own_b0 cc))) (by rw [e79]; exact Ar80.1) (State.isArrayOf_alike hZ.alike Ar80.2.1) Ar80.2.2 hin81 hat81 (g := (mkF m 37 #[vr b1, vi 9] [(.int 8), (.ref b1)])) rfl rfl (dk d23_37) _ k) ?_
  refine gy (St T79 m 42 #[vr b1, vi 9] [(.int ((own_b0 cc) &&& (255 : Int32)))]) (fun _ k => XS.sipush X79.here hx rfl (dk d23_38) (XS.iand X79.here hx rfl (dk d23_41) rfl k)) ?_
  obtain ⟨T82, X82, e82, st82⟩ := getS2 X79 hx hZ hown (host := "") (Or.inl (wd hw 98 rfl)) Via.refl e79 (pr2.ext pr0.2) (g := (mkF m 42 #[vr b1, vi 9] [(.int ((own_b0 cc) &&& (255 : Int32)))])) rfl (dk d23_42)
  refine gy (St T82 m 45 #[vr b1, vi 9] [(.int 0), (.int ((own_b0 cc) &&& (255 : Int32)))]) st82 ?_
  refine gy (St T82 m 48 #[vr b1, vi 9] [(.int 9), (.ref b1), (.int (((own_b0 cc) &&& (255 : Int32)) <<< ((0 : Int32) &&& 31)))]) (fun _ k => XS.ishl X82.here hx rfl (dk d23_45) rfl (XS.aloadN X82.here hx rfl (dk d23_46) rfl rfl (XS.iloadN X82.here hx rfl (dk d23_47) rfl k))) ?_
  obtain ⟨cl83, Ar83, q83, S83, N_83, Hs83, G83⟩ := id pr4
  have hin84 : ¬ ((9 : Int32) < 0 ∨ cl83.slots.size ≤ ((9 : Int32)).toNatClampNeg) := inb_of S83 ⟨by decide, hz1⟩
  have hat84 : cl83.slots[((9 : Int32)).toNatClampNeg]? = some (.int (own_b1 cc)) := Hs83.at hin84 he1
  refine gy (St T82 m 49 #[vr b1, vi 9] [(.int (own_b1 cc)), (.int (((own_b0 cc) &&& (255 : Int32)) <<< ((0 : Int32) &&& 31)))]) (fun _ k => X82.baloadBytes hx (j := (9 : Int32)) (v := (.int (own_b1 cc))) (by rw [e82]; exact Ar83.1) (State.isArrayOf_alike hZ.alike Ar83.2.1) Ar83.2.2 hin84 hat84 (g := (mkF m 48 #[vr b1, vi 9] [(.int 9), (.ref b1), (.int (((own_b0 cc) &&& (255 : Int32)) <<< ((0 : Int32) &&& 31)))])) rfl rfl (dk d23_48) _ k) ?_
  refine gy (St T82 m 53 #[vr b1, vi 9] [(.int ((own_b1 cc) &&& (255 : Int32))), (.int (((own_b0 cc) &&& (255 : Int32)) <<< ((0 : Int32) &&& 31)))]) (fun _ k => XS.sipush X82.here hx rfl (dk d23_49) (XS.iand X82.here hx rfl (dk d23_52) rfl k)) ?_
  obtain ⟨T85, X85, e85, st85⟩ := getS2 X82 hx hZ hown (host := "") (Or.inl (wd hw 99 rfl)) Via.refl e82 (pr3.ext pr0.2) (g := (mkF m 53 #[vr b1, vi 9] [(.int ((own_b1 cc) &&& (255 : Int32))), (.int (((own_b0 cc) &&& (255 : Int32)) <<< ((0 : Int32) &&& 31)))])) rfl (dk d23_53)
  refine gy (St T85 m 56 #[vr b1, vi 9] [(.int 8), (.int ((own_b1 cc) &&& (255 : Int32))), (.int (((own_b0 cc) &&& (255 : Int32)) <<< ((0 : Int32) &&& 31)))]) st85 ?_
  refine gy (St T85 m 59 #[vr b1, vi 9] [(.int (((((own_b0 cc) &&& (255 : Int32)) <<< ((0 : Int32) &&& 31)) ||| (((own_b1 cc) &&& (255 : Int32)) <<< ((8 : Int32) &&& 31))).toUInt32.toUInt16.toUInt32.toInt32))]) (fun _ k => XS.ishl X85.here hx rfl (dk d23_56) rfl (XS.ior X85.here hx rfl (dk d23_57) rfl (XS.i2c X85.here hx rfl (dk d23_58) rfl k))) ?_
  refine Go.retZ X85 hx hlk (t := .char) hret (by simp) (dk d23_59) (by decide) (by decide) ?_
  rw [e85]
  exact ⟨(congrArg (fun q => some (Value.int q)) (own_gc hr)), N0, rfl⟩
theorem ef_rm_nbl_1 (m : MethodId)  : entryFrame m #[(.int 1)] 1 = mkF m 0 #[vi 1] [] := by first | (simp [entryFrame, mkF, argsToLocals, Value.category]; done) | rfl
theorem d21_0 : decode jdk_52_method_3_code 0 = .ok (.iload_n 0, 1) := by decide +kernel
theorem d21_1 : decode jdk_52_method_3_code 1 = .ok (.ifCond .ge 11, 3) := by decide +kernel
theorem d21_12 : decode jdk_52_method_3_code 12 = .ok (.iload_n 0, 1) := by decide +kernel
theorem d21_13 : decode jdk_52_method_3_code 13 = .ok (.ldc 20, 2) := by decide +kernel
theorem d21_15 : decode jdk_52_method_3_code 15 = .ok (.if_icmp .lt 40, 3) := by decide +kernel
theorem d21_55 : decode jdk_52_method_3_code 55 = .ok (.iload_n 0, 1) := by decide +kernel
theorem d21_56 : decode jdk_52_method_3_code 56 = .ok (.iconst 1, 1) := by decide +kernel
theorem d21_57 : decode jdk_52_method_3_code 57 = .ok (.ishl, 1) := by decide +kernel
theorem d21_58 : decode jdk_52_method_3_code 58 = .ok (.ireturn, 1) := by decide +kernel
def Q_rm_nbl_1 (Z : State)  (h0 : Heap) (n0 : Nat) (vv : Option Value) (h : Heap) (L : List Loc) : Prop := vv = some (.int 2) ∧ Fr n0 L ∧ h = h0
set_option maxRecDepth 65536 in
set_option maxHeartbeats 40000000 in
theorem rm_nbl_1 (l : Launch) (Z : State) (a0 : Array Value) (hw : HW a0 Z) (ws : List Jvm.Cond)  (h0 : Heap) (n0 : Nat) (Z0 : n0 ≤ h0.size) :
    Met l Z Y21 jdk_52_method_3_code 1 (some .int) ws ({ frames := 0, cells := 0, slots := 0, locals := 0 } : Room) #[(.int 1)] h0 (Q_rm_nbl_1 Z  h0 n0) := by
  refine Met.enter (f0 := fun m => mkF m 0 #[vi 1] []) (plainFor_of_name pn_java_lang_StringUTF16) (fun m => ef_rm_nbl_1 m ) ?_
  intro p e s m below meth c s₁ hx hby hml hown hnm hret hlk hZ X0 e0
  have hown : s.vm.findClass "java/lang/StringUTF16" = some m.cls := hown
  have hnm : meth.name = "newBytesLength" := hnm
  have hml : c.maxLocals = 1 := hml
  have dk : ∀ {i : Nat} {r : Except DecodeError (Instr × Nat)}, decode jdk_52_method_3_code i = r → decode c.code i = r := fun h => hb hby h
  have N0 := Fr.nil n0
  refine gy (St s₁ m 58 #[vi 1] [(.int 2)]) (fun _ k => XS.iloadN X0.here hx rfl (dk d21_0) rfl (XS.ifYes X0.here hx rfl (pc0 := 1) (pc' := 12) rfl (dk d21_1) rfl ((if0 _ _).trans (flt (by decide : ¬ ((1 : Int32) < (0 : Int32)))).2.1) (by decide) (by decide) (XS.iloadN X0.here hx rfl (dk d21_12) rfl (X0.ldcInt hx hown (mvT hZ (wd hw 93 rfl)) (g := (mkF m 13 #[vi 1] [(.int 1)])) rfl (dk d21_13) _ (XS.icmpYes X0.here hx rfl (pc0 := 15) (pc' := 55) rfl (dk d21_15) rfl (tlt (by decide : (1 : Int32) < (1073741823 : Int32))).1 (by decide) (by decide) (XS.iloadN X0.here hx rfl (dk d21_55) rfl (XS.iconst X0.here hx rfl (dk d21_56) (XS.ishl X0.here hx rfl (dk d21_57) rfl k)))))))) ?_
  refine Go.ret X0 hx hlk (t := .int) hret rfl (Or.inl ⟨rfl, by simp, _, rfl⟩) (dk d21_58) (by decide) (by decide) ?_
  rw [e0]
  exact ⟨rfl, N0, rfl⟩
theorem ef_rm_nbf_1 (m : MethodId)  : entryFrame m #[(.int 1)] 1 = mkF m 0 #[vi 1] [] := by first | (simp [entryFrame, mkF, argsToLocals, Value.category]; done) | rfl
theorem d20_0 : decode jdk_52_method_2_code 0 = .ok (.iload_n 0, 1) := by decide +kernel
theorem d20_1 : decode jdk_52_method_2_code 1 = .ok (.invokestatic 11, 3) := by decide +kernel
theorem pd_0 : parseMethodDescriptor "(I)I" = some ⟨[.int], some .int⟩ := by decide +kernel
theorem d20_4 : decode jdk_52_method_2_code 4 = .ok (.newarray .byte, 2) := by decide +kernel
theorem d20_6 : decode jdk_52_method_2_code 6 = .ok (.areturn, 1) := by decide +kernel
def Q_rm_nbf_1 (Z : State)  (h0 : Heap) (n0 : Nat) (vv : Option Value) (h : Heap) (L : List Loc) : Prop := ∃ b : Addr, ∃ k : ClassId, vv = some (.ref b) ∧ Fr n0 L ∧ Keep h0 h [] ∧ Arv Z h b k .byte (2 : Int32) [(.int 0), (.int 0)] (.int 0) ∧ h0.size ≤ b
set_option maxRecDepth 65536 in
set_option maxHeartbeats 40000000 in
theorem rm_nbf_1 (l : Launch) (Z : State) (a0 : Array Value) (hw : HW a0 Z) (ws : List Jvm.Cond)  (h0 : Heap) (n0 : Nat) (Z0 : n0 ≤ h0.size) (pr0 : Old Z n0 h0) :
    Met l Z Y20 jdk_52_method_2_code 1 (some (.array .byte)) ws ({ frames := 1, cells := 1, slots := 2, locals := 12 } : Room) #[(.int 1)] h0 (Q_rm_nbf_1 Z  h0 n0) := by
  refine Met.enter (f0 := fun m => mkF m 0 #[vi 1] []) (plainFor_of_name pn_java_lang_StringUTF16) (fun m => ef_rm_nbf_1 m ) ?_
  intro p e s m below meth c s₁ hx hby hml hown hnm hret hlk hZ X0 e0
  have hown : s.vm.findClass "java/lang/StringUTF16" = some m.cls := hown
  have hnm : meth.name = "newBytesFor" := hnm
  have hml : c.maxLocals = 1 := hml
  have dk : ∀ {i : Nat} {r : Except DecodeError (Instr × Nat)}, decode jdk_52_method_2_code i = r → decode c.code i = r := fun h => hb hby h
  have N0 := Fr.nil n0
  refine gy (St s₁ m 1 #[vi 1] [(.int 1)]) (fun _ k => XS.iloadN X0.here hx rfl (dk d20_0) rfl k) ?_
  obtain ⟨_, _, ⟨T86, L86, k86, n86⟩, -, X86, ⟨Lc86, hQ86, l86, y86, z86⟩, st86⟩ := Jvm.LawKit.callS X0 hx (y := Y21) hown (mvT hZ (wd hw 90 rfl)) (mvT hZ (wd hw 91 rfl)) (mvT hZ (wd hw 48 rfl)) (mvT hZ (wd hw 92 rfl)) (by decide) (backOf (W := 0) (rm_nbl_1 l Z a0 hw []  h0 n0 Z0 ) hZ (wd hw 92 rfl) (wd hw 48 rfl) (by decide) (by decide)) (g := (mkF m 1 #[vi 1] [(.int 1)])) rfl (by rw [hml]; rfl) (argsL := [(.int 1)]) (rest := []) (lenOf pd_0 rfl) rfl (by show 2 * 0 + _ ≤ _; exact Nat.le_of_eq rfl) (dk d20_1) (fun _ _ => ⟨rfl, e0, Nat.le_of_ble_eq_true rfl, Nat.le_of_ble_eq_true rfl⟩)
  dsimp only [Pt.U, Pt.locs, Pt.cells, Pt.slots] at X86 l86 y86 z86 st86 hQ86
  subst l86 y86 z86
  obtain ⟨rfl, Nq86, hh86⟩ := hQ86
  have N86 := Fr.app N0 Nq86
  refine gy (St T86 m 4 #[vi 1] [(.int 2)]) (fun _ k => st86 _ k) ?_
  obtain ⟨T87, h87, k87, X87, e87, E87, A87, st87⟩ := newP X86 hx hZ (wd hw 24 rfl) hh86 (g := (mkF m 4 #[vi 1] [(.int 2)])) rfl (dk d20_4) rfl (by decide) (cap := 2) (by decide) (by decide) (by decide) (by decide)
  obtain ⟨b87, g87⟩ : ∃ z, z = h0.size := ⟨_, rfl⟩
  rw [← g87] at A87 st87
  have sz_b87 : h0.size ≤ b87 := Nat.le_of_eq g87.symm
  have V87 : Arv Z h87 b87 k87 .byte (2 : Int32) [(.int 0), (.int 0)] (.int 0) := (Arv.new A87 (by decide)).pad (pad_rep [] (.int 0) 2)
  have O88 := pr0.ext E87
  have Z88 : n0 ≤ h87.size := Nat.le_trans Z0 E87.1
  refine gy (St T87 m 6 #[vi 1] [(.ref b87)]) st87 ?_
  refine Go.ret X87 hx hlk (t := (.array .byte)) hret rfl (Or.inr (Or.inr (Or.inr (Or.inr ⟨rfl, rfl, rfl⟩)))) (dk d20_6) (by decide) (by decide) ?_
  rw [e87]
  exact ⟨b87, k87, rfl, N86, ((Keep.refl h0 []).ext E87), V87, (Nat.le_trans (Nat.le_refl _) sz_b87)⟩
theorem ef_rm_tb_1 (m : MethodId) (x0 : Addr) : entryFrame m #[(.ref x0), (.int 0), (.int 1)] 5 = mkF m 0 #[vr x0, vi 0, vi 1, .unset, .unset] [] := by first | (simp [entryFrame, mkF, argsToLocals, Value.category]; done) | rfl
theorem d19_0 : decode jdk_52_method_14_code 0 = .ok (.iload_n 2, 1) := by decide +kernel
theorem d19_1 : decode jdk_52_method_14_code 1 = .ok (.invokestatic 107, 3) := by decide +kernel
theorem pd_1 : parseMethodDescriptor "(I)[B" = some ⟨[.int], some (.array .byte)⟩ := by decide +kernel
theorem d19_4 : decode jdk_52_method_14_code 4 = .ok (.astore_n 3, 1) := by decide +kernel
theorem d19_5 : decode jdk_52_method_14_code 5 = .ok (.iconst 0, 1) := by decide +kernel
theorem d19_6 : decode jdk_52_method_14_code 6 = .ok (.istore 4, 2) := by decide +kernel
theorem d19_8 : decode jdk_52_method_14_code 8 = .ok (.iload 4, 2) := by decide +kernel
theorem d19_10 : decode jdk_52_method_14_code 10 = .ok (.iload_n 2, 1) := by decide +kernel
theorem d19_11 : decode jdk_52_method_14_code 11 = .ok (.if_icmp .ge 21, 3) := by decide +kernel
theorem d19_14 : decode jdk_52_method_14_code 14 = .ok (.aload_n 3, 1) := by decide +kernel
theorem d19_15 : decode jdk_52_method_14_code 15 = .ok (.iload 4, 2) := by decide +kernel
theorem d19_17 : decode jdk_52_method_14_code 17 = .ok (.aload_n 0, 1) := by decide +kernel
theorem d19_18 : decode jdk_52_method_14_code 18 = .ok (.iload_n 1, 1) := by decide +kernel
theorem d19_19 : decode jdk_52_method_14_code 19 = .ok (.caload, 1) := by decide +kernel
theorem d19_20 : decode jdk_52_method_14_code 20 = .ok (.invokestatic 111, 3) := by decide +kernel
theorem pd_2 : parseMethodDescriptor "([BII)V" = some ⟨[(.array .byte), .int, .int], none⟩ := by decide +kernel
theorem d19_23 : decode jdk_52_method_14_code 23 = .ok (.iinc 1 1, 3) := by decide +kernel
theorem d19_26 : decode jdk_52_method_14_code 26 = .ok (.iinc 4 1, 3) := by decide +kernel
theorem d19_29 : decode jdk_52_method_14_code 29 = .ok (.goto (-21), 3) := by decide +kernel
theorem d19_32 : decode jdk_52_method_14_code 32 = .ok (.aload_n 3, 1) := by decide +kernel
theorem d19_33 : decode jdk_52_method_14_code 33 = .ok (.areturn, 1) := by decide +kernel
def Q_rm_tb_1 (Z : State) (a1 : Addr) (ka : ClassId) (c0 : Int32) (h0 : Heap) (n0 : Nat) (vv : Option Value) (h : Heap) (L : List Loc) : Prop := ∃ b : Addr, ∃ k : ClassId, vv = some (.ref b) ∧ Fr n0 L ∧ Keep h0 h [] ∧ Arv Z h b k .byte (2 : Int32) [(.int (own_b0 c0)), (.int (own_b1 c0))] (.int 0) ∧ h0.size ≤ b
set_option maxRecDepth 65536 in
set_option maxHeartbeats 40000000 in
theorem rm_tb_1 (l : Launch) (Z : State) (a0 : Array Value) (hw : HW a0 Z) (ws : List Jvm.Cond) (a1 : Addr) (ka : ClassId) (c0 : Int32) (h0 : Heap) (n0 : Nat) (Z0 : n0 ≤ h0.size) (pr0 : Old Z n0 h0) (pr1 : Sta Z Z.heap "java/lang/StringUTF16" "$assertionsDisabled" "Z" (.int 1)) (pr2 : Sta Z Z.heap "java/lang/StringUTF16" "HI_BYTE_SHIFT" "I" (.int 0)) (pr3 : Sta Z Z.heap "java/lang/StringUTF16" "LO_BYTE_SHIFT" "I" (.int 8)) (pr4 : Arv Z h0 a1 ka .char (1 : Int32) [(.int c0)] (.int 0)) :
    Met l Z Y23 jdk_52_method_14_code 5 (some (.array .byte)) ws ({ frames := 2, cells := 1, slots := 2, locals := 24 } : Room) #[(.ref a1), (.int 0), (.int 1)] h0 (Q_rm_tb_1 Z a1 ka c0 h0 n0) := by
  refine Met.enter (f0 := fun m => mkF m 0 #[vr a1, vi 0, vi 1, .unset, .unset] []) (plainFor_of_name pn_java_lang_StringUTF16) (fun m => ef_rm_tb_1 m a1) ?_
  intro p e s m below meth c s₁ hx hby hml hown hnm hret hlk hZ X0 e0
  have hown : s.vm.findClass "java/lang/StringUTF16" = some m.cls := hown
  have hnm : meth.name = "toBytes" := hnm
  have hml : c.maxLocals = 5 := hml
  have dk : ∀ {i : Nat} {r : Except DecodeError (Instr × Nat)}, decode jdk_52_method_14_code i = r → decode c.code i = r := fun h => hb hby h
  have N0 := Fr.nil n0
  refine gy (St s₁ m 1 #[vr a1, vi 0, vi 1, .unset, .unset] [(.int 1)]) (fun _ k => XS.iloadN X0.here hx rfl (dk d19_0) rfl k) ?_
  obtain ⟨_, _, ⟨T89, L89, k89, n89⟩, -, X89, ⟨Lc89, hQ89, l89, y89, z89⟩, st89⟩ := Jvm.LawKit.callS X0 hx (y := Y20) hown (mvT hZ (wd hw 87 rfl)) (mvT hZ (wd hw 88 rfl)) (mvT hZ (wd hw 48 rfl)) (mvT hZ (wd hw 89 rfl)) (by decide) (backOf (W := 0) (rm_nbf_1 l Z a0 hw []  h0 n0 Z0 pr0) hZ (wd hw 89 rfl) (wd hw 48 rfl) (by decide) (by decide)) (g := (mkF m 1 #[vr a1, vi 0, vi 1, .unset, .unset] [(.int 1)])) rfl (by rw [hml]; rfl) (argsL := [(.int 1)]) (rest := []) (lenOf pd_1 rfl) rfl (by show 2 * 0 + _ ≤ _; exact Nat.le_of_eq rfl) (dk d19_1) (fun _ _ => ⟨rfl, e0, Nat.le_of_ble_eq_true rfl, Nat.le_of_ble_eq_true rfl⟩)
  dsimp only [Pt.U, Pt.locs, Pt.cells, Pt.slots] at X89 l89 y89 z89 st89 hQ89
  subst l89 y89 z89
  obtain ⟨b89, k89, rfl, Nq89, K89, p89_0, p89_1⟩ := hQ89
  have N89 := Fr.app N0 Nq89
  have O90 := pr0.keep K89 all0
  have Z90 : n0 ≤ T89.heap.size := Nat.le_trans Z0 K89.1
  have sz_b89 : h0.size ≤ b89 := p89_1
  refine gy (St T89 m 4 #[vr a1, vi 0, vi 1, .unset, .unset] [(.ref b89)]) (fun _ k => st89 _ k) ?_
  refine gy (St T89 m 17 #[vr a1, vi 0, vi 1, vr b89, vi 0] [(.int 0), (.ref b89)]) (fun _ k => XS.astoreN X89.here hx rfl (dk d19_4) rfl rfl (l' := #[vr a1, vi 0, vi 1, vr b89, .unset]) rfl (XS.iconst X89.here hx rfl (dk d19_5) (XS.istore X89.here hx rfl (dk d19_6) rfl (l' := #[vr a1, vi 0, vi 1, vr b89, vi 0]) rfl (XS.iload X89.here hx rfl (dk d19_8) rfl (XS.iloadN X89.here hx rfl (dk d19_10) rfl (XS.icmpNo X89.here hx rfl (dk d19_11) rfl (tlt (by decide : (0 : Int32) < (1 : Int32))).2.1 (XS.aloadN X89.here hx rfl (dk d19_14) rfl rfl (XS.iload X89.here hx rfl (dk d19_15) rfl k)))))))) ?_
  refine gy (St T89 m 19 #[vr a1, vi 0, vi 1, vr b89, vi 0] [(.int 0), (.ref a1), (.int 0), (.ref b89)]) (fun _ k => XS.aloadN X89.here hx rfl (dk d19_17) rfl rfl (XS.iloadN X89.here hx rfl (dk d19_18) rfl k)) ?_
  obtain ⟨cl91, Ar91, q91, S91, N_91, Hs91, G91⟩ := id (pr4.keep K89 nin0)
  have hin92 : ¬ ((0 : Int32) < 0 ∨ cl91.slots.size ≤ ((0 : Int32)).toNatClampNeg) := inb_of S91 ⟨by decide, by decide⟩
  have hat92 : cl91.slots[((0 : Int32)).toNatClampNeg]? = some (.int c0) := Hs91.at hin92 rfl
  refine gy (St T89 m 20 #[vr a1, vi 0, vi 1, vr b89, vi 0] [(.int c0), (.int 0), (.ref b89)]) (fun _ k => X89.caload hx (j := (0 : Int32)) (v := (.int c0)) Ar91.1 (State.isArrayOf_alike hZ.alike Ar91.2.1) Ar91.2.2 hin92 hat92 (g := (mkF m 19 #[vr a1, vi 0, vi 1, vr b89, vi 0] [(.int 0), (.ref a1), (.int 0), (.ref b89)])) rfl rfl (dk d19_19) _ k) ?_
  obtain ⟨_, _, ⟨T93, L93, k93, n93⟩, -, X93, ⟨Lc93, hQ93, l93, y93, z93⟩, st93⟩ := Jvm.LawKit.callS X89 hx (y := Y22) hown (mvT hZ (wd hw 94 rfl)) (mvT hZ (wd hw 95 rfl)) (mvT hZ (wd hw 48 rfl)) (mvT hZ (wd hw 96 rfl)) (by decide) (backOf (W := 0) (rm_put_0 l Z a0 hw [] b89 k89 c0 (2 : Int32) [(.int 0), (.int 0)] T89.heap n0 Z90 O90 pr1 pr2 pr3 p89_0 (Nat.le_trans Z0 sz_b89) (by decide) (by decide) (Nat.le_of_ble_eq_true rfl) (Nat.le_of_ble_eq_true rfl)) hZ (wd hw 96 rfl) (wd hw 48 rfl) (by decide) (by decide)) (g := (mkF m 20 #[vr a1, vi 0, vi 1, vr b89, vi 0] [(.int c0), (.int 0), (.ref b89)])) rfl (by rw [hml]; rfl) (argsL := [(.ref b89), (.int 0), (.int c0)]) (rest := []) (lenOf pd_2 rfl) rfl (by show 2 * 0 + _ ≤ _; exact Nat.le_of_eq rfl) (dk d19_20) (fun _ _ => ⟨rfl, rfl, Nat.le_of_ble_eq_true rfl, Nat.le_of_ble_eq_true rfl⟩)
  dsimp only [Pt.U, Pt.locs, Pt.cells, Pt.slots] at X93 l93 y93 z93 st93 hQ93
  subst l93 y93 z93
  obtain ⟨rfl, Nq93, K93, p93_0⟩ := hQ93
  have N93 := Fr.app N89 Nq93
  have O94 := O90.keep K93 (allS (Nat.le_trans Z0 sz_b89) all0)
  have Z94 : n0 ≤ T93.heap.size := Nat.le_trans Z90 K93.1
  have p93_0 : Arv Z T93.heap b89 k89 .byte (2 : Int32) [(.int (own_b0 c0)), (.int (own_b1 c0))] (.int 0) := p93_0
  refine gy (St T93 m 23 #[vr a1, vi 0, vi 1, vr b89, vi 0] []) (fun _ k => st93 _ k) ?_
  refine gy (St T93 m 33 #[vr a1, vi 1, vi 1, vr b89, vi 1] [(.ref b89)]) (fun _ k => XS.iinc X93.here hx rfl (dk d19_23) rfl (l' := #[vr a1, vi 1, vi 1, vr b89, vi 0]) rfl (XS.iinc X93.here hx rfl (dk d19_26) rfl (l' := #[vr a1, vi 1, vi 1, vr b89, vi 1]) rfl (XS.goto X93.here hx rfl (pc0 := 29) (pc' := 8) rfl (dk d19_29) (by decide) (by decide) (XS.iload X93.here hx rfl (dk d19_8) rfl (XS.iloadN X93.here hx rfl (dk d19_10) rfl (XS.icmpYes X93.here hx rfl (pc0 := 11) (pc' := 32) rfl (dk d19_11) rfl (flt (by decide : ¬ ((1 : Int32) < (1 : Int32)))).2.1 (by decide) (by decide) (XS.aloadN X93.here hx rfl (dk d19_32) rfl rfl k))))))) ?_
  refine Go.ret X93 hx hlk (t := (.array .byte)) hret rfl (Or.inr (Or.inr (Or.inr (Or.inr ⟨rfl, rfl, rfl⟩)))) (dk d19_33) (by decide) (by decide) ?_
  exact ⟨b89, k89, rfl, N93, (((Keep.refl h0 []).trans K89 all0).trans K93 (allS (Or.inr (Nat.le_trans (Nat.le_refl _) sz_b89)) all0)), p93_0, (Nat.le_trans (Nat.le_refl _) sz_b89)⟩
theorem ef_rm_cfal_1_0 (m : MethodId) (x0 : Addr) : entryFrame m #[(.ref x0), (.int 1)] 2 = mkF m 0 #[vr x0, vi 1] [] := by first | (simp [entryFrame, mkF, argsToLocals, Value.category]; done) | rfl
theorem d11_0 : decode jdk_52_method_15_code 0 = .ok (.iload_n 1, 1) := by decide +kernel
theorem d11_1 : decode jdk_52_method_15_code 1 = .ok (.aload_n 0, 1) := by decide +kernel
theorem d11_2 : decode jdk_52_method_15_code 2 = .ok (.arraylength, 1) := by decide +kernel
theorem d11_3 : decode jdk_52_method_15_code 3 = .ok (.isub, 1) := by decide +kernel
theorem d11_4 : decode jdk_52_method_15_code 4 = .ok (.bipush 31, 2) := by decide +kernel
theorem d11_6 : decode jdk_52_method_15_code 6 = .ok (.iushr, 1) := by decide +kernel
theorem d11_7 : decode jdk_52_method_15_code 7 = .ok (.i2b, 1) := by decide +kernel
theorem d11_8 : decode jdk_52_method_15_code 8 = .ok (.ireturn, 1) := by decide +kernel
def Q_rm_cfal_1_0 (Z : State) (b1 : Addr) (kb : ClassId) (c0 : Int32) (h0 : Heap) (n0 : Nat) (vv : Option Value) (h : Heap) (L : List Loc) : Prop := vv = some (.int 0) ∧ Fr n0 L ∧ h = h0
set_option maxRecDepth 65536 in
set_option maxHeartbeats 40000000 in
theorem rm_cfal_1_0 (l : Launch) (Z : State) (a0 : Array Value) (hw : HW a0 Z) (ws : List Jvm.Cond) (b1 : Addr) (kb : ClassId) (c0 : Int32) (h0 : Heap) (n0 : Nat) (Z0 : n0 ≤ h0.size) (pr0 : Arv Z h0 b1 kb .byte (1 : Int32) [(.int (nar .byte (c0.toInt8.toInt32)))] (.int 0)) :
    Met l Z Y15 jdk_52_method_15_code 2 (some .byte) ws ({ frames := 0, cells := 0, slots := 0, locals := 0 } : Room) #[(.ref b1), (.int 1)] h0 (Q_rm_cfal_1_0 Z b1 kb c0 h0 n0) := by
  refine Met.enter (f0 := fun m => mkF m 0 #[vr b1, vi 1] []) (plainFor_of_name pn_java_lang_StringUTF16) (fun m => ef_rm_cfal_1_0 m b1) ?_
  intro p e s m below meth c s₁ hx hby hml hown hnm hret hlk hZ X0 e0
  have hown : s.vm.findClass "java/lang/StringUTF16" = some m.cls := hown
  have hnm : meth.name = "coderFromArrayLen" := hnm
  have hml : c.maxLocals = 2 := hml
  have dk : ∀ {i : Nat} {r : Except DecodeError (Instr × Nat)}, decode jdk_52_method_15_code i = r → decode c.code i = r := fun h => hb hby h
  have N0 := Fr.nil n0
  refine gy (St s₁ m 2 #[vr b1, vi 1] [(.ref b1), (.int 1)]) (fun _ k => XS.iloadN X0.here hx rfl (dk d11_0) rfl (XS.aloadN X0.here hx rfl (dk d11_1) rfl rfl k)) ?_
  obtain ⟨cl95, Ar95, q95, S95, N_95, Hs95, G95⟩ := id pr0
  refine gy (St s₁ m 3 #[vr b1, vi 1] [(.int 1), (.int 1)]) (fun _ k => X0.arraylength hx (by rw [e0]; exact Ar95.1) (State.isArrayOf_alike hZ.alike Ar95.2.1) (g := (mkF m 2 #[vr b1, vi 1] [(.ref b1), (.int 1)])) rfl rfl (dk d11_2) _ (by rw [len_of S95 N_95]; exact k)) ?_
  refine gy (St s₁ m 8 #[vr b1, vi 1] [(.int 0)]) (fun _ k => XS.isub X0.here hx rfl (dk d11_3) rfl (XS.bipush X0.here hx rfl (dk d11_4) (XS.iushr X0.here hx rfl (dk d11_6) rfl (XS.i2b X0.here hx rfl (dk d11_7) rfl k)))) ?_
  refine Go.ret X0 hx hlk (t := .byte) hret rfl (Or.inl ⟨rfl, by simp, _, rfl⟩) (dk d11_8) (by decide) (by decide) ?_
  rw [e0]
  exact ⟨rfl, N0, rfl⟩
theorem ef_rm_cfal_1_1 (m : MethodId) (x0 : Addr) : entryFrame m #[(.ref x0), (.int 1)] 2 = mkF m 0 #[vr x0, vi 1] [] := by first | (simp [entryFrame, mkF, argsToLocals, Value.category]; done) | rfl
def Q_rm_cfal_1_1 (Z : State) (b1 : Addr) (kb : ClassId) (c0 : Int32) (h0 : Heap) (n0 : Nat) (vv : Option Value) (h : Heap) (L : List Loc) : Prop := vv = some (.int 1) ∧ Fr n0 L ∧ h = h0
set_option maxRecDepth 65536 in
set_option maxHeartbeats 40000000 in
theorem rm_cfal_1_1 (l : Launch) (Z : State) (a0 : Array Value) (hw : HW a0 Z) (ws : List Jvm.Cond) (b1 : Addr) (kb : ClassId) (c0 : Int32) (h0 : Heap) (n0 : Nat) (Z0 : n0 ≤ h0.size) (pr0 : Arv Z h0 b1 kb .byte (2 : Int32) [(.int (own_b0 c0)), (.int (own_b1 c0))] (.int 0)) :
    Met l Z Y15 jdk_52_method_15_code 2 (some .byte) ws ({ frames := 0, cells := 0, slots := 0, locals := 0 } : Room) #[(.ref b1), (.int 1)] h0 (Q_rm_cfal_1_1 Z b1 kb c0 h0 n0) := by
  refine Met.enter (f0 := fun m => mkF m 0 #[vr b1, vi 1] []) (plainFor_of_name pn_java_lang_StringUTF16) (fun m => ef_rm_cfal_1_1 m b1) ?_
  intro p e s m below meth c s₁ hx hby hml hown hnm hret hlk hZ X0 e0
  have hown : s.vm.findClass "java/lang/StringUTF16" = some m.cls := hown
  have hnm : meth.name = "coderFromArrayLen" := hnm
  have hml : c.maxLocals = 2 := hml
  have dk : ∀ {i : Nat} {r : Except DecodeError (Instr × Nat)}, decode jdk_52_method_15_code i = r → decode c.code i = r := fun h => hb hby h
  have N0 := Fr.nil n0
  refine gy (St s₁ m 2 #[vr b1, vi 1] [(.ref b1), (.int 1)]) (fun _ k => XS.iloadN X0.here hx rfl (dk d11_0) rfl (XS.aloadN X0.here hx rfl (dk d11_1) rfl rfl k)) ?_
  obtain ⟨cl96, Ar96, q96, S96, N_96, Hs96, G96⟩ := id pr0
  refine gy (St s₁ m 3 #[vr b1, vi 1] [(.int 2), (.int 1)]) (fun _ k => X0.arraylength hx (by rw [e0]; exact Ar96.1) (State.isArrayOf_alike hZ.alike Ar96.2.1) (g := (mkF m 2 #[vr b1, vi 1] [(.ref b1), (.int 1)])) rfl rfl (dk d11_2) _ (by rw [len_of S96 N_96]; exact k)) ?_
  refine gy (St s₁ m 8 #[vr b1, vi 1] [(.int 1)]) (fun _ k => XS.isub X0.here hx rfl (dk d11_3) rfl (XS.bipush X0.here hx rfl (dk d11_4) (XS.iushr X0.here hx rfl (dk d11_6) rfl (XS.i2b X0.here hx rfl (dk d11_7) rfl k)))) ?_
  refine Go.ret X0 hx hlk (t := .byte) hret rfl (Or.inl ⟨rfl, by simp, _, rfl⟩) (dk d11_8) (by decide) (by decide) ?_
  rw [e0]
  exact ⟨rfl, N0, rfl⟩
theorem ef_rm_cmp5_1 (m : MethodId) (x0 : Addr) (x2 : Addr) : entryFrame m #[(.ref x0), (.int 0), (.ref x2), (.int 0), (.int 1)] 7 = mkF m 0 #[vr x0, vi 0, vr x2, vi 0, vi 1, .unset, .unset] [] := by first | (simp [entryFrame, mkF, argsToLocals, Value.category]; done) | rfl
theorem d10_0 : decode jdk_52_method_21_code 0 = .ok (.iconst 0, 1) := by decide +kernel
theorem d10_1 : decode jdk_52_method_21_code 1 = .ok (.istore 5, 2) := by decide +kernel
theorem d10_3 : decode jdk_52_method_21_code 3 = .ok (.iload 5, 2) := by decide +kernel
theorem d10_5 : decode jdk_52_method_21_code 5 = .ok (.iload 4, 2) := by decide +kernel
theorem d10_7 : decode jdk_52_method_21_code 7 = .ok (.if_icmp .ge 37, 3) := by decide +kernel
theorem d10_10 : decode jdk_52_method_21_code 10 = .ok (.aload_n 0, 1) := by decide +kernel
theorem d10_11 : decode jdk_52_method_21_code 11 = .ok (.iload_n 1, 1) := by decide +kernel
theorem d10_12 : decode jdk_52_method_21_code 12 = .ok (.caload, 1) := by decide +kernel
theorem d10_13 : decode jdk_52_method_21_code 13 = .ok (.istore 6, 2) := by decide +kernel
theorem d10_15 : decode jdk_52_method_21_code 15 = .ok (.iload 6, 2) := by decide +kernel
theorem d10_17 : decode jdk_52_method_21_code 17 = .ok (.sipush 255, 3) := by decide +kernel
theorem d10_20 : decode jdk_52_method_21_code 20 = .ok (.if_icmp .le 6, 3) := by decide +kernel
theorem d10_23 : decode jdk_52_method_21_code 23 = .ok (.iload 5, 2) := by decide +kernel
theorem d10_25 : decode jdk_52_method_21_code 25 = .ok (.ireturn, 1) := by decide +kernel
theorem d10_26 : decode jdk_52_method_21_code 26 = .ok (.aload_n 2, 1) := by decide +kernel
theorem d10_27 : decode jdk_52_method_21_code 27 = .ok (.iload_n 3, 1) := by decide +kernel
theorem d10_28 : decode jdk_52_method_21_code 28 = .ok (.iload 6, 2) := by decide +kernel
theorem d10_30 : decode jdk_52_method_21_code 30 = .ok (.i2b, 1) := by decide +kernel
theorem d10_31 : decode jdk_52_method_21_code 31 = .ok (.bastore, 1) := by decide +kernel
theorem d10_32 : decode jdk_52_method_21_code 32 = .ok (.iinc 1 1, 3) := by decide +kernel
theorem d10_35 : decode jdk_52_method_21_code 35 = .ok (.iinc 3 1, 3) := by decide +kernel
theorem d10_38 : decode jdk_52_method_21_code 38 = .ok (.iinc 5 1, 3) := by decide +kernel
theorem d10_41 : decode jdk_52_method_21_code 41 = .ok (.goto (-38), 3) := by decide +kernel
theorem d10_44 : decode jdk_52_method_21_code 44 = .ok (.iload 4, 2) := by decide +kernel
theorem d10_46 : decode jdk_52_method_21_code 46 = .ok (.ireturn, 1) := by decide +kernel
def Q_rm_cmp5_1 (Z : State) (a1 : Addr) (b1 : Addr) (ka : ClassId) (kb : ClassId) (c0 : Int32) (h0 : Heap) (n0 : Nat) (vv : Option Value) (h : Heap) (L : List Loc) : Prop := ∃ r : Int32, vv = some (.int r) ∧ Fr n0 L ∧ Keep h0 h [b1] ∧ (r = (1 : Int32) → Arv Z h b1 kb .byte (1 : Int32) [(.int (nar .byte (c0.toInt8.toInt32)))] (.int 0)) ∧ ((r = (1 : Int32) ∧ ¬ (255 : Int32) < c0) ∨ (r = (0 : Int32) ∧ (255 : Int32) < c0))
set_option maxRecDepth 65536 in
set_option maxHeartbeats 40000000 in
theorem rm_cmp5_1 (l : Launch) (Z : State) (a0 : Array Value) (hw : HW a0 Z) (ws : List Jvm.Cond) (a1 : Addr) (b1 : Addr) (ka : ClassId) (kb : ClassId) (c0 : Int32) (h0 : Heap) (n0 : Nat) (Z0 : n0 ≤ h0.size) (pr0 : Old Z n0 h0) (pr1 : Arv Z h0 a1 ka .char (1 : Int32) [(.int c0)] (.int 0)) (pr2 : Arv Z h0 b1 kb .byte (1 : Int32) [(.int 0)] (.int 0)) (pr3 : n0 ≤ b1) (pr4 : a1 ≠ b1) :
    Met l Z Y17 jdk_52_method_21_code 7 (some .int) ws ({ frames := 0, cells := 0, slots := 0, locals := 0 } : Room) #[(.ref a1), (.int 0), (.ref b1), (.int 0), (.int 1)] h0 (Q_rm_cmp5_1 Z a1 b1 ka kb c0 h0 n0) := by
  refine Met.enter (f0 := fun m => mkF m 0 #[vr a1, vi 0, vr b1, vi 0, vi 1, .unset, .unset] []) (plainFor_of_name pn_java_lang_StringUTF16) (fun m => ef_rm_cmp5_1 m a1 b1) ?_
  intro p e s m below meth c s₁ hx hby hml hown hnm hret hlk hZ X0 e0
  have hown : s.vm.findClass "java/lang/StringUTF16" = some m.cls := hown
  have hnm : meth.name = "compress" := hnm
  have hml : c.maxLocals = 7 := hml
  have dk : ∀ {i : Nat} {r : Except DecodeError (Instr × Nat)}, decode jdk_52_method_21_code i = r → decode c.code i = r := fun h => hb hby h
  have N0 := Fr.nil n0
  refine gy (St s₁ m 12 #[vr a1, vi 0, vr b1, vi 0, vi 1, vi 0, .unset] [(.int 0), (.ref a1)]) (fun _ k => XS.iconst X0.here hx rfl (dk d10_0) (XS.istore X0.here hx rfl (dk d10_1) rfl (l' := #[vr a1, vi 0, vr b1, vi 0, vi 1, vi 0, .unset]) rfl (XS.iload X0.here hx rfl (dk d10_3) rfl (XS.iload X0.here hx rfl (dk d10_5) rfl (XS.icmpNo X0.here hx rfl (dk d10_7) rfl (tlt (by decide : (0 : Int32) < (1 : Int32))).2.1 (XS.aloadN X0.here hx rfl (dk d10_10) rfl rfl (XS.iloadN X0.here hx rfl (dk d10_11) rfl k))))))) ?_
  obtain ⟨cl97, Ar97, q97, S97, N_97, Hs97, G97⟩ := id pr1
  have hin98 : ¬ ((0 : Int32) < 0 ∨ cl97.slots.size ≤ ((0 : Int32)).toNatClampNeg) := inb_of S97 ⟨by decide, by decide⟩
  have hat98 : cl97.slots[((0 : Int32)).toNatClampNeg]? = some (.int c0) := Hs97.at hin98 rfl
  refine gy (St s₁ m 13 #[vr a1, vi 0, vr b1, vi 0, vi 1, vi 0, .unset] [(.int c0)]) (fun _ k => X0.caload hx (j := (0 : Int32)) (v := (.int c0)) (by rw [e0]; exact Ar97.1) (State.isArrayOf_alike hZ.alike Ar97.2.1) Ar97.2.2 hin98 hat98 (g := (mkF m 12 #[vr a1, vi 0, vr b1, vi 0, vi 1, vi 0, .unset] [(.int 0), (.ref a1)])) rfl rfl (dk d10_12) _ k) ?_
  refine gy (St s₁ m 20 #[vr a1, vi 0, vr b1, vi 0, vi 1, vi 0, vi c0] [(.int 255), (.int c0)]) (fun _ k => XS.istore X0.here hx rfl (dk d10_13) rfl (l' := #[vr a1, vi 0, vr b1, vi 0, vi 1, vi 0, vi c0]) rfl (XS.iload X0.here hx rfl (dk d10_15) rfl (XS.sipush X0.here hx rfl (dk d10_17) k))) ?_
  by_cases c99 : (255 : Int32) < c0
  · skip
    refine gy (St s₁ m 25 #[vr a1, vi 0, vr b1, vi 0, vi 1, vi 0, vi c0] [(.int 0)]) (fun _ k => XS.icmpNo X0.here hx rfl (dk d10_20) rfl (tlt c99).2.2.2 (XS.iload X0.here hx rfl (dk d10_23) rfl k)) ?_
    refine Go.ret X0 hx hlk (t := .int) hret rfl (Or.inl ⟨rfl, by simp, _, rfl⟩) (dk d10_25) (by decide) (by decide) ?_
    rw [e0]
    exact ⟨(0 : Int32), rfl, N0, (Keep.refl h0 [b1]), (fun q => absurd q (by decide)), (Or.inr ⟨rfl, c99⟩)⟩
  · skip
    refine gy (St s₁ m 31 #[vr a1, vi 0, vr b1, vi 0, vi 1, vi 0, vi c0] [(.int (c0.toInt8.toInt32)), (.int 0), (.ref b1)]) (fun _ k => XS.icmpYes X0.here hx rfl (pc0 := 20) (pc' := 26) rfl (dk d10_20) rfl (flt c99).2.2.2 (by decide) (by decide) (XS.aloadN X0.here hx rfl (dk d10_26) rfl rfl (XS.iloadN X0.here hx rfl (dk d10_27) rfl (XS.iload X0.here hx rfl (dk d10_28) rfl (XS.i2b X0.here hx rfl (dk d10_30) rfl k))))) ?_
    obtain ⟨cl100, Ar100, q100, S100, N_100, Hs100, G100⟩ := id pr2
    have hin101 : ¬ ((0 : Int32) < 0 ∨ cl100.slots.size ≤ ((0 : Int32)).toNatClampNeg) := inb_of S100 ⟨by decide, by decide⟩
    obtain ⟨T101, h101, X101, e101, W101, st101⟩ := stB X0 hx hZ e0 Ar100 (j := (0 : Int32)) hin101 (g := (mkF m 31 #[vr a1, vi 0, vr b1, vi 0, vi 1, vi 0, vi c0] [(.int (c0.toInt8.toInt32)), (.int 0), (.ref b1)])) rfl rfl (dk d10_31)
    have O102 := pr0.wr W101 pr3
    have Z102 : n0 ≤ h101.size := Nat.le_trans Z0 (Keep.of_wr W101).1
    have V101 : Arv Z h101 b1 kb .byte (1 : Int32) [(.int (nar .byte (c0.toInt8.toInt32)))] (.int 0) := Arv.set Ar100 q100 S100 N_100 Hs100 G100 (fits_nar_byte _) W101 0 rfl (Nat.le_of_ble_eq_true rfl)
    have N101 := Fr.snoc X101 N0 pr3
    refine gy (St T101 m 32 #[vr a1, vi 0, vr b1, vi 0, vi 1, vi 0, vi c0] []) st101 ?_
    refine gy (St T101 m 46 #[vr a1, vi 1, vr b1, vi 1, vi 1, vi 1, vi c0] [(.int 1)]) (fun _ k => XS.iinc X101.here hx rfl (dk d10_32) rfl (l' := #[vr a1, vi 1, vr b1, vi 0, vi 1, vi 0, vi c0]) rfl (XS.iinc X101.here hx rfl (dk d10_35) rfl (l' := #[vr a1, vi 1, vr b1, vi 1, vi 1, vi 0, vi c0]) rfl (XS.iinc X101.here hx rfl (dk d10_38) rfl (l' := #[vr a1, vi 1, vr b1, vi 1, vi 1, vi 1, vi c0]) rfl (XS.goto X101.here hx rfl (pc0 := 41) (pc' := 3) rfl (dk d10_41) (by decide) (by decide) (XS.iload X101.here hx rfl (dk d10_3) rfl (XS.iload X101.here hx rfl (dk d10_5) rfl (XS.icmpYes X101.here hx rfl (pc0 := 7) (pc' := 44) rfl (dk d10_7) rfl (flt (by decide : ¬ ((1 : Int32) < (1 : Int32)))).2.1 (by decide) (by decide) (XS.iload X101.here hx rfl (dk d10_44) rfl k)))))))) ?_
    refine Go.ret X101 hx hlk (t := .int) hret rfl (Or.inl ⟨rfl, by simp, _, rfl⟩) (dk d10_46) (by decide) (by decide) ?_
    rw [e101]
    exact ⟨(1 : Int32), rfl, N101, ((Keep.refl h0 [b1]).wr W101 (Or.inl (List.mem_of_getElem? (i := 0) rfl))), (fun _ => V101), (Or.inl ⟨rfl, c99⟩)⟩
theorem ef_rm_cmp3_1 (m : MethodId) (x0 : Addr) : entryFrame m #[(.ref x0), (.int 0), (.int 1)] 6 = mkF m 0 #[vr x0, vi 0, vi 1, .unset, .unset, .unset] [] := by first | (simp [entryFrame, mkF, argsToLocals, Value.category]; done) | rfl
theorem d9_0 : decode jdk_52_method_16_code 0 = .ok (.iload_n 2, 1) := by decide +kernel
theorem d9_1 : decode jdk_52_method_16_code 1 = .ok (.newarray .byte, 2) := by decide +kernel
theorem d9_3 : decode jdk_52_method_16_code 3 = .ok (.astore_n 3, 1) := by decide +kernel
theorem d9_4 : decode jdk_52_method_16_code 4 = .ok (.aload_n 0, 1) := by decide +kernel
theorem d9_5 : decode jdk_52_method_16_code 5 = .ok (.iload_n 1, 1) := by decide +kernel
theorem d9_6 : decode jdk_52_method_16_code 6 = .ok (.aload_n 3, 1) := by decide +kernel
theorem d9_7 : decode jdk_52_method_16_code 7 = .ok (.iconst 0, 1) := by decide +kernel
theorem d9_8 : decode jdk_52_method_16_code 8 = .ok (.iload_n 2, 1) := by decide +kernel
theorem d9_9 : decode jdk_52_method_16_code 9 = .ok (.invokestatic 115, 3) := by decide +kernel
theorem pd_3 : parseMethodDescriptor "([CI[BII)I" = some ⟨[(.array .char), .int, (.array .byte), .int, .int], some .int⟩ := by decide +kernel
theorem d9_12 : decode jdk_52_method_16_code 12 = .ok (.istore 4, 2) := by decide +kernel
theorem d9_14 : decode jdk_52_method_16_code 14 = .ok (.iload 4, 2) := by decide +kernel
theorem d9_16 : decode jdk_52_method_16_code 16 = .ok (.iload_n 2, 1) := by decide +kernel
theorem d9_17 : decode jdk_52_method_16_code 17 = .ok (.if_icmp .eq 40, 3) := by decide +kernel
theorem d9_57 : decode jdk_52_method_16_code 57 = .ok (.aload_n 3, 1) := by decide +kernel
theorem d9_58 : decode jdk_52_method_16_code 58 = .ok (.areturn, 1) := by decide +kernel
theorem d9_20 : decode jdk_52_method_16_code 20 = .ok (.aload_n 0, 1) := by decide +kernel
theorem d9_21 : decode jdk_52_method_16_code 21 = .ok (.iload_n 1, 1) := by decide +kernel
theorem d9_22 : decode jdk_52_method_16_code 22 = .ok (.iload_n 2, 1) := by decide +kernel
theorem d9_23 : decode jdk_52_method_16_code 23 = .ok (.invokestatic 119, 3) := by decide +kernel
theorem pd_4 : parseMethodDescriptor "([CII)[B" = some ⟨[(.array .char), .int, .int], some (.array .byte)⟩ := by decide +kernel
theorem d9_26 : decode jdk_52_method_16_code 26 = .ok (.astore 5, 2) := by decide +kernel
theorem d9_28 : decode jdk_52_method_16_code 28 = .ok (.aload 5, 2) := by decide +kernel
theorem d9_30 : decode jdk_52_method_16_code 30 = .ok (.iload 4, 2) := by decide +kernel
theorem d9_32 : decode jdk_52_method_16_code 32 = .ok (.invokestatic 71, 3) := by decide +kernel
theorem pd_5 : parseMethodDescriptor "([BI)C" = some ⟨[(.array .byte), .int], some .char⟩ := by decide +kernel
theorem d9_35 : decode jdk_52_method_16_code 35 = .ok (.sipush 255, 3) := by decide +kernel
theorem d9_38 : decode jdk_52_method_16_code 38 = .ok (.if_icmp .gt 16, 3) := by decide +kernel
theorem d9_54 : decode jdk_52_method_16_code 54 = .ok (.aload 5, 2) := by decide +kernel
theorem d9_56 : decode jdk_52_method_16_code 56 = .ok (.areturn, 1) := by decide +kernel
def Q_rm_cmp3_1 (Z : State) (a1 : Addr) (ka : ClassId) (c0 : Int32) (h0 : Heap) (n0 : Nat) (vv : Option Value) (h : Heap) (L : List Loc) : Prop := ∃ b : Addr, ∃ k : ClassId, ∃ u : Bool, vv = some (.ref b) ∧ Fr n0 L ∧ Keep h0 h [] ∧ h0.size ≤ b ∧ (u = false → ¬ (255 : Int32) < c0) ∧ (u = false → Arv Z h b k .byte (1 : Int32) [(.int (nar .byte (c0.toInt8.toInt32)))] (.int 0)) ∧ (u = true → Arv Z h b k .byte (2 : Int32) [(.int (own_b0 c0)), (.int (own_b1 c0))] (.int 0))
set_option maxRecDepth 65536 in
set_option maxHeartbeats 40000000 in
theorem rm_cmp3_1 (l : Launch) (Z : State) (a0 : Array Value) (hw : HW a0 Z) (ws : List Jvm.Cond) (a1 : Addr) (ka : ClassId) (c0 : Int32) (h0 : Heap) (n0 : Nat) (Z0 : n0 ≤ h0.size) (pr0 : Old Z n0 h0) (pr1 : Sta Z Z.heap "java/lang/StringUTF16" "$assertionsDisabled" "Z" (.int 1)) (pr2 : Sta Z Z.heap "java/lang/StringUTF16" "HI_BYTE_SHIFT" "I" (.int 0)) (pr3 : Sta Z Z.heap "java/lang/StringUTF16" "LO_BYTE_SHIFT" "I" (.int 8)) (pr4 : Arv Z h0 a1 ka .char (1 : Int32) [(.int c0)] (.int 0)) (hr0 : own_rng c0) :
    Met l Z Y16 jdk_52_method_16_code 6 (some (.array .byte)) ws ({ frames := 3, cells := 2, slots := 3, locals := 40 } : Room) #[(.ref a1), (.int 0), (.int 1)] h0 (Q_rm_cmp3_1 Z a1 ka c0 h0 n0) := by
  refine Met.enter (f0 := fun m => mkF m 0 #[vr a1, vi 0, vi 1, .unset, .unset, .unset] []) (plainFor_of_name pn_java_lang_StringUTF16) (fun m => ef_rm_cmp3_1 m a1) ?_
  intro p e s m below meth c s₁ hx hby hml hown hnm hret hlk hZ X0 e0
  have hown : s.vm.findClass "java/lang/StringUTF16" = some m.cls := hown
  have hnm : meth.name = "compress" := hnm
  have hml : c.maxLocals = 6 := hml
  have dk : ∀ {i : Nat} {r : Except DecodeError (Instr × Nat)}, decode jdk_52_method_16_code i = r → decode c.code i = r := fun h => hb hby h
  have N0 := Fr.nil n0
  refine gy (St s₁ m 1 #[vr a1, vi 0, vi 1, .unset, .unset, .unset] [(.int 1)]) (fun _ k => XS.iloadN X0.here hx rfl (dk d9_0) rfl k) ?_
  obtain ⟨T103, h103, k103, X103, e103, E103, A103, st103⟩ := newP X0 hx hZ (wd hw 24 rfl) e0 (g := (mkF m 1 #[vr a1, vi 0, vi 1, .unset, .unset, .unset] [(.int 1)])) rfl (dk d9_1) rfl (by decide) (cap := 1) (by decide) (by decide) (by decide) (by decide)
  obtain ⟨b103, g103⟩ : ∃ z, z = h0.size := ⟨_, rfl⟩
  rw [← g103] at A103 st103
  have sz_b103 : h0.size ≤ b103 := Nat.le_of_eq g103.symm
  have V103 : Arv Z h103 b103 k103 .byte (1 : Int32) [(.int 0)] (.int 0) := (Arv.new A103 (by decide)).pad (pad_rep [] (.int 0) 1)
  have O104 := pr0.ext E103
  have Z104 : n0 ≤ h103.size := Nat.le_trans Z0 E103.1
  refine gy (St T103 m 3 #[vr a1, vi 0, vi 1, .unset, .unset, .unset] [(.ref b103)]) st103 ?_
  refine gy (St T103 m 9 #[vr a1, vi 0, vi 1, vr b103, .unset, .unset] [(.int 1), (.int 0), (.ref b103), (.int 0), (.ref a1)]) (fun _ k => XS.astoreN X103.here hx rfl (dk d9_3) rfl rfl (l' := #[vr a1, vi 0, vi 1, vr b103, .unset, .unset]) rfl (XS.aloadN X103.here hx rfl (dk d9_4) rfl rfl (XS.iloadN X103.here hx rfl (dk d9_5) rfl (XS.aloadN X103.here hx rfl (dk d9_6) rfl rfl (XS.iconst X103.here hx rfl (dk d9_7) (XS.iloadN X103.here hx rfl (dk d9_8) rfl k)))))) ?_
  obtain ⟨_, _, ⟨T105, L105, k105, n105⟩, -, X105, ⟨Lc105, hQ105, l105, y105, z105⟩, st105⟩ := Jvm.LawKit.callS X103 hx (y := Y17) hown (mvT hZ (wd hw 50 rfl)) (mvT hZ (wd hw 51 rfl)) (mvT hZ (wd hw 48 rfl)) (mvT hZ (wd hw 52 rfl)) (by decide) (backOf (W := 0) (rm_cmp5_1 l Z a0 hw [] a1 b103 ka k103 c0 h103 n0 Z104 O104 (pr4.ext E103) V103 (Nat.le_trans Z0 sz_b103) (Nat.ne_of_lt (Nat.lt_of_lt_of_le pr4.lt sz_b103))) hZ (wd hw 52 rfl) (wd hw 48 rfl) (by decide) (by decide)) (g := (mkF m 9 #[vr a1, vi 0, vi 1, vr b103, .unset, .unset] [(.int 1), (.int 0), (.ref b103), (.int 0), (.ref a1)])) rfl (by rw [hml]; rfl) (argsL := [(.ref a1), (.int 0), (.ref b103), (.int 0), (.int 1)]) (rest := []) (lenOf pd_3 rfl) rfl (by show 2 * 0 + _ ≤ _; exact Nat.le_of_eq rfl) (dk d9_9) (fun _ _ => ⟨rfl, e103, Nat.le_of_ble_eq_true rfl, Nat.le_of_ble_eq_true rfl⟩)
  dsimp only [Pt.U, Pt.locs, Pt.cells, Pt.slots] at X105 l105 y105 z105 st105 hQ105
  subst l105 y105 z105
  obtain ⟨r105, rfl, Nq105, K105, p105_0, p105_1⟩ := hQ105
  have N105 := Fr.app N0 Nq105
  have O106 := O104.keep K105 (allS (Nat.le_trans Z0 sz_b103) all0)
  have Z106 : n0 ≤ T105.heap.size := Nat.le_trans Z104 K105.1
  refine gy (St T105 m 12 #[vr a1, vi 0, vi 1, vr b103, .unset, .unset] [(.int r105)]) (fun _ k => st105 _ k) ?_
  rcases p105_1 with ⟨rfl, e107⟩ | ⟨rfl, e108⟩
  · skip
    have V109 := p105_0 rfl
    refine gy (St T105 m 58 #[vr a1, vi 0, vi 1, vr b103, vi 1, .unset] [(.ref b103)]) (fun _ k => XS.istore X105.here hx rfl (dk d9_12) rfl (l' := #[vr a1, vi 0, vi 1, vr b103, vi 1, .unset]) rfl (XS.iload X105.here hx rfl (dk d9_14) rfl (XS.iloadN X105.here hx rfl (dk d9_16) rfl (XS.icmpYes X105.here hx rfl (pc0 := 17) (pc' := 57) rfl (dk d9_17) rfl (teq (by decide : (1 : Int32) = (1 : Int32))).1 (by decide) (by decide) (XS.aloadN X105.here hx rfl (dk d9_57) rfl rfl k))))) ?_
    refine Go.ret X105 hx hlk (t := (.array .byte)) hret rfl (Or.inr (Or.inr (Or.inr (Or.inr ⟨rfl, rfl, rfl⟩)))) (dk d9_58) (by decide) (by decide) ?_
    exact ⟨b103, k103, false, rfl, N105, (((Keep.refl h0 []).ext E103).trans K105 (allS (Or.inr (Nat.le_trans (Nat.le_refl _) sz_b103)) all0)), (Nat.le_trans (Nat.le_refl _) sz_b103), (fun _ => e107), (fun _ => V109), (fun q => nomatch q)⟩
  · skip
    refine gy (St T105 m 23 #[vr a1, vi 0, vi 1, vr b103, vi 0, .unset] [(.int 1), (.int 0), (.ref a1)]) (fun _ k => XS.istore X105.here hx rfl (dk d9_12) rfl (l' := #[vr a1, vi 0, vi 1, vr b103, vi 0, .unset]) rfl (XS.iload X105.here hx rfl (dk d9_14) rfl (XS.iloadN X105.here hx rfl (dk d9_16) rfl (XS.icmpNo X105.here hx rfl (dk d9_17) rfl (feq (by decide : ¬ ((0 : Int32) = (1 : Int32)))).1 (XS.aloadN X105.here hx rfl (dk d9_20) rfl rfl (XS.iloadN X105.here hx rfl (dk d9_21) rfl (XS.iloadN X105.here hx rfl (dk d9_22) rfl k))))))) ?_
    have f110 := ((pr4.ext E103).keep K105 (ninS (Nat.ne_of_lt (Nat.lt_of_lt_of_le pr4.lt sz_b103)) nin0))
    obtain ⟨_, _, ⟨T111, L111, k111, n111⟩, -, X111, ⟨Lc111, hQ111, l111, y111, z111⟩, st111⟩ := Jvm.LawKit.callS X105 hx (y := Y23) hown (mvT hZ (wd hw 84 rfl)) (mvT hZ (wd hw 85 rfl)) (mvT hZ (wd hw 48 rfl)) (mvT hZ (wd hw 86 rfl)) (by decide) (backOf (W := 0) (rm_tb_1 l Z a0 hw [] a1 ka c0 T105.heap n0 Z106 O106 pr1 pr2 pr3 f110) hZ (wd hw 86 rfl) (wd hw 48 rfl) (by decide) (by decide)) (g := (mkF m 23 #[vr a1, vi 0, vi 1, vr b103, vi 0, .unset] [(.int 1), (.int 0), (.ref a1)])) rfl (by rw [hml]; rfl) (argsL := [(.ref a1), (.int 0), (.int 1)]) (rest := []) (lenOf pd_4 rfl) rfl (by show 2 * 0 + _ ≤ _; exact Nat.le_of_eq rfl) (dk d9_23) (fun _ _ => ⟨rfl, rfl, Nat.le_of_ble_eq_true rfl, Nat.le_of_ble_eq_true rfl⟩)
    dsimp only [Pt.U, Pt.locs, Pt.cells, Pt.slots] at X111 l111 y111 z111 st111 hQ111
    subst l111 y111 z111
    obtain ⟨b111, k111, rfl, Nq111, K111, p111_0, p111_1⟩ := hQ111
    have N111 := Fr.app N105 Nq111
    have O112 := O106.keep K111 all0
    have Z112 : n0 ≤ T111.heap.size := Nat.le_trans Z106 K111.1
    have sz_b111 : T105.heap.size ≤ b111 := p111_1
    refine gy (St T111 m 26 #[vr a1, vi 0, vi 1, vr b103, vi 0, .unset] [(.ref b111)]) (fun _ k => st111 _ k) ?_
    refine gy (St T111 m 32 #[vr a1, vi 0, vi 1, vr b103, vi 0, vr b111] [(.int 0), (.ref b111)]) (fun _ k => XS.astore X111.here hx rfl (dk d9_26) rfl rfl (l' := #[vr a1, vi 0, vi 1, vr b103, vi 0, vr b111]) rfl (XS.aload X111.here hx rfl (dk d9_28) rfl rfl (XS.iload X111.here hx rfl (dk d9_30) rfl k))) ?_
    obtain ⟨_, _, ⟨T113, L113, k113, n113⟩, -, X113, ⟨Lc113, hQ113, l113, y113, z113⟩, st113⟩ := Jvm.LawKit.callS X111 hx (y := Y18) hown (mvT hZ (wd hw 100 rfl)) (mvT hZ (wd hw 101 rfl)) (mvT hZ (wd hw 48 rfl)) (mvT hZ (wd hw 102 rfl)) (by decide) (backOf (W := 0) (rm_get_0 l Z a0 hw [] b111 k111 c0 (2 : Int32) [(.int (own_b0 c0)), (.int (own_b1 c0))] T111.heap n0 Z112 O112 pr1 pr2 pr3 p111_0 (by decide) (by decide) rfl rfl hr0) hZ (wd hw 102 rfl) (wd hw 48 rfl) (by decide) (by decide)) (g := (mkF m 32 #[vr a1, vi 0, vi 1, vr b103, vi 0, vr b111] [(.int 0), (.ref b111)])) rfl (by rw [hml]; rfl) (argsL := [(.ref b111), (.int 0)]) (rest := []) (lenOf pd_5 rfl) rfl (by show 2 * 0 + _ ≤ _; exact Nat.le_of_eq rfl) (dk d9_32) (fun _ _ => ⟨rfl, rfl, Nat.le_of_ble_eq_true rfl, Nat.le_of_ble_eq_true rfl⟩)
    dsimp only [Pt.U, Pt.locs, Pt.cells, Pt.slots] at X113 l113 y113 z113 st113 hQ113
    subst l113 y113 z113
    obtain ⟨rfl, Nq113, hh113⟩ := hQ113
    have N113 := Fr.app N111 Nq113
    refine gy (St T113 m 35 #[vr a1, vi 0, vi 1, vr b103, vi 0, vr b111] [(.int c0)]) (fun _ k => st113 _ k) ?_
    refine gy (St T113 m 56 #[vr a1, vi 0, vi 1, vr b103, vi 0, vr b111] [(.ref b111)]) (fun _ k => XS.sipush X113.here hx rfl (dk d9_35) (XS.icmpYes X113.here hx rfl (pc0 := 38) (pc' := 54) rfl (dk d9_38) rfl (tlt e108).2.2.1 (by decide) (by decide) (XS.aload X113.here hx rfl (dk d9_54) rfl rfl k))) ?_
    refine Go.ret X113 hx hlk (t := (.array .byte)) hret rfl (Or.inr (Or.inr (Or.inr (Or.inr ⟨rfl, rfl, rfl⟩)))) (dk d9_56) (by decide) (by decide) ?_
    rw [hh113]
    exact ⟨b111, k111, true, rfl, N113, ((((Keep.refl h0 []).ext E103).trans K105 (allS (Or.inr (Nat.le_trans (Nat.le_refl _) sz_b103)) all0)).trans K111 all0), (Nat.le_trans (Nat.le_trans (Nat.le_trans (Nat.le_refl _) E103.1) K105.1) sz_b111), (fun q => nomatch q), (fun q => nomatch q), (fun _ => p111_0)⟩
theorem ef_rm_sV_1 (m : MethodId) (x0 : Addr) (x1 : Addr) : entryFrame m #[(.ref x0), (.ref x1), (.int 0), (.int 1), .null] 6 = mkF m 0 #[vr x0, vr x1, vi 0, vi 1, .val .null, .unset] [] := by first | (simp [entryFrame, mkF, argsToLocals, Value.category]; done) | rfl
theorem d4_0 : decode jdk_42_method_149_code 0 = .ok (.aload_n 0, 1) := by decide +kernel
theorem d4_1 : decode jdk_42_method_149_code 1 = .ok (.invokespecial 1, 3) := by decide +kernel
theorem d4_4 : decode jdk_42_method_149_code 4 = .ok (.iload_n 3, 1) := by decide +kernel
theorem d4_5 : decode jdk_42_method_149_code 5 = .ok (.ifCond .ne 22, 3) := by decide +kernel
theorem d4_27 : decode jdk_42_method_149_code 27 = .ok (.getstatic 38, 3) := by decide +kernel
theorem d4_30 : decode jdk_42_method_149_code 30 = .ok (.ifCond .eq 28, 3) := by decide +kernel
theorem d4_33 : decode jdk_42_method_149_code 33 = .ok (.aload_n 1, 1) := by decide +kernel
theorem d4_34 : decode jdk_42_method_149_code 34 = .ok (.iload_n 2, 1) := by decide +kernel
theorem d4_35 : decode jdk_42_method_149_code 35 = .ok (.iload_n 3, 1) := by decide +kernel
theorem d4_36 : decode jdk_42_method_149_code 36 = .ok (.invokestatic 177, 3) := by decide +kernel
theorem d4_39 : decode jdk_42_method_149_code 39 = .ok (.astore 5, 2) := by decide +kernel
theorem d4_41 : decode jdk_42_method_149_code 41 = .ok (.aload_n 0, 1) := by decide +kernel
theorem d4_42 : decode jdk_42_method_149_code 42 = .ok (.aload 5, 2) := by decide +kernel
theorem d4_44 : decode jdk_42_method_149_code 44 = .ok (.iload_n 3, 1) := by decide +kernel
theorem d4_45 : decode jdk_42_method_149_code 45 = .ok (.invokestatic 47, 3) := by decide +kernel
theorem pd_6 : parseMethodDescriptor "([BI)B" = some ⟨[(.array .byte), .int], some .byte⟩ := by decide +kernel
theorem d4_48 : decode jdk_42_method_149_code 48 = .ok (.putfield 15, 3) := by decide +kernel
theorem d4_51 : decode jdk_42_method_149_code 51 = .ok (.aload_n 0, 1) := by decide +kernel
theorem d4_52 : decode jdk_42_method_149_code 52 = .ok (.aload 5, 2) := by decide +kernel
theorem d4_54 : decode jdk_42_method_149_code 54 = .ok (.putfield 9, 3) := by decide +kernel
theorem d4_57 : decode jdk_42_method_149_code 57 = .ok (.return_, 1) := by decide +kernel
theorem pn_java_lang_String : plainName "java/lang/String" = true := by first | (simp [plainName, overriddenIn]; done) | decide +kernel
def Q_rm_sV_1 (Z : State) (a1 : Addr) (v1 : Addr) (ka : ClassId) (c0 : Int32) (cs : Int32) (h0 : Heap) (n0 : Nat) (vv : Option Value) (h : Heap) (L : List Loc) : Prop := ∃ t : Addr, ∃ k : ClassId, ∃ u : Bool, vv = none ∧ Fr n0 L ∧ Keep h0 h [a1] ∧ Exa Z h a1 "java/lang/String" ∧ Fld Z h a1 "java/lang/String" "value" "[B" (.ref t) ∧ h0.size ≤ t ∧ (u = false → ¬ (255 : Int32) < c0) ∧ (u = false → Arv Z h t k .byte (1 : Int32) [(.int (nar .byte (c0.toInt8.toInt32)))] (.int 0)) ∧ (u = true → Arv Z h t k .byte (2 : Int32) [(.int (own_b0 c0)), (.int (own_b1 c0))] (.int 0)) ∧ (u = false → Fld Z h a1 "java/lang/String" "coder" "B" (.int 0)) ∧ (u = true → Fld Z h a1 "java/lang/String" "coder" "B" (.int 1))
set_option maxRecDepth 65536 in
set_option maxHeartbeats 40000000 in
theorem rm_sV_1 (l : Launch) (Z : State) (a0 : Array Value) (hw : HW a0 Z) (ws : List Jvm.Cond) (a1 : Addr) (v1 : Addr) (ka : ClassId) (c0 : Int32) (cs : Int32) (h0 : Heap) (n0 : Nat) (Z0 : n0 ≤ h0.size) (pr0 : Old Z n0 h0) (pr1 : Sta Z Z.heap "java/lang/String" "COMPACT_STRINGS" "Z" (.int cs)) (hcs : ¬ (cs = (0 : Int32))) (pr3 : Sta Z Z.heap "java/lang/StringUTF16" "$assertionsDisabled" "Z" (.int 1)) (pr4 : Sta Z Z.heap "java/lang/StringUTF16" "HI_BYTE_SHIFT" "I" (.int 0)) (pr5 : Sta Z Z.heap "java/lang/StringUTF16" "LO_BYTE_SHIFT" "I" (.int 8)) (pr6 : Exa Z h0 a1 "java/lang/String") (pr7 : Fld Z h0 a1 "java/lang/String" "value" "[B" .null) (pr8 : Fld Z h0 a1 "java/lang/String" "coder" "B" (.int 0)) (pr9 : n0 ≤ a1) (pr10 : Arv Z h0 v1 ka .char (1 : Int32) [(.int c0)] (.int 0)) (hr0 : own_rng c0) :
    Met l Z Y6 jdk_42_method_149_code 6 none ws ({ frames := 4, cells := 2, slots := 3, locals := 57 } : Room) #[(.ref a1), (.ref v1), (.int 0), (.int 1), .null] h0 (Q_rm_sV_1 Z a1 v1 ka c0 cs h0 n0) := by
  refine Met.enter (f0 := fun m => mkF m 0 #[vr a1, vr v1, vi 0, vi 1, .val .null, .unset] []) (plainFor_of_name pn_java_lang_String) (fun m => ef_rm_sV_1 m a1 v1) ?_
  intro p e s m below meth c s₁ hx hby hml hown hnm hret hlk hZ X0 e0
  have hown : s.vm.findClass "java/lang/String" = some m.cls := hown
  have hnm : meth.name = "<init>" := hnm
  have hml : c.maxLocals = 6 := hml
  have dk : ∀ {i : Nat} {r : Except DecodeError (Instr × Nat)}, decode jdk_42_method_149_code i = r → decode c.code i = r := fun h => hb hby h
  have N0 := Fr.nil n0
  refine gy (St s₁ m 1 #[vr a1, vr v1, vi 0, vi 1, .val .null, .unset] [(.ref a1)]) (fun _ k => XS.aloadN X0.here hx rfl (dk d4_0) rfl rfl k) ?_
  obtain ⟨T114, X114, e114, st114⟩ := initO X0 hx hZ hown (wd hw 20 rfl) (wd hw 21 rfl) (wd hw 22 rfl) e0 (g := (mkF m 1 #[vr a1, vr v1, vi 0, vi 1, .val .null, .unset] [(.ref a1)])) rfl (by rw [hml]; rfl) rfl (dk d4_1) (by decide) (W := 0) (by show 2 * 0 + _ ≤ _; exact Nat.le_of_eq rfl) (by decide)
  refine gy (St T114 m 4 #[vr a1, vr v1, vi 0, vi 1, .val .null, .unset] []) st114 ?_
  refine gy (St T114 m 27 #[vr a1, vr v1, vi 0, vi 1, .val .null, .unset] []) (fun _ k => XS.iloadN X114.here hx rfl (dk d4_4) rfl (XS.ifYes X114.here hx rfl (pc0 := 5) (pc' := 27) rfl (dk d4_5) rfl ((if0 _ _).trans (feq (by decide : ¬ ((1 : Int32) = (0 : Int32)))).2) (by decide) (by decide) k)) ?_
  obtain ⟨T115, X115, e115, st115⟩ := getS2 X114 hx hZ hown (host := "") (Or.inl (wd hw 45 rfl)) Via.refl e114 (pr1.ext pr0.2) (g := (mkF m 27 #[vr a1, vr v1, vi 0, vi 1, .val .null, .unset] [])) rfl (dk d4_27)
  refine gy (St T115 m 30 #[vr a1, vr v1, vi 0, vi 1, .val .null, .unset] [(.int cs)]) st115 ?_
  refine gy (St T115 m 36 #[vr a1, vr v1, vi 0, vi 1, .val .null, .unset] [(.int 1), (.int 0), (.ref v1)]) (fun _ k => XS.ifNo X115.here hx rfl (dk d4_30) rfl ((if0 _ _).trans (feq hcs).1) (XS.aloadN X115.here hx rfl (dk d4_33) rfl rfl (XS.iloadN X115.here hx rfl (dk d4_34) rfl (XS.iloadN X115.here hx rfl (dk d4_35) rfl k)))) ?_
  obtain ⟨_, _, ⟨T116, L116, k116, n116⟩, -, X116, ⟨Lc116, hQ116, l116, y116, z116⟩, st116⟩ := Jvm.LawKit.callS X115 hx (y := Y16) hown (mvT hZ (wd hw 46 rfl)) (mvT hZ (wd hw 47 rfl)) (mvT hZ (wd hw 48 rfl)) (mvT hZ (wd hw 49 rfl)) (by decide) (backOf (W := 0) (rm_cmp3_1 l Z a0 hw [] v1 ka c0 h0 n0 Z0 pr0 pr3 pr4 pr5 pr10 hr0) hZ (wd hw 49 rfl) (wd hw 48 rfl) (by decide) (by decide)) (g := (mkF m 36 #[vr a1, vr v1, vi 0, vi 1, .val .null, .unset] [(.int 1), (.int 0), (.ref v1)])) rfl (by rw [hml]; rfl) (argsL := [(.ref v1), (.int 0), (.int 1)]) (rest := []) (lenOf pd_4 rfl) rfl (by show 2 * 0 + _ ≤ _; exact Nat.le_of_eq rfl) (dk d4_36) (fun _ _ => ⟨rfl, e115, Nat.le_of_ble_eq_true rfl, Nat.le_of_ble_eq_true rfl⟩)
  dsimp only [Pt.U, Pt.locs, Pt.cells, Pt.slots] at X116 l116 y116 z116 st116 hQ116
  subst l116 y116 z116
  obtain ⟨b116, k116, u116, rfl, Nq116, K116, p116_0, p116_1, p116_2, p116_3⟩ := hQ116
  have N116 := Fr.app N0 Nq116
  have O117 := pr0.keep K116 all0
  have Z117 : n0 ≤ T116.heap.size := Nat.le_trans Z0 K116.1
  have sz_b116 : h0.size ≤ b116 := p116_0
  refine gy (St T116 m 39 #[vr a1, vr v1, vi 0, vi 1, .val .null, .unset] [(.ref b116)]) (fun _ k => st116 _ k) ?_
  rcases u116 with _ | _
  · skip
    have V118 := p116_2 rfl
    refine gy (St T116 m 45 #[vr a1, vr v1, vi 0, vi 1, .val .null, vr b116] [(.int 1), (.ref b116), (.ref a1)]) (fun _ k => XS.astore X116.here hx rfl (dk d4_39) rfl rfl (l' := #[vr a1, vr v1, vi 0, vi 1, .val .null, vr b116]) rfl (XS.aloadN X116.here hx rfl (dk d4_41) rfl rfl (XS.aload X116.here hx rfl (dk d4_42) rfl rfl (XS.iloadN X116.here hx rfl (dk d4_44) rfl k)))) ?_
    obtain ⟨_, _, ⟨T119, L119, k119, n119⟩, -, X119, ⟨Lc119, hQ119, l119, y119, z119⟩, st119⟩ := Jvm.LawKit.callS X116 hx (y := Y15) hown (mvT hZ (wd hw 53 rfl)) (mvT hZ (wd hw 54 rfl)) (mvT hZ (wd hw 48 rfl)) (mvT hZ (wd hw 55 rfl)) (by decide) (backOf (W := 1) (rm_cfal_1_0 l Z a0 hw [] b116 k116 c0 T116.heap n0 Z117 V118) hZ (wd hw 55 rfl) (wd hw 48 rfl) (by decide) (by decide)) (g := (mkF m 45 #[vr a1, vr v1, vi 0, vi 1, .val .null, vr b116] [(.int 1), (.ref b116), (.ref a1)])) rfl (by rw [hml]; rfl) (argsL := [(.ref b116), (.int 1)]) (rest := [(.ref a1)]) (lenOf pd_6 rfl) rfl (by show 2 * 0 + _ ≤ _; exact Nat.le_of_eq rfl) (dk d4_45) (fun _ _ => ⟨rfl, rfl, Nat.le_of_ble_eq_true rfl, Nat.le_of_ble_eq_true rfl⟩)
    dsimp only [Pt.U, Pt.locs, Pt.cells, Pt.slots] at X119 l119 y119 z119 st119 hQ119
    subst l119 y119 z119
    obtain ⟨rfl, Nq119, hh119⟩ := hQ119
    have N119 := Fr.app N116 Nq119
    refine gy (St T119 m 48 #[vr a1, vr v1, vi 0, vi 1, .val .null, vr b116] [(.int 0), (.ref a1)]) (fun _ k => st119 _ k) ?_
    obtain ⟨T120, h120, X120, e120, W120, st120⟩ := putFN X119 hx hZ hown (wd hw 30 rfl) Via.refl hh119 (pr8.keep K116 nin0) (pr6.keep K116) (Or.inr ⟨(wd hw 26 rfl), rfl, hnm⟩) (wd hw 10 rfl) (ty := .byte) (v' := (.int 0)) (by decide) rfl rfl (g := (mkF m 48 #[vr a1, vr v1, vi 0, vi 1, .val .null, vr b116] [(.int 0), (.ref a1)])) rfl rfl (dk d4_48)
    have N120 := Fr.snoc X120 N119 pr9
    have O121 := O117.wr W120 pr9
    have Z121 : n0 ≤ h120.size := Nat.le_trans Z117 (Keep.of_wr W120).1
    have F120 := (pr8.keep K116 nin0).same W120
    refine gy (St T120 m 51 #[vr a1, vr v1, vi 0, vi 1, .val .null, vr b116] []) st120 ?_
    refine gy (St T120 m 54 #[vr a1, vr v1, vi 0, vi 1, .val .null, vr b116] [(.ref b116), (.ref a1)]) (fun _ k => XS.aloadN X120.here hx rfl (dk d4_51) rfl rfl (XS.aload X120.here hx rfl (dk d4_52) rfl rfl k)) ?_
    have f122 := ((pr7.keep K116 nin0).other W120 (Or.inr (slot_ne (Or.inr (wd hw 25 rfl)) (Or.inr (wd hw 26 rfl)) (by decide) (t := (.array .byte)) (t' := .byte) (by decide) (by decide))))
    obtain ⟨T123, h123, X123, e123, W123, st123⟩ := putF X120 hx hZ hown (host := "") (Or.inl (wd hw 29 rfl)) Via.refl e120 f122 ((pr6.keep K116).wr W120) (Or.inr ⟨(wd hw 25 rfl), rfl, hnm⟩) (wd hw 10 rfl) (ty := (.array .byte)) (by decide) rfl rfl (g := (mkF m 54 #[vr a1, vr v1, vi 0, vi 1, .val .null, vr b116] [(.ref b116), (.ref a1)])) rfl rfl (dk d4_54)
    have N123 := Fr.snoc X123 N120 pr9
    have O124 := O121.wr W123 pr9
    have Z124 : n0 ≤ h123.size := Nat.le_trans Z121 (Keep.of_wr W123).1
    have F123 := f122.same W123
    refine gy (St T123 m 57 #[vr a1, vr v1, vi 0, vi 1, .val .null, vr b116] []) st123 ?_
    refine Go.retV X123 hx hlk hret (dk d4_57) (by decide) (by decide) ?_
    rw [e123]
    exact ⟨b116, k116, false, rfl, N123, ((((Keep.refl h0 [a1]).trans K116 all0).wr W120 (Or.inl (List.mem_of_getElem? (i := 0) rfl))).wr W123 (Or.inl (List.mem_of_getElem? (i := 0) rfl))), (((pr6.keep K116).wr W120).wr W123), F123, (Nat.le_trans (Nat.le_refl _) sz_b116), p116_1, (fun _ => ((V118.other W120 (Ne.symm (Nat.ne_of_lt (Nat.lt_of_lt_of_le pr6.lt sz_b116)))).other W123 (Ne.symm (Nat.ne_of_lt (Nat.lt_of_lt_of_le pr6.lt sz_b116))))), (fun q => nomatch q), (fun _ => (F120.other W123 (Or.inr (slot_ne (Or.inr (wd hw 26 rfl)) (Or.inr (wd hw 25 rfl)) (by decide) (t := .byte) (t' := (.array .byte)) (by decide) (by decide))))), (fun q => nomatch q)⟩
  · skip
    have V125 := p116_3 rfl
    refine gy (St T116 m 45 #[vr a1, vr v1, vi 0, vi 1, .val .null, vr b116] [(.int 1), (.ref b116), (.ref a1)]) (fun _ k => XS.astore X116.here hx rfl (dk d4_39) rfl rfl (l' := #[vr a1, vr v1, vi 0, vi 1, .val .null, vr b116]) rfl (XS.aloadN X116.here hx rfl (dk d4_41) rfl rfl (XS.aload X116.here hx rfl (dk d4_42) rfl rfl (XS.iloadN X116.here hx rfl (dk d4_44) rfl k)))) ?_
    obtain ⟨_, _, ⟨T126, L126, k126, n126⟩, -, X126, ⟨Lc126, hQ126, l126, y126, z126⟩, st126⟩ := Jvm.LawKit.callS X116 hx (y := Y15) hown (mvT hZ (wd hw 53 rfl)) (mvT hZ (wd hw 54 rfl)) (mvT hZ (wd hw 48 rfl)) (mvT hZ (wd hw 55 rfl)) (by decide) (backOf (W := 1) (rm_cfal_1_1 l Z a0 hw [] b116 k116 c0 T116.heap n0 Z117 V125) hZ (wd hw 55 rfl) (wd hw 48 rfl) (by decide) (by decide)) (g := (mkF m 45 #[vr a1, vr v1, vi 0, vi 1, .val .null, vr b116] [(.int 1), (.ref b116), (.ref a1)])) rfl (by rw [hml]; rfl) (argsL := [(.ref b116), (.int 1)]) (rest := [(.ref a1)]) (lenOf pd_6 rfl) rfl (by show 2 * 0 + _ ≤ _; exact Nat.le_of_eq rfl) (dk d4_45) (fun _ _ => ⟨rfl, rfl, Nat.le_of_ble_eq_true rfl, Nat.le_of_ble_eq_true rfl⟩)
    dsimp only [Pt.U, Pt.locs, Pt.cells, Pt.slots] at X126 l126 y126 z126 st126 hQ126
    subst l126 y126 z126
    obtain ⟨rfl, Nq126, hh126⟩ := hQ126
    have N126 := Fr.app N116 Nq126
    refine gy (St T126 m 48 #[vr a1, vr v1, vi 0, vi 1, .val .null, vr b116] [(.int 1), (.ref a1)]) (fun _ k => st126 _ k) ?_
    obtain ⟨T127, h127, X127, e127, W127, st127⟩ := putFN X126 hx hZ hown (wd hw 30 rfl) Via.refl hh126 (pr8.keep K116 nin0) (pr6.keep K116) (Or.inr ⟨(wd hw 26 rfl), rfl, hnm⟩) (wd hw 10 rfl) (ty := .byte) (v' := (.int 1)) (by decide) rfl rfl (g := (mkF m 48 #[vr a1, vr v1, vi 0, vi 1, .val .null, vr b116] [(.int 1), (.ref a1)])) rfl rfl (dk d4_48)
    have N127 := Fr.snoc X127 N126 pr9
    have O128 := O117.wr W127 pr9
    have Z128 : n0 ≤ h127.size := Nat.le_trans Z117 (Keep.of_wr W127).1
    have F127 := (pr8.keep K116 nin0).same W127
    refine gy (St T127 m 51 #[vr a1, vr v1, vi 0, vi 1, .val .null, vr b116] []) st127 ?_
    refine gy (St T127 m 54 #[vr a1, vr v1, vi 0, vi 1, .val .null, vr b116] [(.ref b116), (.ref a1)]) (fun _ k => XS.aloadN X127.here hx rfl (dk d4_51) rfl rfl (XS.aload X127.here hx rfl (dk d4_52) rfl rfl k)) ?_
    have f129 := ((pr7.keep K116 nin0).other W127 (Or.inr (slot_ne (Or.inr (wd hw 25 rfl)) (Or.inr (wd hw 26 rfl)) (by decide) (t := (.array .byte)) (t' := .byte) (by decide) (by decide))))
    obtain ⟨T130, h130, X130, e130, W130, st130⟩ := putF X127 hx hZ hown (host := "") (Or.inl (wd hw 29 rfl)) Via.refl e127 f129 ((pr6.keep K116).wr W127) (Or.inr ⟨(wd hw 25 rfl), rfl, hnm⟩) (wd hw 10 rfl) (ty := (.array .byte)) (by decide) rfl rfl (g := (mkF m 54 #[vr a1, vr v1, vi 0, vi 1, .val .null, vr b116] [(.ref b116), (.ref a1)])) rfl rfl (dk d4_54)
    have N130 := Fr.snoc X130 N127 pr9
    have O131 := O128.wr W130 pr9
    have Z131 : n0 ≤ h130.size := Nat.le_trans Z128 (Keep.of_wr W130).1
    have F130 := f129.same W130
    refine gy (St T130 m 57 #[vr a1, vr v1, vi 0, vi 1, .val .null, vr b116] []) st130 ?_
    refine Go.retV X130 hx hlk hret (dk d4_57) (by decide) (by decide) ?_
    rw [e130]
    exact ⟨b116, k116, true, rfl, N130, ((((Keep.refl h0 [a1]).trans K116 all0).wr W127 (Or.inl (List.mem_of_getElem? (i := 0) rfl))).wr W130 (Or.inl (List.mem_of_getElem? (i := 0) rfl))), (((pr6.keep K116).wr W127).wr W130), F130, (Nat.le_trans (Nat.le_refl _) sz_b116), (fun q => nomatch q), (fun q => nomatch q), (fun _ => ((V125.other W127 (Ne.symm (Nat.ne_of_lt (Nat.lt_of_lt_of_le pr6.lt sz_b116)))).other W130 (Ne.symm (Nat.ne_of_lt (Nat.lt_of_lt_of_le pr6.lt sz_b116))))), (fun q => nomatch q), (fun _ => (F127.other W130 (Or.inr (slot_ne (Or.inr (wd hw 26 rfl)) (Or.inr (wd hw 25 rfl)) (by decide) (t := .byte) (t' := (.array .byte)) (by decide) (by decide)))))⟩
theorem ef_rm_sC_1 (m : MethodId) (x0 : Addr) (x1 : Addr) : entryFrame m #[(.ref x0), (.ref x1)] 2 = mkF m 0 #[vr x0, vr x1] [] := by first | (simp [entryFrame, mkF, argsToLocals, Value.category]; done) | rfl
theorem d3_0 : decode jdk_42_method_3_code 0 = .ok (.aload_n 0, 1) := by decide +kernel
theorem d3_1 : decode jdk_42_method_3_code 1 = .ok (.aload_n 1, 1) := by decide +kernel
theorem d3_2 : decode jdk_42_method_3_code 2 = .ok (.iconst 0, 1) := by decide +kernel
theorem d3_3 : decode jdk_42_method_3_code 3 = .ok (.aload_n 1, 1) := by decide +kernel
theorem d3_4 : decode jdk_42_method_3_code 4 = .ok (.arraylength, 1) := by decide +kernel
theorem d3_5 : decode jdk_42_method_3_code 5 = .ok (.aconst_null, 1) := by decide +kernel
theorem d3_6 : decode jdk_42_method_3_code 6 = .ok (.invokespecial 27, 3) := by decide +kernel
theorem pd_7 : parseMethodDescriptor "([CIILjava/lang/Void;)V" = some ⟨[(.array .char), .int, .int, (.object "java/lang/Void")], none⟩ := by decide +kernel
theorem d3_9 : decode jdk_42_method_3_code 9 = .ok (.return_, 1) := by decide +kernel
def Q_rm_sC_1 (Z : State) (a1 : Addr) (v1 : Addr) (ka : ClassId) (c0 : Int32) (cs : Int32) (h0 : Heap) (n0 : Nat) (vv : Option Value) (h : Heap) (L : List Loc) : Prop := ∃ t : Addr, ∃ k : ClassId, ∃ u : Bool, vv = none ∧ Fr n0 L ∧ Keep h0 h [a1] ∧ Exa Z h a1 "java/lang/String" ∧ Fld Z h a1 "java/lang/String" "value" "[B" (.ref t) ∧ h0.size ≤ t ∧ (u = false → ¬ (255 : Int32) < c0) ∧ (u = false → Arv Z h t k .byte (1 : Int32) [(.int (nar .byte (c0.toInt8.toInt32)))] (.int 0)) ∧ (u = true → Arv Z h t k .byte (2 : Int32) [(.int (own_b0 c0)), (.int (own_b1 c0))] (.int 0)) ∧ (u = false → Fld Z h a1 "java/lang/String" "coder" "B" (.int 0)) ∧ (u = true → Fld Z h a1 "java/lang/String" "coder" "B" (.int 1))
set_option maxRecDepth 65536 in
set_option maxHeartbeats 40000000 in
theorem rm_sC_1 (l : Launch) (Z : State) (a0 : Array Value) (hw : HW a0 Z) (ws : List Jvm.Cond) (a1 : Addr) (v1 : Addr) (ka : ClassId) (c0 : Int32) (cs : Int32) (h0 : Heap) (n0 : Nat) (Z0 : n0 ≤ h0.size) (pr0 : Old Z n0 h0) (pr1 : Sta Z Z.heap "java/lang/String" "COMPACT_STRINGS" "Z" (.int cs)) (hcs : ¬ (cs = (0 : Int32))) (pr3 : Sta Z Z.heap "java/lang/StringUTF16" "$assertionsDisabled" "Z" (.int 1)) (pr4 : Sta Z Z.heap "java/lang/StringUTF16" "HI_BYTE_SHIFT" "I" (.int 0)) (pr5 : Sta Z Z.heap "java/lang/StringUTF16" "LO_BYTE_SHIFT" "I" (.int 8)) (pr6 : Exa Z h0 a1 "java/lang/String") (pr7 : Fld Z h0 a1 "java/lang/String" "value" "[B" .null) (pr8 : Fld Z h0 a1 "java/lang/String" "coder" "B" (.int 0)) (pr9 : n0 ≤ a1) (pr10 : Arv Z h0 v1 ka .char (1 : Int32) [(.int c0)] (.int 0)) (hr0 : own_rng c0) :
    Met l Z Y5 jdk_42_method_3_code 2 none ws ({ frames := 5, cells := 2, slots := 3, locals := 74 } : Room) #[(.ref a1), (.ref v1)] h0 (Q_rm_sC_1 Z a1 v1 ka c0 cs h0 n0) := by
  refine Met.enter (f0 := fun m => mkF m 0 #[vr a1, vr v1] []) (plainFor_of_name pn_java_lang_String) (fun m => ef_rm_sC_1 m a1 v1) ?_
  intro p e s m below meth c s₁ hx hby hml hown hnm hret hlk hZ X0 e0
  have hown : s.vm.findClass "java/lang/String" = some m.cls := hown
  have hnm : meth.name = "<init>" := hnm
  have hml : c.maxLocals = 2 := hml
  have dk : ∀ {i : Nat} {r : Except DecodeError (Instr × Nat)}, decode jdk_42_method_3_code i = r → decode c.code i = r := fun h => hb hby h
  have N0 := Fr.nil n0
  refine gy (St s₁ m 4 #[vr a1, vr v1] [(.ref v1), (.int 0), (.ref v1), (.ref a1)]) (fun _ k => XS.aloadN X0.here hx rfl (dk d3_0) rfl rfl (XS.aloadN X0.here hx rfl (dk d3_1) rfl rfl (XS.iconst X0.here hx rfl (dk d3_2) (XS.aloadN X0.here hx rfl (dk d3_3) rfl rfl k)))) ?_
  obtain ⟨cl132, Ar132, q132, S132, N_132, Hs132, G132⟩ := id pr10
  refine gy (St s₁ m 5 #[vr a1, vr v1] [(.int 1), (.int 0), (.ref v1), (.ref a1)]) (fun _ k => X0.arraylength hx (by rw [e0]; exact Ar132.1) (State.isArrayOf_alike hZ.alike Ar132.2.1) (g := (mkF m 4 #[vr a1, vr v1] [(.ref v1), (.int 0), (.ref v1), (.ref a1)])) rfl rfl (dk d3_4) _ (by rw [len_of S132 N_132]; exact k)) ?_
  refine gy (St s₁ m 6 #[vr a1, vr v1] [.null, (.int 1), (.int 0), (.ref v1), (.ref a1)]) (fun _ k => XS.aconstNull X0.here hx rfl (dk d3_5) k) ?_
  obtain ⟨_, _, ⟨T133, L133, k133, n133⟩, -, X133, ⟨Lc133, hQ133, l133, y133, z133⟩, st133⟩ := X0.specialBack hx (y := Y6) rfl hown (mvT hZ (wd hw 16 rfl)) (mvT hZ (wd hw 17 rfl)) (mvT hZ (wd hw 19 rfl)) (by decide) (backOf (W := 0) (rm_sV_1 l Z a0 hw [] a1 v1 ka c0 cs h0 n0 Z0 pr0 pr1 hcs pr3 pr4 pr5 pr6 pr7 pr8 pr9 pr10 hr0) hZ (wd hw 19 rfl) (wd hw 11 rfl) (by decide) (by decide)) (g := (mkF m 6 #[vr a1, vr v1] [.null, (.int 1), (.int 0), (.ref v1), (.ref a1)])) rfl (by rw [hml]; rfl) (Steps.refl _) (a := a1) (argsL := [(.ref v1), (.int 0), (.int 1), .null]) (rest := []) (lenOf pd_7 rfl) rfl (by show 2 * 0 + _ ≤ _; exact Nat.le_of_eq rfl) (dk d3_6) (fun _ _ => ⟨rfl, e0, Nat.le_of_ble_eq_true rfl, Nat.le_of_ble_eq_true rfl⟩)
  dsimp only [Pt.U, Pt.locs, Pt.cells, Pt.slots] at X133 l133 y133 z133 st133 hQ133
  subst l133 y133 z133
  obtain ⟨t133, k133, u133, rfl, Nq133, K133, p133_0, p133_1, p133_2, p133_3, p133_4, p133_5, p133_6, p133_7⟩ := hQ133
  have N133 := Fr.app N0 Nq133
  have O134 := pr0.keep K133 (allS pr9 all0)
  have Z134 : n0 ≤ T133.heap.size := Nat.le_trans Z0 K133.1
  have sz_t133 : h0.size ≤ t133 := p133_2
  refine gy (St T133 m 9 #[vr a1, vr v1] []) (fun _ k => st133.trans k) ?_
  refine Go.retV X133 hx hlk hret (dk d3_9) (by decide) (by decide) ?_
  exact ⟨t133, k133, u133, rfl, N133, ((Keep.refl h0 [a1]).trans K133 (allS (Or.inl (List.mem_of_getElem? (i := 0) rfl)) all0)), p133_0, p133_1, (Nat.le_trans (Nat.le_refl _) sz_t133), p133_3, p133_4, p133_5, p133_6, p133_7⟩
theorem ef_rm_nbl_2 (m : MethodId)  : entryFrame m #[(.int 2)] 1 = mkF m 0 #[vi 2] [] := by first | (simp [entryFrame, mkF, argsToLocals, Value.category]; done) | rfl
def Q_rm_nbl_2 (Z : State)  (h0 : Heap) (n0 : Nat) (vv : Option Value) (h : Heap) (L : List Loc) : Prop := vv = some (.int 4) ∧ Fr n0 L ∧ h = h0
set_option maxRecDepth 65536 in
set_option maxHeartbeats 40000000 in
theorem rm_nbl_2 (l : Launch) (Z : State) (a0 : Array Value) (hw : HW a0 Z) (ws : List Jvm.Cond)  (h0 : Heap) (n0 : Nat) (Z0 : n0 ≤ h0.size) :
    Met l Z Y21 jdk_52_method_3_code 1 (some .int) ws ({ frames := 0, cells := 0, slots := 0, locals := 0 } : Room) #[(.int 2)] h0 (Q_rm_nbl_2 Z  h0 n0) := by
  refine Met.enter (f0 := fun m => mkF m 0 #[vi 2] []) (plainFor_of_name pn_java_lang_StringUTF16) (fun m => ef_rm_nbl_2 m ) ?_
  intro p e s m below meth c s₁ hx hby hml hown hnm hret hlk hZ X0 e0
  have hown : s.vm.findClass "java/lang/StringUTF16" = some m.cls := hown
  have hnm : meth.name = "newBytesLength" := hnm
  have hml : c.maxLocals = 1 := hml
  have dk : ∀ {i : Nat} {r : Except DecodeError (Instr × Nat)}, decode jdk_52_method_3_code i = r → decode c.code i = r := fun h => hb hby h
  have N0 := Fr.nil n0
  refine gy (St s₁ m 58 #[vi 2] [(.int 4)]) (fun _ k => XS.iloadN X0.here hx rfl (dk d21_0) rfl (XS.ifYes X0.here hx rfl (pc0 := 1) (pc' := 12) rfl (dk d21_1) rfl ((if0 _ _).trans (flt (by decide : ¬ ((2 : Int32) < (0 : Int32)))).2.1) (by decide) (by decide) (XS.iloadN X0.here hx rfl (dk d21_12) rfl (X0.ldcInt hx hown (mvT hZ (wd hw 93 rfl)) (g := (mkF m 13 #[vi 2] [(.int 2)])) rfl (dk d21_13) _ (XS.icmpYes X0.here hx rfl (pc0 := 15) (pc' := 55) rfl (dk d21_15) rfl (tlt (by decide : (2 : Int32) < (1073741823 : Int32))).1 (by decide) (by decide) (XS.iloadN X0.here hx rfl (dk d21_55) rfl (XS.iconst X0.here hx rfl (dk d21_56) (XS.ishl X0.here hx rfl (dk d21_57) rfl k)))))))) ?_
  refine Go.ret X0 hx hlk (t := .int) hret rfl (Or.inl ⟨rfl, by simp, _, rfl⟩) (dk d21_58) (by decide) (by decide) ?_
  rw [e0]
  exact ⟨rfl, N0, rfl⟩
theorem ef_rm_nbf_2 (m : MethodId)  : entryFrame m #[(.int 2)] 1 = mkF m 0 #[vi 2] [] := by first | (simp [entryFrame, mkF, argsToLocals, Value.category]; done) | rfl
def Q_rm_nbf_2 (Z : State)  (h0 : Heap) (n0 : Nat) (vv : Option Value) (h : Heap) (L : List Loc) : Prop := ∃ b : Addr, ∃ k : ClassId, vv = some (.ref b) ∧ Fr n0 L ∧ Keep h0 h [] ∧ Arv Z h b k .byte (4 : Int32) [(.int 0), (.int 0), (.int 0), (.int 0)] (.int 0) ∧ h0.size ≤ b
set_option maxRecDepth 65536 in
set_option maxHeartbeats 40000000 in
theorem rm_nbf_2 (l : Launch) (Z : State) (a0 : Array Value) (hw : HW a0 Z) (ws : List Jvm.Cond)  (h0 : Heap) (n0 : Nat) (Z0 : n0 ≤ h0.size) (pr0 : Old Z n0 h0) :
    Met l Z Y20 jdk_52_method_2_code 1 (some (.array .byte)) ws ({ frames := 1, cells := 1, slots := 4, locals := 12 } : Room) #[(.int 2)] h0 (Q_rm_nbf_2 Z  h0 n0) := by
  refine Met.enter (f0 := fun m => mkF m 0 #[vi 2] []) (plainFor_of_name pn_java_lang_StringUTF16) (fun m => ef_rm_nbf_2 m ) ?_
  intro p e s m below meth c s₁ hx hby hml hown hnm hret hlk hZ X0 e0
  have hown : s.vm.findClass "java/lang/StringUTF16" = some m.cls := hown
  have hnm : meth.name = "newBytesFor" := hnm
  have hml : c.maxLocals = 1 := hml
  have dk : ∀ {i : Nat} {r : Except DecodeError (Instr × Nat)}, decode jdk_52_method_2_code i = r → decode c.code i = r := fun h => hb hby h
  have N0 := Fr.nil n0
  refine gy (St s₁ m 1 #[vi 2] [(.int 2)]) (fun _ k => XS.iloadN X0.here hx rfl (dk d20_0) rfl k) ?_
  obtain ⟨_, _, ⟨T135, L135, k135, n135⟩, -, X135, ⟨Lc135, hQ135, l135, y135, z135⟩, st135⟩ := Jvm.LawKit.callS X0 hx (y := Y21) hown (mvT hZ (wd hw 90 rfl)) (mvT hZ (wd hw 91 rfl)) (mvT hZ (wd hw 48 rfl)) (mvT hZ (wd hw 92 rfl)) (by decide) (backOf (W := 0) (rm_nbl_2 l Z a0 hw []  h0 n0 Z0 ) hZ (wd hw 92 rfl) (wd hw 48 rfl) (by decide) (by decide)) (g := (mkF m 1 #[vi 2] [(.int 2)])) rfl (by rw [hml]; rfl) (argsL := [(.int 2)]) (rest := []) (lenOf pd_0 rfl) rfl (by show 2 * 0 + _ ≤ _; exact Nat.le_of_eq rfl) (dk d20_1) (fun _ _ => ⟨rfl, e0, Nat.le_of_ble_eq_true rfl, Nat.le_of_ble_eq_true rfl⟩)
  dsimp only [Pt.U, Pt.locs, Pt.cells, Pt.slots] at X135 l135 y135 z135 st135 hQ135
  subst l135 y135 z135
  obtain ⟨rfl, Nq135, hh135⟩ := hQ135
  have N135 := Fr.app N0 Nq135
  refine gy (St T135 m 4 #[vi 2] [(.int 4)]) (fun _ k => st135 _ k) ?_
  obtain ⟨T136, h136, k136, X136, e136, E136, A136, st136⟩ := newP X135 hx hZ (wd hw 24 rfl) hh135 (g := (mkF m 4 #[vi 2] [(.int 4)])) rfl (dk d20_4) rfl (by decide) (cap := 4) (by decide) (by decide) (by decide) (by decide)
  obtain ⟨b136, g136⟩ : ∃ z, z = h0.size := ⟨_, rfl⟩
  rw [← g136] at A136 st136
  have sz_b136 : h0.size ≤ b136 := Nat.le_of_eq g136.symm
  have V136 : Arv Z h136 b136 k136 .byte (4 : Int32) [(.int 0), (.int 0), (.int 0), (.int 0)] (.int 0) := (Arv.new A136 (by decide)).pad (pad_rep [] (.int 0) 4)
  have O137 := pr0.ext E136
  have Z137 : n0 ≤ h136.size := Nat.le_trans Z0 E136.1
  refine gy (St T136 m 6 #[vi 2] [(.ref b136)]) st136 ?_
  refine Go.ret X136 hx hlk (t := (.array .byte)) hret rfl (Or.inr (Or.inr (Or.inr (Or.inr ⟨rfl, rfl, rfl⟩)))) (dk d20_6) (by decide) (by decide) ?_
  rw [e136]
  exact ⟨b136, k136, rfl, N135, ((Keep.refl h0 []).ext E136), V136, (Nat.le_trans (Nat.le_refl _) sz_b136)⟩
theorem ef_rm_tb_2 (m : MethodId) (x0 : Addr) : entryFrame m #[(.ref x0), (.int 0), (.int 2)] 5 = mkF m 0 #[vr x0, vi 0, vi 2, .unset, .unset] [] := by first | (simp [entryFrame, mkF, argsToLocals, Value.category]; done) | rfl
def Q_rm_tb_2 (Z : State) (a1 : Addr) (ka : ClassId) (c0 : Int32) (c1 : Int32) (h0 : Heap) (n0 : Nat) (vv : Option Value) (h : Heap) (L : List Loc) : Prop := ∃ b : Addr, ∃ k : ClassId, vv = some (.ref b) ∧ Fr n0 L ∧ Keep h0 h [] ∧ Arv Z h b k .byte (4 : Int32) [(.int (own_b0 c0)), (.int (own_b1 c0)), (.int (own_b0 c1)), (.int (own_b1 c1))] (.int 0) ∧ h0.size ≤ b
set_option maxRecDepth 65536 in
set_option maxHeartbeats 40000000 in
theorem rm_tb_2 (l : Launch) (Z : State) (a0 : Array Value) (hw : HW a0 Z) (ws : List Jvm.Cond) (a1 : Addr) (ka : ClassId) (c0 : Int32) (c1 : Int32) (h0 : Heap) (n0 : Nat) (Z0 : n0 ≤ h0.size) (pr0 : Old Z n0 h0) (pr1 : Sta Z Z.heap "java/lang/StringUTF16" "$assertionsDisabled" "Z" (.int 1)) (pr2 : Sta Z Z.heap "java/lang/StringUTF16" "HI_BYTE_SHIFT" "I" (.int 0)) (pr3 : Sta Z Z.heap "java/lang/StringUTF16" "LO_BYTE_SHIFT" "I" (.int 8)) (pr4 : Arv Z h0 a1 ka .char (2 : Int32) [(.int c0), (.int c1)] (.int 0)) :
    Met l Z Y23 jdk_52_method_14_code 5 (some (.array .byte)) ws ({ frames := 2, cells := 1, slots := 4, locals := 24 } : Room) #[(.ref a1), (.int 0), (.int 2)] h0 (Q_rm_tb_2 Z a1 ka c0 c1 h0 n0) := by
  refine Met.enter (f0 := fun m => mkF m 0 #[vr a1, vi 0, vi 2, .unset, .unset] []) (plainFor_of_name pn_java_lang_StringUTF16) (fun m => ef_rm_tb_2 m a1) ?_
  intro p e s m below meth c s₁ hx hby hml hown hnm hret hlk hZ X0 e0
  have hown : s.vm.findClass "java/lang/StringUTF16" = some m.cls := hown
  have hnm : meth.name = "toBytes" := hnm
  have hml : c.maxLocals = 5 := hml
  have dk : ∀ {i : Nat} {r : Except DecodeError (Instr × Nat)}, decode jdk_52_method_14_code i = r → decode c.code i = r := fun h => hb hby h
  have N0 := Fr.nil n0
  refine gy (St s₁ m 1 #[vr a1, vi 0, vi 2, .unset, .unset] [(.int 2)]) (fun _ k => XS.iloadN X0.here hx rfl (dk d19_0) rfl k) ?_
  obtain ⟨_, _, ⟨T138, L138, k138, n138⟩, -, X138, ⟨Lc138, hQ138, l138, y138, z138⟩, st138⟩ := Jvm.LawKit.callS X0 hx (y := Y20) hown (mvT hZ (wd hw 87 rfl)) (mvT hZ (wd hw 88 rfl)) (mvT hZ (wd hw 48 rfl)) (mvT hZ (wd hw 89 rfl)) (by decide) (backOf (W := 0) (rm_nbf_2 l Z a0 hw []  h0 n0 Z0 pr0) hZ (wd hw 89 rfl) (wd hw 48 rfl) (by decide) (by decide)) (g := (mkF m 1 #[vr a1, vi 0, vi 2, .unset, .unset] [(.int 2)])) rfl (by rw [hml]; rfl) (argsL := [(.int 2)]) (rest := []) (lenOf pd_1 rfl) rfl (by show 2 * 0 + _ ≤ _; exact Nat.le_of_eq rfl) (dk d19_1) (fun _ _ => ⟨rfl, e0, Nat.le_of_ble_eq_true rfl, Nat.le_of_ble_eq_true rfl⟩)
  dsimp only [Pt.U, Pt.locs, Pt.cells, Pt.slots] at X138 l138 y138 z138 st138 hQ138
  subst l138 y138 z138
  obtain ⟨b138, k138, rfl, Nq138, K138, p138_0, p138_1⟩ := hQ138
  have N138 := Fr.app N0 Nq138
  have O139 := pr0.keep K138 all0
  have Z139 : n0 ≤ T138.heap.size := Nat.le_trans Z0 K138.1
  have sz_b138 : h0.size ≤ b138 := p138_1
  refine gy (St T138 m 4 #[vr a1, vi 0, vi 2, .unset, .unset] [(.ref b138)]) (fun _ k => st138 _ k) ?_
  refine gy (St T138 m 17 #[vr a1, vi 0, vi 2, vr b138, vi 0] [(.int 0), (.ref b138)]) (fun _ k => XS.astoreN X138.here hx rfl (dk d19_4) rfl rfl (l' := #[vr a1, vi 0, vi 2, vr b138, .unset]) rfl (XS.iconst X138.here hx rfl (dk d19_5) (XS.istore X138.here hx rfl (dk d19_6) rfl (l' := #[vr a1, vi 0, vi 2, vr b138, vi 0]) rfl (XS.iload X138.here hx rfl (dk d19_8) rfl (XS.iloadN X138.here hx rfl (dk d19_10) rfl (XS.icmpNo X138.here hx rfl (dk d19_11) rfl (tlt (by decide : (0 : Int32) < (2 : Int32))).2.1 (XS.aloadN X138.here hx rfl (dk d19_14) rfl rfl (XS.iload X138.here hx rfl (dk d19_15) rfl k)))))))) ?_
  refine gy (St T138 m 19 #[vr a1, vi 0, vi 2, vr b138, vi 0] [(.int 0), (.ref a1), (.int 0), (.ref b138)]) (fun _ k => XS.aloadN X138.here hx rfl (dk d19_17) rfl rfl (XS.iloadN X138.here hx rfl (dk d19_18) rfl k)) ?_
  obtain ⟨cl140, Ar140, q140, S140, N_140, Hs140, G140⟩ := id (pr4.keep K138 nin0)
  have hin141 : ¬ ((0 : Int32) < 0 ∨ cl140.slots.size ≤ ((0 : Int32)).toNatClampNeg) := inb_of S140 ⟨by decide, by decide⟩
  have hat141 : cl140.slots[((0 : Int32)).toNatClampNeg]? = some (.int c0) := Hs140.at hin141 rfl
  refine gy (St T138 m 20 #[vr a1, vi 0, vi 2, vr b138, vi 0] [(.int c0), (.int 0), (.ref b138)]) (fun _ k => X138.caload hx (j := (0 : Int32)) (v := (.int c0)) Ar140.1 (State.isArrayOf_alike hZ.alike Ar140.2.1) Ar140.2.2 hin141 hat141 (g := (mkF m 19 #[vr a1, vi 0, vi 2, vr b138, vi 0] [(.int 0), (.ref a1), (.int 0), (.ref b138)])) rfl rfl (dk d19_19) _ k) ?_
  obtain ⟨_, _, ⟨T142, L142, k142, n142⟩, -, X142, ⟨Lc142, hQ142, l142, y142, z142⟩, st142⟩ := Jvm.LawKit.callS X138 hx (y := Y22) hown (mvT hZ (wd hw 94 rfl)) (mvT hZ (wd hw 95 rfl)) (mvT hZ (wd hw 48 rfl)) (mvT hZ (wd hw 96 rfl)) (by decide) (backOf (W := 0) (rm_put_0 l Z a0 hw [] b138 k138 c0 (4 : Int32) [(.int 0), (.int 0), (.int 0), (.int 0)] T138.heap n0 Z139 O139 pr1 pr2 pr3 p138_0 (Nat.le_trans Z0 sz_b138) (by decide) (by decide) (Nat.le_of_ble_eq_true rfl) (Nat.le_of_ble_eq_true rfl)) hZ (wd hw 96 rfl) (wd hw 48 rfl) (by decide) (by decide)) (g := (mkF m 20 #[vr a1, vi 0, vi 2, vr b138, vi 0] [(.int c0), (.int 0), (.ref b138)])) rfl (by rw [hml]; rfl) (argsL := [(.ref b138), (.int 0), (.int c0)]) (rest := []) (lenOf pd_2 rfl) rfl (by show 2 * 0 + _ ≤ _; exact Nat.le_of_eq rfl) (dk d19_20) (fun _ _ => ⟨rfl, rfl, Nat.le_of_ble_eq_true rfl, Nat.le_of_ble_eq_true rfl⟩)
  dsimp only [Pt.U, Pt.locs, Pt.cells, Pt.slots] at X142 l142 y142 z142 st142 hQ142
  subst l142 y142 z142
  obtain ⟨rfl, Nq142, K142, p142_0⟩ := hQ142
  have N142 := Fr.app N138 Nq142
  have O143 := O139.keep K142 (allS (Nat.le_trans Z0 sz_b138) all0)
  have Z143 : n0 ≤ T142.heap.size := Nat.le_trans Z139 K142.1
  have p142_0 : Arv Z T142.heap b138 k138 .byte (4 : Int32) [(.int (own_b0 c0)), (.int (own_b1 c0)), (.int 0), (.int 0)] (.int 0) := p142_0
  refine gy (St T142 m 23 #[vr a1, vi 0, vi 2, vr b138, vi 0] []) (fun _ k => st142 _ k) ?_
  refine gy (St T142 m 17 #[vr a1, vi 1, vi 2, vr b138, vi 1] [(.int 1), (.ref b138)]) (fun _ k => XS.iinc X142.here hx rfl (dk d19_23) rfl (l' := #[vr a1, vi 1, vi 2, vr b138, vi 0]) rfl (XS.iinc X142.here hx rfl (dk d19_26) rfl (l' := #[vr a1, vi 1, vi 2, vr b138, vi 1]) rfl (XS.goto X142.here hx rfl (pc0 := 29) (pc' := 8) rfl (dk d19_29) (by decide) (by decide) (XS.iload X142.here hx rfl (dk d19_8) rfl (XS.iloadN X142.here hx rfl (dk d19_10) rfl (XS.icmpNo X142.here hx rfl (dk d19_11) rfl (tlt (by decide : (1 : Int32) < (2 : Int32))).2.1 (XS.aloadN X142.here hx rfl (dk d19_14) rfl rfl (XS.iload X142.here hx rfl (dk d19_15) rfl k)))))))) ?_
  refine gy (St T142 m 19 #[vr a1, vi 1, vi 2, vr b138, vi 1] [(.int 1), (.ref a1), (.int 1), (.ref b138)]) (fun _ k => XS.aloadN X142.here hx rfl (dk d19_17) rfl rfl (XS.iloadN X142.here hx rfl (dk d19_18) rfl k)) ?_
  have f145 := ((pr4.keep K138 nin0).keep K142 (ninS (Nat.ne_of_lt (Nat.lt_of_lt_of_le pr4.lt sz_b138)) nin0))
  obtain ⟨cl144, Ar144, q144, S144, N_144, Hs144, G144⟩ := id f145
  have hin146 : ¬ ((1 : Int32) < 0 ∨ cl144.slots.size ≤ ((1 : Int32)).toNatClampNeg) := inb_of S144 ⟨by decide, by decide⟩
  have hat146 : cl144.slots[((1 : Int32)).toNatClampNeg]? = some (.int c1) := Hs144.at hin146 rfl
  refine gy (St T142 m 20 #[vr a1, vi 1, vi 2, vr b138, vi 1] [(.int c1), (.int 1), (.ref b138)]) (fun _ k => X142.caload hx (j := (1 : Int32)) (v := (.int c1)) Ar144.1 (State.isArrayOf_alike hZ.alike Ar144.2.1) Ar144.2.2 hin146 hat146 (g := (mkF m 19 #[vr a1, vi 1, vi 2, vr b138, vi 1] [(.int 1), (.ref a1), (.int 1), (.ref b138)])) rfl rfl (dk d19_19) _ k) ?_
  obtain ⟨_, _, ⟨T147, L147, k147, n147⟩, -, X147, ⟨Lc147, hQ147, l147, y147, z147⟩, st147⟩ := Jvm.LawKit.callS X142 hx (y := Y22) hown (mvT hZ (wd hw 94 rfl)) (mvT hZ (wd hw 95 rfl)) (mvT hZ (wd hw 48 rfl)) (mvT hZ (wd hw 96 rfl)) (by decide) (backOf (W := 0) (rm_put_1 l Z a0 hw [] b138 k138 c1 (4 : Int32) [(.int (own_b0 c0)), (.int (own_b1 c0)), (.int 0), (.int 0)] T142.heap n0 Z143 O143 pr1 pr2 pr3 p142_0 (Nat.le_trans Z0 sz_b138) (by decide) (by decide) (Nat.le_of_ble_eq_true rfl) (Nat.le_of_ble_eq_true rfl)) hZ (wd hw 96 rfl) (wd hw 48 rfl) (by decide) (by decide)) (g := (mkF m 20 #[vr a1, vi 1, vi 2, vr b138, vi 1] [(.int c1), (.int 1), (.ref b138)])) rfl (by rw [hml]; rfl) (argsL := [(.ref b138), (.int 1), (.int c1)]) (rest := []) (lenOf pd_2 rfl) rfl (by show 2 * 0 + _ ≤ _; exact Nat.le_of_eq rfl) (dk d19_20) (fun _ _ => ⟨rfl, rfl, Nat.le_of_ble_eq_true rfl, Nat.le_of_ble_eq_true rfl⟩)
  dsimp only [Pt.U, Pt.locs, Pt.cells, Pt.slots] at X147 l147 y147 z147 st147 hQ147
  subst l147 y147 z147
  obtain ⟨rfl, Nq147, K147, p147_0⟩ := hQ147
  have N147 := Fr.app N142 Nq147
  have O148 := O143.keep K147 (allS (Nat.le_trans Z0 sz_b138) all0)
  have Z148 : n0 ≤ T147.heap.size := Nat.le_trans Z143 K147.1
  have p147_0 : Arv Z T147.heap b138 k138 .byte (4 : Int32) [(.int (own_b0 c0)), (.int (own_b1 c0)), (.int (own_b0 c1)), (.int (own_b1 c1))] (.int 0) := p147_0
  refine gy (St T147 m 23 #[vr a1, vi 1, vi 2, vr b138, vi 1] []) (fun _ k => st147 _ k) ?_
  refine gy (St T147 m 33 #[vr a1, vi 2, vi 2, vr b138, vi 2] [(.ref b138)]) (fun _ k => XS.iinc X147.here hx rfl (dk d19_23) rfl (l' := #[vr a1, vi 2, vi 2, vr b138, vi 1]) rfl (XS.iinc X147.here hx rfl (dk d19_26) rfl (l' := #[vr a1, vi 2, vi 2, vr b138, vi 2]) rfl (XS.goto X147.here hx rfl (pc0 := 29) (pc' := 8) rfl (dk d19_29) (by decide) (by decide) (XS.iload X147.here hx rfl (dk d19_8) rfl (XS.iloadN X147.here hx rfl (dk d19_10) rfl (XS.icmpYes X147.here hx rfl (pc0 := 11) (pc' := 32) rfl (dk d19_11) rfl (flt (by decide : ¬ ((2 : Int32) < (2 : Int32)))).2.1 (by decide) (by decide) (XS.aloadN X147.here hx rfl (dk d19_32) rfl rfl k))))))) ?_
  refine Go.ret X147 hx hlk (t := (.array .byte)) hret rfl (Or.inr (Or.inr (Or.inr (Or.inr ⟨rfl, rfl, rfl⟩)))) (dk d19_33) (by decide) (by decide) ?_
  exact ⟨b138, k138, rfl, N147, ((((Keep.refl h0 []).trans K138 all0).trans K142 (allS (Or.inr (Nat.le_trans (Nat.le_refl _) sz_b138)) all0)).trans K147 (allS (Or.inr (Nat.le_trans (Nat.le_refl _) sz_b138)) all0)), p147_0, (Nat.le_trans (Nat.le_refl _) sz_b138)⟩
theorem ef_rm_cfal_2_0 (m : MethodId) (x0 : Addr) : entryFrame m #[(.ref x0), (.int 2)] 2 = mkF m 0 #[vr x0, vi 2] [] := by first | (simp [entryFrame, mkF, argsToLocals, Value.category]; done) | rfl
def Q_rm_cfal_2_0 (Z : State) (b1 : Addr) (kb : ClassId) (c0 : Int32) (c1 : Int32) (h0 : Heap) (n0 : Nat) (vv : Option Value) (h : Heap) (L : List Loc) : Prop := vv = some (.int 0) ∧ Fr n0 L ∧ h = h0
set_option maxRecDepth 65536 in
set_option maxHeartbeats 40000000 in
theorem rm_cfal_2_0 (l : Launch) (Z : State) (a0 : Array Value) (hw : HW a0 Z) (ws : List Jvm.Cond) (b1 : Addr) (kb : ClassId) (c0 : Int32) (c1 : Int32) (h0 : Heap) (n0 : Nat) (Z0 : n0 ≤ h0.size) (pr0 : Arv Z h0 b1 kb .byte (2 : Int32) [(.int (nar .byte (c0.toInt8.toInt32))), (.int (nar .byte (c1.toInt8.toInt32)))] (.int 0)) :
    Met l Z Y15 jdk_52_method_15_code 2 (some .byte) ws ({ frames := 0, cells := 0, slots := 0, locals := 0 } : Room) #[(.ref b1), (.int 2)] h0 (Q_rm_cfal_2_0 Z b1 kb c0 c1 h0 n0) := by
  refine Met.enter (f0 := fun m => mkF m 0 #[vr b1, vi 2] []) (plainFor_of_name pn_java_lang_StringUTF16) (fun m => ef_rm_cfal_2_0 m b1) ?_
  intro p e s m below meth c s₁ hx hby hml hown hnm hret hlk hZ X0 e0
  have hown : s.vm.findClass "java/lang/StringUTF16" = some m.cls := hown
  have hnm : meth.name = "coderFromArrayLen" := hnm
  have hml : c.maxLocals = 2 := hml
  have dk : ∀ {i : Nat} {r : Except DecodeError (Instr × Nat)}, decode jdk_52_method_15_code i = r → decode c.code i = r := fun h => hb hby h
  have N0 := Fr.nil n0
  refine gy (St s₁ m 2 #[vr b1, vi 2] [(.ref b1), (.int 2)]) (fun _ k => XS.iloadN X0.here hx rfl (dk d11_0) rfl (XS.aloadN X0.here hx rfl (dk d11_1) rfl rfl k)) ?_
  obtain ⟨cl149, Ar149, q149, S149, N_149, Hs149, G149⟩ := id pr0
  refine gy (St s₁ m 3 #[vr b1, vi 2] [(.int 2), (.int 2)]) (fun _ k => X0.arraylength hx (by rw [e0]; exact Ar149.1) (State.isArrayOf_alike hZ.alike Ar149.2.1) (g := (mkF m 2 #[vr b1, vi 2] [(.ref b1), (.int 2)])) rfl rfl (dk d11_2) _ (by rw [len_of S149 N_149]; exact k)) ?_
  refine gy (St s₁ m 8 #[vr b1, vi 2] [(.int 0)]) (fun _ k => XS.isub X0.here hx rfl (dk d11_3) rfl (XS.bipush X0.here hx rfl (dk d11_4) (XS.iushr X0.here hx rfl (dk d11_6) rfl (XS.i2b X0.here hx rfl (dk d11_7) rfl k)))) ?_
  refine Go.ret X0 hx hlk (t := .byte) hret rfl (Or.inl ⟨rfl, by simp, _, rfl⟩) (dk d11_8) (by decide) (by decide) ?_
  rw [e0]
  exact ⟨rfl, N0, rfl⟩
theorem ef_rm_cfal_2_1 (m : MethodId) (x0 : Addr) : entryFrame m #[(.ref x0), (.int 2)] 2 = mkF m 0 #[vr x0, vi 2] [] := by first | (simp [entryFrame, mkF, argsToLocals, Value.category]; done) | rfl
def Q_rm_cfal_2_1 (Z : State) (b1 : Addr) (kb : ClassId) (c0 : Int32) (c1 : Int32) (h0 : Heap) (n0 : Nat) (vv : Option Value) (h : Heap) (L : List Loc) : Prop := vv = some (.int 1) ∧ Fr n0 L ∧ h = h0
set_option maxRecDepth 65536 in
set_option maxHeartbeats 40000000 in
theorem rm_cfal_2_1 (l : Launch) (Z : State) (a0 : Array Value) (hw : HW a0 Z) (ws : List Jvm.Cond) (b1 : Addr) (kb : ClassId) (c0 : Int32) (c1 : Int32) (h0 : Heap) (n0 : Nat) (Z0 : n0 ≤ h0.size) (pr0 : Arv Z h0 b1 kb .byte (4 : Int32) [(.int (own_b0 c0)), (.int (own_b1 c0)), (.int (own_b0 c1)), (.int (own_b1 c1))] (.int 0)) :
    Met l Z Y15 jdk_52_method_15_code 2 (some .byte) ws ({ frames := 0, cells := 0, slots := 0, locals := 0 } : Room) #[(.ref b1), (.int 2)] h0 (Q_rm_cfal_2_1 Z b1 kb c0 c1 h0 n0) := by
  refine Met.enter (f0 := fun m => mkF m 0 #[vr b1, vi 2] []) (plainFor_of_name pn_java_lang_StringUTF16) (fun m => ef_rm_cfal_2_1 m b1) ?_
  intro p e s m below meth c s₁ hx hby hml hown hnm hret hlk hZ X0 e0
  have hown : s.vm.findClass "java/lang/StringUTF16" = some m.cls := hown
  have hnm : meth.name = "coderFromArrayLen" := hnm
  have hml : c.maxLocals = 2 := hml
  have dk : ∀ {i : Nat} {r : Except DecodeError (Instr × Nat)}, decode jdk_52_method_15_code i = r → decode c.code i = r := fun h => hb hby h
  have N0 := Fr.nil n0
  refine gy (St s₁ m 2 #[vr b1, vi 2] [(.ref b1), (.int 2)]) (fun _ k => XS.iloadN X0.here hx rfl (dk d11_0) rfl (XS.aloadN X0.here hx rfl (dk d11_1) rfl rfl k)) ?_
  obtain ⟨cl150, Ar150, q150, S150, N_150, Hs150, G150⟩ := id pr0
  refine gy (St s₁ m 3 #[vr b1, vi 2] [(.int 4), (.int 2)]) (fun _ k => X0.arraylength hx (by rw [e0]; exact Ar150.1) (State.isArrayOf_alike hZ.alike Ar150.2.1) (g := (mkF m 2 #[vr b1, vi 2] [(.ref b1), (.int 2)])) rfl rfl (dk d11_2) _ (by rw [len_of S150 N_150]; exact k)) ?_
  refine gy (St s₁ m 8 #[vr b1, vi 2] [(.int 1)]) (fun _ k => XS.isub X0.here hx rfl (dk d11_3) rfl (XS.bipush X0.here hx rfl (dk d11_4) (XS.iushr X0.here hx rfl (dk d11_6) rfl (XS.i2b X0.here hx rfl (dk d11_7) rfl k)))) ?_
  refine Go.ret X0 hx hlk (t := .byte) hret rfl (Or.inl ⟨rfl, by simp, _, rfl⟩) (dk d11_8) (by decide) (by decide) ?_
  rw [e0]
  exact ⟨rfl, N0, rfl⟩
theorem ef_rm_cmp5_2 (m : MethodId) (x0 : Addr) (x2 : Addr) : entryFrame m #[(.ref x0), (.int 0), (.ref x2), (.int 0), (.int 2)] 7 = mkF m 0 #[vr x0, vi 0, vr x2, vi 0, vi 2, .unset, .unset] [] := by first | (simp [entryFrame, mkF, argsToLocals, Value.category]; done) | rfl
def Q_rm_cmp5_2 (Z : State) (a1 : Addr) (b1 : Addr) (ka : ClassId) (kb : ClassId) (c0 : Int32) (c1 : Int32) (h0 : Heap) (n0 : Nat) (vv : Option Value) (h : Heap) (L : List Loc) : Prop := ∃ r : Int32, vv = some (.int r) ∧ Fr n0 L ∧ Keep h0 h [b1] ∧ (r = (2 : Int32) → Arv Z h b1 kb .byte (2 : Int32) [(.int (nar .byte (c0.toInt8.toInt32))), (.int (nar .byte (c1.toInt8.toInt32)))] (.int 0)) ∧ ((r = (2 : Int32) ∧ ¬ (255 : Int32) < c0 ∧ ¬ (255 : Int32) < c1) ∨ (r = (0 : Int32) ∧ (255 : Int32) < c0) ∨ (r = (1 : Int32) ∧ (255 : Int32) < c1))
set_option maxRecDepth 65536 in
set_option maxHeartbeats 40000000 in
theorem rm_cmp5_2 (l : Launch) (Z : State) (a0 : Array Value) (hw : HW a0 Z) (ws : List Jvm.Cond) (a1 : Addr) (b1 : Addr) (ka : ClassId) (kb : ClassId) (c0 : Int32) (c1 : Int32) (h0 : Heap) (n0 : Nat) (Z0 : n0 ≤ h0.size) (pr0 : Old Z n0 h0) (pr1 : Arv Z h0 a1 ka .char (2 : Int32) [(.int c0), (.int c1)] (.int 0)) (pr2 : Arv Z h0 b1 kb .byte (2 : Int32) [(.int 0), (.int 0)] (.int 0)) (pr3 : n0 ≤ b1) (pr4 : a1 ≠ b1) :
    Met l Z Y17 jdk_52_method_21_code 7 (some .int) ws ({ frames := 0, cells := 0, slots := 0, locals := 0 } : Room) #[(.ref a1), (.int 0), (.ref b1), (.int 0), (.int 2)] h0 (Q_rm_cmp5_2 Z a1 b1 ka kb c0 c1 h0 n0) := by
  refine Met.enter (f0 := fun m => mkF m 0 #[vr a1, vi 0, vr b1, vi 0, vi 2, .unset, .unset] []) (plainFor_of_name pn_java_lang_StringUTF16) (fun m => ef_rm_cmp5_2 m a1 b1) ?_
  intro p e s m below meth c s₁ hx hby hml hown hnm hret hlk hZ X0 e0
  have hown : s.vm.findClass "java/lang/StringUTF16" = some m.cls := hown
  have hnm : meth.name = "compress" := hnm
  have hml : c.maxLocals = 7 := hml
  have dk : ∀ {i : Nat} {r : Except DecodeError (Instr × Nat)}, decode jdk_52_method_21_code i = r → decode c.code i = r := fun h => hb hby h
  have N0 := Fr.nil n0
  refine gy (St s₁ m 12 #[vr a1, vi 0, vr b1, vi 0, vi 2, vi 0, .unset] [(.int 0), (.ref a1)]) (fun _ k => XS.iconst X0.here hx rfl (dk d10_0) (XS.istore X0.here hx rfl (dk d10_1) rfl (l' := #[vr a1, vi 0, vr b1, vi 0, vi 2, vi 0, .unset]) rfl (XS.iload X0.here hx rfl (dk d10_3) rfl (XS.iload X0.here hx rfl (dk d10_5) rfl (XS.icmpNo X0.here hx rfl (dk d10_7) rfl (tlt (by decide : (0 : Int32) < (2 : Int32))).2.1 (XS.aloadN X0.here hx rfl (dk d10_10) rfl rfl (XS.iloadN X0.here hx rfl (dk d10_11) rfl k))))))) ?_
  obtain ⟨cl151, Ar151, q151, S151, N_151, Hs151, G151⟩ := id pr1
  have hin152 : ¬ ((0 : Int32) < 0 ∨ cl151.slots.size ≤ ((0 : Int32)).toNatClampNeg) := inb_of S151 ⟨by decide, by decide⟩
  have hat152 : cl151.slots[((0 : Int32)).toNatClampNeg]? = some (.int c0) := Hs151.at hin152 rfl
  refine gy (St s₁ m 13 #[vr a1, vi 0, vr b1, vi 0, vi 2, vi 0, .unset] [(.int c0)]) (fun _ k => X0.caload hx (j := (0 : Int32)) (v := (.int c0)) (by rw [e0]; exact Ar151.1) (State.isArrayOf_alike hZ.alike Ar151.2.1) Ar151.2.2 hin152 hat152 (g := (mkF m 12 #[vr a1, vi 0, vr b1, vi 0, vi 2, vi 0, .unset] [(.int 0), (.ref a1)])) rfl rfl (dk d10_12) _ k) ?_
  refine gy (St s₁ m 20 #[vr a1, vi 0, vr b1, vi 0, vi 2, vi 0, vi c0] [(.int 255), (.int c0)]) (fun _ k => XS.istore X0.here hx rfl (dk d10_13) rfl (l' := #[vr a1, vi 0, vr b1, vi 0, vi 2, vi 0, vi c0]) rfl (XS.iload X0.here hx rfl (dk d10_15) rfl (XS.sipush X0.here hx rfl (dk d10_17) k))) ?_
  by_cases c153 : (255 : Int32) < c0
  · skip
    refine gy (St s₁ m 25 #[vr a1, vi 0, vr b1, vi 0, vi 2, vi 0, vi c0] [(.int 0)]) (fun _ k => XS.icmpNo X0.here hx rfl (dk d10_20) rfl (tlt c153).2.2.2 (XS.iload X0.here hx rfl (dk d10_23) rfl k)) ?_
    refine Go.ret X0 hx hlk (t := .int) hret rfl (Or.inl ⟨rfl, by simp, _, rfl⟩) (dk d10_25) (by decide) (by decide) ?_
    rw [e0]
    exact ⟨(0 : Int32), rfl, N0, (Keep.refl h0 [b1]), (fun q => absurd q (by decide)), (Or.inr (Or.inl ⟨rfl, c153⟩))⟩
  · skip
    refine gy (St s₁ m 31 #[vr a1, vi 0, vr b1, vi 0, vi 2, vi 0, vi c0] [(.int (c0.toInt8.toInt32)), (.int 0), (.ref b1)]) (fun _ k => XS.icmpYes X0.here hx rfl (pc0 := 20) (pc' := 26) rfl (dk d10_20) rfl (flt c153).2.2.2 (by decide) (by decide) (XS.aloadN X0.here hx rfl (dk d10_26) rfl rfl (XS.iloadN X0.here hx rfl (dk d10_27) rfl (XS.iload X0.here hx rfl (dk d10_28) rfl (XS.i2b X0.here hx rfl (dk d10_30) rfl k))))) ?_
    obtain ⟨cl154, Ar154, q154, S154, N_154, Hs154, G154⟩ := id pr2
    have hin155 : ¬ ((0 : Int32) < 0 ∨ cl154.slots.size ≤ ((0 : Int32)).toNatClampNeg) := inb_of S154 ⟨by decide, by decide⟩
    obtain ⟨T155, h155, X155, e155, W155, st155⟩ := stB X0 hx hZ e0 Ar154 (j := (0 : Int32)) hin155 (g := (mkF m 31 #[vr a1, vi 0, vr b1, vi 0, vi 2, vi 0, vi c0] [(.int (c0.toInt8.toInt32)), (.int 0), (.ref b1)])) rfl rfl (dk d10_31)
    have O156 := pr0.wr W155 pr3
    have Z156 : n0 ≤ h155.size := Nat.le_trans Z0 (Keep.of_wr W155).1
    have V155 : Arv Z h155 b1 kb .byte (2 : Int32) [(.int (nar .byte (c0.toInt8.toInt32))), (.int 0)] (.int 0) := Arv.set Ar154 q154 S154 N_154 Hs154 G154 (fits_nar_byte _) W155 0 rfl (Nat.le_of_ble_eq_true rfl)
    have N155 := Fr.snoc X155 N0 pr3
    refine gy (St T155 m 32 #[vr a1, vi 0, vr b1, vi 0, vi 2, vi 0, vi c0] []) st155 ?_
    refine gy (St T155 m 11 #[vr a1, vi 1, vr b1, vi 1, vi 2, vi 1, vi c0] [(.ref a1)]) (fun _ k => XS.iinc X155.here hx rfl (dk d10_32) rfl (l' := #[vr a1, vi 1, vr b1, vi 0, vi 2, vi 0, vi c0]) rfl (XS.iinc X155.here hx rfl (dk d10_35) rfl (l' := #[vr a1, vi 1, vr b1, vi 1, vi 2, vi 0, vi c0]) rfl (XS.iinc X155.here hx rfl (dk d10_38) rfl (l' := #[vr a1, vi 1, vr b1, vi 1, vi 2, vi 1, vi c0]) rfl (XS.goto X155.here hx rfl (pc0 := 41) (pc' := 3) rfl (dk d10_41) (by decide) (by decide) (XS.iload X155.here hx rfl (dk d10_3) rfl (XS.iload X155.here hx rfl (dk d10_5) rfl (XS.icmpNo X155.here hx rfl (dk d10_7) rfl (tlt (by decide : (1 : Int32) < (2 : Int32))).2.1 (XS.aloadN X155.here hx rfl (dk d10_10) rfl rfl k)))))))) ?_
    refine gy (St T155 m 12 #[vr a1, vi 1, vr b1, vi 1, vi 2, vi 1, vi c0] [(.int 1), (.ref a1)]) (fun _ k => XS.iloadN X155.here hx rfl (dk d10_11) rfl k) ?_
    obtain ⟨cl157, Ar157, q157, S157, N_157, Hs157, G157⟩ := id (pr1.other W155 pr4)
    have hin158 : ¬ ((1 : Int32) < 0 ∨ cl157.slots.size ≤ ((1 : Int32)).toNatClampNeg) := inb_of S157 ⟨by decide, by decide⟩
    have hat158 : cl157.slots[((1 : Int32)).toNatClampNeg]? = some (.int c1) := Hs157.at hin158 rfl
    refine gy (St T155 m 13 #[vr a1, vi 1, vr b1, vi 1, vi 2, vi 1, vi c0] [(.int c1)]) (fun _ k => X155.caload hx (j := (1 : Int32)) (v := (.int c1)) (by rw [e155]; exact Ar157.1) (State.isArrayOf_alike hZ.alike Ar157.2.1) Ar157.2.2 hin158 hat158 (g := (mkF m 12 #[vr a1, vi 1, vr b1, vi 1, vi 2, vi 1, vi c0] [(.int 1), (.ref a1)])) rfl rfl (dk d10_12) _ k) ?_
    refine gy (St T155 m 20 #[vr a1, vi 1, vr b1, vi 1, vi 2, vi 1, vi c1] [(.int 255), (.int c1)]) (fun _ k => XS.istore X155.here hx rfl (dk d10_13) rfl (l' := #[vr a1, vi 1, vr b1, vi 1, vi 2, vi 1, vi c1]) rfl (XS.iload X155.here hx rfl (dk d10_15) rfl (XS.sipush X155.here hx rfl (dk d10_17) k))) ?_
    by_cases c159 : (255 : Int32) < c1
    · skip
      refine gy (St T155 m 25 #[vr a1, vi 1, vr b1, vi 1, vi 2, vi 1, vi c1] [(.int 1)]) (fun _ k => XS.icmpNo X155.here hx rfl (dk d10_20) rfl (tlt c159).2.2.2 (XS.iload X155.here hx rfl (dk d10_23) rfl k)) ?_
      refine Go.ret X155 hx hlk (t := .int) hret rfl (Or.inl ⟨rfl, by simp, _, rfl⟩) (dk d10_25) (by decide) (by decide) ?_
      rw [e155]
      exact ⟨(1 : Int32), rfl, N155, ((Keep.refl h0 [b1]).wr W155 (Or.inl (List.mem_of_getElem? (i := 0) rfl))), (fun q => absurd q (by decide)), (Or.inr (Or.inr ⟨rfl, c159⟩))⟩
    · skip
      refine gy (St T155 m 31 #[vr a1, vi 1, vr b1, vi 1, vi 2, vi 1, vi c1] [(.int (c1.toInt8.toInt32)), (.int 1), (.ref b1)]) (fun _ k => XS.icmpYes X155.here hx rfl (pc0 := 20) (pc' := 26) rfl (dk d10_20) rfl (flt c159).2.2.2 (by decide) (by decide) (XS.aloadN X155.here hx rfl (dk d10_26) rfl rfl (XS.iloadN X155.here hx rfl (dk d10_27) rfl (XS.iload X155.here hx rfl (dk d10_28) rfl (XS.i2b X155.here hx rfl (dk d10_30) rfl k))))) ?_
      obtain ⟨cl160, Ar160, q160, S160, N_160, Hs160, G160⟩ := id V155
      have hin161 : ¬ ((1 : Int32) < 0 ∨ cl160.slots.size ≤ ((1 : Int32)).toNatClampNeg) := inb_of S160 ⟨by decide, by decide⟩
      obtain ⟨T161, h161, X161, e161, W161, st161⟩ := stB X155 hx hZ e155 Ar160 (j := (1 : Int32)) hin161 (g := (mkF m 31 #[vr a1, vi 1, vr b1, vi 1, vi 2, vi 1, vi c1] [(.int (c1.toInt8.toInt32)), (.int 1), (.ref b1)])) rfl rfl (dk d10_31)
      have O162 := O156.wr W161 pr3
      have Z162 : n0 ≤ h161.size := Nat.le_trans Z156 (Keep.of_wr W161).1
      have V161 : Arv Z h161 b1 kb .byte (2 : Int32) [(.int (nar .byte (c0.toInt8.toInt32))), (.int (nar .byte (c1.toInt8.toInt32)))] (.int 0) := Arv.set Ar160 q160 S160 N_160 Hs160 G160 (fits_nar_byte _) W161 1 rfl (Nat.le_of_ble_eq_true rfl)
      have N161 := Fr.snoc X161 N155 pr3
      refine gy (St T161 m 32 #[vr a1, vi 1, vr b1, vi 1, vi 2, vi 1, vi c1] []) st161 ?_
      refine gy (St T161 m 46 #[vr a1, vi 2, vr b1, vi 2, vi 2, vi 2, vi c1] [(.int 2)]) (fun _ k => XS.iinc X161.here hx rfl (dk d10_32) rfl (l' := #[vr a1, vi 2, vr b1, vi 1, vi 2, vi 1, vi c1]) rfl (XS.iinc X161.here hx rfl (dk d10_35) rfl (l' := #[vr a1, vi 2, vr b1, vi 2, vi 2, vi 1, vi c1]) rfl (XS.iinc X161.here hx rfl (dk d10_38) rfl (l' := #[vr a1, vi 2, vr b1, vi 2, vi 2, vi 2, vi c1]) rfl (XS.goto X161.here hx rfl (pc0 := 41) (pc' := 3) rfl (dk d10_41) (by decide) (by decide) (XS.iload X161.here hx rfl (dk d10_3) rfl (XS.iload X161.here hx rfl (dk d10_5) rfl (XS.icmpYes X161.here hx rfl (pc0 := 7) (pc' := 44) rfl (dk d10_7) rfl (flt (by decide : ¬ ((2 : Int32) < (2 : Int32)))).2.1 (by decide) (by decide) (XS.iload X161.here hx rfl (dk d10_44) rfl k)))))))) ?_
      refine Go.ret X161 hx hlk (t := .int) hret rfl (Or.inl ⟨rfl, by simp, _, rfl⟩) (dk d10_46) (by decide) (by decide) ?_
      rw [e161]
      exact ⟨(2 : Int32), rfl, N161, (((Keep.refl h0 [b1]).wr W155 (Or.inl (List.mem_of_getElem? (i := 0) rfl))).wr W161 (Or.inl (List.mem_of_getElem? (i := 0) rfl))), (fun _ => V161), (Or.inl ⟨rfl, c153, c159⟩)⟩
theorem ef_rm_cmp3_2 (m : MethodId) (x0 : Addr) : entryFrame m #[(.ref x0), (.int 0), (.int 2)] 6 = mkF m 0 #[vr x0, vi 0, vi 2, .unset, .unset, .unset] [] := by first | (simp [entryFrame, mkF, argsToLocals, Value.category]; done) | rfl
def Q_rm_cmp3_2 (Z : State) (a1 : Addr) (ka : ClassId) (c0 : Int32) (c1 : Int32) (h0 : Heap) (n0 : Nat) (vv : Option Value) (h : Heap) (L : List Loc) : Prop := ∃ b : Addr, ∃ k : ClassId, ∃ u : Bool, vv = some (.ref b) ∧ Fr n0 L ∧ Keep h0 h [] ∧ h0.size ≤ b ∧ (u = false → ¬ (255 : Int32) < c0 ∧ ¬ (255 : Int32) < c1) ∧ (u = false → Arv Z h b k .byte (2 : Int32) [(.int (nar .byte (c0.toInt8.toInt32))), (.int (nar .byte (c1.toInt8.toInt32)))] (.int 0)) ∧ (u = true → Arv Z h b k .byte (4 : Int32) [(.int (own_b0 c0)), (.int (own_b1 c0)), (.int (own_b0 c1)), (.int (own_b1 c1))] (.int 0))
set_option maxRecDepth 65536 in
set_option maxHeartbeats 40000000 in
theorem rm_cmp3_2 (l : Launch) (Z : State) (a0 : Array Value) (hw : HW a0 Z) (ws : List Jvm.Cond) (a1 : Addr) (ka : ClassId) (c0 : Int32) (c1 : Int32) (h0 : Heap) (n0 : Nat) (Z0 : n0 ≤ h0.size) (pr0 : Old Z n0 h0) (pr1 : Sta Z Z.heap "java/lang/StringUTF16" "$assertionsDisabled" "Z" (.int 1)) (pr2 : Sta Z Z.heap "java/lang/StringUTF16" "HI_BYTE_SHIFT" "I" (.int 0)) (pr3 : Sta Z Z.heap "java/lang/StringUTF16" "LO_BYTE_SHIFT" "I" (.int 8)) (pr4 : Arv Z h0 a1 ka .char (2 : Int32) [(.int c0), (.int c1)] (.int 0)) (hr0 : own_rng c0) (hr1 : own_rng c1) :
    Met l Z Y16 jdk_52_method_16_code 6 (some (.array .byte)) ws ({ frames := 3, cells := 2, slots := 6, locals := 40 } : Room) #[(.ref a1), (.int 0), (.int 2)] h0 (Q_rm_cmp3_2 Z a1 ka c0 c1 h0 n0) := by
  refine Met.enter (f0 := fun m => mkF m 0 #[vr a1, vi 0, vi 2, .unset, .unset, .unset] []) (plainFor_of_name pn_java_lang_StringUTF16) (fun m => ef_rm_cmp3_2 m a1) ?_
  intro p e s m below meth c s₁ hx hby hml hown hnm hret hlk hZ X0 e0
  have hown : s.vm.findClass "java/lang/StringUTF16" = some m.cls := hown
  have hnm : meth.name = "compress" := hnm
  have hml : c.maxLocals = 6 := hml
  have dk : ∀ {i : Nat} {r : Except DecodeError (Instr × Nat)}, decode jdk_52_method_16_code i = r → decode c.code i = r := fun h => hb hby h
  have N0 := Fr.nil n0
  refine gy (St s₁ m 1 #[vr a1, vi 0, vi 2, .unset, .unset, .unset] [(.int 2)]) (fun _ k => XS.iloadN X0.here hx rfl (dk d9_0) rfl k) ?_
  obtain ⟨T163, h163, k163, X163, e163, E163, A163, st163⟩ := newP X0 hx hZ (wd hw 24 rfl) e0 (g := (mkF m 1 #[vr a1, vi 0, vi 2, .unset, .unset, .unset] [(.int 2)])) rfl (dk d9_1) rfl (by decide) (cap := 2) (by decide) (by decide) (by decide) (by decide)
  obtain ⟨b163, g163⟩ : ∃ z, z = h0.size := ⟨_, rfl⟩
  rw [← g163] at A163 st163
  have sz_b163 : h0.size ≤ b163 := Nat.le_of_eq g163.symm
  have V163 : Arv Z h163 b163 k163 .byte (2 : Int32) [(.int 0), (.int 0)] (.int 0) := (Arv.new A163 (by decide)).pad (pad_rep [] (.int 0) 2)
  have O164 := pr0.ext E163
  have Z164 : n0 ≤ h163.size := Nat.le_trans Z0 E163.1
  refine gy (St T163 m 3 #[vr a1, vi 0, vi 2, .unset, .unset, .unset] [(.ref b163)]) st163 ?_
  refine gy (St T163 m 9 #[vr a1, vi 0, vi 2, vr b163, .unset, .unset] [(.int 2), (.int 0), (.ref b163), (.int 0), (.ref a1)]) (fun _ k => XS.astoreN X163.here hx rfl (dk d9_3) rfl rfl (l' := #[vr a1, vi 0, vi 2, vr b163, .unset, .unset]) rfl (XS.aloadN X163.here hx rfl (dk d9_4) rfl rfl (XS.iloadN X163.here hx rfl (dk d9_5) rfl (XS.aloadN X163.here hx rfl (dk d9_6) rfl rfl (XS.iconst X163.here hx rfl (dk d9_7) (XS.iloadN X163.here hx rfl (dk d9_8) rfl k)))))) ?_
  obtain ⟨_, _, ⟨T165, L165, k165, n165⟩, -, X165, ⟨Lc165, hQ165, l165, y165, z165⟩, st165⟩ := Jvm.LawKit.callS X163 hx (y := Y17) hown (mvT hZ (wd hw 50 rfl)) (mvT hZ (wd hw 51 rfl)) (mvT hZ (wd hw 48 rfl)) (mvT hZ (wd hw 52 rfl)) (by decide) (backOf (W := 0) (rm_cmp5_2 l Z a0 hw [] a1 b163 ka k163 c0 c1 h163 n0 Z164 O164 (pr4.ext E163) V163 (Nat.le_trans Z0 sz_b163) (Nat.ne_of_lt (Nat.lt_of_lt_of_le pr4.lt sz_b163))) hZ (wd hw 52 rfl) (wd hw 48 rfl) (by decide) (by decide)) (g := (mkF m 9 #[vr a1, vi 0, vi 2, vr b163, .unset, .unset] [(.int 2), (.int 0), (.ref b163), (.int 0), (.ref a1)])) rfl (by rw [hml]; rfl) (argsL := [(.ref a1), (.int 0), (.ref b163), (.int 0), (.int 2)]) (rest := []) (lenOf pd_3 rfl) rfl (by show 2 * 0 + _ ≤ _; exact Nat.le_of_eq rfl) (dk d9_9) (fun _ _ => ⟨rfl, e163, Nat.le_of_ble_eq_true rfl, Nat.le_of_ble_eq_true rfl⟩)
  dsimp only [Pt.U, Pt.locs, Pt.cells, Pt.slots] at X165 l165 y165 z165 st165 hQ165
  subst l165 y165 z165
  obtain ⟨r165, rfl, Nq165, K165, p165_0, p165_1⟩ := hQ165
  have N165 := Fr.app N0 Nq165
  have O166 := O164.keep K165 (allS (Nat.le_trans Z0 sz_b163) all0)
  have Z166 : n0 ≤ T165.heap.size := Nat.le_trans Z164 K165.1
  refine gy (St T165 m 12 #[vr a1, vi 0, vi 2, vr b163, .unset, .unset] [(.int r165)]) (fun _ k => st165 _ k) ?_
  rcases p165_1 with ⟨rfl, e167, e168⟩ | ⟨rfl, e169⟩ | ⟨rfl, e170⟩
  · skip
    have V171 := p165_0 rfl
    refine gy (St T165 m 58 #[vr a1, vi 0, vi 2, vr b163, vi 2, .unset] [(.ref b163)]) (fun _ k => XS.istore X165.here hx rfl (dk d9_12) rfl (l' := #[vr a1, vi 0, vi 2, vr b163, vi 2, .unset]) rfl (XS.iload X165.here hx rfl (dk d9_14) rfl (XS.iloadN X165.here hx rfl (dk d9_16) rfl (XS.icmpYes X165.here hx rfl (pc0 := 17) (pc' := 57) rfl (dk d9_17) rfl (teq (by decide : (2 : Int32) = (2 : Int32))).1 (by decide) (by decide) (XS.aloadN X165.here hx rfl (dk d9_57) rfl rfl k))))) ?_
    refine Go.ret X165 hx hlk (t := (.array .byte)) hret rfl (Or.inr (Or.inr (Or.inr (Or.inr ⟨rfl, rfl, rfl⟩)))) (dk d9_58) (by decide) (by decide) ?_
    exact ⟨b163, k163, false, rfl, N165, (((Keep.refl h0 []).ext E163).trans K165 (allS (Or.inr (Nat.le_trans (Nat.le_refl _) sz_b163)) all0)), (Nat.le_trans (Nat.le_refl _) sz_b163), (fun _ => ⟨e167, e168⟩), (fun _ => V171), (fun q => nomatch q)⟩
  · skip
    refine gy (St T165 m 23 #[vr a1, vi 0, vi 2, vr b163, vi 0, .unset] [(.int 2), (.int 0), (.ref a1)]) (fun _ k => XS.istore X165.here hx rfl (dk d9_12) rfl (l' := #[vr a1, vi 0, vi 2, vr b163, vi 0, .unset]) rfl (XS.iload X165.here hx rfl (dk d9_14) rfl (XS.iloadN X165.here hx rfl (dk d9_16) rfl (XS.icmpNo X165.here hx rfl (dk d9_17) rfl (feq (by decide : ¬ ((0 : Int32) = (2 : Int32)))).1 (XS.aloadN X165.here hx rfl (dk d9_20) rfl rfl (XS.iloadN X165.here hx rfl (dk d9_21) rfl (XS.iloadN X165.here hx rfl (dk d9_22) rfl k))))))) ?_
    have f172 := ((pr4.ext E163).keep K165 (ninS (Nat.ne_of_lt (Nat.lt_of_lt_of_le pr4.lt sz_b163)) nin0))
    obtain ⟨_, _, ⟨T173, L173, k173, n173⟩, -, X173, ⟨Lc173, hQ173, l173, y173, z173⟩, st173⟩ := Jvm.LawKit.callS X165 hx (y := Y23) hown (mvT hZ (wd hw 84 rfl)) (mvT hZ (wd hw 85 rfl)) (mvT hZ (wd hw 48 rfl)) (mvT hZ (wd hw 86 rfl)) (by decide) (backOf (W := 0) (rm_tb_2 l Z a0 hw [] a1 ka c0 c1 T165.heap n0 Z166 O166 pr1 pr2 pr3 f172) hZ (wd hw 86 rfl) (wd hw 48 rfl) (by decide) (by decide)) (g := (mkF m 23 #[vr a1, vi 0, vi 2, vr b163, vi 0, .unset] [(.int 2), (.int 0), (.ref a1)])) rfl (by rw [hml]; rfl) (argsL := [(.ref a1), (.int 0), (.int 2)]) (rest := []) (lenOf pd_4 rfl) rfl (by show 2 * 0 + _ ≤ _; exact Nat.le_of_eq rfl) (dk d9_23) (fun _ _ => ⟨rfl, rfl, Nat.le_of_ble_eq_true rfl, Nat.le_of_ble_eq_true rfl⟩)
    dsimp only [Pt.U, Pt.locs, Pt.cells, Pt.slots] at X173 l173 y173 z173 st173 hQ173
    subst l173 y173 z173
    obtain ⟨b173, k173, rfl, Nq173, K173, p173_0, p173_1⟩ := hQ173
    have N173 := Fr.app N165 Nq173
    have O174 := O166.keep K173 all0
    have Z174 : n0 ≤ T173.heap.size := Nat.le_trans Z166 K173.1
    have sz_b173 : T165.heap.size ≤ b173 := p173_1
    refine gy (St T173 m 26 #[vr a1, vi 0, vi 2, vr b163, vi 0, .unset] [(.ref b173)]) (fun _ k => st173 _ k) ?_
    refine gy (St T173 m 32 #[vr a1, vi 0, vi 2, vr b163, vi 0, vr b173] [(.int 0), (.ref b173)]) (fun _ k => XS.astore X173.here hx rfl (dk d9_26) rfl rfl (l' := #[vr a1, vi 0, vi 2, vr b163, vi 0, vr b173]) rfl (XS.aload X173.here hx rfl (dk d9_28) rfl rfl (XS.iload X173.here hx rfl (dk d9_30) rfl k))) ?_
    obtain ⟨_, _, ⟨T175, L175, k175, n175⟩, -, X175, ⟨Lc175, hQ175, l175, y175, z175⟩, st175⟩ := Jvm.LawKit.callS X173 hx (y := Y18) hown (mvT hZ (wd hw 100 rfl)) (mvT hZ (wd hw 101 rfl)) (mvT hZ (wd hw 48 rfl)) (mvT hZ (wd hw 102 rfl)) (by decide) (backOf (W := 0) (rm_get_0 l Z a0 hw [] b173 k173 c0 (4 : Int32) [(.int (own_b0 c0)), (.int (own_b1 c0)), (.int (own_b0 c1)), (.int (own_b1 c1))] T173.heap n0 Z174 O174 pr1 pr2 pr3 p173_0 (by decide) (by decide) rfl rfl hr0) hZ (wd hw 102 rfl) (wd hw 48 rfl) (by decide) (by decide)) (g := (mkF m 32 #[vr a1, vi 0, vi 2, vr b163, vi 0, vr b173] [(.int 0), (.ref b173)])) rfl (by rw [hml]; rfl) (argsL := [(.ref b173), (.int 0)]) (rest := []) (lenOf pd_5 rfl) rfl (by show 2 * 0 + _ ≤ _; exact Nat.le_of_eq rfl) (dk d9_32) (fun _ _ => ⟨rfl, rfl, Nat.le_of_ble_eq_true rfl, Nat.le_of_ble_eq_true rfl⟩)
    dsimp only [Pt.U, Pt.locs, Pt.cells, Pt.slots] at X175 l175 y175 z175 st175 hQ175
    subst l175 y175 z175
    obtain ⟨rfl, Nq175, hh175⟩ := hQ175
    have N175 := Fr.app N173 Nq175
    refine gy (St T175 m 35 #[vr a1, vi 0, vi 2, vr b163, vi 0, vr b173] [(.int c0)]) (fun _ k => st175 _ k) ?_
    refine gy (St T175 m 56 #[vr a1, vi 0, vi 2, vr b163, vi 0, vr b173] [(.ref b173)]) (fun _ k => XS.sipush X175.here hx rfl (dk d9_35) (XS.icmpYes X175.here hx rfl (pc0 := 38) (pc' := 54) rfl (dk d9_38) rfl (tlt e169).2.2.1 (by decide) (by decide) (XS.aload X175.here hx rfl (dk d9_54) rfl rfl k))) ?_
    refine Go.ret X175 hx hlk (t := (.array .byte)) hret rfl (Or.inr (Or.inr (Or.inr (Or.inr ⟨rfl, rfl, rfl⟩)))) (dk d9_56) (by decide) (by decide) ?_
    rw [hh175]
    exact ⟨b173, k173, true, rfl, N175, ((((Keep.refl h0 []).ext E163).trans K165 (allS (Or.inr (Nat.le_trans (Nat.le_refl _) sz_b163)) all0)).trans K173 all0), (Nat.le_trans (Nat.le_trans (Nat.le_trans (Nat.le_refl _) E163.1) K165.1) sz_b173), (fun q => nomatch q), (fun q => nomatch q), (fun _ => p173_0)⟩
  · skip
    refine gy (St T165 m 23 #[vr a1, vi 0, vi 2, vr b163, vi 1, .unset] [(.int 2), (.int 0), (.ref a1)]) (fun _ k => XS.istore X165.here hx rfl (dk d9_12) rfl (l' := #[vr a1, vi 0, vi 2, vr b163, vi 1, .unset]) rfl (XS.iload X165.here hx rfl (dk d9_14) rfl (XS.iloadN X165.here hx rfl (dk d9_16) rfl (XS.icmpNo X165.here hx rfl (dk d9_17) rfl (feq (by decide : ¬ ((1 : Int32) = (2 : Int32)))).1 (XS.aloadN X165.here hx rfl (dk d9_20) rfl rfl (XS.iloadN X165.here hx rfl (dk d9_21) rfl (XS.iloadN X165.here hx rfl (dk d9_22) rfl k))))))) ?_
    have f176 := ((pr4.ext E163).keep K165 (ninS (Nat.ne_of_lt (Nat.lt_of_lt_of_le pr4.lt sz_b163)) nin0))
    obtain ⟨_, _, ⟨T177, L177, k177, n177⟩, -, X177, ⟨Lc177, hQ177, l177, y177, z177⟩, st177⟩ := Jvm.LawKit.callS X165 hx (y := Y23) hown (mvT hZ (wd hw 84 rfl)) (mvT hZ (wd hw 85 rfl)) (mvT hZ (wd hw 48 rfl)) (mvT hZ (wd hw 86 rfl)) (by decide) (backOf (W := 0) (rm_tb_2 l Z a0 hw [] a1 ka c0 c1 T165.heap n0 Z166 O166 pr1 pr2 pr3 f176) hZ (wd hw 86 rfl) (wd hw 48 rfl) (by decide) (by decide)) (g := (mkF m 23 #[vr a1, vi 0, vi 2, vr b163, vi 1, .unset] [(.int 2), (.int 0), (.ref a1)])) rfl (by rw [hml]; rfl) (argsL := [(.ref a1), (.int 0), (.int 2)]) (rest := []) (lenOf pd_4 rfl) rfl (by show 2 * 0 + _ ≤ _; exact Nat.le_of_eq rfl) (dk d9_23) (fun _ _ => ⟨rfl, rfl, Nat.le_of_ble_eq_true rfl, Nat.le_of_ble_eq_true rfl⟩)
    dsimp only [Pt.U, Pt.locs, Pt.cells, Pt.slots] at X177 l177 y177 z177 st177 hQ177
    subst l177 y177 z177
    obtain ⟨b177, k177, rfl, Nq177, K177, p177_0, p177_1⟩ := hQ177
    have N177 := Fr.app N165 Nq177
    have O178 := O166.keep K177 all0
    have Z178 : n0 ≤ T177.heap.size := Nat.le_trans Z166 K177.1
    have sz_b177 : T165.heap.size ≤ b177 := p177_1
    refine gy (St T177 m 26 #[vr a1, vi 0, vi 2, vr b163, vi 1, .unset] [(.ref b177)]) (fun _ k => st177 _ k) ?_
    refine gy (St T177 m 32 #[vr a1, vi 0, vi 2, vr b163, vi 1, vr b177] [(.int 1), (.ref b177)]) (fun _ k => XS.astore X177.here hx rfl (dk d9_26) rfl rfl (l' := #[vr a1, vi 0, vi 2, vr b163, vi 1, vr b177]) rfl (XS.aload X177.here hx rfl (dk d9_28) rfl rfl (XS.iload X177.here hx rfl (dk d9_30) rfl k))) ?_
    obtain ⟨_, _, ⟨T179, L179, k179, n179⟩, -, X179, ⟨Lc179, hQ179, l179, y179, z179⟩, st179⟩ := Jvm.LawKit.callS X177 hx (y := Y18) hown (mvT hZ (wd hw 100 rfl)) (mvT hZ (wd hw 101 rfl)) (mvT hZ (wd hw 48 rfl)) (mvT hZ (wd hw 102 rfl)) (by decide) (backOf (W := 0) (rm_get_1 l Z a0 hw [] b177 k177 c1 (4 : Int32) [(.int (own_b0 c0)), (.int (own_b1 c0)), (.int (own_b0 c1)), (.int (own_b1 c1))] T177.heap n0 Z178 O178 pr1 pr2 pr3 p177_0 (by decide) (by decide) rfl rfl hr1) hZ (wd hw 102 rfl) (wd hw 48 rfl) (by decide) (by decide)) (g := (mkF m 32 #[vr a1, vi 0, vi 2, vr b163, vi 1, vr b177] [(.int 1), (.ref b177)])) rfl (by rw [hml]; rfl) (argsL := [(.ref b177), (.int 1)]) (rest := []) (lenOf pd_5 rfl) rfl (by show 2 * 0 + _ ≤ _; exact Nat.le_of_eq rfl) (dk d9_32) (fun _ _ => ⟨rfl, rfl, Nat.le_of_ble_eq_true rfl, Nat.le_of_ble_eq_true rfl⟩)
    dsimp only [Pt.U, Pt.locs, Pt.cells, Pt.slots] at X179 l179 y179 z179 st179 hQ179
    subst l179 y179 z179
    obtain ⟨rfl, Nq179, hh179⟩ := hQ179
    have N179 := Fr.app N177 Nq179
    refine gy (St T179 m 35 #[vr a1, vi 0, vi 2, vr b163, vi 1, vr b177] [(.int c1)]) (fun _ k => st179 _ k) ?_
    refine gy (St T179 m 56 #[vr a1, vi 0, vi 2, vr b163, vi 1, vr b177] [(.ref b177)]) (fun _ k => XS.sipush X179.here hx rfl (dk d9_35) (XS.icmpYes X179.here hx rfl (pc0 := 38) (pc' := 54) rfl (dk d9_38) rfl (tlt e170).2.2.1 (by decide) (by decide) (XS.aload X179.here hx rfl (dk d9_54) rfl rfl k))) ?_
    refine Go.ret X179 hx hlk (t := (.array .byte)) hret rfl (Or.inr (Or.inr (Or.inr (Or.inr ⟨rfl, rfl, rfl⟩)))) (dk d9_56) (by decide) (by decide) ?_
    rw [hh179]
    exact ⟨b177, k177, true, rfl, N179, ((((Keep.refl h0 []).ext E163).trans K165 (allS (Or.inr (Nat.le_trans (Nat.le_refl _) sz_b163)) all0)).trans K177 all0), (Nat.le_trans (Nat.le_trans (Nat.le_trans (Nat.le_refl _) E163.1) K165.1) sz_b177), (fun q => nomatch q), (fun q => nomatch q), (fun _ => p177_0)⟩
theorem ef_rm_sV_2 (m : MethodId) (x0 : Addr) (x1 : Addr) : entryFrame m #[(.ref x0), (.ref x1), (.int 0), (.int 2), .null] 6 = mkF m 0 #[vr x0, vr x1, vi 0, vi 2, .val .null, .unset] [] := by first | (simp [entryFrame, mkF, argsToLocals, Value.category]; done) | rfl
def Q_rm_sV_2 (Z : State) (a1 : Addr) (v1 : Addr) (ka : ClassId) (c0 : Int32) (c1 : Int32) (cs : Int32) (h0 : Heap) (n0 : Nat) (vv : Option Value) (h : Heap) (L : List Loc) : Prop := ∃ t : Addr, ∃ k : ClassId, ∃ u : Bool, vv = none ∧ Fr n0 L ∧ Keep h0 h [a1] ∧ Exa Z h a1 "java/lang/String" ∧ Fld Z h a1 "java/lang/String" "value" "[B" (.ref t) ∧ h0.size ≤ t ∧ (u = false → ¬ (255 : Int32) < c0 ∧ ¬ (255 : Int32) < c1) ∧ (u = false → Arv Z h t k .byte (2 : Int32) [(.int (nar .byte (c0.toInt8.toInt32))), (.int (nar .byte (c1.toInt8.toInt32)))] (.int 0)) ∧ (u = true → Arv Z h t k .byte (4 : Int32) [(.int (own_b0 c0)), (.int (own_b1 c0)), (.int (own_b0 c1)), (.int (own_b1 c1))] (.int 0)) ∧ (u = false → Fld Z h a1 "java/lang/String" "coder" "B" (.int 0)) ∧ (u = true → Fld Z h a1 "java/lang/String" "coder" "B" (.int 1))
set_option maxRecDepth 65536 in
set_option maxHeartbeats 40000000 in
theorem rm_sV_2 (l : Launch) (Z : State) (a0 : Array Value) (hw : HW a0 Z) (ws : List Jvm.Cond) (a1 : Addr) (v1 : Addr) (ka : ClassId) (c0 : Int32) (c1 : Int32) (cs : Int32) (h0 : Heap) (n0 : Nat) (Z0 : n0 ≤ h0.size) (pr0 : Old Z n0 h0) (pr1 : Sta Z Z.heap "java/lang/String" "COMPACT_STRINGS" "Z" (.int cs)) (hcs : ¬ (cs = (0 : Int32))) (pr3 : Sta Z Z.heap "java/lang/StringUTF16" "$assertionsDisabled" "Z" (.int 1)) (pr4 : Sta Z Z.heap "java/lang/StringUTF16" "HI_BYTE_SHIFT" "I" (.int 0)) (pr5 : Sta Z Z.heap "java/lang/StringUTF16" "LO_BYTE_SHIFT" "I" (.int 8)) (pr6 : Exa Z h0 a1 "java/lang/String") (pr7 : Fld Z h0 a1 "java/lang/String" "value" "[B" .null) (pr8 : Fld Z h0 a1 "java/lang/String" "coder" "B" (.int 0)) (pr9 : n0 ≤ a1) (pr10 : Arv Z h0 v1 ka .char (2 : Int32) [(.int c0), (.int c1)] (.int 0)) (hr0 : own_rng c0) (hr1 : own_rng c1) :
    Met l Z Y6 jdk_42_method_149_code 6 none ws ({ frames := 4, cells := 2, slots := 6, locals := 57 } : Room) #[(.ref a1), (.ref v1), (.int 0), (.int 2), .null] h0 (Q_rm_sV_2 Z a1 v1 ka c0 c1 cs h0 n0) := by
  refine Met.enter (f0 := fun m => mkF m 0 #[vr a1, vr v1, vi 0, vi 2, .val .null, .unset] []) (plainFor_of_name pn_java_lang_String) (fun m => ef_rm_sV_2 m a1 v1) ?_
  intro p e s m below meth c s₁ hx hby hml hown hnm hret hlk hZ X0 e0
  have hown : s.vm.findClass "java/lang/String" = some m.cls := hown
  have hnm : meth.name = "<init>" := hnm
  have hml : c.maxLocals = 6 := hml
  have dk : ∀ {i : Nat} {r : Except DecodeError (Instr × Nat)}, decode jdk_42_method_149_code i = r → decode c.code i = r := fun h => hb hby h
  have N0 := Fr.nil n0
  refine gy (St s₁ m 1 #[vr a1, vr v1, vi 0, vi 2, .val .null, .unset] [(.ref a1)]) (fun _ k => XS.aloadN X0.here hx rfl (dk d4_0) rfl rfl k) ?_
  obtain ⟨T180, X180, e180, st180⟩ := initO X0 hx hZ hown (wd hw 20 rfl) (wd hw 21 rfl) (wd hw 22 rfl) e0 (g := (mkF m 1 #[vr a1, vr v1, vi 0, vi 2, .val .null, .unset] [(.ref a1)])) rfl (by rw [hml]; rfl) rfl (dk d4_1) (by decide) (W := 0) (by show 2 * 0 + _ ≤ _; exact Nat.le_of_eq rfl) (by decide)
  refine gy (St T180 m 4 #[vr a1, vr v1, vi 0, vi 2, .val .null, .unset] []) st180 ?_
  refine gy (St T180 m 27 #[vr a1, vr v1, vi 0, vi 2, .val .null, .unset] []) (fun _ k => XS.iloadN X180.here hx rfl (dk d4_4) rfl (XS.ifYes X180.here hx rfl (pc0 := 5) (pc' := 27) rfl (dk d4_5) rfl ((if0 _ _).trans (feq (by decide : ¬ ((2 : Int32) = (0 : Int32)))).2) (by decide) (by decide) k)) ?_
  obtain ⟨T181, X181, e181, st181⟩ := getS2 X180 hx hZ hown (host := "") (Or.inl (wd hw 45 rfl)) Via.refl e180 (pr1.ext pr0.2) (g := (mkF m 27 #[vr a1, vr v1, vi 0, vi 2, .val .null, .unset] [])) rfl (dk d4_27)
  refine gy (St T181 m 30 #[vr a1, vr v1, vi 0, vi 2, .val .null, .unset] [(.int cs)]) st181 ?_
  refine gy (St T181 m 36 #[vr a1, vr v1, vi 0, vi 2, .val .null, .unset] [(.int 2), (.int 0), (.ref v1)]) (fun _ k => XS.ifNo X181.here hx rfl (dk d4_30) rfl ((if0 _ _).trans (feq hcs).1) (XS.aloadN X181.here hx rfl (dk d4_33) rfl rfl (XS.iloadN X181.here hx rfl (dk d4_34) rfl (XS.iloadN X181.here hx rfl (dk d4_35) rfl k)))) ?_
  obtain ⟨_, _, ⟨T182, L182, k182, n182⟩, -, X182, ⟨Lc182, hQ182, l182, y182, z182⟩, st182⟩ := Jvm.LawKit.callS X181 hx (y := Y16) hown (mvT hZ (wd hw 46 rfl)) (mvT hZ (wd hw 47 rfl)) (mvT hZ (wd hw 48 rfl)) (mvT hZ (wd hw 49 rfl)) (by decide) (backOf (W := 0) (rm_cmp3_2 l Z a0 hw [] v1 ka c0 c1 h0 n0 Z0 pr0 pr3 pr4 pr5 pr10 hr0 hr1) hZ (wd hw 49 rfl) (wd hw 48 rfl) (by decide) (by decide)) (g := (mkF m 36 #[vr a1, vr v1, vi 0, vi 2, .val .null, .unset] [(.int 2), (.int 0), (.ref v1)])) rfl (by rw [hml]; rfl) (argsL := [(.ref v1), (.int 0), (.int 2)]) (rest := []) (lenOf pd_4 rfl) rfl (by show 2 * 0 + _ ≤ _; exact Nat.le_of_eq rfl) (dk d4_36) (fun _ _ => ⟨rfl, e181, Nat.le_of_ble_eq_true rfl, Nat.le_of_ble_eq_true rfl⟩)
  dsimp only [Pt.U, Pt.locs, Pt.cells, Pt.slots] at X182 l182 y182 z182 st182 hQ182
  subst l182 y182 z182
  obtain ⟨b182, k182, u182, rfl, Nq182, K182, p182_0, p182_1, p182_2, p182_3⟩ := hQ182
  have N182 := Fr.app N0 Nq182
  have O183 := pr0.keep K182 all0
  have Z183 : n0 ≤ T182.heap.size := Nat.le_trans Z0 K182.1
  have sz_b182 : h0.size ≤ b182 := p182_0
  refine gy (St T182 m 39 #[vr a1, vr v1, vi 0, vi 2, .val .null, .unset] [(.ref b182)]) (fun _ k => st182 _ k) ?_
  rcases u182 with _ | _
  · skip
    have V184 := p182_2 rfl
    refine gy (St T182 m 45 #[vr a1, vr v1, vi 0, vi 2, .val .null, vr b182] [(.int 2), (.ref b182), (.ref a1)]) (fun _ k => XS.astore X182.here hx rfl (dk d4_39) rfl rfl (l' := #[vr a1, vr v1, vi 0, vi 2, .val .null, vr b182]) rfl (XS.aloadN X182.here hx rfl (dk d4_41) rfl rfl (XS.aload X182.here hx rfl (dk d4_42) rfl rfl (XS.iloadN X182.here hx rfl (dk d4_44) rfl k)))) ?_
    obtain ⟨_, _, ⟨T185, L185, k185, n185⟩, -, X185, ⟨Lc185, hQ185, l185, y185, z185⟩, st185⟩ := Jvm.LawKit.callS X182 hx (y := Y15) hown (mvT hZ (wd hw 53 rfl)) (mvT hZ (wd hw 54 rfl)) (mvT hZ (wd hw 48 rfl)) (mvT hZ (wd hw 55 rfl)) (by decide) (backOf (W := 1) (rm_cfal_2_0 l Z a0 hw [] b182 k182 c0 c1 T182.heap n0 Z183 V184) hZ (wd hw 55 rfl) (wd hw 48 rfl) (by decide) (by decide)) (g := (mkF m 45 #[vr a1, vr v1, vi 0, vi 2, .val .null, vr b182] [(.int 2), (.ref b182), (.ref a1)])) rfl (by rw [hml]; rfl) (argsL := [(.ref b182), (.int 2)]) (rest := [(.ref a1)]) (lenOf pd_6 rfl) rfl (by show 2 * 0 + _ ≤ _; exact Nat.le_of_eq rfl) (dk d4_45) (fun _ _ => ⟨rfl, rfl, Nat.le_of_ble_eq_true rfl, Nat.le_of_ble_eq_true rfl⟩)
    dsimp only [Pt.U, Pt.locs, Pt.cells, Pt.slots] at X185 l185 y185 z185 st185 hQ185
    subst l185 y185 z185
    obtain ⟨rfl, Nq185, hh185⟩ := hQ185
    have N185 := Fr.app N182 Nq185
    refine gy (St T185 m 48 #[vr a1, vr v1, vi 0, vi 2, .val .null, vr b182] [(.int 0), (.ref a1)]) (fun _ k => st185 _ k) ?_
    obtain ⟨T186, h186, X186, e186, W186, st186⟩ := putFN X185 hx hZ hown (wd hw 30 rfl) Via.refl hh185 (pr8.keep K182 nin0) (pr6.keep K182) (Or.inr ⟨(wd hw 26 rfl), rfl, hnm⟩) (wd hw 10 rfl) (ty := .byte) (v' := (.int 0)) (by decide) rfl rfl (g := (mkF m 48 #[vr a1, vr v1, vi 0, vi 2, .val .null, vr b182] [(.int 0), (.ref a1)])) rfl rfl (dk d4_48)
    have N186 := Fr.snoc X186 N185 pr9
    have O187 := O183.wr W186 pr9
    have Z187 : n0 ≤ h186.size := Nat.le_trans Z183 (Keep.of_wr W186).1
    have F186 := (pr8.keep K182 nin0).same W186
    refine gy (St T186 m 51 #[vr a1, vr v1, vi 0, vi 2, .val .null, vr b182] []) st186 ?_
    refine gy (St T186 m 54 #[vr a1, vr v1, vi 0, vi 2, .val .null, vr b182] [(.ref b182), (.ref a1)]) (fun _ k => XS.aloadN X186.here hx rfl (dk d4_51) rfl rfl (XS.aload X186.here hx rfl (dk d4_52) rfl rfl k)) ?_
    have f188 := ((pr7.keep K182 nin0).other W186 (Or.inr (slot_ne (Or.inr (wd hw 25 rfl)) (Or.inr (wd hw 26 rfl)) (by decide) (t := (.array .byte)) (t' := .byte) (by decide) (by decide))))
    obtain ⟨T189, h189, X189, e189, W189, st189⟩ := putF X186 hx hZ hown (host := "") (Or.inl (wd hw 29 rfl)) Via.refl e186 f188 ((pr6.keep K182).wr W186) (Or.inr ⟨(wd hw 25 rfl), rfl, hnm⟩) (wd hw 10 rfl) (ty := (.array .byte)) (by decide) rfl rfl (g := (mkF m 54 #[vr a1, vr v1, vi 0, vi 2, .val .null, vr b182] [(.ref b182), (.ref a1)])) rfl rfl (dk d4_54)
    have N189 := Fr.snoc X189 N186 pr9
    have O190 := O187.wr W189 pr9
    have Z190 : n0 ≤ h189.size := Nat.le_trans Z187 (Keep.of_wr W189).1
    have F189 := f188.same W189
    refine gy (St T189 m 57 #[vr a1, vr v1, vi 0, vi 2, .val .null, vr b182] []) st189 ?_
    refine Go.retV X189 hx hlk hret (dk d4_57) (by decide) (by decide) ?_
    rw [e189]
    exact ⟨b182, k182, false, rfl, N189, ((((Keep.refl h0 [a1]).trans K182 all0).wr W186 (Or.inl (List.mem_of_getElem? (i := 0) rfl))).wr W189 (Or.inl (List.mem_of_getElem? (i := 0) rfl))), (((pr6.keep K182).wr W186).wr W189), F189, (Nat.le_trans (Nat.le_refl _) sz_b182), p182_1, (fun _ => ((V184.other W186 (Ne.symm (Nat.ne_of_lt (Nat.lt_of_lt_of_le pr6.lt sz_b182)))).other W189 (Ne.symm (Nat.ne_of_lt (Nat.lt_of_lt_of_le pr6.lt sz_b182))))), (fun q => nomatch q), (fun _ => (F186.other W189 (Or.inr (slot_ne (Or.inr (wd hw 26 rfl)) (Or.inr (wd hw 25 rfl)) (by decide) (t := .byte) (t' := (.array .byte)) (by decide) (by decide))))), (fun q => nomatch q)⟩
  · skip
    have V191 := p182_3 rfl
    refine gy (St T182 m 45 #[vr a1, vr v1, vi 0, vi 2, .val .null, vr b182] [(.int 2), (.ref b182), (.ref a1)]) (fun _ k => XS.astore X182.here hx rfl (dk d4_39) rfl rfl (l' := #[vr a1, vr v1, vi 0, vi 2, .val .null, vr b182]) rfl (XS.aloadN X182.here hx rfl (dk d4_41) rfl rfl (XS.aload X182.here hx rfl (dk d4_42) rfl rfl (XS.iloadN X182.here hx rfl (dk d4_44) rfl k)))) ?_
    obtain ⟨_, _, ⟨T192, L192, k192, n192⟩, -, X192, ⟨Lc192, hQ192, l192, y192, z192⟩, st192⟩ := Jvm.LawKit.callS X182 hx (y := Y15) hown (mvT hZ (wd hw 53 rfl)) (mvT hZ (wd hw 54 rfl)) (mvT hZ (wd hw 48 rfl)) (mvT hZ (wd hw 55 rfl)) (by decide) (backOf (W := 1) (rm_cfal_2_1 l Z a0 hw [] b182 k182 c0 c1 T182.heap n0 Z183 V191) hZ (wd hw 55 rfl) (wd hw 48 rfl) (by decide) (by decide)) (g := (mkF m 45 #[vr a1, vr v1, vi 0, vi 2, .val .null, vr b182] [(.int 2), (.ref b182), (.ref a1)])) rfl (by rw [hml]; rfl) (argsL := [(.ref b182), (.int 2)]) (rest := [(.ref a1)]) (lenOf pd_6 rfl) rfl (by show 2 * 0 + _ ≤ _; exact Nat.le_of_eq rfl) (dk d4_45) (fun _ _ => ⟨rfl, rfl, Nat.le_of_ble_eq_true rfl, Nat.le_of_ble_eq_true rfl⟩)
    dsimp only [Pt.U, Pt.locs, Pt.cells, Pt.slots] at X192 l192 y192 z192 st192 hQ192
    subst l192 y192 z192
    obtain ⟨rfl, Nq192, hh192⟩ := hQ192
    have N192 := Fr.app N182 Nq192
    refine gy (St T192 m 48 #[vr a1, vr v1, vi 0, vi 2, .val .null, vr b182] [(.int 1), (.ref a1)]) (fun _ k => st192 _ k) ?_
    obtain ⟨T193, h193, X193, e193, W193, st193⟩ := putFN X192 hx hZ hown (wd hw 30 rfl) Via.refl hh192 (pr8.keep K182 nin0) (pr6.keep K182) (Or.inr ⟨(wd hw 26 rfl), rfl, hnm⟩) (wd hw 10 rfl) (ty := .byte) (v' := (.int 1)) (by decide) rfl rfl (g := (mkF m 48 #[vr a1, vr v1, vi 0, vi 2, .val .null, vr b182] [(.int 1), (.ref a1)])) rfl rfl (dk d4_48)
    have N193 := Fr.snoc X193 N192 pr9
    have O194 := O183.wr W193 pr9
    have Z194 : n0 ≤ h193.size := Nat.le_trans Z183 (Keep.of_wr W193).1
    have F193 := (pr8.keep K182 nin0).same W193
    refine gy (St T193 m 51 #[vr a1, vr v1, vi 0, vi 2, .val .null, vr b182] []) st193 ?_
    refine gy (St T193 m 54 #[vr a1, vr v1, vi 0, vi 2, .val .null, vr b182] [(.ref b182), (.ref a1)]) (fun _ k => XS.aloadN X193.here hx rfl (dk d4_51) rfl rfl (XS.aload X193.here hx rfl (dk d4_52) rfl rfl k)) ?_
    have f195 := ((pr7.keep K182 nin0).other W193 (Or.inr (slot_ne (Or.inr (wd hw 25 rfl)) (Or.inr (wd hw 26 rfl)) (by decide) (t := (.array .byte)) (t' := .byte) (by decide) (by decide))))
    obtain ⟨T196, h196, X196, e196, W196, st196⟩ := putF X193 hx hZ hown (host := "") (Or.inl (wd hw 29 rfl)) Via.refl e193 f195 ((pr6.keep K182).wr W193) (Or.inr ⟨(wd hw 25 rfl), rfl, hnm⟩) (wd hw 10 rfl) (ty := (.array .byte)) (by decide) rfl rfl (g := (mkF m 54 #[vr a1, vr v1, vi 0, vi 2, .val .null, vr b182] [(.ref b182), (.ref a1)])) rfl rfl (dk d4_54)
    have N196 := Fr.snoc X196 N193 pr9
    have O197 := O194.wr W196 pr9
    have Z197 : n0 ≤ h196.size := Nat.le_trans Z194 (Keep.of_wr W196).1
    have F196 := f195.same W196
    refine gy (St T196 m 57 #[vr a1, vr v1, vi 0, vi 2, .val .null, vr b182] []) st196 ?_
    refine Go.retV X196 hx hlk hret (dk d4_57) (by decide) (by decide) ?_
    rw [e196]
    exact ⟨b182, k182, true, rfl, N196, ((((Keep.refl h0 [a1]).trans K182 all0).wr W193 (Or.inl (List.mem_of_getElem? (i := 0) rfl))).wr W196 (Or.inl (List.mem_of_getElem? (i := 0) rfl))), (((pr6.keep K182).wr W193).wr W196), F196, (Nat.le_trans (Nat.le_refl _) sz_b182), (fun q => nomatch q), (fun q => nomatch q), (fun _ => ((V191.other W193 (Ne.symm (Nat.ne_of_lt (Nat.lt_of_lt_of_le pr6.lt sz_b182)))).other W196 (Ne.symm (Nat.ne_of_lt (Nat.lt_of_lt_of_le pr6.lt sz_b182))))), (fun q => nomatch q), (fun _ => (F193.other W196 (Or.inr (slot_ne (Or.inr (wd hw 26 rfl)) (Or.inr (wd hw 25 rfl)) (by decide) (t := .byte) (t' := (.array .byte)) (by decide) (by decide)))))⟩
theorem ef_rm_sC_2 (m : MethodId) (x0 : Addr) (x1 : Addr) : entryFrame m #[(.ref x0), (.ref x1)] 2 = mkF m 0 #[vr x0, vr x1] [] := by first | (simp [entryFrame, mkF, argsToLocals, Value.category]; done) | rfl
def Q_rm_sC_2 (Z : State) (a1 : Addr) (v1 : Addr) (ka : ClassId) (c0 : Int32) (c1 : Int32) (cs : Int32) (h0 : Heap) (n0 : Nat) (vv : Option Value) (h : Heap) (L : List Loc) : Prop := ∃ t : Addr, ∃ k : ClassId, ∃ u : Bool, vv = none ∧ Fr n0 L ∧ Keep h0 h [a1] ∧ Exa Z h a1 "java/lang/String" ∧ Fld Z h a1 "java/lang/String" "value" "[B" (.ref t) ∧ h0.size ≤ t ∧ (u = false → ¬ (255 : Int32) < c0 ∧ ¬ (255 : Int32) < c1) ∧ (u = false → Arv Z h t k .byte (2 : Int32) [(.int (nar .byte (c0.toInt8.toInt32))), (.int (nar .byte (c1.toInt8.toInt32)))] (.int 0)) ∧ (u = true → Arv Z h t k .byte (4 : Int32) [(.int (own_b0 c0)), (.int (own_b1 c0)), (.int (own_b0 c1)), (.int (own_b1 c1))] (.int 0)) ∧ (u = false → Fld Z h a1 "java/lang/String" "coder" "B" (.int 0)) ∧ (u = true → Fld Z h a1 "java/lang/String" "coder" "B" (.int 1))
set_option maxRecDepth 65536 in
set_option maxHeartbeats 40000000 in
theorem rm_sC_2 (l : Launch) (Z : State) (a0 : Array Value) (hw : HW a0 Z) (ws : List Jvm.Cond) (a1 : Addr) (v1 : Addr) (ka : ClassId) (c0 : Int32) (c1 : Int32) (cs : Int32) (h0 : Heap) (n0 : Nat) (Z0 : n0 ≤ h0.size) (pr0 : Old Z n0 h0) (pr1 : Sta Z Z.heap "java/lang/String" "COMPACT_STRINGS" "Z" (.int cs)) (hcs : ¬ (cs = (0 : Int32))) (pr3 : Sta Z Z.heap "java/lang/StringUTF16" "$assertionsDisabled" "Z" (.int 1)) (pr4 : Sta Z Z.heap "java/lang/StringUTF16" "HI_BYTE_SHIFT" "I" (.int 0)) (pr5 : Sta Z Z.heap "java/lang/StringUTF16" "LO_BYTE_SHIFT" "I" (.int 8)) (pr6 : Exa Z h0 a1 "java/lang/String") (pr7 : Fld Z h0 a1 "java/lang/String" "value" "[B" .null) (pr8 : Fld Z h0 a1 "java/lang/String" "coder" "B" (.int 0)) (pr9 : n0 ≤ a1) (pr10 : Arv Z h0 v1 ka .char (2 : Int32) [(.int c0), (.int c1)] (.int 0)) (hr0 : own_rng c0) (hr1 : own_rng c1) :
    Met l Z Y5 jdk_42_method_3_code 2 none ws ({ frames := 5, cells := 2, slots := 6, locals := 74 } : Room) #[(.ref a1), (.ref v1)] h0 (Q_rm_sC_2 Z a1 v1 ka c0 c1 cs h0 n0) := by
  refine Met.enter (f0 := fun m => mkF m 0 #[vr a1, vr v1] []) (plainFor_of_name pn_java_lang_String) (fun m => ef_rm_sC_2 m a1 v1) ?_
  intro p e s m below meth c s₁ hx hby hml hown hnm hret hlk hZ X0 e0
  have hown : s.vm.findClass "java/lang/String" = some m.cls := hown
  have hnm : meth.name = "<init>" := hnm
  have hml : c.maxLocals = 2 := hml
  have dk : ∀ {i : Nat} {r : Except DecodeError (Instr × Nat)}, decode jdk_42_method_3_code i = r → decode c.code i = r := fun h => hb hby h
  have N0 := Fr.nil n0
  refine gy (St s₁ m 4 #[vr a1, vr v1] [(.ref v1), (.int 0), (.ref v1), (.ref a1)]) (fun _ k => XS.aloadN X0.here hx rfl (dk d3_0) rfl rfl (XS.aloadN X0.here hx rfl (dk d3_1) rfl rfl (XS.iconst X0.here hx rfl (dk d3_2) (XS.aloadN X0.here hx rfl (dk d3_3) rfl rfl k)))) ?_
  obtain ⟨cl198, Ar198, q198, S198, N_198, Hs198, G198⟩ := id pr10
  refine gy (St s₁ m 5 #[vr a1, vr v1] [(.int 2), (.int 0), (.ref v1), (.ref a1)]) (fun _ k => X0.arraylength hx (by rw [e0]; exact Ar198.1) (State.isArrayOf_alike hZ.alike Ar198.2.1) (g := (mkF m 4 #[vr a1, vr v1] [(.ref v1), (.int 0), (.ref v1), (.ref a1)])) rfl rfl (dk d3_4) _ (by rw [len_of S198 N_198]; exact k)) ?_
  refine gy (St s₁ m 6 #[vr a1, vr v1] [.null, (.int 2), (.int 0), (.ref v1), (.ref a1)]) (fun _ k => XS.aconstNull X0.here hx rfl (dk d3_5) k) ?_
  obtain ⟨_, _, ⟨T199, L199, k199, n199⟩, -, X199, ⟨Lc199, hQ199, l199, y199, z199⟩, st199⟩ := X0.specialBack hx (y := Y6) rfl hown (mvT hZ (wd hw 16 rfl)) (mvT hZ (wd hw 17 rfl)) (mvT hZ (wd hw 19 rfl)) (by decide) (backOf (W := 0) (rm_sV_2 l Z a0 hw [] a1 v1 ka c0 c1 cs h0 n0 Z0 pr0 pr1 hcs pr3 pr4 pr5 pr6 pr7 pr8 pr9 pr10 hr0 hr1) hZ (wd hw 19 rfl) (wd hw 11 rfl) (by decide) (by decide)) (g := (mkF m 6 #[vr a1, vr v1] [.null, (.int 2), (.int 0), (.ref v1), (.ref a1)])) rfl (by rw [hml]; rfl) (Steps.refl _) (a := a1) (argsL := [(.ref v1), (.int 0), (.int 2), .null]) (rest := []) (lenOf pd_7 rfl) rfl (by show 2 * 0 + _ ≤ _; exact Nat.le_of_eq rfl) (dk d3_6) (fun _ _ => ⟨rfl, e0, Nat.le_of_ble_eq_true rfl, Nat.le_of_ble_eq_true rfl⟩)
  dsimp only [Pt.U, Pt.locs, Pt.cells, Pt.slots] at X199 l199 y199 z199 st199 hQ199
  subst l199 y199 z199
  obtain ⟨t199, k199, u199, rfl, Nq199, K199, p199_0, p199_1, p199_2, p199_3, p199_4, p199_5, p199_6, p199_7⟩ := hQ199
  have N199 := Fr.app N0 Nq199
  have O200 := pr0.keep K199 (allS pr9 all0)
  have Z200 : n0 ≤ T199.heap.size := Nat.le_trans Z0 K199.1
  have sz_t199 : h0.size ≤ t199 := p199_2
  refine gy (St T199 m 9 #[vr a1, vr v1] []) (fun _ k => st199.trans k) ?_
  refine Go.retV X199 hx hlk hret (dk d3_9) (by decide) (by decide) ?_
  exact ⟨t199, k199, u199, rfl, N199, ((Keep.refl h0 [a1]).trans K199 (allS (Or.inl (List.mem_of_getElem? (i := 0) rfl)) all0)), p199_0, p199_1, (Nat.le_trans (Nat.le_refl _) sz_t199), p199_3, p199_4, p199_5, p199_6, p199_7⟩
theorem ef_rm_nbl_3 (m : MethodId)  : entryFrame m #[(.int 3)] 1 = mkF m 0 #[vi 3] [] := by first | (simp [entryFrame, mkF, argsToLocals, Value.category]; done) | rfl
def Q_rm_nbl_3 (Z : State)  (h0 : Heap) (n0 : Nat) (vv : Option Value) (h : Heap) (L : List Loc) : Prop := vv = some (.int 6) ∧ Fr n0 L ∧ h = h0
set_option maxRecDepth 65536 in
set_option maxHeartbeats 40000000 in
theorem rm_nbl_3 (l : Launch) (Z : State) (a0 : Array Value) (hw : HW a0 Z) (ws : List Jvm.Cond)  (h0 : Heap) (n0 : Nat) (Z0 : n0 ≤ h0.size) :
    Met l Z Y21 jdk_52_method_3_code 1 (some .int) ws ({ frames := 0, cells := 0, slots := 0, locals := 0 } : Room) #[(.int 3)] h0 (Q_rm_nbl_3 Z  h0 n0) := by
  refine Met.enter (f0 := fun m => mkF m 0 #[vi 3] []) (plainFor_of_name pn_java_lang_StringUTF16) (fun m => ef_rm_nbl_3 m ) ?_
  intro p e s m below meth c s₁ hx hby hml hown hnm hret hlk hZ X0 e0
  have hown : s.vm.findClass "java/lang/StringUTF16" = some m.cls := hown
  have hnm : meth.name = "newBytesLength" := hnm
  have hml : c.maxLocals = 1 := hml
  have dk : ∀ {i : Nat} {r : Except DecodeError (Instr × Nat)}, decode jdk_52_method_3_code i = r → decode c.code i = r := fun h => hb hby h
  have N0 := Fr.nil n0
  refine gy (St s₁ m 58 #[vi 3] [(.int 6)]) (fun _ k => XS.iloadN X0.here hx rfl (dk d21_0) rfl (XS.ifYes X0.here hx rfl (pc0 := 1) (pc' := 12) rfl (dk d21_1) rfl ((if0 _ _).trans (flt (by decide : ¬ ((3 : Int32) < (0 : Int32)))).2.1) (by decide) (by decide) (XS.iloadN X0.here hx rfl (dk d21_12) rfl (X0.ldcInt hx hown (mvT hZ (wd hw 93 rfl)) (g := (mkF m 13 #[vi 3] [(.int 3)])) rfl (dk d21_13) _ (XS.icmpYes X0.here hx rfl (pc0 := 15) (pc' := 55) rfl (dk d21_15) rfl (tlt (by decide : (3 : Int32) < (1073741823 : Int32))).1 (by decide) (by decide) (XS.iloadN X0.here hx rfl (dk d21_55) rfl (XS.iconst X0.here hx rfl (dk d21_56) (XS.ishl X0.here hx rfl (dk d21_57) rfl k)))))))) ?_
  refine Go.ret X0 hx hlk (t := .int) hret rfl (Or.inl ⟨rfl, by simp, _, rfl⟩) (dk d21_58) (by decide) (by decide) ?_
  rw [e0]
  exact ⟨rfl, N0, rfl⟩
theorem ef_rm_nbf_3 (m : MethodId)  : entryFrame m #[(.int 3)] 1 = mkF m 0 #[vi 3] [] := by first | (simp [entryFrame, mkF, argsToLocals, Value.category]; done) | rfl
def Q_rm_nbf_3 (Z : State)  (h0 : Heap) (n0 : Nat) (vv : Option Value) (h : Heap) (L : List Loc) : Prop := ∃ b : Addr, ∃ k : ClassId, vv = some (.ref b) ∧ Fr n0 L ∧ Keep h0 h [] ∧ Arv Z h b k .byte (6 : Int32) [(.int 0), (.int 0), (.int 0), (.int 0), (.int 0), (.int 0)] (.int 0) ∧ h0.size ≤ b
set_option maxRecDepth 65536 in
set_option maxHeartbeats 40000000 in
theorem rm_nbf_3 (l : Launch) (Z : State) (a0 : Array Value) (hw : HW a0 Z) (ws : List Jvm.Cond)  (h0 : Heap) (n0 : Nat) (Z0 : n0 ≤ h0.size) (pr0 : Old Z n0 h0) :
    Met l Z Y20 jdk_52_method_2_code 1 (some (.array .byte)) ws ({ frames := 1, cells := 1, slots := 6, locals := 12 } : Room) #[(.int 3)] h0 (Q_rm_nbf_3 Z  h0 n0) := by
  refine Met.enter (f0 := fun m => mkF m 0 #[vi 3] []) (plainFor_of_name pn_java_lang_StringUTF16) (fun m => ef_rm_nbf_3 m ) ?_
  intro p e s m below meth c s₁ hx hby hml hown hnm hret hlk hZ X0 e0
  have hown : s.vm.findClass "java/lang/StringUTF16" = some m.cls := hown
  have hnm : meth.name = "newBytesFor" := hnm
  have hml : c.maxLocals = 1 := hml
  have dk : ∀ {i : Nat} {r : Except DecodeError (Instr × Nat)}, decode jdk_52_method_2_code i = r → decode c.code i = r := fun h => hb hby h
  have N0 := Fr.nil n0
  refine gy (St s₁ m 1 #[vi 3] [(.int 3)]) (fun _ k => XS.iloadN X0.here hx rfl (dk d20_0) rfl k) ?_
  obtain ⟨_, _, ⟨T201, L201, k201, n201⟩, -, X201, ⟨Lc201, hQ201, l201, y201, z201⟩, st201⟩ := Jvm.LawKit.callS X0 hx (y := Y21) hown (mvT hZ (wd hw 90 rfl)) (mvT hZ (wd hw 91 rfl)) (mvT hZ (wd hw 48 rfl)) (mvT hZ (wd hw 92 rfl)) (by decide) (backOf (W := 0) (rm_nbl_3 l Z a0 hw []  h0 n0 Z0 ) hZ (wd hw 92 rfl) (wd hw 48 rfl) (by decide) (by decide)) (g := (mkF m 1 #[vi 3] [(.int 3)])) rfl (by rw [hml]; rfl) (argsL := [(.int 3)]) (rest := []) (lenOf pd_0 rfl) rfl (by show 2 * 0 + _ ≤ _; exact Nat.le_of_eq rfl) (dk d20_1) (fun _ _ => ⟨rfl, e0, Nat.le_of_ble_eq_true rfl, Nat.le_of_ble_eq_true rfl⟩)
  dsimp only [Pt.U, Pt.locs, Pt.cells, Pt.slots] at X201 l201 y201 z201 st201 hQ201
  subst l201 y201 z201
  obtain ⟨rfl, Nq201, hh201⟩ := hQ201
  have N201 := Fr.app N0 Nq201
  refine gy (St T201 m 4 #[vi 3] [(.int 6)]) (fun _ k => st201 _ k) ?_
  obtain ⟨T202, h202, k202, X202, e202, E202, A202, st202⟩ := newP X201 hx hZ (wd hw 24 rfl) hh201 (g := (mkF m 4 #[vi 3] [(.int 6)])) rfl (dk d20_4) rfl (by decide) (cap := 6) (by decide) (by decide) (by decide) (by decide)
  obtain ⟨b202, g202⟩ : ∃ z, z = h0.size := ⟨_, rfl⟩
  rw [← g202] at A202 st202
  have sz_b202 : h0.size ≤ b202 := Nat.le_of_eq g202.symm
  have V202 : Arv Z h202 b202 k202 .byte (6 : Int32) [(.int 0), (.int 0), (.int 0), (.int 0), (.int 0), (.int 0)] (.int 0) := (Arv.new A202 (by decide)).pad (pad_rep [] (.int 0) 6)
  have O203 := pr0.ext E202
  have Z203 : n0 ≤ h202.size := Nat.le_trans Z0 E202.1
  refine gy (St T202 m 6 #[vi 3] [(.ref b202)]) st202 ?_
  refine Go.ret X202 hx hlk (t := (.array .byte)) hret rfl (Or.inr (Or.inr (Or.inr (Or.inr ⟨rfl, rfl, rfl⟩)))) (dk d20_6) (by decide) (by decide) ?_
  rw [e202]
  exact ⟨b202, k202, rfl, N201, ((Keep.refl h0 []).ext E202), V202, (Nat.le_trans (Nat.le_refl _) sz_b202)⟩
theorem ef_rm_tb_3 (m : MethodId) (x0 : Addr) : entryFrame m #[(.ref x0), (.int 0), (.int 3)] 5 = mkF m 0 #[vr x0, vi 0, vi 3, .unset, .unset] [] := by first | (simp [entryFrame, mkF, argsToLocals, Value.category]; done) | rfl
def Q_rm_tb_3 (Z : State) (a1 : Addr) (ka : ClassId) (c0 : Int32) (c1 : Int32) (c2 : Int32) (h0 : Heap) (n0 : Nat) (vv : Option Value) (h : Heap) (L : List Loc) : Prop := ∃ b : Addr, ∃ k : ClassId, vv = some (.ref b) ∧ Fr n0 L ∧ Keep h0 h [] ∧ Arv Z h b k .byte (6 : Int32) [(.int (own_b0 c0)), (.int (own_b1 c0)), (.int (own_b0 c1)), (.int (own_b1 c1)), (.int (own_b0 c2)), (.int (own_b1 c2))] (.int 0) ∧ h0.size ≤ b
set_option maxRecDepth 65536 in
set_option maxHeartbeats 40000000 in
theorem rm_tb_3 (l : Launch) (Z : State) (a0 : Array Value) (hw : HW a0 Z) (ws : List Jvm.Cond) (a1 : Addr) (ka : ClassId) (c0 : Int32) (c1 : Int32) (c2 : Int32) (h0 : Heap) (n0 : Nat) (Z0 : n0 ≤ h0.size) (pr0 : Old Z n0 h0) (pr1 : Sta Z Z.heap "java/lang/StringUTF16" "$assertionsDisabled" "Z" (.int 1)) (pr2 : Sta Z Z.heap "java/lang/StringUTF16" "HI_BYTE_SHIFT" "I" (.int 0)) (pr3 : Sta Z Z.heap "java/lang/StringUTF16" "LO_BYTE_SHIFT" "I" (.int 8)) (pr4 : Arv Z h0 a1 ka .char (3 : Int32) [(.int c0), (.int c1), (.int c2)] (.int 0)) :
    Met l Z Y23 jdk_52_method_14_code 5 (some (.array .byte)) ws ({ frames := 2, cells := 1, slots := 6, locals := 24 } : Room) #[(.ref a1), (.int 0), (.int 3)] h0 (Q_rm_tb_3 Z a1 ka c0 c1 c2 h0 n0) := by
  refine Met.enter (f0 := fun m => mkF m 0 #[vr a1, vi 0, vi 3, .unset, .unset] []) (plainFor_of_name pn_java_lang_StringUTF16) (fun m => ef_rm_tb_3 m a1) ?_
  intro p e s m below meth c s₁ hx hby hml hown hnm hret hlk hZ X0 e0
  have hown : s.vm.findClass "java/lang/StringUTF16" = some m.cls := hown
  have hnm : meth.name = "toBytes" := hnm
  have hml : c.maxLocals = 5 := hml
  have dk : ∀ {i : Nat} {r : Except DecodeError (Instr × Nat)}, decode jdk_52_method_14_code i = r → decode c.code i = r := fun h => hb hby h
  have N0 := Fr.nil n0
  refine gy (St s₁ m 1 #[vr a1, vi 0, vi 3, .unset, .unset] [(.int 3)]) (fun _ k => XS.iloadN X0.here hx rfl (dk d19_0) rfl k) ?_
  obtain ⟨_, _, ⟨T204, L204, k204, n204⟩, -, X204, ⟨Lc204, hQ204, l204, y204, z204⟩, st204⟩ := Jvm.LawKit.callS X0 hx (y := Y20) hown (mvT hZ (wd hw 87 rfl)) (mvT hZ (wd hw 88 rfl)) (mvT hZ (wd hw 48 rfl)) (mvT hZ (wd hw 89 rfl)) (by decide) (backOf (W := 0) (rm_nbf_3 l Z a0 hw []  h0 n0 Z0 pr0) hZ (wd hw 89 rfl) (wd hw 48 rfl) (by decide) (by decide)) (g := (mkF m 1 #[vr a1, vi 0, vi 3, .unset, .unset] [(.int 3)])) rfl (by rw [hml]; rfl) (argsL := [(.int 3)]) (rest := []) (lenOf pd_1 rfl) rfl (by show 2 * 0 + _ ≤ _; exact Nat.le_of_eq rfl) (dk d19_1) (fun _ _ => ⟨rfl, e0, Nat.le_of_ble_eq_true rfl, Nat.le_of_ble_eq_true rfl⟩)
  dsimp only [Pt.U, Pt.locs, Pt.cells, Pt.slots] at X204 l204 y204 z204 st204 hQ204
  subst l204 y204 z204
  obtain ⟨b204, k204, rfl, Nq204, K204, p204_0, p204_1⟩ := hQ204
  have N204 := Fr.app N0 Nq204
  have O205 := pr0.keep K204 all0
  have Z205 : n0 ≤ T204.heap.size := Nat.le_trans Z0 K204.1
  have sz_b204 : h0.size ≤ b204 := p204_1
  refine gy (St T204 m 4 #[vr a1, vi 0, vi 3, .unset, .unset] [(.ref b204)]) (fun _ k => st204 _ k) ?_
  refine gy (St T204 m 17 #[vr a1, vi 0, vi 3, vr b204, vi 0] [(.int 0), (.ref b204)]) (fun _ k => XS.astoreN X204.here hx rfl (dk d19_4) rfl rfl (l' := #[vr a1, vi 0, vi 3, vr b204, .unset]) rfl (XS.iconst X204.here hx rfl (dk d19_5) (XS.istore X204.here hx rfl (dk d19_6) rfl (l' := #[vr a1, vi 0, vi 3, vr b204, vi 0]) rfl (XS.iload X204.here hx rfl (dk d19_8) rfl (XS.iloadN X204.here hx rfl (dk d19_10) rfl (XS.icmpNo X204.here hx rfl (dk d19_11) rfl (tlt (by decide : (0 : Int32) < (3 : Int32))).2.1 (XS.aloadN X204.here hx rfl (dk d19_14) rfl rfl (XS.iload X204.here hx rfl (dk d19_15) rfl k)))))))) ?_
  refine gy (St T204 m 19 #[vr a1, vi 0, vi 3, vr b204, vi 0] [(.int 0), (.ref a1), (.int 0), (.ref b204)]) (fun _ k => XS.aloadN X204.here hx rfl (dk d19_17) rfl rfl (XS.iloadN X204.here hx rfl (dk d19_18) rfl k)) ?_
  obtain ⟨cl206, Ar206, q206, S206, N_206, Hs206, G206⟩ := id (pr4.keep K204 nin0)
  have hin207 : ¬ ((0 : Int32) < 0 ∨ cl206.slots.size ≤ ((0 : Int32)).toNatClampNeg) := inb_of S206 ⟨by decide, by decide⟩
  have hat207 : cl206.slots[((0 : Int32)).toNatClampNeg]? = some (.int c0) := Hs206.at hin207 rfl
  refine gy (St T204 m 20 #[vr a1, vi 0, vi 3, vr b204, vi 0] [(.int c0), (.int 0), (.ref b204)]) (fun _ k => X204.caload hx (j := (0 : Int32)) (v := (.int c0)) Ar206.1 (State.isArrayOf_alike hZ.alike Ar206.2.1) Ar206.2.2 hin207 hat207 (g := (mkF m 19 #[vr a1, vi 0, vi 3, vr b204, vi 0] [(.int 0), (.ref a1), (.int 0), (.ref b204)])) rfl rfl (dk d19_19) _ k) ?_
  obtain ⟨_, _, ⟨T208, L208, k208, n208⟩, -, X208, ⟨Lc208, hQ208, l208, y208, z208⟩, st208⟩ := Jvm.LawKit.callS X204 hx (y := Y22) hown (mvT hZ (wd hw 94 rfl)) (mvT hZ (wd hw 95 rfl)) (mvT hZ (wd hw 48 rfl)) (mvT hZ (wd hw 96 rfl)) (by decide) (backOf (W := 0) (rm_put_0 l Z a0 hw [] b204 k204 c0 (6 : Int32) [(.int 0), (.int 0), (.int 0), (.int 0), (.int 0), (.int 0)] T204.heap n0 Z205 O205 pr1 pr2 pr3 p204_0 (Nat.le_trans Z0 sz_b204) (by decide) (by decide) (Nat.le_of_ble_eq_true rfl) (Nat.le_of_ble_eq_true rfl)) hZ (wd hw 96 rfl) (wd hw 48 rfl) (by decide) (by decide)) (g := (mkF m 20 #[vr a1, vi 0, vi 3, vr b204, vi 0] [(.int c0), (.int 0), (.ref b204)])) rfl (by rw [hml]; rfl) (argsL := [(.ref b204), (.int 0), (.int c0)]) (rest := []) (lenOf pd_2 rfl) rfl (by show 2 * 0 + _ ≤ _; exact Nat.le_of_eq rfl) (dk d19_20) (fun _ _ => ⟨rfl, rfl, Nat.le_of_ble_eq_true rfl, Nat.le_of_ble_eq_true rfl⟩)
  dsimp only [Pt.U, Pt.locs, Pt.cells, Pt.slots] at X208 l208 y208 z208 st208 hQ208
  subst l208 y208 z208
  obtain ⟨rfl, Nq208, K208, p208_0⟩ := hQ208
  have N208 := Fr.app N204 Nq208
  have O209 := O205.keep K208 (allS (Nat.le_trans Z0 sz_b204) all0)
  have Z209 : n0 ≤ T208.heap.size := Nat.le_trans Z205 K208.1
  have p208_0 : Arv Z T208.heap b204 k204 .byte (6 : Int32) [(.int (own_b0 c0)), (.int (own_b1 c0)), (.int 0), (.int 0), (.int 0), (.int 0)] (.int 0) := p208_0
  refine gy (St T208 m 23 #[vr a1, vi 0, vi 3, vr b204, vi 0] []) (fun _ k => st208 _ k) ?_
  refine gy (St T208 m 17 #[vr a1, vi 1, vi 3, vr b204, vi 1] [(.int 1), (.ref b204)]) (fun _ k => XS.iinc X208.here hx rfl (dk d19_23) rfl (l' := #[vr a1, vi 1, vi 3, vr b204, vi 0]) rfl (XS.iinc X208.here hx rfl (dk d19_26) rfl (l' := #[vr a1, vi 1, vi 3, vr b204, vi 1]) rfl (XS.goto X208.here hx rfl (pc0 := 29) (pc' := 8) rfl (dk d19_29) (by decide) (by decide) (XS.iload X208.here hx rfl (dk d19_8) rfl (XS.iloadN X208.here hx rfl (dk d19_10) rfl (XS.icmpNo X208.here hx rfl (dk d19_11) rfl (tlt (by decide : (1 : Int32) < (3 : Int32))).2.1 (XS.aloadN X208.here hx rfl (dk d19_14) rfl rfl (XS.iload X208.here hx rfl (dk d19_15) rfl k)))))))) ?_
  refine gy (St T208 m 19 #[vr a1, vi 1, vi 3, vr b204, vi 1] [(.int 1), (.ref a1), (.int 1), (.ref b204)]) (fun _ k => XS.aloadN X208.here hx rfl (dk d19_17) rfl rfl (XS.iloadN X208.here hx rfl (dk d19_18) rfl k)) ?_
  have f211 := ((pr4.keep K204 nin0).keep K208 (ninS (Nat.ne_of_lt (Nat.lt_of_lt_of_le pr4.lt sz_b204)) nin0))
  obtain ⟨cl210, Ar210, q210, S210, N_210, Hs210, G210⟩ := id f211
  have hin212 : ¬ ((1 : Int32) < 0 ∨ cl210.slots.size ≤ ((1 : Int32)).toNatClampNeg) := inb_of S210 ⟨by decide, by decide⟩
  have hat212 : cl210.slots[((1 : Int32)).toNatClampNeg]? = some (.int c1) := Hs210.at hin212 rfl
  refine gy (St T208 m 20 #[vr a1, vi 1, vi 3, vr b204, vi 1] [(.int c1), (.int 1), (.ref b204)]) (fun _ k => X208.caload hx (j := (1 : Int32)) (v := (.int c1)) Ar210.1 (State.isArrayOf_alike hZ.alike Ar210.2.1) Ar210.2.2 hin212 hat212 (g := (mkF m 19 #[vr a1, vi 1, vi 3, vr b204, vi 1] [(.int 1), (.ref a1), (.int 1), (.ref b204)])) rfl rfl (dk d19_19) _ k) ?_
  obtain ⟨_, _, ⟨T213, L213, k213, n213⟩, -, X213, ⟨Lc213, hQ213, l213, y213, z213⟩, st213⟩ := Jvm.LawKit.callS X208 hx (y := Y22) hown (mvT hZ (wd hw 94 rfl)) (mvT hZ (wd hw 95 rfl)) (mvT hZ (wd hw 48 rfl)) (mvT hZ (wd hw 96 rfl)) (by decide) (backOf (W := 0) (rm_put_1 l Z a0 hw [] b204 k204 c1 (6 : Int32) [(.int (own_b0 c0)), (.int (own_b1 c0)), (.int 0), (.int 0), (.int 0), (.int 0)] T208.heap n0 Z209 O209 pr1 pr2 pr3 p208_0 (Nat.le_trans Z0 sz_b204) (by decide) (by decide) (Nat.le_of_ble_eq_true rfl) (Nat.le_of_ble_eq_true rfl)) hZ (wd hw 96 rfl) (wd hw 48 rfl) (by decide) (by decide)) (g := (mkF m 20 #[vr a1, vi 1, vi 3, vr b204, vi 1] [(.int c1), (.int 1), (.ref b204)])) rfl (by rw [hml]; rfl) (argsL := [(.ref b204), (.int 1), (.int c1)]) (rest := []) (lenOf pd_2 rfl) rfl (by show 2 * 0 + _ ≤ _; exact Nat.le_of_eq rfl) (dk d19_20) (fun _ _ => ⟨rfl, rfl, Nat.le_of_ble_eq_true rfl, Nat.le_of_ble_eq_true rfl⟩)
  dsimp only [Pt.U, Pt.locs, Pt.cells, Pt.slots] at X213 l213 y213 z213 st213 hQ213
  subst l213 y213 z213
  obtain ⟨rfl, Nq213, K213, p213_0⟩ := hQ213
  have N213 := Fr.app N208 Nq213
  have O214 := O209.keep K213 (allS (Nat.le_trans Z0 sz_b204) all0)
  have Z214 : n0 ≤ T213.heap.size := Nat.le_trans Z209 K213.1
  have p213_0 : Arv Z T213.heap b204 k204 .byte (6 : Int32) [(.int (own_b0 c0)), (.int (own_b1 c0)), (.int (own_b0 c1)), (.int (own_b1 c1)), (.int 0), (.int 0)] (.int 0) := p213_0
  refine gy (St T213 m 23 #[vr a1, vi 1, vi 3, vr b204, vi 1] []) (fun _ k => st213 _ k) ?_
  refine gy (St T213 m 17 #[vr a1, vi 2, vi 3, vr b204, vi 2] [(.int 2), (.ref b204)]) (fun _ k => XS.iinc X213.here hx rfl (dk d19_23) rfl (l' := #[vr a1, vi 2, vi 3, vr b204, vi 1]) rfl (XS.iinc X213.here hx rfl (dk d19_26) rfl (l' := #[vr a1, vi 2, vi 3, vr b204, vi 2]) rfl (XS.goto X213.here hx rfl (pc0 := 29) (pc' := 8) rfl (dk d19_29) (by decide) (by decide) (XS.iload X213.here hx rfl (dk d19_8) rfl (XS.iloadN X213.here hx rfl (dk d19_10) rfl (XS.icmpNo X213.here hx rfl (dk d19_11) rfl (tlt (by decide : (2 : Int32) < (3 : Int32))).2.1 (XS.aloadN X213.here hx rfl (dk d19_14) rfl rfl (XS.iload X213.here hx rfl (dk d19_15) rfl k)))))))) ?_
  refine gy (St T213 m 19 #[vr a1, vi 2, vi 3, vr b204, vi 2] [(.int 2), (.ref a1), (.int 2), (.ref b204)]) (fun _ k => XS.aloadN X213.here hx rfl (dk d19_17) rfl rfl (XS.iloadN X213.here hx rfl (dk d19_18) rfl k)) ?_
  have f216 := (f211.keep K213 (ninS (Nat.ne_of_lt (Nat.lt_of_lt_of_le pr4.lt sz_b204)) nin0))
  obtain ⟨cl215, Ar215, q215, S215, N_215, Hs215, G215⟩ := id f216
  have hin217 : ¬ ((2 : Int32) < 0 ∨ cl215.slots.size ≤ ((2 : Int32)).toNatClampNeg) := inb_of S215 ⟨by decide, by decide⟩
  have hat217 : cl215.slots[((2 : Int32)).toNatClampNeg]? = some (.int c2) := Hs215.at hin217 rfl
  refine gy (St T213 m 20 #[vr a1, vi 2, vi 3, vr b204, vi 2] [(.int c2), (.int 2), (.ref b204)]) (fun _ k => X213.caload hx (j := (2 : Int32)) (v := (.int c2)) Ar215.1 (State.isArrayOf_alike hZ.alike Ar215.2.1) Ar215.2.2 hin217 hat217 (g := (mkF m 19 #[vr a1, vi 2, vi 3, vr b204, vi 2] [(.int 2), (.ref a1), (.int 2), (.ref b204)])) rfl rfl (dk d19_19) _ k) ?_
  obtain ⟨_, _, ⟨T218, L218, k218, n218⟩, -, X218, ⟨Lc218, hQ218, l218, y218, z218⟩, st218⟩ := Jvm.LawKit.callS X213 hx (y := Y22) hown (mvT hZ (wd hw 94 rfl)) (mvT hZ (wd hw 95 rfl)) (mvT hZ (wd hw 48 rfl)) (mvT hZ (wd hw 96 rfl)) (by decide) (backOf (W := 0) (rm_put_2 l Z a0 hw [] b204 k204 c2 (6 : Int32) [(.int (own_b0 c0)), (.int (own_b1 c0)), (.int (own_b0 c1)), (.int (own_b1 c1)), (.int 0), (.int 0)] T213.heap n0 Z214 O214 pr1 pr2 pr3 p213_0 (Nat.le_trans Z0 sz_b204) (by decide) (by decide) (Nat.le_of_ble_eq_true rfl) (Nat.le_of_ble_eq_true rfl)) hZ (wd hw 96 rfl) (wd hw 48 rfl) (by decide) (by decide)) (g := (mkF m 20 #[vr a1, vi 2, vi 3, vr b204, vi 2] [(.int c2), (.int 2), (.ref b204)])) rfl (by rw [hml]; rfl) (argsL := [(.ref b204), (.int 2), (.int c2)]) (rest := []) (lenOf pd_2 rfl) rfl (by show 2 * 0 + _ ≤ _; exact Nat.le_of_eq rfl) (dk d19_20) (fun _ _ => ⟨rfl, rfl, Nat.le_of_ble_eq_true rfl, Nat.le_of_ble_eq_true rfl⟩)
  dsimp only [Pt.U, Pt.locs, Pt.cells, Pt.slots] at X218 l218 y218 z218 st218 hQ218
  subst l218 y218 z218
  obtain ⟨rfl, Nq218, K218, p218_0⟩ := hQ218
  have N218 := Fr.app N213 Nq218
  have O219 := O214.keep K218 (allS (Nat.le_trans Z0 sz_b204) all0)
  have Z219 : n0 ≤ T218.heap.size := Nat.le_trans Z214 K218.1
  have p218_0 : Arv Z T218.heap b204 k204 .byte (6 : Int32) [(.int (own_b0 c0)), (.int (own_b1 c0)), (.int (own_b0 c1)), (.int (own_b1 c1)), (.int (own_b0 c2)), (.int (own_b1 c2))] (.int 0) := p218_0
  refine gy (St T218 m 23 #[vr a1, vi 2, vi 3, vr b204, vi 2] []) (fun _ k => st218 _ k) ?_
  refine gy (St T218 m 33 #[vr a1, vi 3, vi 3, vr b204, vi 3] [(.ref b204)]) (fun _ k => XS.iinc X218.here hx rfl (dk d19_23) rfl (l' := #[vr a1, vi 3, vi 3, vr b204, vi 2]) rfl (XS.iinc X218.here hx rfl (dk d19_26) rfl (l' := #[vr a1, vi 3, vi 3, vr b204, vi 3]) rfl (XS.goto X218.here hx rfl (pc0 := 29) (pc' := 8) rfl (dk d19_29) (by decide) (by decide) (XS.iload X218.here hx rfl (dk d19_8) rfl (XS.iloadN X218.here hx rfl (dk d19_10) rfl (XS.icmpYes X218.here hx rfl (pc0 := 11) (pc' := 32) rfl (dk d19_11) rfl (flt (by decide : ¬ ((3 : Int32) < (3 : Int32)))).2.1 (by decide) (by decide) (XS.aloadN X218.here hx rfl (dk d19_32) rfl rfl k))))))) ?_
  refine Go.ret X218 hx hlk (t := (.array .byte)) hret rfl (Or.inr (Or.inr (Or.inr (Or.inr ⟨rfl, rfl, rfl⟩)))) (dk d19_33) (by decide) (by decide) ?_
  exact ⟨b204, k204, rfl, N218, (((((Keep.refl h0 []).trans K204 all0).trans K208 (allS (Or.inr (Nat.le_trans (Nat.le_refl _) sz_b204)) all0)).trans K213 (allS (Or.inr (Nat.le_trans (Nat.le_refl _) sz_b204)) all0)).trans K218 (allS (Or.inr (Nat.le_trans (Nat.le_refl _) sz_b204)) all0)), p218_0, (Nat.le_trans (Nat.le_refl _) sz_b204)⟩
theorem ef_rm_cfal_3_0 (m : MethodId) (x0 : Addr) : entryFrame m #[(.ref x0), (.int 3)] 2 = mkF m 0 #[vr x0, vi 3] [] := by first | (simp [entryFrame, mkF, argsToLocals, Value.category]; done) | rfl
def Q_rm_cfal_3_0 (Z : State) (b1 : Addr) (kb : ClassId) (c0 : Int32) (c1 : Int32) (c2 : Int32) (h0 : Heap) (n0 : Nat) (vv : Option Value) (h : Heap) (L : List Loc) : Prop := vv = some (.int 0) ∧ Fr n0 L ∧ h = h0
set_option maxRecDepth 65536 in
set_option maxHeartbeats 40000000 in
theorem rm_cfal_3_0 (l : Launch) (Z : State) (a0 : Array Value) (hw : HW a0 Z) (ws : List Jvm.Cond) (b1 : Addr) (kb : ClassId) (c0 : Int32) (c1 : Int32) (c2 : Int32) (h0 : Heap) (n0 : Nat) (Z0 : n0 ≤ h0.size) (pr0 : Arv Z h0 b1 kb .byte (3 : Int32) [(.int (nar .byte (c0.toInt8.toInt32))), (.int (nar .byte (c1.toInt8.toInt32))), (.int (nar .byte (c2.toInt8.toInt32)))] (.int 0)) :
    Met l Z Y15 jdk_52_method_15_code 2 (some .byte) ws ({ frames := 0, cells := 0, slots := 0, locals := 0 } : Room) #[(.ref b1), (.int 3)] h0 (Q_rm_cfal_3_0 Z b1 kb c0 c1 c2 h0 n0) := by
  refine Met.enter (f0 := fun m => mkF m 0 #[vr b1, vi 3] []) (plainFor_of_name pn_java_lang_StringUTF16) (fun m => ef_rm_cfal_3_0 m b1) ?_
  intro p e s m below meth c s₁ hx hby hml hown hnm hret hlk hZ X0 e0
  have hown : s.vm.findClass "java/lang/StringUTF16" = some m.cls := hown
  have hnm : meth.name = "coderFromArrayLen" := hnm
  have hml : c.maxLocals = 2 := hml
  have dk : ∀ {i : Nat} {r : Except DecodeError (Instr × Nat)}, decode jdk_52_method_15_code i = r → decode c.code i = r := fun h => hb hby h
  have N0 := Fr.nil n0
  refine gy (St s₁ m 2 #[vr b1, vi 3] [(.ref b1), (.int 3)]) (fun _ k => XS.iloadN X0.here hx rfl (dk d11_0) rfl (XS.aloadN X0.here hx rfl (dk d11_1) rfl rfl k)) ?_
  obtain ⟨cl220, Ar220, q220, S220, N_220, Hs220, G220⟩ := id pr0
  refine gy (St s₁ m 3 #[vr b1, vi 3] [(.int 3), (.int 3)]) (fun _ k => X0.arraylength hx (by rw [e0]; exact Ar220.1) (State.isArrayOf_alike hZ.alike Ar220.2.1) (g := (mkF m 2 #[vr b1, vi 3] [(.ref b1), (.int 3)])) rfl rfl (dk d11_2) _ (by rw [len_of S220 N_220]; exact k)) ?_
  refine gy (St s₁ m 8 #[vr b1, vi 3] [(.int 0)]) (fun _ k => XS.isub X0.here hx rfl (dk d11_3) rfl (XS.bipush X0.here hx rfl (dk d11_4) (XS.iushr X0.here hx rfl (dk d11_6) rfl (XS.i2b X0.here hx rfl (dk d11_7) rfl k)))) ?_
  refine Go.ret X0 hx hlk (t := .byte) hret rfl (Or.inl ⟨rfl, by simp, _, rfl⟩) (dk d11_8) (by decide) (by decide) ?_
  rw [e0]
  exact ⟨rfl, N0, rfl⟩
theorem ef_rm_cfal_3_1 (m : MethodId) (x0 : Addr) : entryFrame m #[(.ref x0), (.int 3)] 2 = mkF m 0 #[vr x0, vi 3] [] := by first | (simp [entryFrame, mkF, argsToLocals, Value.category]; done) | rfl
def Q_rm_cfal_3_1 (Z : State) (b1 : Addr) (kb : ClassId) (c0 : Int32) (c1 : Int32) (c2 : Int32) (h0 : Heap) (n0 : Nat) (vv : Option Value) (h : Heap) (L : List Loc) : Prop := vv = some (.int 1) ∧ Fr n0 L ∧ h = h0
set_option maxRecDepth 65536 in
set_option maxHeartbeats 40000000 in
theorem rm_cfal_3_1 (l : Launch) (Z : State) (a0 : Array Value) (hw : HW a0 Z) (ws : List Jvm.Cond) (b1 : Addr) (kb : ClassId) (c0 : Int32) (c1 : Int32) (c2 : Int32) (h0 : Heap) (n0 : Nat) (Z0 : n0 ≤ h0.size) (pr0 : Arv Z h0 b1 kb .byte (6 : Int32) [(.int (own_b0 c0)), (.int (own_b1 c0)), (.int (own_b0 c1)), (.int (own_b1 c1)), (.int (own_b0 c2)), (.int (own_b1 c2))] (.int 0)) :
    Met l Z Y15 jdk_52_method_15_code 2 (some .byte) ws ({ frames := 0, cells := 0, slots := 0, locals := 0 } : Room) #[(.ref b1), (.int 3)] h0 (Q_rm_cfal_3_1 Z b1 kb c0 c1 c2 h0 n0) := by
  refine Met.enter (f0 := fun m => mkF m 0 #[vr b1, vi 3] []) (plainFor_of_name pn_java_lang_StringUTF16) (fun m => ef_rm_cfal_3_1 m b1) ?_
  intro p e s m below meth c s₁ hx hby hml hown hnm hret hlk hZ X0 e0
  have hown : s.vm.findClass "java/lang/StringUTF16" = some m.cls := hown
  have hnm : meth.name = "coderFromArrayLen" := hnm
  have hml : c.maxLocals = 2 := hml
  have dk : ∀ {i : Nat} {r : Except DecodeError (Instr × Nat)}, decode jdk_52_method_15_code i = r → decode c.code i = r := fun h => hb hby h
  have N0 := Fr.nil n0
  refine gy (St s₁ m 2 #[vr b1, vi 3] [(.ref b1), (.int 3)]) (fun _ k => XS.iloadN X0.here hx rfl (dk d11_0) rfl (XS.aloadN X0.here hx rfl (dk d11_1) rfl rfl k)) ?_
  obtain ⟨cl221, Ar221, q221, S221, N_221, Hs221, G221⟩ := id pr0
  refine gy (St s₁ m 3 #[vr b1, vi 3] [(.int 6), (.int 3)]) (fun _ k => X0.arraylength hx (by rw [e0]; exact Ar221.1) (State.isArrayOf_alike hZ.alike Ar221.2.1) (g := (mkF m 2 #[vr b1, vi 3] [(.ref b1), (.int 3)])) rfl rfl (dk d11_2) _ (by rw [len_of S221 N_221]; exact k)) ?_
  refine gy (St s₁ m 8 #[vr b1, vi 3] [(.int 1)]) (fun _ k => XS.isub X0.here hx rfl (dk d11_3) rfl (XS.bipush X0.here hx rfl (dk d11_4) (XS.iushr X0.here hx rfl (dk d11_6) rfl (XS.i2b X0.here hx rfl (dk d11_7) rfl k)))) ?_
  refine Go.ret X0 hx hlk (t := .byte) hret rfl (Or.inl ⟨rfl, by simp, _, rfl⟩) (dk d11_8) (by decide) (by decide) ?_
  rw [e0]
  exact ⟨rfl, N0, rfl⟩
theorem ef_rm_cmp5_3 (m : MethodId) (x0 : Addr) (x2 : Addr) : entryFrame m #[(.ref x0), (.int 0), (.ref x2), (.int 0), (.int 3)] 7 = mkF m 0 #[vr x0, vi 0, vr x2, vi 0, vi 3, .unset, .unset] [] := by first | (simp [entryFrame, mkF, argsToLocals, Value.category]; done) | rfl
def Q_rm_cmp5_3 (Z : State) (a1 : Addr) (b1 : Addr) (ka : ClassId) (kb : ClassId) (c0 : Int32) (c1 : Int32) (c2 : Int32) (h0 : Heap) (n0 : Nat) (vv : Option Value) (h : Heap) (L : List Loc) : Prop := ∃ r : Int32, vv = some (.int r) ∧ Fr n0 L ∧ Keep h0 h [b1] ∧ (r = (3 : Int32) → Arv Z h b1 kb .byte (3 : Int32) [(.int (nar .byte (c0.toInt8.toInt32))), (.int (nar .byte (c1.toInt8.toInt32))), (.int (nar .byte (c2.toInt8.toInt32)))] (.int 0)) ∧ ((r = (3 : Int32) ∧ ¬ (255 : Int32) < c0 ∧ ¬ (255 : Int32) < c1 ∧ ¬ (255 : Int32) < c2) ∨ (r = (0 : Int32) ∧ (255 : Int32) < c0) ∨ (r = (1 : Int32) ∧ (255 : Int32) < c1) ∨ (r = (2 : Int32) ∧ (255 : Int32) < c2))
set_option maxRecDepth 65536 in
set_option maxHeartbeats 40000000 in
theorem rm_cmp5_3 (l : Launch) (Z : State) (a0 : Array Value) (hw : HW a0 Z) (ws : List Jvm.Cond) (a1 : Addr) (b1 : Addr) (ka : ClassId) (kb : ClassId) (c0 : Int32) (c1 : Int32) (c2 : Int32) (h0 : Heap) (n0 : Nat) (Z0 : n0 ≤ h0.size) (pr0 : Old Z n0 h0) (pr1 : Arv Z h0 a1 ka .char (3 : Int32) [(.int c0), (.int c1), (.int c2)] (.int 0)) (pr2 : Arv Z h0 b1 kb .byte (3 : Int32) [(.int 0), (.int 0), (.int 0)] (.int 0)) (pr3 : n0 ≤ b1) (pr4 : a1 ≠ b1) :
    Met l Z Y17 jdk_52_method_21_code 7 (some .int) ws ({ frames := 0, cells := 0, slots := 0, locals := 0 } : Room) #[(.ref a1), (.int 0), (.ref b1), (.int 0), (.int 3)] h0 (Q_rm_cmp5_3 Z a1 b1 ka kb c0 c1 c2 h0 n0) := by
  refine Met.enter (f0 := fun m => mkF m 0 #[vr a1, vi 0, vr b1, vi 0, vi 3, .unset, .unset] []) (plainFor_of_name pn_java_lang_StringUTF16) (fun m => ef_rm_cmp5_3 m a1 b1) ?_
  intro p e s m below meth c s₁ hx hby hml hown hnm hret hlk hZ X0 e0
  have hown : s.vm.findClass "java/lang/StringUTF16" = some m.cls := hown
  have hnm : meth.name = "compress" := hnm
  have hml : c.maxLocals = 7 := hml
  have dk : ∀ {i : Nat} {r : Except DecodeError (Instr × Nat)}, decode jdk_52_method_21_code i = r → decode c.code i = r := fun h => hb hby h
  have N0 := Fr.nil n0
  refine gy (St s₁ m 12 #[vr a1, vi 0, vr b1, vi 0, vi 3, vi 0, .unset] [(.int 0), (.ref a1)]) (fun _ k => XS.iconst X0.here hx rfl (dk d10_0) (XS.istore X0.here hx rfl (dk d10_1) rfl (l' := #[vr a1, vi 0, vr b1, vi 0, vi 3, vi 0, .unset]) rfl (XS.iload X0.here hx rfl (dk d10_3) rfl (XS.iload X0.here hx rfl (dk d10_5) rfl (XS.icmpNo X0.here hx rfl (dk d10_7) rfl (tlt (by decide : (0 : Int32) < (3 : Int32))).2.1 (XS.aloadN X0.here hx rfl (dk d10_10) rfl rfl (XS.iloadN X0.here hx rfl (dk d10_11) rfl k))))))) ?_
  obtain ⟨cl222, Ar222, q222, S222, N_222, Hs222, G222⟩ := id pr1
  have hin223 : ¬ ((0 : Int32) < 0 ∨ cl222.slots.size ≤ ((0 : Int32)).toNatClampNeg) := inb_of S222 ⟨by decide, by decide⟩
  have hat223 : cl222.slots[((0 : Int32)).toNatClampNeg]? = some (.int c0) := Hs222.at hin223 rfl
  refine gy (St s₁ m 13 #[vr a1, vi 0, vr b1, vi 0, vi 3, vi 0, .unset] [(.int c0)]) (fun _ k => X0.caload hx (j := (0 : Int32)) (v := (.int c0)) (by rw [e0]; exact Ar222.1) (State.isArrayOf_alike hZ.alike Ar222.2.1) Ar222.2.2 hin223 hat223 (g := (mkF m 12 #[vr a1, vi 0, vr b1, vi 0, vi 3, vi 0, .unset] [(.int 0), (.ref a1)])) rfl rfl (dk d10_12) _ k) ?_
  refine gy (St s₁ m 20 #[vr a1, vi 0, vr b1, vi 0, vi 3, vi 0, vi c0] [(.int 255), (.int c0)]) (fun _ k => XS.istore X0.here hx rfl (dk d10_13) rfl (l' := #[vr a1, vi 0, vr b1, vi 0, vi 3, vi 0, vi c0]) rfl (XS.iload X0.here hx rfl (dk d10_15) rfl (XS.sipush X0.here hx rfl (dk d10_17) k))) ?_
  by_cases c224 : (255 : Int32) < c0
  · skip
    refine gy (St s₁ m 25 #[vr a1, vi 0, vr b1, vi 0, vi 3, vi 0, vi c0] [(.int 0)]) (fun _ k => XS.icmpNo X0.here hx rfl (dk d10_20) rfl (tlt c224).2.2.2 (XS.iload X0.here hx rfl (dk d10_23) rfl k)) ?_
    refine Go.ret X0 hx hlk (t := .int) hret rfl (Or.inl ⟨rfl, by simp, _, rfl⟩) (dk d10_25) (by decide) (by decide) ?_
    rw [e0]
    exact ⟨(0 : Int32), rfl, N0, (Keep.refl h0 [b1]), (fun q => absurd q (by decide)), (Or.inr (Or.inl ⟨rfl, c224⟩))⟩
  · skip
    refine gy (St s₁ m 31 #[vr a1, vi 0, vr b1, vi 0, vi 3, vi 0, vi c0] [(.int (c0.toInt8.toInt32)), (.int 0), (.ref b1)]) (fun _ k => XS.icmpYes X0.here hx rfl (pc0 := 20) (pc' := 26) rfl (dk d10_20) rfl (flt c224).2.2.2 (by decide) (by decide) (XS.aloadN X0.here hx rfl (dk d10_26) rfl rfl (XS.iloadN X0.here hx rfl (dk d10_27) rfl (XS.iload X0.here hx rfl (dk d10_28) rfl (XS.i2b X0.here hx rfl (dk d10_30) rfl k))))) ?_
    obtain ⟨cl225, Ar225, q225, S225, N_225, Hs225, G225⟩ := id pr2
    have hin226 : ¬ ((0 : Int32) < 0 ∨ cl225.slots.size ≤ ((0 : Int32)).toNatClampNeg) := inb_of S225 ⟨by decide, by decide⟩
    obtain ⟨T226, h226, X226, e226, W226, st226⟩ := stB X0 hx hZ e0 Ar225 (j := (0 : Int32)) hin226 (g := (mkF m 31 #[vr a1, vi 0, vr b1, vi 0, vi 3, vi 0, vi c0] [(.int (c0.toInt8.toInt32)), (.int 0), (.ref b1)])) rfl rfl (dk d10_31)
    have O227 := pr0.wr W226 pr3
    have Z227 : n0 ≤ h226.size := Nat.le_trans Z0 (Keep.of_wr W226).1
    have V226 : Arv Z h226 b1 kb .byte (3 : Int32) [(.int (nar .byte (c0.toInt8.toInt32))), (.int 0), (.int 0)] (.int 0) := Arv.set Ar225 q225 S225 N_225 Hs225 G225 (fits_nar_byte _) W226 0 rfl (Nat.le_of_ble_eq_true rfl)
    have N226 := Fr.snoc X226 N0 pr3
    refine gy (St T226 m 32 #[vr a1, vi 0, vr b1, vi 0, vi 3, vi 0, vi c0] []) st226 ?_
    refine gy (St T226 m 11 #[vr a1, vi 1, vr b1, vi 1, vi 3, vi 1, vi c0] [(.ref a1)]) (fun _ k => XS.iinc X226.here hx rfl (dk d10_32) rfl (l' := #[vr a1, vi 1, vr b1, vi 0, vi 3, vi 0, vi c0]) rfl (XS.iinc X226.here hx rfl (dk d10_35) rfl (l' := #[vr a1, vi 1, vr b1, vi 1, vi 3, vi 0, vi c0]) rfl (XS.iinc X226.here hx rfl (dk d10_38) rfl (l' := #[vr a1, vi 1, vr b1, vi 1, vi 3, vi 1, vi c0]) rfl (XS.goto X226.here hx rfl (pc0 := 41) (pc' := 3) rfl (dk d10_41) (by decide) (by decide) (XS.iload X226.here hx rfl (dk d10_3) rfl (XS.iload X226.here hx rfl (dk d10_5) rfl (XS.icmpNo X226.here hx rfl (dk d10_7) rfl (tlt (by decide : (1 : Int32) < (3 : Int32))).2.1 (XS.aloadN X226.here hx rfl (dk d10_10) rfl rfl k)))))))) ?_
    refine gy (St T226 m 12 #[vr a1, vi 1, vr b1, vi 1, vi 3, vi 1, vi c0] [(.int 1), (.ref a1)]) (fun _ k => XS.iloadN X226.here hx rfl (dk d10_11) rfl k) ?_
    obtain ⟨cl228, Ar228, q228, S228, N_228, Hs228, G228⟩ := id (pr1.other W226 pr4)
    have hin229 : ¬ ((1 : Int32) < 0 ∨ cl228.slots.size ≤ ((1 : Int32)).toNatClampNeg) := inb_of S228 ⟨by decide, by decide⟩
    have hat229 : cl228.slots[((1 : Int32)).toNatClampNeg]? = some (.int c1) := Hs228.at hin229 rfl
    refine gy (St T226 m 13 #[vr a1, vi 1, vr b1, vi 1, vi 3, vi 1, vi c0] [(.int c1)]) (fun _ k => X226.caload hx (j := (1 : Int32)) (v := (.int c1)) (by rw [e226]; exact Ar228.1) (State.isArrayOf_alike hZ.alike Ar228.2.1) Ar228.2.2 hin229 hat229 (g := (mkF m 12 #[vr a1, vi 1, vr b1, vi 1, vi 3, vi 1, vi c0] [(.int 1), (.ref a1)])) rfl rfl (dk d10_12) _ k) ?_
    refine gy (St T226 m 20 #[vr a1, vi 1, vr b1, vi 1, vi 3, vi 1, vi c1] [(.int 255), (.int c1)]) (fun _ k => XS.istore X226.here hx rfl (dk d10_13) rfl (l' := #[vr a1, vi 1, vr b1, vi 1, vi 3, vi 1, vi c1]) rfl (XS.iload X226.here hx rfl (dk d10_15) rfl (XS.sipush X226.here hx rfl (dk d10_17) k))) ?_
    by_cases c230 : (255 : Int32) < c1
    · skip
      refine gy (St T226 m 25 #[vr a1, vi 1, vr b1, vi 1, vi 3, vi 1, vi c1] [(.int 1)]) (fun _ k => XS.icmpNo X226.here hx rfl (dk d10_20) rfl (tlt c230).2.2.2 (XS.iload X226.here hx rfl (dk d10_23) rfl k)) ?_
      refine Go.ret X226 hx hlk (t := .int) hret rfl (Or.inl ⟨rfl, by simp, _, rfl⟩) (dk d10_25) (by decide) (by decide) ?_
      rw [e226]
      exact ⟨(1 : Int32), rfl, N226, ((Keep.refl h0 [b1]).wr W226 (Or.inl (List.mem_of_getElem? (i := 0) rfl))), (fun q => absurd q (by decide)), (Or.inr (Or.inr (Or.inl ⟨rfl, c230⟩)))⟩
    · skip
      refine gy (St T226 m 31 #[vr a1, vi 1, vr b1, vi 1, vi 3, vi 1, vi c1] [(.int (c1.toInt8.toInt32)), (.int 1), (.ref b1)]) (fun _ k => XS.icmpYes X226.here hx rfl (pc0 := 20) (pc' := 26) rfl (dk d10_20) rfl (flt c230).2.2.2 (by decide) (by decide) (XS.aloadN X226.here hx rfl (dk d10_26) rfl rfl (XS.iloadN X226.here hx rfl (dk d10_27) rfl (XS.iload X226.here hx rfl (dk d10_28) rfl (XS.i2b X226.here hx rfl (dk d10_30) rfl k))))) ?_
      obtain ⟨cl231, Ar231, q231, S231, N_231, Hs231, G231⟩ := id V226
      have hin232 : ¬ ((1 : Int32) < 0 ∨ cl231.slots.size ≤ ((1 : Int32)).toNatClampNeg) := inb_of S231 ⟨by decide, by decide⟩
      obtain ⟨T232, h232, X232, e232, W232, st232⟩ := stB X226 hx hZ e226 Ar231 (j := (1 : Int32)) hin232 (g := (mkF m 31 #[vr a1, vi 1, vr b1, vi 1, vi 3, vi 1, vi c1] [(.int (c1.toInt8.toInt32)), (.int 1), (.ref b1)])) rfl rfl (dk d10_31)
      have O233 := O227.wr W232 pr3
      have Z233 : n0 ≤ h232.size := Nat.le_trans Z227 (Keep.of_wr W232).1
      have V232 : Arv Z h232 b1 kb .byte (3 : Int32) [(.int (nar .byte (c0.toInt8.toInt32))), (.int (nar .byte (c1.toInt8.toInt32))), (.int 0)] (.int 0) := Arv.set Ar231 q231 S231 N_231 Hs231 G231 (fits_nar_byte _) W232 1 rfl (Nat.le_of_ble_eq_true rfl)
      have N232 := Fr.snoc X232 N226 pr3
      refine gy (St T232 m 32 #[vr a1, vi 1, vr b1, vi 1, vi 3, vi 1, vi c1] []) st232 ?_
      refine gy (St T232 m 11 #[vr a1, vi 2, vr b1, vi 2, vi 3, vi 2, vi c1] [(.ref a1)]) (fun _ k => XS.iinc X232.here hx rfl (dk d10_32) rfl (l' := #[vr a1, vi 2, vr b1, vi 1, vi 3, vi 1, vi c1]) rfl (XS.iinc X232.here hx rfl (dk d10_35) rfl (l' := #[vr a1, vi 2, vr b1, vi 2, vi 3, vi 1, vi c1]) rfl (XS.iinc X232.here hx rfl (dk d10_38) rfl (l' := #[vr a1, vi 2, vr b1, vi 2, vi 3, vi 2, vi c1]) rfl (XS.goto X232.here hx rfl (pc0 := 41) (pc' := 3) rfl (dk d10_41) (by decide) (by decide) (XS.iload X232.here hx rfl (dk d10_3) rfl (XS.iload X232.here hx rfl (dk d10_5) rfl (XS.icmpNo X232.here hx rfl (dk d10_7) rfl (tlt (by decide : (2 : Int32) < (3 : Int32))).2.1 (XS.aloadN X232.here hx rfl (dk d10_10) rfl rfl k)))))))) ?_
      refine gy (St T232 m 12 #[vr a1, vi 2, vr b1, vi 2, vi 3, vi 2, vi c1] [(.int 2), (.ref a1)]) (fun _ k => XS.iloadN X232.here hx rfl (dk d10_11) rfl k) ?_
      have f235 := ((pr1.other W226 pr4).other W232 pr4)
      obtain ⟨cl234, Ar234, q234, S234, N_234, Hs234, G234⟩ := id f235
      have hin236 : ¬ ((2 : Int32) < 0 ∨ cl234.slots.size ≤ ((2 : Int32)).toNatClampNeg) := inb_of S234 ⟨by decide, by decide⟩
      have hat236 : cl234.slots[((2 : Int32)).toNatClampNeg]? = some (.int c2) := Hs234.at hin236 rfl
      refine gy (St T232 m 13 #[vr a1, vi 2, vr b1, vi 2, vi 3, vi 2, vi c1] [(.int c2)]) (fun _ k => X232.caload hx (j := (2 : Int32)) (v := (.int c2)) (by rw [e232]; exact Ar234.1) (State.isArrayOf_alike hZ.alike Ar234.2.1) Ar234.2.2 hin236 hat236 (g := (mkF m 12 #[vr a1, vi 2, vr b1, vi 2, vi 3, vi 2, vi c1] [(.int 2), (.ref a1)])) rfl rfl (dk d10_12) _ k) ?_
      refine gy (St T232 m 20 #[vr a1, vi 2, vr b1, vi 2, vi 3, vi 2, vi c2] [(.int 255), (.int c2)]) (fun _ k => XS.istore X232.here hx rfl (dk d10_13) rfl (l' := #[vr a1, vi 2, vr b1, vi 2, vi 3, vi 2, vi c2]) rfl (XS.iload X232.here hx rfl (dk d10_15) rfl (XS.sipush X232.here hx rfl (dk d10_17) k))) ?_
      by_cases c237 : (255 : Int32) < c2
      · skip
        refine gy (St T232 m 25 #[vr a1, vi 2, vr b1, vi 2, vi 3, vi 2, vi c2] [(.int 2)]) (fun _ k => XS.icmpNo X232.here hx rfl (dk d10_20) rfl (tlt c237).2.2.2 (XS.iload X232.here hx rfl (dk d10_23) rfl k)) ?_
        refine Go.ret X232 hx hlk (t := .int) hret rfl (Or.inl ⟨rfl, by simp, _, rfl⟩) (dk d10_25) (by decide) (by decide) ?_
        rw [e232]
        exact ⟨(2 : Int32), rfl, N232, (((Keep.refl h0 [b1]).wr W226 (Or.inl (List.mem_of_getElem? (i := 0) rfl))).wr W232 (Or.inl (List.mem_of_getElem? (i := 0) rfl))), (fun q => absurd q (by decide)), (Or.inr (Or.inr (Or.inr ⟨rfl, c237⟩)))⟩
      · skip
        refine gy (St T232 m 31 #[vr a1, vi 2, vr b1, vi 2, vi 3, vi 2, vi c2] [(.int (c2.toInt8.toInt32)), (.int 2), (.ref b1)]) (fun _ k => XS.icmpYes X232.here hx rfl (pc0 := 20) (pc' := 26) rfl (dk d10_20) rfl (flt c237).2.2.2 (by decide) (by decide) (XS.aloadN X232.here hx rfl (dk d10_26) rfl rfl (XS.iloadN X232.here hx rfl (dk d10_27) rfl (XS.iload X232.here hx rfl (dk d10_28) rfl (XS.i2b X232.here hx rfl (dk d10_30) rfl k))))) ?_
        obtain ⟨cl238, Ar238, q238, S238, N_238, Hs238, G238⟩ := id V232
        have hin239 : ¬ ((2 : Int32) < 0 ∨ cl238.slots.size ≤ ((2 : Int32)).toNatClampNeg) := inb_of S238 ⟨by decide, by decide⟩
        obtain ⟨T239, h239, X239, e239, W239, st239⟩ := stB X232 hx hZ e232 Ar238 (j := (2 : Int32)) hin239 (g := (mkF m 31 #[vr a1, vi 2, vr b1, vi 2, vi 3, vi 2, vi c2] [(.int (c2.toInt8.toInt32)), (.int 2), (.ref b1)])) rfl rfl (dk d10_31)
        have O240 := O233.wr W239 pr3
        have Z240 : n0 ≤ h239.size := Nat.le_trans Z233 (Keep.of_wr W239).1
        have V239 : Arv Z h239 b1 kb .byte (3 : Int32) [(.int (nar .byte (c0.toInt8.toInt32))), (.int (nar .byte (c1.toInt8.toInt32))), (.int (nar .byte (c2.toInt8.toInt32)))] (.int 0) := Arv.set Ar238 q238 S238 N_238 Hs238 G238 (fits_nar_byte _) W239 2 rfl (Nat.le_of_ble_eq_true rfl)
        have N239 := Fr.snoc X239 N232 pr3
        refine gy (St T239 m 32 #[vr a1, vi 2, vr b1, vi 2, vi 3, vi 2, vi c2] []) st239 ?_
        refine gy (St T239 m 46 #[vr a1, vi 3, vr b1, vi 3, vi 3, vi 3, vi c2] [(.int 3)]) (fun _ k => XS.iinc X239.here hx rfl (dk d10_32) rfl (l' := #[vr a1, vi 3, vr b1, vi 2, vi 3, vi 2, vi c2]) rfl (XS.iinc X239.here hx rfl (dk d10_35) rfl (l' := #[vr a1, vi 3, vr b1, vi 3, vi 3, vi 2, vi c2]) rfl (XS.iinc X239.here hx rfl (dk d10_38) rfl (l' := #[vr a1, vi 3, vr b1, vi 3, vi 3, vi 3, vi c2]) rfl (XS.goto X239.here hx rfl (pc0 := 41) (pc' := 3) rfl (dk d10_41) (by decide) (by decide) (XS.iload X239.here hx rfl (dk d10_3) rfl (XS.iload X239.here hx rfl (dk d10_5) rfl (XS.icmpYes X239.here hx rfl (pc0 := 7) (pc' := 44) rfl (dk d10_7) rfl (flt (by decide : ¬ ((3 : Int32) < (3 : Int32)))).2.1 (by decide) (by decide) (XS.iload X239.here hx rfl (dk d10_44) rfl k)))))))) ?_
        refine Go.ret X239 hx hlk (t := .int) hret rfl (Or.inl ⟨rfl, by simp, _, rfl⟩) (dk d10_46) (by decide) (by decide) ?_
        rw [e239]
        exact ⟨(3 : Int32), rfl, N239, ((((Keep.refl h0 [b1]).wr W226 (Or.inl (List.mem_of_getElem? (i := 0) rfl))).wr W232 (Or.inl (List.mem_of_getElem? (i := 0) rfl))).wr W239 (Or.inl (List.mem_of_getElem? (i := 0) rfl))), (fun _ => V239), (Or.inl ⟨rfl, c224, c230, c237⟩)⟩
theorem ef_rm_cmp3_3 (m : MethodId) (x0 : Addr) : entryFrame m #[(.ref x0), (.int 0), (.int 3)] 6 = mkF m 0 #[vr x0, vi 0, vi 3, .unset, .unset, .unset] [] := by first | (simp [entryFrame, mkF, argsToLocals, Value.category]; done) | rfl
def Q_rm_cmp3_3 (Z : State) (a1 : Addr) (ka : ClassId) (c0 : Int32) (c1 : Int32) (c2 : Int32) (h0 : Heap) (n0 : Nat) (vv : Option Value) (h : Heap) (L : List Loc) : Prop := ∃ b : Addr, ∃ k : ClassId, ∃ u : Bool, vv = some (.ref b) ∧ Fr n0 L ∧ Keep h0 h [] ∧ h0.size ≤ b ∧ (u = false → ¬ (255 : Int32) < c0 ∧ ¬ (255 : Int32) < c1 ∧ ¬ (255 : Int32) < c2) ∧ (u = false → Arv Z h b k .byte (3 : Int32) [(.int (nar .byte (c0.toInt8.toInt32))), (.int (nar .byte (c1.toInt8.toInt32))), (.int (nar .byte (c2.toInt8.toInt32)))] (.int 0)) ∧ (u = true → Arv Z h b k .byte (6 : Int32) [(.int (own_b0 c0)), (.int (own_b1 c0)), (.int (own_b0 c1)), (.int (own_b1 c1)), (.int (own_b0 c2)), (.int (own_b1 c2))] (.int 0))
set_option maxRecDepth 65536 in
set_option maxHeartbeats 40000000 in
theorem rm_cmp3_3 (l : Launch) (Z : State) (a0 : Array Value) (hw : HW a0 Z) (ws : List Jvm.Cond) (a1 : Addr) (ka : ClassId) (c0 : Int32) (c1 : Int32) (c2 : Int32) (h0 : Heap) (n0 : Nat) (Z0 : n0 ≤ h0.size) (pr0 : Old Z n0 h0) (pr1 : Sta Z Z.heap "java/lang/StringUTF16" "$assertionsDisabled" "Z" (.int 1)) (pr2 : Sta Z Z.heap "java/lang/StringUTF16" "HI_BYTE_SHIFT" "I" (.int 0)) (pr3 : Sta Z Z.heap "java/lang/StringUTF16" "LO_BYTE_SHIFT" "I" (.int 8)) (pr4 : Arv Z h0 a1 ka .char (3 : Int32) [(.int c0), (.int c1), (.int c2)] (.int 0)) (hr0 : own_rng c0) (hr1 : own_rng c1) (hr2 : own_rng c2) :
    Met l Z Y16 jdk_52_method_16_code 6 (some (.array .byte)) ws ({ frames := 3, cells := 2, slots := 9, locals := 40 } : Room) #[(.ref a1), (.int 0), (.int 3)] h0 (Q_rm_cmp3_3 Z a1 ka c0 c1 c2 h0 n0) := by
  refine Met.enter (f0 := fun m => mkF m 0 #[vr a1, vi 0, vi 3, .unset, .unset, .unset] []) (plainFor_of_name pn_java_lang_StringUTF16) (fun m => ef_rm_cmp3_3 m a1) ?_
  intro p e s m below meth c s₁ hx hby hml hown hnm hret hlk hZ X0 e0
  have hown : s.vm.findClass "java/lang/StringUTF16" = some m.cls := hown
  have hnm : meth.name = "compress" := hnm
  have hml : c.maxLocals = 6 := hml
  have dk : ∀ {i : Nat} {r : Except DecodeError (Instr × Nat)}, decode jdk_52_method_16_code i = r → decode c.code i = r := fun h => hb hby h
  have N0 := Fr.nil n0
  refine gy (St s₁ m 1 #[vr a1, vi 0, vi 3, .unset, .unset, .unset] [(.int 3)]) (fun _ k => XS.iloadN X0.here hx rfl (dk d9_0) rfl k) ?_
  obtain ⟨T241, h241, k241, X241, e241, E241, A241, st241⟩ := newP X0 hx hZ (wd hw 24 rfl) e0 (g := (mkF m 1 #[vr a1, vi 0, vi 3, .unset, .unset, .unset] [(.int 3)])) rfl (dk d9_1) rfl (by decide) (cap := 3) (by decide) (by decide) (by decide) (by decide)
  obtain ⟨b241, g241⟩ : ∃ z, z = h0.size := ⟨_, rfl⟩
  rw [← g241] at A241 st241
  have sz_b241 : h0.size ≤ b241 := Nat.le_of_eq g241.symm
  have V241 : Arv Z h241 b241 k241 .byte (3 : Int32) [(.int 0), (.int 0), (.int 0)] (.int 0) := (Arv.new A241 (by decide)).pad (pad_rep [] (.int 0) 3)
  have O242 := pr0.ext E241
  have Z242 : n0 ≤ h241.size := Nat.le_trans Z0 E241.1
  refine gy (St T241 m 3 #[vr a1, vi 0, vi 3, .unset, .unset, .unset] [(.ref b241)]) st241 ?_
  refine gy (St T241 m 9 #[vr a1, vi 0, vi 3, vr b241, .unset, .unset] [(.int 3), (.int 0), (.ref b241), (.int 0), (.ref a1)]) (fun _ k => XS.astoreN X241.here hx rfl (dk d9_3) rfl rfl (l' := #[vr a1, vi 0, vi 3, vr b241, .unset, .unset]) rfl (XS.aloadN X241.here hx rfl (dk d9_4) rfl rfl (XS.iloadN X241.here hx rfl (dk d9_5) rfl (XS.aloadN X241.here hx rfl (dk d9_6) rfl rfl (XS.iconst X241.here hx rfl (dk d9_7) (XS.iloadN X241.here hx rfl (dk d9_8) rfl k)))))) ?_
  obtain ⟨_, _, ⟨T243, L243, k243, n243⟩, -, X243, ⟨Lc243, hQ243, l243, y243, z243⟩, st243⟩ := Jvm.LawKit.callS X241 hx (y := Y17) hown (mvT hZ (wd hw 50 rfl)) (mvT hZ (wd hw 51 rfl)) (mvT hZ (wd hw 48 rfl)) (mvT hZ (wd hw 52 rfl)) (by decide) (backOf (W := 0) (rm_cmp5_3 l Z a0 hw [] a1 b241 ka k241 c0 c1 c2 h241 n0 Z242 O242 (pr4.ext E241) V241 (Nat.le_trans Z0 sz_b241) (Nat.ne_of_lt (Nat.lt_of_lt_of_le pr4.lt sz_b241))) hZ (wd hw 52 rfl) (wd hw 48 rfl) (by decide) (by decide)) (g := (mkF m 9 #[vr a1, vi 0, vi 3, vr b241, .unset, .unset] [(.int 3), (.int 0), (.ref b241), (.int 0), (.ref a1)])) rfl (by rw [hml]; rfl) (argsL := [(.ref a1), (.int 0), (.ref b241), (.int 0), (.int 3)]) (rest := []) (lenOf pd_3 rfl) rfl (by show 2 * 0 + _ ≤ _; exact Nat.le_of_eq rfl) (dk d9_9) (fun _ _ => ⟨rfl, e241, Nat.le_of_ble_eq_true rfl, Nat.le_of_ble_eq_true rfl⟩)
  dsimp only [Pt.U, Pt.locs, Pt.cells, Pt.slots] at X243 l243 y243 z243 st243 hQ243
  subst l243 y243 z243
  obtain ⟨r243, rfl, Nq243, K243, p243_0, p243_1⟩ := hQ243
  have N243 := Fr.app N0 Nq243
  have O244 := O242.keep K243 (allS (Nat.le_trans Z0 sz_b241) all0)
  have Z244 : n0 ≤ T243.heap.size := Nat.le_trans Z242 K243.1
  refine gy (St T243 m 12 #[vr a1, vi 0, vi 3, vr b241, .unset, .unset] [(.int r243)]) (fun _ k => st243 _ k) ?_
  rcases p243_1 with ⟨rfl, e245, e246, e247⟩ | ⟨rfl, e248⟩ | ⟨rfl, e249⟩ | ⟨rfl, e250⟩
  · skip
    have V251 := p243_0 rfl
    refine gy (St T243 m 58 #[vr a1, vi 0, vi 3, vr b241, vi 3, .unset] [(.ref b241)]) (fun _ k => XS.istore X243.here hx rfl (dk d9_12) rfl (l' := #[vr a1, vi 0, vi 3, vr b241, vi 3, .unset]) rfl (XS.iload X243.here hx rfl (dk d9_14) rfl (XS.iloadN X243.here hx rfl (dk d9_16) rfl (XS.icmpYes X243.here hx rfl (pc0 := 17) (pc' := 57) rfl (dk d9_17) rfl (teq (by decide : (3 : Int32) = (3 : Int32))).1 (by decide) (by decide) (XS.aloadN X243.here hx rfl (dk d9_57) rfl rfl k))))) ?_
    refine Go.ret X243 hx hlk (t := (.array .byte)) hret rfl (Or.inr (Or.inr (Or.inr (Or.inr ⟨rfl, rfl, rfl⟩)))) (dk d9_58) (by decide) (by decide) ?_
    exact ⟨b241, k241, false, rfl, N243, (((Keep.refl h0 []).ext E241).trans K243 (allS (Or.inr (Nat.le_trans (Nat.le_refl _) sz_b241)) all0)), (Nat.le_trans (Nat.le_refl _) sz_b241), (fun _ => ⟨e245, e246, e247⟩), (fun _ => V251), (fun q => nomatch q)⟩
  · skip
    refine gy (St T243 m 23 #[vr a1, vi 0, vi 3, vr b241, vi 0, .unset] [(.int 3), (.int 0), (.ref a1)]) (fun _ k => XS.istore X243.here hx rfl (dk d9_12) rfl (l' := #[vr a1, vi 0, vi 3, vr b241, vi 0, .unset]) rfl (XS.iload X243.here hx rfl (dk d9_14) rfl (XS.iloadN X243.here hx rfl (dk d9_16) rfl (XS.icmpNo X243.here hx rfl (dk d9_17) rfl (feq (by decide : ¬ ((0 : Int32) = (3 : Int32)))).1 (XS.aloadN X243.here hx rfl (dk d9_20) rfl rfl (XS.iloadN X243.here hx rfl (dk d9_21) rfl (XS.iloadN X243.here hx rfl (dk d9_22) rfl k))))))) ?_
    have f252 := ((pr4.ext E241).keep K243 (ninS (Nat.ne_of_lt (Nat.lt_of_lt_of_le pr4.lt sz_b241)) nin0))
    obtain ⟨_, _, ⟨T253, L253, k253, n253⟩, -, X253, ⟨Lc253, hQ253, l253, y253, z253⟩, st253⟩ := Jvm.LawKit.callS X243 hx (y := Y23) hown (mvT hZ (wd hw 84 rfl)) (mvT hZ (wd hw 85 rfl)) (mvT hZ (wd hw 48 rfl)) (mvT hZ (wd hw 86 rfl)) (by decide) (backOf (W := 0) (rm_tb_3 l Z a0 hw [] a1 ka c0 c1 c2 T243.heap n0 Z244 O244 pr1 pr2 pr3 f252) hZ (wd hw 86 rfl) (wd hw 48 rfl) (by decide) (by decide)) (g := (mkF m 23 #[vr a1, vi 0, vi 3, vr b241, vi 0, .unset] [(.int 3), (.int 0), (.ref a1)])) rfl (by rw [hml]; rfl) (argsL := [(.ref a1), (.int 0), (.int 3)]) (rest := []) (lenOf pd_4 rfl) rfl (by show 2 * 0 + _ ≤ _; exact Nat.le_of_eq rfl) (dk d9_23) (fun _ _ => ⟨rfl, rfl, Nat.le_of_ble_eq_true rfl, Nat.le_of_ble_eq_true rfl⟩)
    dsimp only [Pt.U, Pt.locs, Pt.cells, Pt.slots] at X253 l253 y253 z253 st253 hQ253
    subst l253 y253 z253
    obtain ⟨b253, k253, rfl, Nq253, K253, p253_0, p253_1⟩ := hQ253
    have N253 := Fr.app N243 Nq253
    have O254 := O244.keep K253 all0
    have Z254 : n0 ≤ T253.heap.size := Nat.le_trans Z244 K253.1
    have sz_b253 : T243.heap.size ≤ b253 := p253_1
    refine gy (St T253 m 26 #[vr a1, vi 0, vi 3, vr b241, vi 0, .unset] [(.ref b253)]) (fun _ k => st253 _ k) ?_
    refine gy (St T253 m 32 #[vr a1, vi 0, vi 3, vr b241, vi 0, vr b253] [(.int 0), (.ref b253)]) (fun _ k => XS.astore X253.here hx rfl (dk d9_26) rfl rfl (l' := #[vr a1, vi 0, vi 3, vr b241, vi 0, vr b253]) rfl (XS.aload X253.here hx rfl (dk d9_28) rfl rfl (XS.iload X253.here hx rfl (dk d9_30) rfl k))) ?_
    obtain ⟨_, _, ⟨T255, L255, k255, n255⟩, -, X255, ⟨Lc255, hQ255, l255, y255, z255⟩, st255⟩ := Jvm.LawKit.callS X253 hx (y := Y18) hown (mvT hZ (wd hw 100 rfl)) (mvT hZ (wd hw 101 rfl)) (mvT hZ (wd hw 48 rfl)) (mvT hZ (wd hw 102 rfl)) (by decide) (backOf (W := 0) (rm_get_0 l Z a0 hw [] b253 k253 c0 (6 : Int32) [(.int (own_b0 c0)), (.int (own_b1 c0)), (.int (own_b0 c1)), (.int (own_b1 c1)), (.int (own_b0 c2)), (.int (own_b1 c2))] T253.heap n0 Z254 O254 pr1 pr2 pr3 p253_0 (by decide) (by decide) rfl rfl hr0) hZ (wd hw 102 rfl) (wd hw 48 rfl) (by decide) (by decide)) (g := (mkF m 32 #[vr a1, vi 0, vi 3, vr b241, vi 0, vr b253] [(.int 0), (.ref b253)])) rfl (by rw [hml]; rfl) (argsL := [(.ref b253), (.int 0)]) (rest := []) (lenOf pd_5 rfl) rfl (by show 2 * 0 + _ ≤ _; exact Nat.le_of_eq rfl) (dk d9_32) (fun _ _ => ⟨rfl, rfl, Nat.le_of_ble_eq_true rfl, Nat.le_of_ble_eq_true rfl⟩)
    dsimp only [Pt.U, Pt.locs, Pt.cells, Pt.slots] at X255 l255 y255 z255 st255 hQ255
    subst l255 y255 z255
    obtain ⟨rfl, Nq255, hh255⟩ := hQ255
    have N255 := Fr.app N253 Nq255
    refine gy (St T255 m 35 #[vr a1, vi 0, vi 3, vr b241, vi 0, vr b253] [(.int c0)]) (fun _ k => st255 _ k) ?_
    refine gy (St T255 m 56 #[vr a1, vi 0, vi 3, vr b241, vi 0, vr b253] [(.ref b253)]) (fun _ k => XS.sipush X255.here hx rfl (dk d9_35) (XS.icmpYes X255.here hx rfl (pc0 := 38) (pc' := 54) rfl (dk d9_38) rfl (tlt e248).2.2.1 (by decide) (by decide) (XS.aload X255.here hx rfl (dk d9_54) rfl rfl k))) ?_
    refine Go.ret X255 hx hlk (t := (.array .byte)) hret rfl (Or.inr (Or.inr (Or.inr (Or.inr ⟨rfl, rfl, rfl⟩)))) (dk d9_56) (by decide) (by decide) ?_
    rw [hh255]
    exact ⟨b253, k253, true, rfl, N255, ((((Keep.refl h0 []).ext E241).trans K243 (allS (Or.inr (Nat.le_trans (Nat.le_refl _) sz_b241)) all0)).trans K253 all0), (Nat.le_trans (Nat.le_trans (Nat.le_trans (Nat.le_refl _) E241.1) K243.1) sz_b253), (fun q => nomatch q), (fun q => nomatch q), (fun _ => p253_0)⟩
  · skip
    refine gy (St T243 m 23 #[vr a1, vi 0, vi 3, vr b241, vi 1, .unset] [(.int 3), (.int 0), (.ref a1)]) (fun _ k => XS.istore X243.here hx rfl (dk d9_12) rfl (l' := #[vr a1, vi 0, vi 3, vr b241, vi 1, .unset]) rfl (XS.iload X243.here hx rfl (dk d9_14) rfl (XS.iloadN X243.here hx rfl (dk d9_16) rfl (XS.icmpNo X243.here hx rfl (dk d9_17) rfl (feq (by decide : ¬ ((1 : Int32) = (3 : Int32)))).1 (XS.aloadN X243.here hx rfl (dk d9_20) rfl rfl (XS.iloadN X243.here hx rfl (dk d9_21) rfl (XS.iloadN X243.here hx rfl (dk d9_22) rfl k))))))) ?_
    have f256 := ((pr4.ext E241).keep K243 (ninS (Nat.ne_of_lt (Nat.lt_of_lt_of_le pr4.lt sz_b241)) nin0))
    obtain ⟨_, _, ⟨T257, L257, k257, n257⟩, -, X257, ⟨Lc257, hQ257, l257, y257, z257⟩, st257⟩ := Jvm.LawKit.callS X243 hx (y := Y23) hown (mvT hZ (wd hw 84 rfl)) (mvT hZ (wd hw 85 rfl)) (mvT hZ (wd hw 48 rfl)) (mvT hZ (wd hw 86 rfl)) (by decide) (backOf (W := 0) (rm_tb_3 l Z a0 hw [] a1 ka c0 c1 c2 T243.heap n0 Z244 O244 pr1 pr2 pr3 f256) hZ (wd hw 86 rfl) (wd hw 48 rfl) (by decide) (by decide)) (g := (mkF m 23 #[vr a1, vi 0, vi 3, vr b241, vi 1, .unset] [(.int 3), (.int 0), (.ref a1)])) rfl (by rw [hml]; rfl) (argsL := [(.ref a1), (.int 0), (.int 3)]) (rest := []) (lenOf pd_4 rfl) rfl (by show 2 * 0 + _ ≤ _; exact Nat.le_of_eq rfl) (dk d9_23) (fun _ _ => ⟨rfl, rfl, Nat.le_of_ble_eq_true rfl, Nat.le_of_ble_eq_true rfl⟩)
    dsimp only [Pt.U, Pt.locs, Pt.cells, Pt.slots] at X257 l257 y257 z257 st257 hQ257
    subst l257 y257 z257
    obtain ⟨b257, k257, rfl, Nq257, K257, p257_0, p257_1⟩ := hQ257
    have N257 := Fr.app N243 Nq257
    have O258 := O244.keep K257 all0
    have Z258 : n0 ≤ T257.heap.size := Nat.le_trans Z244 K257.1
    have sz_b257 : T243.heap.size ≤ b257 := p257_1
    refine gy (St T257 m 26 #[vr a1, vi 0, vi 3, vr b241, vi 1, .unset] [(.ref b257)]) (fun _ k => st257 _ k) ?_
    refine gy (St T257 m 32 #[vr a1, vi 0, vi 3, vr b241, vi 1, vr b257] [(.int 1), (.ref b257)]) (fun _ k => XS.astore X257.here hx rfl (dk d9_26) rfl rfl (l' := #[vr a1, vi 0, vi 3, vr b241, vi 1, vr b257]) rfl (XS.aload X257.here hx rfl (dk d9_28) rfl rfl (XS.iload X257.here hx rfl (dk d9_30) rfl k))) ?_
    obtain ⟨_, _, ⟨T259, L259, k259, n259⟩, -, X259, ⟨Lc259, hQ259, l259, y259, z259⟩, st259⟩ := Jvm.LawKit.callS X257 hx (y := Y18) hown (mvT hZ (wd hw 100 rfl)) (mvT hZ (wd hw 101 rfl)) (mvT hZ (wd hw 48 rfl)) (mvT hZ (wd hw 102 rfl)) (by decide) (backOf (W := 0) (rm_get_1 l Z a0 hw [] b257 k257 c1 (6 : Int32) [(.int (own_b0 c0)), (.int (own_b1 c0)), (.int (own_b0 c1)), (.int (own_b1 c1)), (.int (own_b0 c2)), (.int (own_b1 c2))] T257.heap n0 Z258 O258 pr1 pr2 pr3 p257_0 (by decide) (by decide) rfl rfl hr1) hZ (wd hw 102 rfl) (wd hw 48 rfl) (by decide) (by decide)) (g := (mkF m 32 #[vr a1, vi 0, vi 3, vr b241, vi 1, vr b257] [(.int 1), (.ref b257)])) rfl (by rw [hml]; rfl) (argsL := [(.ref b257), (.int 1)]) (rest := []) (lenOf pd_5 rfl) rfl (by show 2 * 0 + _ ≤ _; exact Nat.le_of_eq rfl) (dk d9_32) (fun _ _ => ⟨rfl, rfl, Nat.le_of_ble_eq_true rfl, Nat.le_of_ble_eq_true rfl⟩)
    dsimp only [Pt.U, Pt.locs, Pt.cells, Pt.slots] at X259 l259 y259 z259 st259 hQ259
    subst l259 y259 z259
    obtain ⟨rfl, Nq259, hh259⟩ := hQ259
    have N259 := Fr.app N257 Nq259
    refine gy (St T259 m 35 #[vr a1, vi 0, vi 3, vr b241, vi 1, vr b257] [(.int c1)]) (fun _ k => st259 _ k) ?_
    refine gy (St T259 m 56 #[vr a1, vi 0, vi 3, vr b241, vi 1, vr b257] [(.ref b257)]) (fun _ k => XS.sipush X259.here hx rfl (dk d9_35) (XS.icmpYes X259.here hx rfl (pc0 := 38) (pc' := 54) rfl (dk d9_38) rfl (tlt e249).2.2.1 (by decide) (by decide) (XS.aload X259.here hx rfl (dk d9_54) rfl rfl k))) ?_
    refine Go.ret X259 hx hlk (t := (.array .byte)) hret rfl (Or.inr (Or.inr (Or.inr (Or.inr ⟨rfl, rfl, rfl⟩)))) (dk d9_56) (by decide) (by decide) ?_
    rw [hh259]
    exact ⟨b257, k257, true, rfl, N259, ((((Keep.refl h0 []).ext E241).trans K243 (allS (Or.inr (Nat.le_trans (Nat.le_refl _) sz_b241)) all0)).trans K257 all0), (Nat.le_trans (Nat.le_trans (Nat.le_trans (Nat.le_refl _) E241.1) K243.1) sz_b257), (fun q => nomatch q), (fun q => nomatch q), (fun _ => p257_0)⟩
  · skip
    refine gy (St T243 m 23 #[vr a1, vi 0, vi 3, vr b241, vi 2, .unset] [(.int 3), (.int 0), (.ref a1)]) (fun _ k => XS.istore X243.here hx rfl (dk d9_12) rfl (l' := #[vr a1, vi 0, vi 3, vr b241, vi 2, .unset]) rfl (XS.iload X243.here hx rfl (dk d9_14) rfl (XS.iloadN X243.here hx rfl (dk d9_16) rfl (XS.icmpNo X243.here hx rfl (dk d9_17) rfl (feq (by decide : ¬ ((2 : Int32) = (3 : Int32)))).1 (XS.aloadN X243.here hx rfl (dk d9_20) rfl rfl (XS.iloadN X243.here hx rfl (dk d9_21) rfl (XS.iloadN X243.here hx rfl (dk d9_22) rfl k))))))) ?_
    have f260 := ((pr4.ext E241).keep K243 (ninS (Nat.ne_of_lt (Nat.lt_of_lt_of_le pr4.lt sz_b241)) nin0))
    obtain ⟨_, _, ⟨T261, L261, k261, n261⟩, -, X261, ⟨Lc261, hQ261, l261, y261, z261⟩, st261⟩ := Jvm.LawKit.callS X243 hx (y := Y23) hown (mvT hZ (wd hw 84 rfl)) (mvT hZ (wd hw 85 rfl)) (mvT hZ (wd hw 48 rfl)) (mvT hZ (wd hw 86 rfl)) (by decide) (backOf (W := 0) (rm_tb_3 l Z a0 hw [] a1 ka c0 c1 c2 T243.heap n0 Z244 O244 pr1 pr2 pr3 f260) hZ (wd hw 86 rfl) (wd hw 48 rfl) (by decide) (by decide)) (g := (mkF m 23 #[vr a1, vi 0, vi 3, vr b241, vi 2, .unset] [(.int 3), (.int 0), (.ref a1)])) rfl (by rw [hml]; rfl) (argsL := [(.ref a1), (.int 0), (.int 3)]) (rest := []) (lenOf pd_4 rfl) rfl (by show 2 * 0 + _ ≤ _; exact Nat.le_of_eq rfl) (dk d9_23) (fun _ _ => ⟨rfl, rfl, Nat.le_of_ble_eq_true rfl, Nat.le_of_ble_eq_true rfl⟩)
    dsimp only [Pt.U, Pt.locs, Pt.cells, Pt.slots] at X261 l261 y261 z261 st261 hQ261
    subst l261 y261 z261
    obtain ⟨b261, k261, rfl, Nq261, K261, p261_0, p261_1⟩ := hQ261
    have N261 := Fr.app N243 Nq261
    have O262 := O244.keep K261 all0
    have Z262 : n0 ≤ T261.heap.size := Nat.le_trans Z244 K261.1
    have sz_b261 : T243.heap.size ≤ b261 := p261_1
    refine gy (St T261 m 26 #[vr a1, vi 0, vi 3, vr b241, vi 2, .unset] [(.ref b261)]) (fun _ k => st261 _ k) ?_
    refine gy (St T261 m 32 #[vr a1, vi 0, vi 3, vr b241, vi 2, vr b261] [(.int 2), (.ref b261)]) (fun _ k => XS.astore X261.here hx rfl (dk d9_26) rfl rfl (l' := #[vr a1, vi 0, vi 3, vr b241, vi 2, vr b261]) rfl (XS.aload X261.here hx rfl (dk d9_28) rfl rfl (XS.iload X261.here hx rfl (dk d9_30) rfl k))) ?_
    obtain ⟨_, _, ⟨T263, L263, k263, n263⟩, -, X263, ⟨Lc263, hQ263, l263, y263, z263⟩, st263⟩ := Jvm.LawKit.callS X261 hx (y := Y18) hown (mvT hZ (wd hw 100 rfl)) (mvT hZ (wd hw 101 rfl)) (mvT hZ (wd hw 48 rfl)) (mvT hZ (wd hw 102 rfl)) (by decide) (backOf (W := 0) (rm_get_2 l Z a0 hw [] b261 k261 c2 (6 : Int32) [(.int (own_b0 c0)), (.int (own_b1 c0)), (.int (own_b0 c1)), (.int (own_b1 c1)), (.int (own_b0 c2)), (.int (own_b1 c2))] T261.heap n0 Z262 O262 pr1 pr2 pr3 p261_0 (by decide) (by decide) rfl rfl hr2) hZ (wd hw 102 rfl) (wd hw 48 rfl) (by decide) (by decide)) (g := (mkF m 32 #[vr a1, vi 0, vi 3, vr b241, vi 2, vr b261] [(.int 2), (.ref b261)])) rfl (by rw [hml]; rfl) (argsL := [(.ref b261), (.int 2)]) (rest := []) (lenOf pd_5 rfl) rfl (by show 2 * 0 + _ ≤ _; exact Nat.le_of_eq rfl) (dk d9_32) (fun _ _ => ⟨rfl, rfl, Nat.le_of_ble_eq_true rfl, Nat.le_of_ble_eq_true rfl⟩)
    dsimp only [Pt.U, Pt.locs, Pt.cells, Pt.slots] at X263 l263 y263 z263 st263 hQ263
    subst l263 y263 z263
    obtain ⟨rfl, Nq263, hh263⟩ := hQ263
    have N263 := Fr.app N261 Nq263
    refine gy (St T263 m 35 #[vr a1, vi 0, vi 3, vr b241, vi 2, vr b261] [(.int c2)]) (fun _ k => st263 _ k) ?_
    refine gy (St T263 m 56 #[vr a1, vi 0, vi 3, vr b241, vi 2, vr b261] [(.ref b261)]) (fun _ k => XS.sipush X263.here hx rfl (dk d9_35) (XS.icmpYes X263.here hx rfl (pc0 := 38) (pc' := 54) rfl (dk d9_38) rfl (tlt e250).2.2.1 (by decide) (by decide) (XS.aload X263.here hx rfl (dk d9_54) rfl rfl k))) ?_
    refine Go.ret X263 hx hlk (t := (.array .byte)) hret rfl (Or.inr (Or.inr (Or.inr (Or.inr ⟨rfl, rfl, rfl⟩)))) (dk d9_56) (by decide) (by decide) ?_
    rw [hh263]
    exact ⟨b261, k261, true, rfl, N263, ((((Keep.refl h0 []).ext E241).trans K243 (allS (Or.inr (Nat.le_trans (Nat.le_refl _) sz_b241)) all0)).trans K261 all0), (Nat.le_trans (Nat.le_trans (Nat.le_trans (Nat.le_refl _) E241.1) K243.1) sz_b261), (fun q => nomatch q), (fun q => nomatch q), (fun _ => p261_0)⟩
theorem ef_rm_sV_3 (m : MethodId) (x0 : Addr) (x1 : Addr) : entryFrame m #[(.ref x0), (.ref x1), (.int 0), (.int 3), .null] 6 = mkF m 0 #[vr x0, vr x1, vi 0, vi 3, .val .null, .unset] [] := by first | (simp [entryFrame, mkF, argsToLocals, Value.category]; done) | rfl
def Q_rm_sV_3 (Z : State) (a1 : Addr) (v1 : Addr) (ka : ClassId) (c0 : Int32) (c1 : Int32) (c2 : Int32) (cs : Int32) (h0 : Heap) (n0 : Nat) (vv : Option Value) (h : Heap) (L : List Loc) : Prop := ∃ t : Addr, ∃ k : ClassId, ∃ u : Bool, vv = none ∧ Fr n0 L ∧ Keep h0 h [a1] ∧ Exa Z h a1 "java/lang/String" ∧ Fld Z h a1 "java/lang/String" "value" "[B" (.ref t) ∧ h0.size ≤ t ∧ (u = false → ¬ (255 : Int32) < c0 ∧ ¬ (255 : Int32) < c1 ∧ ¬ (255 : Int32) < c2) ∧ (u = false → Arv Z h t k .byte (3 : Int32) [(.int (nar .byte (c0.toInt8.toInt32))), (.int (nar .byte (c1.toInt8.toInt32))), (.int (nar .byte (c2.toInt8.toInt32)))] (.int 0)) ∧ (u = true → Arv Z h t k .byte (6 : Int32) [(.int (own_b0 c0)), (.int (own_b1 c0)), (.int (own_b0 c1)), (.int (own_b1 c1)), (.int (own_b0 c2)), (.int (own_b1 c2))] (.int 0)) ∧ (u = false → Fld Z h a1 "java/lang/String" "coder" "B" (.int 0)) ∧ (u = true → Fld Z h a1 "java/lang/String" "coder" "B" (.int 1))
set_option maxRecDepth 65536 in
set_option maxHeartbeats 40000000 in
theorem rm_sV_3 (l : Launch) (Z : State) (a0 : Array Value) (hw : HW a0 Z) (ws : List Jvm.Cond) (a1 : Addr) (v1 : Addr) (ka : ClassId) (c0 : Int32) (c1 : Int32) (c2 : Int32) (cs : Int32) (h0 : Heap) (n0 : Nat) (Z0 : n0 ≤ h0.size) (pr0 : Old Z n0 h0) (pr1 : Sta Z Z.heap "java/lang/String" "COMPACT_STRINGS" "Z" (.int cs)) (hcs : ¬ (cs = (0 : Int32))) (pr3 : Sta Z Z.heap "java/lang/StringUTF16" "$assertionsDisabled" "Z" (.int 1)) (pr4 : Sta Z Z.heap "java/lang/StringUTF16" "HI_BYTE_SHIFT" "I" (.int 0)) (pr5 : Sta Z Z.heap "java/lang/StringUTF16" "LO_BYTE_SHIFT" "I" (.int 8)) (pr6 : Exa Z h0 a1 "java/lang/String") (pr7 : Fld Z h0 a1 "java/lang/String" "value" "[B" .null) (pr8 : Fld Z h0 a1 "java/lang/String" "coder" "B" (.int 0)) (pr9 : n0 ≤ a1) (pr10 : Arv Z h0 v1 ka .char (3 : Int32) [(.int c0), (.int c1), (.int c2)] (.int 0)) (hr0 : own_rng c0) (hr1 : own_rng c1) (hr2 : own_rng c2) :
    Met l Z Y6 jdk_42_method_149_code 6 none ws ({ frames := 4, cells := 2, slots := 9, locals := 57 } : Room) #[(.ref a1), (.ref v1), (.int 0), (.int 3), .null] h0 (Q_rm_sV_3 Z a1 v1 ka c0 c1 c2 cs h0 n0) := by
  refine Met.enter (f0 := fun m => mkF m 0 #[vr a1, vr v1, vi 0, vi 3, .val .null, .unset] []) (plainFor_of_name pn_java_lang_String) (fun m => ef_rm_sV_3 m a1 v1) ?_
  intro p e s m below meth c s₁ hx hby hml hown hnm hret hlk hZ X0 e0
  have hown : s.vm.findClass "java/lang/String" = some m.cls := hown
  have hnm : meth.name = "<init>" := hnm
  have hml : c.maxLocals = 6 := hml
  have dk : ∀ {i : Nat} {r : Except DecodeError (Instr × Nat)}, decode jdk_42_method_149_code i = r → decode c.code i = r := fun h => hb hby h
  have N0 := Fr.nil n0
  refine gy (St s₁ m 1 #[vr a1, vr v1, vi 0, vi 3, .val .null, .unset] [(.ref a1)]) (fun _ k => XS.aloadN X0.here hx rfl (dk d4_0) rfl rfl k) ?_
  obtain ⟨T264, X264, e264, st264⟩ := initO X0 hx hZ hown (wd hw 20 rfl) (wd hw 21 rfl) (wd hw 22 rfl) e0 (g := (mkF m 1 #[vr a1, vr v1, vi 0, vi 3, .val .null, .unset] [(.ref a1)])) rfl (by rw [hml]; rfl) rfl (dk d4_1) (by decide) (W := 0) (by show 2 * 0 + _ ≤ _; exact Nat.le_of_eq rfl) (by decide)
  refine gy (St T264 m 4 #[vr a1, vr v1, vi 0, vi 3, .val .null, .unset] []) st264 ?_
  refine gy (St T264 m 27 #[vr a1, vr v1, vi 0, vi 3, .val .null, .unset] []) (fun _ k => XS.iloadN X264.here hx rfl (dk d4_4) rfl (XS.ifYes X264.here hx rfl (pc0 := 5) (pc' := 27) rfl (dk d4_5) rfl ((if0 _ _).trans (feq (by decide : ¬ ((3 : Int32) = (0 : Int32)))).2) (by decide) (by decide) k)) ?_
  obtain ⟨T265, X265, e265, st265⟩ := getS2 X264 hx hZ hown (host := "") (Or.inl (wd hw 45 rfl)) Via.refl e264 (pr1.ext pr0.2) (g := (mkF m 27 #[vr a1, vr v1, vi 0, vi 3, .val .null, .unset] [])) rfl (dk d4_27)
  refine gy (St T265 m 30 #[vr a1, vr v1, vi 0, vi 3, .val .null, .unset] [(.int cs)]) st265 ?_
  refine gy (St T265 m 36 #[vr a1, vr v1, vi 0, vi 3, .val .null, .unset] [(.int 3), (.int 0), (.ref v1)]) (fun _ k => XS.ifNo X265.here hx rfl (dk d4_30) rfl ((if0 _ _).trans (feq hcs).1) (XS.aloadN X265.here hx rfl (dk d4_33) rfl rfl (XS.iloadN X265.here hx rfl (dk d4_34) rfl (XS.iloadN X265.here hx rfl (dk d4_35) rfl k)))) ?_
  obtain ⟨_, _, ⟨T266, L266, k266, n266⟩, -, X266, ⟨Lc266, hQ266, l266, y266, z266⟩, st266⟩ := Jvm.LawKit.callS X265 hx (y := Y16) hown (mvT hZ (wd hw 46 rfl)) (mvT hZ (wd hw 47 rfl)) (mvT hZ (wd hw 48 rfl)) (mvT hZ (wd hw 49 rfl)) (by decide) (backOf (W := 0) (rm_cmp3_3 l Z a0 hw [] v1 ka c0 c1 c2 h0 n0 Z0 pr0 pr3 pr4 pr5 pr10 hr0 hr1 hr2) hZ (wd hw 49 rfl) (wd hw 48 rfl) (by decide) (by decide)) (g := (mkF m 36 #[vr a1, vr v1, vi 0, vi 3, .val .null, .unset] [(.int 3), (.int 0), (.ref v1)])) rfl (by rw [hml]; rfl) (argsL := [(.ref v1), (.int 0), (.int 3)]) (rest := []) (lenOf pd_4 rfl) rfl (by show 2 * 0 + _ ≤ _; exact Nat.le_of_eq rfl) (dk d4_36) (fun _ _ => ⟨rfl, e265, Nat.le_of_ble_eq_true rfl, Nat.le_of_ble_eq_true rfl⟩)
  dsimp only [Pt.U, Pt.locs, Pt.cells, Pt.slots] at X266 l266 y266 z266 st266 hQ266
  subst l266 y266 z266
  obtain ⟨b266, k266, u266, rfl, Nq266, K266, p266_0, p266_1, p266_2, p266_3⟩ := hQ266
  have N266 := Fr.app N0 Nq266
  have O267 := pr0.keep K266 all0
  have Z267 : n0 ≤ T266.heap.size := Nat.le_trans Z0 K266.1
  have sz_b266 : h0.size ≤ b266 := p266_0
  refine gy (St T266 m 39 #[vr a1, vr v1, vi 0, vi 3, .val .null, .unset] [(.ref b266)]) (fun _ k => st266 _ k) ?_
  rcases u266 with _ | _
  · skip
    have V268 := p266_2 rfl
    refine gy (St T266 m 45 #[vr a1, vr v1, vi 0, vi 3, .val .null, vr b266] [(.int 3), (.ref b266), (.ref a1)]) (fun _ k => XS.astore X266.here hx rfl (dk d4_39) rfl rfl (l' := #[vr a1, vr v1, vi 0, vi 3, .val .null, vr b266]) rfl (XS.aloadN X266.here hx rfl (dk d4_41) rfl rfl (XS.aload X266.here hx rfl (dk d4_42) rfl rfl (XS.iloadN X266.here hx rfl (dk d4_44) rfl k)))) ?_
    obtain ⟨_, _, ⟨T269, L269, k269, n269⟩, -, X269, ⟨Lc269, hQ269, l269, y269, z269⟩, st269⟩ := Jvm.LawKit.callS X266 hx (y := Y15) hown (mvT hZ (wd hw 53 rfl)) (mvT hZ (wd hw 54 rfl)) (mvT hZ (wd hw 48 rfl)) (mvT hZ (wd hw 55 rfl)) (by decide) (backOf (W := 1) (rm_cfal_3_0 l Z a0 hw [] b266 k266 c0 c1 c2 T266.heap n0 Z267 V268) hZ (wd hw 55 rfl) (wd hw 48 rfl) (by decide) (by decide)) (g := (mkF m 45 #[vr a1, vr v1, vi 0, vi 3, .val .null, vr b266] [(.int 3), (.ref b266), (.ref a1)])) rfl (by rw [hml]; rfl) (argsL := [(.ref b266), (.int 3)]) (rest := [(.ref a1)]) (lenOf pd_6 rfl) rfl (by show 2 * 0 + _ ≤ _; exact Nat.le_of_eq rfl) (dk d4_45) (fun _ _ => ⟨rfl, rfl, Nat.le_of_ble_eq_true rfl, Nat.le_of_ble_eq_true rfl⟩)
    dsimp only [Pt.U, Pt.locs, Pt.cells, Pt.slots] at X269 l269 y269 z269 st269 hQ269
    subst l269 y269 z269
    obtain ⟨rfl, Nq269, hh269⟩ := hQ269
    have N269 := Fr.app N266 Nq269
    refine gy (St T269 m 48 #[vr a1, vr v1, vi 0, vi 3, .val .null, vr b266] [(.int 0), (.ref a1)]) (fun _ k => st269 _ k) ?_
    obtain ⟨T270, h270, X270, e270, W270, st270⟩ := putFN X269 hx hZ hown (wd hw 30 rfl) Via.refl hh269 (pr8.keep K266 nin0) (pr6.keep K266) (Or.inr ⟨(wd hw 26 rfl), rfl, hnm⟩) (wd hw 10 rfl) (ty := .byte) (v' := (.int 0)) (by decide) rfl rfl (g := (mkF m 48 #[vr a1, vr v1, vi 0, vi 3, .val .null, vr b266] [(.int 0), (.ref a1)])) rfl rfl (dk d4_48)
    have N270 := Fr.snoc X270 N269 pr9
    have O271 := O267.wr W270 pr9
    have Z271 : n0 ≤ h270.size := Nat.le_trans Z267 (Keep.of_wr W270).1
    have F270 := (pr8.keep K266 nin0).same W270
    refine gy (St T270 m 51 #[vr a1, vr v1, vi 0, vi 3, .val .null, vr b266] []) st270 ?_
    refine gy (St T270 m 54 #[vr a1, vr v1, vi 0, vi 3, .val .null, vr b266] [(.ref b266), (.ref a1)]) (fun _ k => XS.aloadN X270.here hx rfl (dk d4_51) rfl rfl (XS.aload X270.here hx rfl (dk d4_52) rfl rfl k)) ?_
    have f272 := ((pr7.keep K266 nin0).other W270 (Or.inr (slot_ne (Or.inr (wd hw 25 rfl)) (Or.inr (wd hw 26 rfl)) (by decide) (t := (.array .byte)) (t' := .byte) (by decide) (by decide))))
    obtain ⟨T273, h273, X273, e273, W273, st273⟩ := putF X270 hx hZ hown (host := "") (Or.inl (wd hw 29 rfl)) Via.refl e270 f272 ((pr6.keep K266).wr W270) (Or.inr ⟨(wd hw 25 rfl), rfl, hnm⟩) (wd hw 10 rfl) (ty := (.array .byte)) (by decide) rfl rfl (g := (mkF m 54 #[vr a1, vr v1, vi 0, vi 3, .val .null, vr b266] [(.ref b266), (.ref a1)])) rfl rfl (dk d4_54)
    have N273 := Fr.snoc X273 N270 pr9
    have O274 := O271.wr W273 pr9
    have Z274 : n0 ≤ h273.size := Nat.le_trans Z271 (Keep.of_wr W273).1
    have F273 := f272.same W273
    refine gy (St T273 m 57 #[vr a1, vr v1, vi 0, vi 3, .val .null, vr b266] []) st273 ?_
    refine Go.retV X273 hx hlk hret (dk d4_57) (by decide) (by decide) ?_
    rw [e273]
    exact ⟨b266, k266, false, rfl, N273, ((((Keep.refl h0 [a1]).trans K266 all0).wr W270 (Or.inl (List.mem_of_getElem? (i := 0) rfl))).wr W273 (Or.inl (List.mem_of_getElem? (i := 0) rfl))), (((pr6.keep K266).wr W270).wr W273), F273, (Nat.le_trans (Nat.le_refl _) sz_b266), p266_1, (fun _ => ((V268.other W270 (Ne.symm (Nat.ne_of_lt (Nat.lt_of_lt_of_le pr6.lt sz_b266)))).other W273 (Ne.symm (Nat.ne_of_lt (Nat.lt_of_lt_of_le pr6.lt sz_b266))))), (fun q => nomatch q), (fun _ => (F270.other W273 (Or.inr (slot_ne (Or.inr (wd hw 26 rfl)) (Or.inr (wd hw 25 rfl)) (by decide) (t := .byte) (t' := (.array .byte)) (by decide) (by decide))))), (fun q => nomatch q)⟩
  · skip
    have V275 := p266_3 rfl
    refine gy (St T266 m 45 #[vr a1, vr v1, vi 0, vi 3, .val .null, vr b266] [(.int 3), (.ref b266), (.ref a1)]) (fun _ k => XS.astore X266.here hx rfl (dk d4_39) rfl rfl (l' := #[vr a1, vr v1, vi 0, vi 3, .val .null, vr b266]) rfl (XS.aloadN X266.here hx rfl (dk d4_41) rfl rfl (XS.aload X266.here hx rfl (dk d4_42) rfl rfl (XS.iloadN X266.here hx rfl (dk d4_44) rfl k)))) ?_
    obtain ⟨_, _, ⟨T276, L276, k276, n276⟩, -, X276, ⟨Lc276, hQ276, l276, y276, z276⟩, st276⟩ := Jvm.LawKit.callS X266 hx (y := Y15) hown (mvT hZ (wd hw 53 rfl)) (mvT hZ (wd hw 54 rfl)) (mvT hZ (wd hw 48 rfl)) (mvT hZ (wd hw 55 rfl)) (by decide) (backOf (W := 1) (rm_cfal_3_1 l Z a0 hw [] b266 k266 c0 c1 c2 T266.heap n0 Z267 V275) hZ (wd hw 55 rfl) (wd hw 48 rfl) (by decide) (by decide)) (g := (mkF m 45 #[vr a1, vr v1, vi 0, vi 3, .val .null, vr b266] [(.int 3), (.ref b266), (.ref a1)])) rfl (by rw [hml]; rfl) (argsL := [(.ref b266), (.int 3)]) (rest := [(.ref a1)]) (lenOf pd_6 rfl) rfl (by show 2 * 0 + _ ≤ _; exact Nat.le_of_eq rfl) (dk d4_45) (fun _ _ => ⟨rfl, rfl, Nat.le_of_ble_eq_true rfl, Nat.le_of_ble_eq_true rfl⟩)
    dsimp only [Pt.U, Pt.locs, Pt.cells, Pt.slots] at X276 l276 y276 z276 st276 hQ276
    subst l276 y276 z276
    obtain ⟨rfl, Nq276, hh276⟩ := hQ276
    have N276 := Fr.app N266 Nq276
    refine gy (St T276 m 48 #[vr a1, vr v1, vi 0, vi 3, .val .null, vr b266] [(.int 1), (.ref a1)]) (fun _ k => st276 _ k) ?_
    obtain ⟨T277, h277, X277, e277, W277, st277⟩ := putFN X276 hx hZ hown (wd hw 30 rfl) Via.refl hh276 (pr8.keep K266 nin0) (pr6.keep K266) (Or.inr ⟨(wd hw 26 rfl), rfl, hnm⟩) (wd hw 10 rfl) (ty := .byte) (v' := (.int 1)) (by decide) rfl rfl (g := (mkF m 48 #[vr a1, vr v1, vi 0, vi 3, .val .null, vr b266] [(.int 1), (.ref a1)])) rfl rfl (dk d4_48)
    have N277 := Fr.snoc X277 N276 pr9
    have O278 := O267.wr W277 pr9
    have Z278 : n0 ≤ h277.size := Nat.le_trans Z267 (Keep.of_wr W277).1
    have F277 := (pr8.keep K266 nin0).same W277
    refine gy (St T277 m 51 #[vr a1, vr v1, vi 0, vi 3, .val .null, vr b266] []) st277 ?_
    refine gy (St T277 m 54 #[vr a1, vr v1, vi 0, vi 3, .val .null, vr b266] [(.ref b266), (.ref a1)]) (fun _ k => XS.aloadN X277.here hx rfl (dk d4_51) rfl rfl (XS.aload X277.here hx rfl (dk d4_52) rfl rfl k)) ?_
    have f279 := ((pr7.keep K266 nin0).other W277 (Or.inr (slot_ne (Or.inr (wd hw 25 rfl)) (Or.inr (wd hw 26 rfl)) (by decide) (t := (.array .byte)) (t' := .byte) (by decide) (by decide))))
    obtain ⟨T280, h280, X280, e280, W280, st280⟩ := putF X277 hx hZ hown (host := "") (Or.inl (wd hw 29 rfl)) Via.refl e277 f279 ((pr6.keep K266).wr W277) (Or.inr ⟨(wd hw 25 rfl), rfl, hnm⟩) (wd hw 10 rfl) (ty := (.array .byte)) (by decide) rfl rfl (g := (mkF m 54 #[vr a1, vr v1, vi 0, vi 3, .val .null, vr b266] [(.ref b266), (.ref a1)])) rfl rfl (dk d4_54)
    have N280 := Fr.snoc X280 N277 pr9
    have O281 := O278.wr W280 pr9
    have Z281 : n0 ≤ h280.size := Nat.le_trans Z278 (Keep.of_wr W280).1
    have F280 := f279.same W280
    refine gy (St T280 m 57 #[vr a1, vr v1, vi 0, vi 3, .val .null, vr b266] []) st280 ?_
    refine Go.retV X280 hx hlk hret (dk d4_57) (by decide) (by decide) ?_
    rw [e280]
    exact ⟨b266, k266, true, rfl, N280, ((((Keep.refl h0 [a1]).trans K266 all0).wr W277 (Or.inl (List.mem_of_getElem? (i := 0) rfl))).wr W280 (Or.inl (List.mem_of_getElem? (i := 0) rfl))), (((pr6.keep K266).wr W277).wr W280), F280, (Nat.le_trans (Nat.le_refl _) sz_b266), (fun q => nomatch q), (fun q => nomatch q), (fun _ => ((V275.other W277 (Ne.symm (Nat.ne_of_lt (Nat.lt_of_lt_of_le pr6.lt sz_b266)))).other W280 (Ne.symm (Nat.ne_of_lt (Nat.lt_of_lt_of_le pr6.lt sz_b266))))), (fun q => nomatch q), (fun _ => (F277.other W280 (Or.inr (slot_ne (Or.inr (wd hw 26 rfl)) (Or.inr (wd hw 25 rfl)) (by decide) (t := .byte) (t' := (.array .byte)) (by decide) (by decide)))))⟩
theorem ef_rm_sC_3 (m : MethodId) (x0 : Addr) (x1 : Addr) : entryFrame m #[(.ref x0), (.ref x1)] 2 = mkF m 0 #[vr x0, vr x1] [] := by first | (simp [entryFrame, mkF, argsToLocals, Value.category]; done) | rfl
def Q_rm_sC_3 (Z : State) (a1 : Addr) (v1 : Addr) (ka : ClassId) (c0 : Int32) (c1 : Int32) (c2 : Int32) (cs : Int32) (h0 : Heap) (n0 : Nat) (vv : Option Value) (h : Heap) (L : List Loc) : Prop := ∃ t : Addr, ∃ k : ClassId, ∃ u : Bool, vv = none ∧ Fr n0 L ∧ Keep h0 h [a1] ∧ Exa Z h a1 "java/lang/String" ∧ Fld Z h a1 "java/lang/String" "value" "[B" (.ref t) ∧ h0.size ≤ t ∧ (u = false → ¬ (255 : Int32) < c0 ∧ ¬ (255 : Int32) < c1 ∧ ¬ (255 : Int32) < c2) ∧ (u = false → Arv Z h t k .byte (3 : Int32) [(.int (nar .byte (c0.toInt8.toInt32))), (.int (nar .byte (c1.toInt8.toInt32))), (.int (nar .byte (c2.toInt8.toInt32)))] (.int 0)) ∧ (u = true → Arv Z h t k .byte (6 : Int32) [(.int (own_b0 c0)), (.int (own_b1 c0)), (.int (own_b0 c1)), (.int (own_b1 c1)), (.int (own_b0 c2)), (.int (own_b1 c2))] (.int 0)) ∧ (u = false → Fld Z h a1 "java/lang/String" "coder" "B" (.int 0)) ∧ (u = true → Fld Z h a1 "java/lang/String" "coder" "B" (.int 1))
set_option maxRecDepth 65536 in
set_option maxHeartbeats 40000000 in
theorem rm_sC_3 (l : Launch) (Z : State) (a0 : Array Value) (hw : HW a0 Z) (ws : List Jvm.Cond) (a1 : Addr) (v1 : Addr) (ka : ClassId) (c0 : Int32) (c1 : Int32) (c2 : Int32) (cs : Int32) (h0 : Heap) (n0 : Nat) (Z0 : n0 ≤ h0.size) (pr0 : Old Z n0 h0) (pr1 : Sta Z Z.heap "java/lang/String" "COMPACT_STRINGS" "Z" (.int cs)) (hcs : ¬ (cs = (0 : Int32))) (pr3 : Sta Z Z.heap "java/lang/StringUTF16" "$assertionsDisabled" "Z" (.int 1)) (pr4 : Sta Z Z.heap "java/lang/StringUTF16" "HI_BYTE_SHIFT" "I" (.int 0)) (pr5 : Sta Z Z.heap "java/lang/StringUTF16" "LO_BYTE_SHIFT" "I" (.int 8)) (pr6 : Exa Z h0 a1 "java/lang/String") (pr7 : Fld Z h0 a1 "java/lang/String" "value" "[B" .null) (pr8 : Fld Z h0 a1 "java/lang/String" "coder" "B" (.int 0)) (pr9 : n0 ≤ a1) (pr10 : Arv Z h0 v1 ka .char (3 : Int32) [(.int c0), (.int c1), (.int c2)] (.int 0)) (hr0 : own_rng c0) (hr1 : own_rng c1) (hr2 : own_rng c2) :
    Met l Z Y5 jdk_42_method_3_code 2 none ws ({ frames := 5, cells := 2, slots := 9, locals := 74 } : Room) #[(.ref a1), (.ref v1)] h0 (Q_rm_sC_3 Z a1 v1 ka c0 c1 c2 cs h0 n0) := by
  refine Met.enter (f0 := fun m => mkF m 0 #[vr a1, vr v1] []) (plainFor_of_name pn_java_lang_String) (fun m => ef_rm_sC_3 m a1 v1) ?_
  intro p e s m below meth c s₁ hx hby hml hown hnm hret hlk hZ X0 e0
  have hown : s.vm.findClass "java/lang/String" = some m.cls := hown
  have hnm : meth.name = "<init>" := hnm
  have hml : c.maxLocals = 2 := hml
  have dk : ∀ {i : Nat} {r : Except DecodeError (Instr × Nat)}, decode jdk_42_method_3_code i = r → decode c.code i = r := fun h => hb hby h
  have N0 := Fr.nil n0
  refine gy (St s₁ m 4 #[vr a1, vr v1] [(.ref v1), (.int 0), (.ref v1), (.ref a1)]) (fun _ k => XS.aloadN X0.here hx rfl (dk d3_0) rfl rfl (XS.aloadN X0.here hx rfl (dk d3_1) rfl rfl (XS.iconst X0.here hx rfl (dk d3_2) (XS.aloadN X0.here hx rfl (dk d3_3) rfl rfl k)))) ?_
  obtain ⟨cl282, Ar282, q282, S282, N_282, Hs282, G282⟩ := id pr10
  refine gy (St s₁ m 5 #[vr a1, vr v1] [(.int 3), (.int 0), (.ref v1), (.ref a1)]) (fun _ k => X0.arraylength hx (by rw [e0]; exact Ar282.1) (State.isArrayOf_alike hZ.alike Ar282.2.1) (g := (mkF m 4 #[vr a1, vr v1] [(.ref v1), (.int 0), (.ref v1), (.ref a1)])) rfl rfl (dk d3_4) _ (by rw [len_of S282 N_282]; exact k)) ?_
  refine gy (St s₁ m 6 #[vr a1, vr v1] [.null, (.int 3), (.int 0), (.ref v1), (.ref a1)]) (fun _ k => XS.aconstNull X0.here hx rfl (dk d3_5) k) ?_
  obtain ⟨_, _, ⟨T283, L283, k283, n283⟩, -, X283, ⟨Lc283, hQ283, l283, y283, z283⟩, st283⟩ := X0.specialBack hx (y := Y6) rfl hown (mvT hZ (wd hw 16 rfl)) (mvT hZ (wd hw 17 rfl)) (mvT hZ (wd hw 19 rfl)) (by decide) (backOf (W := 0) (rm_sV_3 l Z a0 hw [] a1 v1 ka c0 c1 c2 cs h0 n0 Z0 pr0 pr1 hcs pr3 pr4 pr5 pr6 pr7 pr8 pr9 pr10 hr0 hr1 hr2) hZ (wd hw 19 rfl) (wd hw 11 rfl) (by decide) (by decide)) (g := (mkF m 6 #[vr a1, vr v1] [.null, (.int 3), (.int 0), (.ref v1), (.ref a1)])) rfl (by rw [hml]; rfl) (Steps.refl _) (a := a1) (argsL := [(.ref v1), (.int 0), (.int 3), .null]) (rest := []) (lenOf pd_7 rfl) rfl (by show 2 * 0 + _ ≤ _; exact Nat.le_of_eq rfl) (dk d3_6) (fun _ _ => ⟨rfl, e0, Nat.le_of_ble_eq_true rfl, Nat.le_of_ble_eq_true rfl⟩)
  dsimp only [Pt.U, Pt.locs, Pt.cells, Pt.slots] at X283 l283 y283 z283 st283 hQ283
  subst l283 y283 z283
  obtain ⟨t283, k283, u283, rfl, Nq283, K283, p283_0, p283_1, p283_2, p283_3, p283_4, p283_5, p283_6, p283_7⟩ := hQ283
  have N283 := Fr.app N0 Nq283
  have O284 := pr0.keep K283 (allS pr9 all0)
  have Z284 : n0 ≤ T283.heap.size := Nat.le_trans Z0 K283.1
  have sz_t283 : h0.size ≤ t283 := p283_2
  refine gy (St T283 m 9 #[vr a1, vr v1] []) (fun _ k => st283.trans k) ?_
  refine Go.retV X283 hx hlk hret (dk d3_9) (by decide) (by decide) ?_
  exact ⟨t283, k283, u283, rfl, N283, ((Keep.refl h0 [a1]).trans K283 (allS (Or.inl (List.mem_of_getElem? (i := 0) rfl)) all0)), p283_0, p283_1, (Nat.le_trans (Nat.le_refl _) sz_t283), p283_3, p283_4, p283_5, p283_6, p283_7⟩
theorem ef_rm_nbl_4 (m : MethodId)  : entryFrame m #[(.int 4)] 1 = mkF m 0 #[vi 4] [] := by first | (simp [entryFrame, mkF, argsToLocals, Value.category]; done) | rfl
def Q_rm_nbl_4 (Z : State)  (h0 : Heap) (n0 : Nat) (vv : Option Value) (h : Heap) (L : List Loc) : Prop := vv = some (.int 8) ∧ Fr n0 L ∧ h = h0
set_option maxRecDepth 65536 in
set_option maxHeartbeats 40000000 in
theorem rm_nbl_4 (l : Launch) (Z : State) (a0 : Array Value) (hw : HW a0 Z) (ws : List Jvm.Cond)  (h0 : Heap) (n0 : Nat) (Z0 : n0 ≤ h0.size) :
    Met l Z Y21 jdk_52_method_3_code 1 (some .int) ws ({ frames := 0, cells := 0, slots := 0, locals := 0 } : Room) #[(.int 4)] h0 (Q_rm_nbl_4 Z  h0 n0) := by
  refine Met.enter (f0 := fun m => mkF m 0 #[vi 4] []) (plainFor_of_name pn_java_lang_StringUTF16) (fun m => ef_rm_nbl_4 m ) ?_
  intro p e s m below meth c s₁ hx hby hml hown hnm hret hlk hZ X0 e0
  have hown : s.vm.findClass "java/lang/StringUTF16" = some m.cls := hown
  have hnm : meth.name = "newBytesLength" := hnm
  have hml : c.maxLocals = 1 := hml
  have dk : ∀ {i : Nat} {r : Except DecodeError (Instr × Nat)}, decode jdk_52_method_3_code i = r → decode c.code i = r := fun h => hb hby h
  have N0 := Fr.nil n0
  refine gy (St s₁ m 58 #[vi 4] [(.int 8)]) (fun _ k => XS.iloadN X0.here hx rfl (dk d21_0) rfl (XS.ifYes X0.here hx rfl (pc0 := 1) (pc' := 12) rfl (dk d21_1) rfl ((if0 _ _).trans (flt (by decide : ¬ ((4 : Int32) < (0 : Int32)))).2.1) (by decide) (by decide) (XS.iloadN X0.here hx rfl (dk d21_12) rfl (X0.ldcInt hx hown (mvT hZ (wd hw 93 rfl)) (g := (mkF m 13 #[vi 4] [(.int 4)])) rfl (dk d21_13) _ (XS.icmpYes X0.here hx rfl (pc0 := 15) (pc' := 55) rfl (dk d21_15) rfl (tlt (by decide : (4 : Int32) < (1073741823 : Int32))).1 (by decide) (by decide) (XS.iloadN X0.here hx rfl (dk d21_55) rfl (XS.iconst X0.here hx rfl (dk d21_56) (XS.ishl X0.here hx rfl (dk d21_57) rfl k)))))))) ?_
  refine Go.ret X0 hx hlk (t := .int) hret rfl (Or.inl ⟨rfl, by simp, _, rfl⟩) (dk d21_58) (by decide) (by decide) ?_
  rw [e0]
  exact ⟨rfl, N0, rfl⟩
theorem ef_rm_nbf_4 (m : MethodId)  : entryFrame m #[(.int 4)] 1 = mkF m 0 #[vi 4] [] := by first | (simp [entryFrame, mkF, argsToLocals, Value.category]; done) | rfl
def Q_rm_nbf_4 (Z : State)  (h0 : Heap) (n0 : Nat) (vv : Option Value) (h : Heap) (L : List Loc) : Prop := ∃ b : Addr, ∃ k : ClassId, vv = some (.ref b) ∧ Fr n0 L ∧ Keep h0 h [] ∧ Arv Z h b k .byte (8 : Int32) [(.int 0), (.int 0), (.int 0), (.int 0), (.int 0), (.int 0), (.int 0), (.int 0)] (.int 0) ∧ h0.size ≤ b
set_option maxRecDepth 65536 in
set_option maxHeartbeats 40000000 in
theorem rm_nbf_4 (l : Launch) (Z : State) (a0 : Array Value) (hw : HW a0 Z) (ws : List Jvm.Cond)  (h0 : Heap) (n0 : Nat) (Z0 : n0 ≤ h0.size) (pr0 : Old Z n0 h0) :
    Met l Z Y20 jdk_52_method_2_code 1 (some (.array .byte)) ws ({ frames := 1, cells := 1, slots := 8, locals := 12 } : Room) #[(.int 4)] h0 (Q_rm_nbf_4 Z  h0 n0) := by
  refine Met.enter (f0 := fun m => mkF m 0 #[vi 4] []) (plainFor_of_name pn_java_lang_StringUTF16) (fun m => ef_rm_nbf_4 m ) ?_
  intro p e s m below meth c s₁ hx hby hml hown hnm hret hlk hZ X0 e0
  have hown : s.vm.findClass "java/lang/StringUTF16" = some m.cls := hown
  have hnm : meth.name = "newBytesFor" := hnm
  have hml : c.maxLocals = 1 := hml
  have dk : ∀ {i : Nat} {r : Except DecodeError (Instr × Nat)}, decode jdk_52_method_2_code i = r → decode c.code i = r := fun h => hb hby h
  have N0 := Fr.nil n0
  refine gy (St s₁ m 1 #[vi 4] [(.int 4)]) (fun _ k => XS.iloadN X0.here hx rfl (dk d20_0) rfl k) ?_
  obtain ⟨_, _, ⟨T285, L285, k285, n285⟩, -, X285, ⟨Lc285, hQ285, l285, y285, z285⟩, st285⟩ := Jvm.LawKit.callS X0 hx (y := Y21) hown (mvT hZ (wd hw 90 rfl)) (mvT hZ (wd hw 91 rfl)) (mvT hZ (wd hw 48 rfl)) (mvT hZ (wd hw 92 rfl)) (by decide) (backOf (W := 0) (rm_nbl_4 l Z a0 hw []  h0 n0 Z0 ) hZ (wd hw 92 rfl) (wd hw 48 rfl) (by decide) (by decide)) (g := (mkF m 1 #[vi 4] [(.int 4)])) rfl (by rw [hml]; rfl) (argsL := [(.int 4)]) (rest := []) (lenOf pd_0 rfl) rfl (by show 2 * 0 + _ ≤ _; exact Nat.le_of_eq rfl) (dk d20_1) (fun _ _ => ⟨rfl, e0, Nat.le_of_ble_eq_true rfl, Nat.le_of_ble_eq_true rfl⟩)
  dsimp only [Pt.U, Pt.locs, Pt.cells, Pt.slots] at X285 l285 y285 z285 st285 hQ285
  subst l285 y285 z285
  obtain ⟨rfl, Nq285, hh285⟩ := hQ285
  have N285 := Fr.app N0 Nq285
  refine gy (St T285 m 4 #[vi 4] [(.int 8)]) (fun _ k => st285 _ k) ?_
  obtain ⟨T286, h286, k286, X286, e286, E286, A286, st286⟩ := newP X285 hx hZ (wd hw 24 rfl) hh285 (g := (mkF m 4 #[vi 4] [(.int 8)])) rfl (dk d20_4) rfl (by decide) (cap := 8) (by decide) (by decide) (by decide) (by decide)
  obtain ⟨b286, g286⟩ : ∃ z, z = h0.size := ⟨_, rfl⟩
  rw [← g286] at A286 st286
  have sz_b286 : h0.size ≤ b286 := Nat.le_of_eq g286.symm
  have V286 : Arv Z h286 b286 k286 .byte (8 : Int32) [(.int 0), (.int 0), (.int 0), (.int 0), (.int 0), (.int 0), (.int 0), (.int 0)] (.int 0) := (Arv.new A286 (by decide)).pad (pad_rep [] (.int 0) 8)
  have O287 := pr0.ext E286
  have Z287 : n0 ≤ h286.size := Nat.le_trans Z0 E286.1
  refine gy (St T286 m 6 #[vi 4] [(.ref b286)]) st286 ?_
  refine Go.ret X286 hx hlk (t := (.array .byte)) hret rfl (Or.inr (Or.inr (Or.inr (Or.inr ⟨rfl, rfl, rfl⟩)))) (dk d20_6) (by decide) (by decide) ?_
  rw [e286]
  exact ⟨b286, k286, rfl, N285, ((Keep.refl h0 []).ext E286), V286, (Nat.le_trans (Nat.le_refl _) sz_b286)⟩
theorem ef_rm_tb_4 (m : MethodId) (x0 : Addr) : entryFrame m #[(.ref x0), (.int 0), (.int 4)] 5 = mkF m 0 #[vr x0, vi 0, vi 4, .unset, .unset] [] := by first | (simp [entryFrame, mkF, argsToLocals, Value.category]; done) | rfl
def Q_rm_tb_4 (Z : State) (a1 : Addr) (ka : ClassId) (c0 : Int32) (c1 : Int32) (c2 : Int32) (c3 : Int32) (h0 : Heap) (n0 : Nat) (vv : Option Value) (h : Heap) (L : List Loc) : Prop := ∃ b : Addr, ∃ k : ClassId, vv = some (.ref b) ∧ Fr n0 L ∧ Keep h0 h [] ∧ Arv Z h b k .byte (8 : Int32) [(.int (own_b0 c0)), (.int (own_b1 c0)), (.int (own_b0 c1)), (.int (own_b1 c1)), (.int (own_b0 c2)), (.int (own_b1 c2)), (.int (own_b0 c3)), (.int (own_b1 c3))] (.int 0) ∧ h0.size ≤ b
set_option maxRecDepth 65536 in
set_option maxHeartbeats 40000000 in
theorem rm_tb_4 (l : Launch) (Z : State) (a0 : Array Value) (hw : HW a0 Z) (ws : List Jvm.Cond) (a1 : Addr) (ka : ClassId) (c0 : Int32) (c1 : Int32) (c2 : Int32) (c3 : Int32) (h0 : Heap) (n0 : Nat) (Z0 : n0 ≤ h0.size) (pr0 : Old Z n0 h0) (pr1 : Sta Z Z.heap "java/lang/StringUTF16" "$assertionsDisabled" "Z" (.int 1)) (pr2 : Sta Z Z.heap "java/lang/StringUTF16" "HI_BYTE_SHIFT" "I" (.int 0)) (pr3 : Sta Z Z.heap "java/lang/StringUTF16" "LO_BYTE_SHIFT" "I" (.int 8)) (pr4 : Arv Z h0 a1 ka .char (4 : Int32) [(.int c0), (.int c1), (.int c2), (.int c3)] (.int 0)) :
    Met l Z Y23 jdk_52_method_14_code 5 (some (.array .byte)) ws ({ frames := 2, cells := 1, slots := 8, locals := 24 } : Room) #[(.ref a1), (.int 0), (.int 4)] h0 (Q_rm_tb_4 Z a1 ka c0 c1 c2 c3 h0 n0) := by
  refine Met.enter (f0 := fun m => mkF m 0 #[vr a1, vi 0, vi 4, .unset, .unset] []) (plainFor_of_name pn_java_lang_StringUTF16) (fun m => ef_rm_tb_4 m a1) ?_
  intro p e s m below meth c s₁ hx hby hml hown hnm hret hlk hZ X0 e0
  have hown : s.vm.findClass "java/lang/StringUTF16" = some m.cls := hown
  have hnm : meth.name = "toBytes" := hnm
  have hml : c.maxLocals = 5 := hml
  have dk : ∀ {i : Nat} {r : Except DecodeError (Instr × Nat)}, decode jdk_52_method_14_code i = r → decode c.code i = r := fun h => hb hby h
  have N0 := Fr.nil n0
  refine gy (St s₁ m 1 #[vr a1, vi 0, vi 4, .unset, .unset] [(.int 4)]) (fun _ k => XS.iloadN X0.here hx rfl (dk d19_0) rfl k) ?_
  obtain ⟨_, _, ⟨T288, L288, k288, n288⟩, -, X288, ⟨Lc288, hQ288, l288, y288, z288⟩, st288⟩ := Jvm.LawKit.callS X0 hx (y := Y20) hown (mvT hZ (wd hw 87 rfl)) (mvT hZ (wd hw 88 rfl)) (mvT hZ (wd hw 48 rfl)) (mvT hZ (wd hw 89 rfl)) (by decide) (backOf (W := 0) (rm_nbf_4 l Z a0 hw []  h0 n0 Z0 pr0) hZ (wd hw 89 rfl) (wd hw 48 rfl) (by decide) (by decide)) (g := (mkF m 1 #[vr a1, vi 0, vi 4, .unset, .unset] [(.int 4)])) rfl (by rw [hml]; rfl) (argsL := [(.int 4)]) (rest := []) (lenOf pd_1 rfl) rfl (by show 2 * 0 + _ ≤ _; exact Nat.le_of_eq rfl) (dk d19_1) (fun _ _ => ⟨rfl, e0, Nat.le_of_ble_eq_true rfl, Nat.le_of_ble_eq_true rfl⟩)
  dsimp only [Pt.U, Pt.locs, Pt.cells, Pt.slots] at X288 l288 y288 z288 st288 hQ288
  subst l288 y288 z288
  obtain ⟨b288, k288, rfl, Nq288, K288, p288_0, p288_1⟩ := hQ288
  have N288 := Fr.app N0 Nq288
  have O289 := pr0.keep K288 all0
  have Z289 : n0 ≤ T288.heap.size := Nat.le_trans Z0 K288.1
  have sz_b288 : h0.size ≤ b288 := p288_1
  refine gy (St T288 m 4 #[vr a1, vi 0, vi 4, .unset, .unset] [(.ref b288)]) (fun _ k => st288 _ k) ?_
  refine gy (St T288 m 17 #[vr a1, vi 0, vi 4, vr b288, vi 0] [(.int 0), (.ref b288)]) (fun _ k => XS.astoreN X288.here hx rfl (dk d19_4) rfl rfl (l' := #[vr a1, vi 0, vi 4, vr b288, .unset]) rfl (XS.iconst X288.here hx rfl (dk d19_5) (XS.istore X288.here hx rfl (dk d19_6) rfl (l' := #[vr a1, vi 0, vi 4, vr b288, vi 0]) rfl (XS.iload X288.here hx rfl (dk d19_8) rfl (XS.iloadN X288.here hx rfl (dk d19_10) rfl (XS.icmpNo X288.here hx rfl (dk d19_11) rfl (tlt (by decide : (0 : Int32) < (4 : Int32))).2.1 (XS.aloadN X288.here hx rfl (dk d19_14) rfl rfl (XS.iload X288.here hx rfl (dk d19_15) rfl k)))))))) ?_
  refine gy (St T288 m 19 #[vr a1, vi 0, vi 4, vr b288, vi 0] [(.int 0), (.ref a1), (.int 0), (.ref b288)]) (fun _ k => XS.aloadN X288.here hx rfl (dk d19_17) rfl rfl (XS.iloadN X288.here hx rfl (dk d19_18) rfl k)) ?_
  obtain ⟨cl290, Ar290, q290, S290, N_290, Hs290, G290⟩ := id (pr4.keep K288 nin0)
  have hin291 : ¬ ((0 : Int32) < 0 ∨ cl290.slots.size ≤ ((0 : Int32)).toNatClampNeg) := inb_of S290 ⟨by decide, by decide⟩
  have hat291 : cl290.slots[((0 : Int32)).toNatClampNeg]? = some (.int c0) := Hs290.at hin291 rfl
  refine gy (St T288 m 20 #[vr a1, vi 0, vi 4, vr b288, vi 0] [(.int c0), (.int 0), (.ref b288)]) (fun _ k => X288.caload hx (j := (0 : Int32)) (v := (.int c0)) Ar290.1 (State.isArrayOf_alike hZ.alike Ar290.2.1) Ar290.2.2 hin291 hat291 (g := (mkF m 19 #[vr a1, vi 0, vi 4, vr b288, vi 0] [(.int 0), (.ref a1), (.int 0), (.ref b288)])) rfl rfl (dk d19_19) _ k) ?_
  obtain ⟨_, _, ⟨T292, L292, k292, n292⟩, -, X292, ⟨Lc292, hQ292, l292, y292, z292⟩, st292⟩ := Jvm.LawKit.callS X288 hx (y := Y22) hown (mvT hZ (wd hw 94 rfl)) (mvT hZ (wd hw 95 rfl)) (mvT hZ (wd hw 48 rfl)) (mvT hZ (wd hw 96 rfl)) (by decide) (backOf (W := 0) (rm_put_0 l Z a0 hw [] b288 k288 c0 (8 : Int32) [(.int 0), (.int 0), (.int 0), (.int 0), (.int 0), (.int 0), (.int 0), (.int 0)] T288.heap n0 Z289 O289 pr1 pr2 pr3 p288_0 (Nat.le_trans Z0 sz_b288) (by decide) (by decide) (Nat.le_of_ble_eq_true rfl) (Nat.le_of_ble_eq_true rfl)) hZ (wd hw 96 rfl) (wd hw 48 rfl) (by decide) (by decide)) (g := (mkF m 20 #[vr a1, vi 0, vi 4, vr b288, vi 0] [(.int c0), (.int 0), (.ref b288)])) rfl (by rw [hml]; rfl) (argsL := [(.ref b288), (.int 0), (.int c0)]) (rest := []) (lenOf pd_2 rfl) rfl (by show 2 * 0 + _ ≤ _; exact Nat.le_of_eq rfl) (dk d19_20) (fun _ _ => ⟨rfl, rfl, Nat.le_of_ble_eq_true rfl, Nat.le_of_ble_eq_true rfl⟩)
  dsimp only [Pt.U, Pt.locs, Pt.cells, Pt.slots] at X292 l292 y292 z292 st292 hQ292
  subst l292 y292 z292
  obtain ⟨rfl, Nq292, K292, p292_0⟩ := hQ292
  have N292 := Fr.app N288 Nq292
  have O293 := O289.keep K292 (allS (Nat.le_trans Z0 sz_b288) all0)
  have Z293 : n0 ≤ T292.heap.size := Nat.le_trans Z289 K292.1
  have p292_0 : Arv Z T292.heap b288 k288 .byte (8 : Int32) [(.int (own_b0 c0)), (.int (own_b1 c0)), (.int 0), (.int 0), (.int 0), (.int 0), (.int 0), (.int 0)] (.int 0) := p292_0
  refine gy (St T292 m 23 #[vr a1, vi 0, vi 4, vr b288, vi 0] []) (fun _ k => st292 _ k) ?_
  refine gy (St T292 m 17 #[vr a1, vi 1, vi 4, vr b288, vi 1] [(.int 1), (.ref b288)]) (fun _ k => XS.iinc X292.here hx rfl (dk d19_23) rfl (l' := #[vr a1, vi 1, vi 4, vr b288, vi 0]) rfl (XS.iinc X292.here hx rfl (dk d19_26) rfl (l' := #[vr a1, vi 1, vi 4, vr b288, vi 1]) rfl (XS.goto X292.here hx rfl (pc0 := 29) (pc' := 8) rfl (dk d19_29) (by decide) (by decide) (XS.iload X292.here hx rfl (dk d19_8) rfl (XS.iloadN X292.here hx rfl (dk d19_10) rfl (XS.icmpNo X292.here hx rfl (dk d19_11) rfl (tlt (by decide : (1 : Int32) < (4 : Int32))).2.1 (XS.aloadN X292.here hx rfl (dk d19_14) rfl rfl (XS.iload X292.here hx rfl (dk d19_15) rfl k)))))))) ?_
  refine gy (St T292 m 19 #[vr a1, vi 1, vi 4, vr b288, vi 1] [(.int 1), (.ref a1), (.int 1), (.ref b288)]) (fun _ k => XS.aloadN X292.here hx rfl (dk d19_17) rfl rfl (XS.iloadN X292.here hx rfl (dk d19_18) rfl k)) ?_
  have f295 := ((pr4.keep K288 nin0).keep K292 (ninS (Nat.ne_of_lt (Nat.lt_of_lt_of_le pr4.lt sz_b288)) nin0))
  obtain ⟨cl294, Ar294, q294, S294, N_294, Hs294, G294⟩ := id f295
  have hin296 : ¬ ((1 : Int32) < 0 ∨ cl294.slots.size ≤ ((1 : Int32)).toNatClampNeg) := inb_of S294 ⟨by decide, by decide⟩
  have hat296 : cl294.slots[((1 : Int32)).toNatClampNeg]? = some (.int c1) := Hs294.at hin296 rfl
  refine gy (St T292 m 20 #[vr a1, vi 1, vi 4, vr b288, vi 1] [(.int c1), (.int 1), (.ref b288)]) (fun _ k => X292.caload hx (j := (1 : Int32)) (v := (.int c1)) Ar294.1 (State.isArrayOf_alike hZ.alike Ar294.2.1) Ar294.2.2 hin296 hat296 (g := (mkF m 19 #[vr a1, vi 1, vi 4, vr b288, vi 1] [(.int 1), (.ref a1), (.int 1), (.ref b288)])) rfl rfl (dk d19_19) _ k) ?_
  obtain ⟨_, _, ⟨T297, L297, k297, n297⟩, -, X297, ⟨Lc297, hQ297, l297, y297, z297⟩, st297⟩ := Jvm.LawKit.callS X292 hx (y := Y22) hown (mvT hZ (wd hw 94 rfl)) (mvT hZ (wd hw 95 rfl)) (mvT hZ (wd hw 48 rfl)) (mvT hZ (wd hw 96 rfl)) (by decide) (backOf (W := 0) (rm_put_1 l Z a0 hw [] b288 k288 c1 (8 : Int32) [(.int (own_b0 c0)), (.int (own_b1 c0)), (.int 0), (.int 0), (.int 0), (.int 0), (.int 0), (.int 0)] T292.heap n0 Z293 O293 pr1 pr2 pr3 p292_0 (Nat.le_trans Z0 sz_b288) (by decide) (by decide) (Nat.le_of_ble_eq_true rfl) (Nat.le_of_ble_eq_true rfl)) hZ (wd hw 96 rfl) (wd hw 48 rfl) (by decide) (by decide)) (g := (mkF m 20 #[vr a1, vi 1, vi 4, vr b288, vi 1] [(.int c1), (.int 1), (.ref b288)])) rfl (by rw [hml]; rfl) (argsL := [(.ref b288), (.int 1), (.int c1)]) (rest := []) (lenOf pd_2 rfl) rfl (by show 2 * 0 + _ ≤ _; exact Nat.le_of_eq rfl) (dk d19_20) (fun _ _ => ⟨rfl, rfl, Nat.le_of_ble_eq_true rfl, Nat.le_of_ble_eq_true rfl⟩)
  dsimp only [Pt.U, Pt.locs, Pt.cells, Pt.slots] at X297 l297 y297 z297 st297 hQ297
  subst l297 y297 z297
  obtain ⟨rfl, Nq297, K297, p297_0⟩ := hQ297
  have N297 := Fr.app N292 Nq297
  have O298 := O293.keep K297 (allS (Nat.le_trans Z0 sz_b288) all0)
  have Z298 : n0 ≤ T297.heap.size := Nat.le_trans Z293 K297.1
  have p297_0 : Arv Z T297.heap b288 k288 .byte (8 : Int32) [(.int (own_b0 c0)), (.int (own_b1 c0)), (.int (own_b0 c1)), (.int (own_b1 c1)), (.int 0), (.int 0), (.int 0), (.int 0)] (.int 0) := p297_0
  refine gy (St T297 m 23 #[vr a1, vi 1, vi 4, vr b288, vi 1] []) (fun _ k => st297 _ k) ?_
  refine gy (St T297 m 17 #[vr a1, vi 2, vi 4, vr b288, vi 2] [(.int 2), (.ref b288)]) (fun _ k => XS.iinc X297.here hx rfl (dk d19_23) rfl (l' := #[vr a1, vi 2, vi 4, vr b288, vi 1]) rfl (XS.iinc X297.here hx rfl (dk d19_26) rfl (l' := #[vr a1, vi 2, vi 4, vr b288, vi 2]) rfl (XS.goto X297.here hx rfl (pc0 := 29) (pc' := 8) rfl (dk d19_29) (by decide) (by decide) (XS.iload X297.here hx rfl (dk d19_8) rfl (XS.iloadN X297.here hx rfl (dk d19_10) rfl (XS.icmpNo X297.here hx rfl (dk d19_11) rfl (tlt (by decide : (2 : Int32) < (4 : Int32))).2.1 (XS.aloadN X297.here hx rfl (dk d19_14) rfl rfl (XS.iload X297.here hx rfl (dk d19_15) rfl k)))))))) ?_
  refine gy (St T297 m 19 #[vr a1, vi 2, vi 4, vr b288, vi 2] [(.int 2), (.ref a1), (.int 2), (.ref b288)]) (fun _ k => XS.aloadN X297.here hx rfl (dk d19_17) rfl rfl (XS.iloadN X297.here hx rfl (dk d19_18) rfl k)) ?_
  have f300 := (f295.keep K297 (ninS (Nat.ne_of_lt (Nat.lt_of_lt_of_le pr4.lt sz_b288)) nin0))
  obtain ⟨cl299, Ar299, q299, S299, N_299, Hs299, G299⟩ := id f300
  have hin301 : ¬ ((2 : Int32) < 0 ∨ cl299.slots.size ≤ ((2 : Int32)).toNatClampNeg) := inb_of S299 ⟨by decide, by decide⟩
  have hat301 : cl299.slots[((2 : Int32)).toNatClampNeg]? = some (.int c2) := Hs299.at hin301 rfl
  refine gy (St T297 m 20 #[vr a1, vi 2, vi 4, vr b288, vi 2] [(.int c2), (.int 2), (.ref b288)]) (fun _ k => X297.caload hx (j := (2 : Int32)) (v := (.int c2)) Ar299.1 (State.isArrayOf_alike hZ.alike Ar299.2.1) Ar299.2.2 hin301 hat301 (g := (mkF m 19 #[vr a1, vi 2, vi 4, vr b288, vi 2] [(.int 2), (.ref a1), (.int 2), (.ref b288)])) rfl rfl (dk d19_19) _ k) ?_
  obtain ⟨_, _, ⟨T302, L302, k302, n302⟩, -, X302, ⟨Lc302, hQ302, l302, y302, z302⟩, st302⟩ := Jvm.LawKit.callS X297 hx (y := Y22) hown (mvT hZ (wd hw 94 rfl)) (mvT hZ (wd hw 95 rfl)) (mvT hZ (wd hw 48 rfl)) (mvT hZ (wd hw 96 rfl)) (by decide) (backOf (W := 0) (rm_put_2 l Z a0 hw [] b288 k288 c2 (8 : Int32) [(.int (own_b0 c0)), (.int (own_b1 c0)), (.int (own_b0 c1)), (.int (own_b1 c1)), (.int 0), (.int 0), (.int 0), (.int 0)] T297.heap n0 Z298 O298 pr1 pr2 pr3 p297_0 (Nat.le_trans Z0 sz_b288) (by decide) (by decide) (Nat.le_of_ble_eq_true rfl) (Nat.le_of_ble_eq_true rfl)) hZ (wd hw 96 rfl) (wd hw 48 rfl) (by decide) (by decide)) (g := (mkF m 20 #[vr a1, vi 2, vi 4, vr b288, vi 2] [(.int c2), (.int 2), (.ref b288)])) rfl (by rw [hml]; rfl) (argsL := [(.ref b288), (.int 2), (.int c2)]) (rest := []) (lenOf pd_2 rfl) rfl (by show 2 * 0 + _ ≤ _; exact Nat.le_of_eq rfl) (dk d19_20) (fun _ _ => ⟨rfl, rfl, Nat.le_of_ble_eq_true rfl, Nat.le_of_ble_eq_true rfl⟩)
  dsimp only [Pt.U, Pt.locs, Pt.cells, Pt.slots] at X302 l302 y302 z302 st302 hQ302
  subst l302 y302 z302
  obtain ⟨rfl, Nq302, K302, p302_0⟩ := hQ302
  have N302 := Fr.app N297 Nq302
  have O303 := O298.keep K302 (allS (Nat.le_trans Z0 sz_b288) all0)
  have Z303 : n0 ≤ T302.heap.size := Nat.le_trans Z298 K302.1
  have p302_0 : Arv Z T302.heap b288 k288 .byte (8 : Int32) [(.int (own_b0 c0)), (.int (own_b1 c0)), (.int (own_b0 c1)), (.int (own_b1 c1)), (.int (own_b0 c2)), (.int (own_b1 c2)), (.int 0), (.int 0)] (.int 0) := p302_0
  refine gy (St T302 m 23 #[vr a1, vi 2, vi 4, vr b288, vi 2] []) (fun _ k => st302 _ k) ?_
  refine gy (St T302 m 17 #[vr a1, vi 3, vi 4, vr b288, vi 3] [(.int 3), (.ref b288)]) (fun _ k => XS.iinc X302.here hx rfl (dk d19_23) rfl (l' := #[vr a1, vi 3, vi 4, vr b288, vi 2]) rfl (XS.iinc X302.here hx rfl (dk d19_26) rfl (l' := #[vr a1, vi 3, vi 4, vr b288, vi 3]) rfl (XS.goto X302.here hx rfl (pc0 := 29) (pc' := 8) rfl (dk d19_29) (by decide) (by decide) (XS.iload X302.here hx rfl (dk d19_8) rfl (XS.iloadN X302.here hx rfl (dk d19_10) rfl (XS.icmpNo X302.here hx rfl (dk d19_11) rfl (tlt (by decide : (3 : Int32) < (4 : Int32))).2.1 (XS.aloadN X302.here hx rfl (dk d19_14) rfl rfl (XS.iload X302.here hx rfl (dk d19_15) rfl k)))))))) ?_
  refine gy (St T302 m 19 #[vr a1, vi 3, vi 4, vr b288, vi 3] [(.int 3), (.ref a1), (.int 3), (.ref b288)]) (fun _ k => XS.aloadN X302.here hx rfl (dk d19_17) rfl rfl (XS.iloadN X302.here hx rfl (dk d19_18) rfl k)) ?_
  have f305 := (f300.keep K302 (ninS (Nat.ne_of_lt (Nat.lt_of_lt_of_le pr4.lt sz_b288)) nin0))
  obtain ⟨cl304, Ar304, q304, S304, N_304, Hs304, G304⟩ := id f305
  have hin306 : ¬ ((3 : Int32) < 0 ∨ cl304.slots.size ≤ ((3 : Int32)).toNatClampNeg) := inb_of S304 ⟨by decide, by decide⟩
  have hat306 : cl304.slots[((3 : Int32)).toNatClampNeg]? = some (.int c3) := Hs304.at hin306 rfl
  refine gy (St T302 m 20 #[vr a1, vi 3, vi 4, vr b288, vi 3] [(.int c3), (.int 3), (.ref b288)]) (fun _ k => X302.caload hx (j := (3 : Int32)) (v := (.int c3)) Ar304.1 (State.isArrayOf_alike hZ.alike Ar304.2.1) Ar304.2.2 hin306 hat306 (g := (mkF m 19 #[vr a1, vi 3, vi 4, vr b288, vi 3] [(.int 3), (.ref a1), (.int 3), (.ref b288)])) rfl rfl (dk d19_19) _ k) ?_
  obtain ⟨_, _, ⟨T307, L307, k307, n307⟩, -, X307, ⟨Lc307, hQ307, l307, y307, z307⟩, st307⟩ := Jvm.LawKit.callS X302 hx (y := Y22) hown (mvT hZ (wd hw 94 rfl)) (mvT hZ (wd hw 95 rfl)) (mvT hZ (wd hw 48 rfl)) (mvT hZ (wd hw 96 rfl)) (by decide) (backOf (W := 0) (rm_put_3 l Z a0 hw [] b288 k288 c3 (8 : Int32) [(.int (own_b0 c0)), (.int (own_b1 c0)), (.int (own_b0 c1)), (.int (own_b1 c1)), (.int (own_b0 c2)), (.int (own_b1 c2)), (.int 0), (.int 0)] T302.heap n0 Z303 O303 pr1 pr2 pr3 p302_0 (Nat.le_trans Z0 sz_b288) (by decide) (by decide) (Nat.le_of_ble_eq_true rfl) (Nat.le_of_ble_eq_true rfl)) hZ (wd hw 96 rfl) (wd hw 48 rfl) (by decide) (by decide)) (g := (mkF m 20 #[vr a1, vi 3, vi 4, vr b288, vi 3] [(.int c3), (.int 3), (.ref b288)])) rfl (by rw [hml]; rfl) (argsL := [(.ref b288), (.int 3), (.int c3)]) (rest := []) (lenOf pd_2 rfl) rfl (by show 2 * 0 + _ ≤ _; exact Nat.le_of_eq rfl) (dk d19_20) (fun _ _ => ⟨rfl, rfl, Nat.le_of_ble_eq_true rfl, Nat.le_of_ble_eq_true rfl⟩)
  dsimp only [Pt.U, Pt.locs, Pt.cells, Pt.slots] at X307 l307 y307 z307 st307 hQ307
  subst l307 y307 z307
  obtain ⟨rfl, Nq307, K307, p307_0⟩ := hQ307
  have N307 := Fr.app N302 Nq307
  have O308 := O303.keep K307 (allS (Nat.le_trans Z0 sz_b288) all0)
  have Z308 : n0 ≤ T307.heap.size := Nat.le_trans Z303 K307.1
  have p307_0 : Arv Z T307.heap b288 k288 .byte (8 : Int32) [(.int (own_b0 c0)), (.int (own_b1 c0)), (.int (own_b0 c1)), (.int (own_b1 c1)), (.int (own_b0 c2)), (.int (own_b1 c2)), (.int (own_b0 c3)), (.int (own_b1 c3))] (.int 0) := p307_0
  refine gy (St T307 m 23 #[vr a1, vi 3, vi 4, vr b288, vi 3] []) (fun _ k => st307 _ k) ?_
  refine gy (St T307 m 33 #[vr a1, vi 4, vi 4, vr b288, vi 4] [(.ref b288)]) (fun _ k => XS.iinc X307.here hx rfl (dk d19_23) rfl (l' := #[vr a1, vi 4, vi 4, vr b288, vi 3]) rfl (XS.iinc X307.here hx rfl (dk d19_26) rfl (l' := #[vr a1, vi 4, vi 4, vr b288, vi 4]) rfl (XS.goto X307.here hx rfl (pc0 := 29) (pc' := 8) rfl (dk d19_29) (by decide) (by decide) (XS.iload X307.here hx rfl (dk d19_8) rfl (XS.iloadN X307.here hx rfl (dk d19_10) rfl (XS.icmpYes X307.here hx rfl (pc0 := 11) (pc' := 32) rfl (dk d19_11) rfl (flt (by decide : ¬ ((4 : Int32) < (4 : Int32)))).2.1 (by decide) (by decide) (XS.aloadN X307.here hx rfl (dk d19_32) rfl rfl k))))))) ?_
  refine Go.ret X307 hx hlk (t := (.array .byte)) hret rfl (Or.inr (Or.inr (Or.inr (Or.inr ⟨rfl, rfl, rfl⟩)))) (dk d19_33) (by decide) (by decide) ?_
  exact ⟨b288, k288, rfl, N307, ((((((Keep.refl h0 []).trans K288 all0).trans K292 (allS (Or.inr (Nat.le_trans (Nat.le_refl _) sz_b288)) all0)).trans K297 (allS (Or.inr (Nat.le_trans (Nat.le_refl _) sz_b288)) all0)).trans K302 (allS (Or.inr (Nat.le_trans (Nat.le_refl _) sz_b288)) all0)).trans K307 (allS (Or.inr (Nat.le_trans (Nat.le_refl _) sz_b288)) all0)), p307_0, (Nat.le_trans (Nat.le_refl _) sz_b288)⟩
theorem ef_rm_cfal_4_0 (m : MethodId) (x0 : Addr) : entryFrame m #[(.ref x0), (.int 4)] 2 = mkF m 0 #[vr x0, vi 4] [] := by first | (simp [entryFrame, mkF, argsToLocals, Value.category]; done) | rfl
def Q_rm_cfal_4_0 (Z : State) (b1 : Addr) (kb : ClassId) (c0 : Int32) (c1 : Int32) (c2 : Int32) (c3 : Int32) (h0 : Heap) (n0 : Nat) (vv : Option Value) (h : Heap) (L : List Loc) : Prop := vv = some (.int 0) ∧ Fr n0 L ∧ h = h0
set_option maxRecDepth 65536 in
set_option maxHeartbeats 40000000 in
theorem rm_cfal_4_0 (l : Launch) (Z : State) (a0 : Array Value) (hw : HW a0 Z) (ws : List Jvm.Cond) (b1 : Addr) (kb : ClassId) (c0 : Int32) (c1 : Int32) (c2 : Int32) (c3 : Int32) (h0 : Heap) (n0 : Nat) (Z0 : n0 ≤ h0.size) (pr0 : Arv Z h0 b1 kb .byte (4 : Int32) [(.int (nar .byte (c0.toInt8.toInt32))), (.int (nar .byte (c1.toInt8.toInt32))), (.int (nar .byte (c2.toInt8.toInt32))), (.int (nar .byte (c3.toInt8.toInt32)))] (.int 0)) :
    Met l Z Y15 jdk_52_method_15_code 2 (some .byte) ws ({ frames := 0, cells := 0, slots := 0, locals := 0 } : Room) #[(.ref b1), (.int 4)] h0 (Q_rm_cfal_4_0 Z b1 kb c0 c1 c2 c3 h0 n0) := by
  refine Met.enter (f0 := fun m => mkF m 0 #[vr b1, vi 4] []) (plainFor_of_name pn_java_lang_StringUTF16) (fun m => ef_rm_cfal_4_0 m b1) ?_
  intro p e s m below meth c s₁ hx hby hml hown hnm hret hlk hZ X0 e0
  have hown : s.vm.findClass "java/lang/StringUTF16" = some m.cls := hown
  have hnm : meth.name = "coderFromArrayLen" := hnm
  have hml : c.maxLocals = 2 := hml
  have dk : ∀ {i : Nat} {r : Except DecodeError (Instr × Nat)}, decode jdk_52_method_15_code i = r → decode c.code i = r := fun h => hb hby h
  have N0 := Fr.nil n0
  refine gy (St s₁ m 2 #[vr b1, vi 4] [(.ref b1), (.int 4)]) (fun _ k => XS.iloadN X0.here hx rfl (dk d11_0) rfl (XS.aloadN X0.here hx rfl (dk d11_1) rfl rfl k)) ?_
  obtain ⟨cl309, Ar309, q309, S309, N_309, Hs309, G309⟩ := id pr0
  refine gy (St s₁ m 3 #[vr b1, vi 4] [(.int 4), (.int 4)]) (fun _ k => X0.arraylength hx (by rw [e0]; exact Ar309.1) (State.isArrayOf_alike hZ.alike Ar309.2.1) (g := (mkF m 2 #[vr b1, vi 4] [(.ref b1), (.int 4)])) rfl rfl (dk d11_2) _ (by rw [len_of S309 N_309]; exact k)) ?_
  refine gy (St s₁ m 8 #[vr b1, vi 4] [(.int 0)]) (fun _ k => XS.isub X0.here hx rfl (dk d11_3) rfl (XS.bipush X0.here hx rfl (dk d11_4) (XS.iushr X0.here hx rfl (dk d11_6) rfl (XS.i2b X0.here hx rfl (dk d11_7) rfl k)))) ?_
  refine Go.ret X0 hx hlk (t := .byte) hret rfl (Or.inl ⟨rfl, by simp, _, rfl⟩) (dk d11_8) (by decide) (by decide) ?_
  rw [e0]
  exact ⟨rfl, N0, rfl⟩
theorem ef_rm_cfal_4_1 (m : MethodId) (x0 : Addr) : entryFrame m #[(.ref x0), (.int 4)] 2 = mkF m 0 #[vr x0, vi 4] [] := by first | (simp [entryFrame, mkF, argsToLocals, Value.category]; done) | rfl
def Q_rm_cfal_4_1 (Z : State) (b1 : Addr) (kb : ClassId) (c0 : Int32) (c1 : Int32) (c2 : Int32) (c3 : Int32) (h0 : Heap) (n0 : Nat) (vv : Option Value) (h : Heap) (L : List Loc) : Prop := vv = some (.int 1) ∧ Fr n0 L ∧ h = h0
set_option maxRecDepth 65536 in
set_option maxHeartbeats 40000000 in
theorem rm_cfal_4_1 (l : Launch) (Z : State) (a0 : Array Value) (hw : HW a0 Z) (ws : List Jvm.Cond) (b1 : Addr) (kb : ClassId) (c0 : Int32) (c1 : Int32) (c2 : Int32) (c3 : Int32) (h0 : Heap) (n0 : Nat) (Z0 : n0 ≤ h0.size) (pr0 : Arv Z h0 b1 kb .byte (8 : Int32) [(.int (own_b0 c0)), (.int (own_b1 c0)), (.int (own_b0 c1)), (.int (own_b1 c1)), (.int (own_b0 c2)), (.int (own_b1 c2)), (.int (own_b0 c3)), (.int (own_b1 c3))] (.int 0)) :
    Met l Z Y15 jdk_52_method_15_code 2 (some .byte) ws ({ frames := 0, cells := 0, slots := 0, locals := 0 } : Room) #[(.ref b1), (.int 4)] h0 (Q_rm_cfal_4_1 Z b1 kb c0 c1 c2 c3 h0 n0) := by
  refine Met.enter (f0 := fun m => mkF m 0 #[vr b1, vi 4] []) (plainFor_of_name pn_java_lang_StringUTF16) (fun m => ef_rm_cfal_4_1 m b1) ?_
  intro p e s m below meth c s₁ hx hby hml hown hnm hret hlk hZ X0 e0
  have hown : s.vm.findClass "java/lang/StringUTF16" = some m.cls := hown
  have hnm : meth.name = "coderFromArrayLen" := hnm
  have hml : c.maxLocals = 2 := hml
  have dk : ∀ {i : Nat} {r : Except DecodeError (Instr × Nat)}, decode jdk_52_method_15_code i = r → decode c.code i = r := fun h => hb hby h
  have N0 := Fr.nil n0
  refine gy (St s₁ m 2 #[vr b1, vi 4] [(.ref b1), (.int 4)]) (fun _ k => XS.iloadN X0.here hx rfl (dk d11_0) rfl (XS.aloadN X0.here hx rfl (dk d11_1) rfl rfl k)) ?_
  obtain ⟨cl310, Ar310, q310, S310, N_310, Hs310, G310⟩ := id pr0
  refine gy (St s₁ m 3 #[vr b1, vi 4] [(.int 8), (.int 4)]) (fun _ k => X0.arraylength hx (by rw [e0]; exact Ar310.1) (State.isArrayOf_alike hZ.alike Ar310.2.1) (g := (mkF m 2 #[vr b1, vi 4] [(.ref b1), (.int 4)])) rfl rfl (dk d11_2) _ (by rw [len_of S310 N_310]; exact k)) ?_
  refine gy (St s₁ m 8 #[vr b1, vi 4] [(.int 1)]) (fun _ k => XS.isub X0.here hx rfl (dk d11_3) rfl (XS.bipush X0.here hx rfl (dk d11_4) (XS.iushr X0.here hx rfl (dk d11_6) rfl (XS.i2b X0.here hx rfl (dk d11_7) rfl k)))) ?_
  refine Go.ret X0 hx hlk (t := .byte) hret rfl (Or.inl ⟨rfl, by simp, _, rfl⟩) (dk d11_8) (by decide) (by decide) ?_
  rw [e0]
  exact ⟨rfl, N0, rfl⟩
theorem ef_rm_cmp5_4 (m : MethodId) (x0 : Addr) (x2 : Addr) : entryFrame m #[(.ref x0), (.int 0), (.ref x2), (.int 0), (.int 4)] 7 = mkF m 0 #[vr x0, vi 0, vr x2, vi 0, vi 4, .unset, .unset] [] := by first | (simp [entryFrame, mkF, argsToLocals, Value.category]; done) | rfl
def Q_rm_cmp5_4 (Z : State) (a1 : Addr) (b1 : Addr) (ka : ClassId) (kb : ClassId) (c0 : Int32) (c1 : Int32) (c2 : Int32) (c3 : Int32) (h0 : Heap) (n0 : Nat) (vv : Option Value) (h : Heap) (L : List Loc) : Prop := ∃ r : Int32, vv = some (.int r) ∧ Fr n0 L ∧ Keep h0 h [b1] ∧ (r = (4 : Int32) → Arv Z h b1 kb .byte (4 : Int32) [(.int (nar .byte (c0.toInt8.toInt32))), (.int (nar .byte (c1.toInt8.toInt32))), (.int (nar .byte (c2.toInt8.toInt32))), (.int (nar .byte (c3.toInt8.toInt32)))] (.int 0)) ∧ ((r = (4 : Int32) ∧ ¬ (255 : Int32) < c0 ∧ ¬ (255 : Int32) < c1 ∧ ¬ (255 : Int32) < c2 ∧ ¬ (255 : Int32) < c3) ∨ (r = (0 : Int32) ∧ (255 : Int32) < c0) ∨ (r = (1 : Int32) ∧ (255 : Int32) < c1) ∨ (r = (2 : Int32) ∧ (255 : Int32) < c2) ∨ (r = (3 : Int32) ∧ (255 : Int32) < c3))
set_option maxRecDepth 65536 in
set_option maxHeartbeats 40000000 in
theorem rm_cmp5_4 (l : Launch) (Z : State) (a0 : Array Value) (hw : HW a0 Z) (ws : List Jvm.Cond) (a1 : Addr) (b1 : Addr) (ka : ClassId) (kb : ClassId) (c0 : Int32) (c1 : Int32) (c2 : Int32) (c3 : Int32) (h0 : Heap) (n0 : Nat) (Z0 : n0 ≤ h0.size) (pr0 : Old Z n0 h0) (pr1 : Arv Z h0 a1 ka .char (4 : Int32) [(.int c0), (.int c1), (.int c2), (.int c3)] (.int 0)) (pr2 : Arv Z h0 b1 kb .byte (4 : Int32) [(.int 0), (.int 0), (.int 0), (.int 0)] (.int 0)) (pr3 : n0 ≤ b1) (pr4 : a1 ≠ b1) :
    Met l Z Y17 jdk_52_method_21_code 7 (some .int) ws ({ frames := 0, cells := 0, slots := 0, locals := 0 } : Room) #[(.ref a1), (.int 0), (.ref b1), (.int 0), (.int 4)] h0 (Q_rm_cmp5_4 Z a1 b1 ka kb c0 c1 c2 c3 h0 n0) := by
  refine Met.enter (f0 := fun m => mkF m 0 #[vr a1, vi 0, vr b1, vi 0, vi 4, .unset, .unset] []) (plainFor_of_name pn_java_lang_StringUTF16) (fun m => ef_rm_cmp5_4 m a1 b1) ?_
  intro p e s m below meth c s₁ hx hby hml hown hnm hret hlk hZ X0 e0
  have hown : s.vm.findClass "java/lang/StringUTF16" = some m.cls := hown
  have hnm : meth.name = "compress" := hnm
  have hml : c.maxLocals = 7 := hml
  have dk : ∀ {i : Nat} {r : Except DecodeError (Instr × Nat)}, decode jdk_52_method_21_code i = r → decode c.code i = r := fun h => hb hby h
  have N0 := Fr.nil n0
  refine gy (St s₁ m 12 #[vr a1, vi 0, vr b1, vi 0, vi 4, vi 0, .unset] [(.int 0), (.ref a1)]) (fun _ k => XS.iconst X0.here hx rfl (dk d10_0) (XS.istore X0.here hx rfl (dk d10_1) rfl (l' := #[vr a1, vi 0, vr b1, vi 0, vi 4, vi 0, .unset]) rfl (XS.iload X0.here hx rfl (dk d10_3) rfl (XS.iload X0.here hx rfl (dk d10_5) rfl (XS.icmpNo X0.here hx rfl (dk d10_7) rfl (tlt (by decide : (0 : Int32) < (4 : Int32))).2.1 (XS.aloadN X0.here hx rfl (dk d10_10) rfl rfl (XS.iloadN X0.here hx rfl (dk d10_11) rfl k))))))) ?_
  obtain ⟨cl311, Ar311, q311, S311, N_311, Hs311, G311⟩ := id pr1
  have hin312 : ¬ ((0 : Int32) < 0 ∨ cl311.slots.size ≤ ((0 : Int32)).toNatClampNeg) := inb_of S311 ⟨by decide, by decide⟩
  have hat312 : cl311.slots[((0 : Int32)).toNatClampNeg]? = some (.int c0) := Hs311.at hin312 rfl
  refine gy (St s₁ m 13 #[vr a1, vi 0, vr b1, vi 0, vi 4, vi 0, .unset] [(.int c0)]) (fun _ k => X0.caload hx (j := (0 : Int32)) (v := (.int c0)) (by rw [e0]; exact Ar311.1) (State.isArrayOf_alike hZ.alike Ar311.2.1) Ar311.2.2 hin312 hat312 (g := (mkF m 12 #[vr a1, vi 0, vr b1, vi 0, vi 4, vi 0, .unset] [(.int 0), (.ref a1)])) rfl rfl (dk d10_12) _ k) ?_
  refine gy (St s₁ m 20 #[vr a1, vi 0, vr b1, vi 0, vi 4, vi 0, vi c0] [(.int 255), (.int c0)]) (fun _ k => XS.istore X0.here hx rfl (dk d10_13) rfl (l' := #[vr a1, vi 0, vr b1, vi 0, vi 4, vi 0, vi c0]) rfl (XS.iload X0.here hx rfl (dk d10_15) rfl (XS.sipush X0.here hx rfl (dk d10_17) k))) ?_
  by_cases c313 : (255 : Int32) < c0
  · skip
    refine gy (St s₁ m 25 #[vr a1, vi 0, vr b1, vi 0, vi 4, vi 0, vi c0] [(.int 0)]) (fun _ k => XS.icmpNo X0.here hx rfl (dk d10_20) rfl (tlt c313).2.2.2 (XS.iload X0.here hx rfl (dk d10_23) rfl k)) ?_
    refine Go.ret X0 hx hlk (t := .int) hret rfl (Or.inl ⟨rfl, by simp, _, rfl⟩) (dk d10_25) (by decide) (by decide) ?_
    rw [e0]
    exact ⟨(0 : Int32), rfl, N0, (Keep.refl h0 [b1]), (fun q => absurd q (by decide)), (Or.inr (Or.inl ⟨rfl, c313⟩))⟩
  · skip
    refine gy (St s₁ m 31 #[vr a1, vi 0, vr b1, vi 0, vi 4, vi 0, vi c0] [(.int (c0.toInt8.toInt32)), (.int 0), (.ref b1)]) (fun _ k => XS.icmpYes X0.here hx rfl (pc0 := 20) (pc' := 26) rfl (dk d10_20) rfl (flt c313).2.2.2 (by decide) (by decide) (XS.aloadN X0.here hx rfl (dk d10_26) rfl rfl (XS.iloadN X0.here hx rfl (dk d10_27) rfl (XS.iload X0.here hx rfl (dk d10_28) rfl (XS.i2b X0.here hx rfl (dk d10_30) rfl k))))) ?_
    obtain ⟨cl314, Ar314, q314, S314, N_314, Hs314, G314⟩ := id pr2
    have hin315 : ¬ ((0 : Int32) < 0 ∨ cl314.slots.size ≤ ((0 : Int32)).toNatClampNeg) := inb_of S314 ⟨by decide, by decide⟩
    obtain ⟨T315, h315, X315, e315, W315, st315⟩ := stB X0 hx hZ e0 Ar314 (j := (0 : Int32)) hin315 (g := (mkF m 31 #[vr a1, vi 0, vr b1, vi 0, vi 4, vi 0, vi c0] [(.int (c0.toInt8.toInt32)), (.int 0), (.ref b1)])) rfl rfl (dk d10_31)
    have O316 := pr0.wr W315 pr3
    have Z316 : n0 ≤ h315.size := Nat.le_trans Z0 (Keep.of_wr W315).1
    have V315 : Arv Z h315 b1 kb .byte (4 : Int32) [(.int (nar .byte (c0.toInt8.toInt32))), (.int 0), (.int 0), (.int 0)] (.int 0) := Arv.set Ar314 q314 S314 N_314 Hs314 G314 (fits_nar_byte _) W315 0 rfl (Nat.le_of_ble_eq_true rfl)
    have N315 := Fr.snoc X315 N0 pr3
    refine gy (St T315 m 32 #[vr a1, vi 0, vr b1, vi 0, vi 4, vi 0, vi c0] []) st315 ?_
    refine gy (St T315 m 11 #[vr a1, vi 1, vr b1, vi 1, vi 4, vi 1, vi c0] [(.ref a1)]) (fun _ k => XS.iinc X315.here hx rfl (dk d10_32) rfl (l' := #[vr a1, vi 1, vr b1, vi 0, vi 4, vi 0, vi c0]) rfl (XS.iinc X315.here hx rfl (dk d10_35) rfl (l' := #[vr a1, vi 1, vr b1, vi 1, vi 4, vi 0, vi c0]) rfl (XS.iinc X315.here hx rfl (dk d10_38) rfl (l' := #[vr a1, vi 1, vr b1, vi 1, vi 4, vi 1, vi c0]) rfl (XS.goto X315.here hx rfl (pc0 := 41) (pc' := 3) rfl (dk d10_41) (by decide) (by decide) (XS.iload X315.here hx rfl (dk d10_3) rfl (XS.iload X315.here hx rfl (dk d10_5) rfl (XS.icmpNo X315.here hx rfl (dk d10_7) rfl (tlt (by decide : (1 : Int32) < (4 : Int32))).2.1 (XS.aloadN X315.here hx rfl (dk d10_10) rfl rfl k)))))))) ?_
    refine gy (St T315 m 12 #[vr a1, vi 1, vr b1, vi 1, vi 4, vi 1, vi c0] [(.int 1), (.ref a1)]) (fun _ k => XS.iloadN X315.here hx rfl (dk d10_11) rfl k) ?_
    obtain ⟨cl317, Ar317, q317, S317, N_317, Hs317, G317⟩ := id (pr1.other W315 pr4)
    have hin318 : ¬ ((1 : Int32) < 0 ∨ cl317.slots.size ≤ ((1 : Int32)).toNatClampNeg) := inb_of S317 ⟨by decide, by decide⟩
    have hat318 : cl317.slots[((1 : Int32)).toNatClampNeg]? = some (.int c1) := Hs317.at hin318 rfl
    refine gy (St T315 m 13 #[vr a1, vi 1, vr b1, vi 1, vi 4, vi 1, vi c0] [(.int c1)]) (fun _ k => X315.caload hx (j := (1 : Int32)) (v := (.int c1)) (by rw [e315]; exact Ar317.1) (State.isArrayOf_alike hZ.alike Ar317.2.1) Ar317.2.2 hin318 hat318 (g := (mkF m 12 #[vr a1, vi 1, vr b1, vi 1, vi 4, vi 1, vi c0] [(.int 1), (.ref a1)])) rfl rfl (dk d10_12) _ k) ?_
    refine gy (St T315 m 20 #[vr a1, vi 1, vr b1, vi 1, vi 4, vi 1, vi c1] [(.int 255), (.int c1)]) (fun _ k => XS.istore X315.here hx rfl (dk d10_13) rfl (l' := #[vr a1, vi 1, vr b1, vi 1, vi 4, vi 1, vi c1]) rfl (XS.iload X315.here hx rfl (dk d10_15) rfl (XS.sipush X315.here hx rfl (dk d10_17) k))) ?_
    by_cases c319 : (255 : Int32) < c1
    · skip
      refine gy (St T315 m 25 #[vr a1, vi 1, vr b1, vi 1, vi 4, vi 1, vi c1] [(.int 1)]) (fun _ k => XS.icmpNo X315.here hx rfl (dk d10_20) rfl (tlt c319).2.2.2 (XS.iload X315.here hx rfl (dk d10_23) rfl k)) ?_
      refine Go.ret X315 hx hlk (t := .int) hret rfl (Or.inl ⟨rfl, by simp, _, rfl⟩) (dk d10_25) (by decide) (by decide) ?_
      rw [e315]
      exact ⟨(1 : Int32), rfl, N315, ((Keep.refl h0 [b1]).wr W315 (Or.inl (List.mem_of_getElem? (i := 0) rfl))), (fun q => absurd q (by decide)), (Or.inr (Or.inr (Or.inl ⟨rfl, c319⟩)))⟩
    · skip
      refine gy (St T315 m 31 #[vr a1, vi 1, vr b1, vi 1, vi 4, vi 1, vi c1] [(.int (c1.toInt8.toInt32)), (.int 1), (.ref b1)]) (fun _ k => XS.icmpYes X315.here hx rfl (pc0 := 20) (pc' := 26) rfl (dk d10_20) rfl (flt c319).2.2.2 (by decide) (by decide) (XS.aloadN X315.here hx rfl (dk d10_26) rfl rfl (XS.iloadN X315.here hx rfl (dk d10_27) rfl (XS.iload X315.here hx rfl (dk d10_28) rfl (XS.i2b X315.here hx rfl (dk d10_30) rfl k))))) ?_
      obtain ⟨cl320, Ar320, q320, S320, N_320, Hs320, G320⟩ := id V315
      have hin321 : ¬ ((1 : Int32) < 0 ∨ cl320.slots.size ≤ ((1 : Int32)).toNatClampNeg) := inb_of S320 ⟨by decide, by decide⟩
      obtain ⟨T321, h321, X321, e321, W321, st321⟩ := stB X315 hx hZ e315 Ar320 (j := (1 : Int32)) hin321 (g := (mkF m 31 #[vr a1, vi 1, vr b1, vi 1, vi 4, vi 1, vi c1] [(.int (c1.toInt8.toInt32)), (.int 1), (.ref b1)])) rfl rfl (dk d10_31)
      have O322 := O316.wr W321 pr3
      have Z322 : n0 ≤ h321.size := Nat.le_trans Z316 (Keep.of_wr W321).1
      have V321 : Arv Z h321 b1 kb .byte (4 : Int32) [(.int (nar .byte (c0.toInt8.toInt32))), (.int (nar .byte (c1.toInt8.toInt32))), (.int 0), (.int 0)] (.int 0) := Arv.set Ar320 q320 S320 N_320 Hs320 G320 (fits_nar_byte _) W321 1 rfl (Nat.le_of_ble_eq_true rfl)
      have N321 := Fr.snoc X321 N315 pr3
      refine gy (St T321 m 32 #[vr a1, vi 1, vr b1, vi 1, vi 4, vi 1, vi c1] []) st321 ?_
      refine gy (St T321 m 11 #[vr a1, vi 2, vr b1, vi 2, vi 4, vi 2, vi c1] [(.ref a1)]) (fun _ k => XS.iinc X321.here hx rfl (dk d10_32) rfl (l' := #[vr a1, vi 2, vr b1, vi 1, vi 4, vi 1, vi c1]) rfl (XS.iinc X321.here hx rfl (dk d10_35) rfl (l' := #[vr a1, vi 2, vr b1, vi 2, vi 4, vi 1, vi c1]) rfl (XS.iinc X321.here hx rfl (dk d10_38) rfl (l' := #[vr a1, vi 2, vr b1, vi 2, vi 4, vi 2, vi c1]) rfl (XS.goto X321.here hx rfl (pc0 := 41) (pc' := 3) rfl (dk d10_41) (by decide) (by decide) (XS.iload X321.here hx rfl (dk d10_3) rfl (XS.iload X321.here hx rfl (dk d10_5) rfl (XS.icmpNo X321.here hx rfl (dk d10_7) rfl (tlt (by decide : (2 : Int32) < (4 : Int32))).2.1 (XS.aloadN X321.here hx rfl (dk d10_10) rfl rfl k)))))))) ?_
      refine gy (St T321 m 12 #[vr a1, vi 2, vr b1, vi 2, vi 4, vi 2, vi c1] [(.int 2), (.ref a1)]) (fun _ k => XS.iloadN X321.here hx rfl (dk d10_11) rfl k) ?_
      have f324 := ((pr1.other W315 pr4).other W321 pr4)
      obtain ⟨cl323, Ar323, q323, S323, N_323, Hs323, G323⟩ := id f324
      have hin325 : ¬ ((2 : Int32) < 0 ∨ cl323.slots.size ≤ ((2 : Int32)).toNatClampNeg) := inb_of S323 ⟨by decide, by decide⟩
      have hat325 : cl323.slots[((2 : Int32)).toNatClampNeg]? = some (.int c2) := Hs323.at hin325 rfl
      refine gy (St T321 m 13 #[vr a1, vi 2, vr b1, vi 2, vi 4, vi 2, vi c1] [(.int c2)]) (fun _ k => X321.caload hx (j := (2 : Int32)) (v := (.int c2)) (by rw [e321]; exact Ar323.1) (State.isArrayOf_alike hZ.alike Ar323.2.1) Ar323.2.2 hin325 hat325 (g := (mkF m 12 #[vr a1, vi 2, vr b1, vi 2, vi 4, vi 2, vi c1] [(.int 2), (.ref a1)])) rfl rfl (dk d10_12) _ k) ?_
      refine gy (St T321 m 20 #[vr a1, vi 2, vr b1, vi 2, vi 4, vi 2, vi c2] [(.int 255), (.int c2)]) (fun _ k => XS.istore X321.here hx rfl (dk d10_13) rfl (l' := #[vr a1, vi 2, vr b1, vi 2, vi 4, vi 2, vi c2]) rfl (XS.iload X321.here hx rfl (dk d10_15) rfl (XS.sipush X321.here hx rfl (dk d10_17) k))) ?_
      by_cases c326 : (255 : Int32) < c2
      · skip
        refine gy (St T321 m 25 #[vr a1, vi 2, vr b1, vi 2, vi 4, vi 2, vi c2] [(.int 2)]) (fun _ k => XS.icmpNo X321.here hx rfl (dk d10_20) rfl (tlt c326).2.2.2 (XS.iload X321.here hx rfl (dk d10_23) rfl k)) ?_
        refine Go.ret X321 hx hlk (t := .int) hret rfl (Or.inl ⟨rfl, by simp, _, rfl⟩) (dk d10_25) (by decide) (by decide) ?_
        rw [e321]
        exact ⟨(2 : Int32), rfl, N321, (((Keep.refl h0 [b1]).wr W315 (Or.inl (List.mem_of_getElem? (i := 0) rfl))).wr W321 (Or.inl (List.mem_of_getElem? (i := 0) rfl))), (fun q => absurd q (by decide)), (Or.inr (Or.inr (Or.inr (Or.inl ⟨rfl, c326⟩))))⟩
      · skip
        refine gy (St T321 m 31 #[vr a1, vi 2, vr b1, vi 2, vi 4, vi 2, vi c2] [(.int (c2.toInt8.toInt32)), (.int 2), (.ref b1)]) (fun _ k => XS.icmpYes X321.here hx rfl (pc0 := 20) (pc' := 26) rfl (dk d10_20) rfl (flt c326).2.2.2 (by decide) (by decide) (XS.aloadN X321.here hx rfl (dk d10_26) rfl rfl (XS.iloadN X321.here hx rfl (dk d10_27) rfl (XS.iload X321.here hx rfl (dk d10_28) rfl (XS.i2b X321.here hx rfl (dk d10_30) rfl k))))) ?_
        obtain ⟨cl327, Ar327, q327, S327, N_327, Hs327, G327⟩ := id V321
        have hin328 : ¬ ((2 : Int32) < 0 ∨ cl327.slots.size ≤ ((2 : Int32)).toNatClampNeg) := inb_of S327 ⟨by decide, by decide⟩
        obtain ⟨T328, h328, X328, e328, W328, st328⟩ := stB X321 hx hZ e321 Ar327 (j := (2 : Int32)) hin328 (g := (mkF m 31 #[vr a1, vi 2, vr b1, vi 2, vi 4, vi 2, vi c2] [(.int (c2.toInt8.toInt32)), (.int 2), (.ref b1)])) rfl rfl (dk d10_31)
        have O329 := O322.wr W328 pr3
        have Z329 : n0 ≤ h328.size := Nat.le_trans Z322 (Keep.of_wr W328).1
        have V328 : Arv Z h328 b1 kb .byte (4 : Int32) [(.int (nar .byte (c0.toInt8.toInt32))), (.int (nar .byte (c1.toInt8.toInt32))), (.int (nar .byte (c2.toInt8.toInt32))), (.int 0)] (.int 0) := Arv.set Ar327 q327 S327 N_327 Hs327 G327 (fits_nar_byte _) W328 2 rfl (Nat.le_of_ble_eq_true rfl)
        have N328 := Fr.snoc X328 N321 pr3
        refine gy (St T328 m 32 #[vr a1, vi 2, vr b1, vi 2, vi 4, vi 2, vi c2] []) st328 ?_
        refine gy (St T328 m 11 #[vr a1, vi 3, vr b1, vi 3, vi 4, vi 3, vi c2] [(.ref a1)]) (fun _ k => XS.iinc X328.here hx rfl (dk d10_32) rfl (l' := #[vr a1, vi 3, vr b1, vi 2, vi 4, vi 2, vi c2]) rfl (XS.iinc X328.here hx rfl (dk d10_35) rfl (l' := #[vr a1, vi 3, vr b1, vi 3, vi 4, vi 2, vi c2]) rfl (XS.iinc X328.here hx rfl (dk d10_38) rfl (l' := #[vr a1, vi 3, vr b1, vi 3, vi 4, vi 3, vi c2]) rfl (XS.goto X328.here hx rfl (pc0 := 41) (pc' := 3) rfl (dk d10_41) (by decide) (by decide) (XS.iload X328.here hx rfl (dk d10_3) rfl (XS.iload X328.here hx rfl (dk d10_5) rfl (XS.icmpNo X328.here hx rfl (dk d10_7) rfl (tlt (by decide : (3 : Int32) < (4 : Int32))).2.1 (XS.aloadN X328.here hx rfl (dk d10_10) rfl rfl k)))))))) ?_
        refine gy (St T328 m 12 #[vr a1, vi 3, vr b1, vi 3, vi 4, vi 3, vi c2] [(.int 3), (.ref a1)]) (fun _ k => XS.iloadN X328.here hx rfl (dk d10_11) rfl k) ?_
        obtain ⟨cl330, Ar330, q330, S330, N_330, Hs330, G330⟩ := id (f324.other W328 pr4)
        have hin331 : ¬ ((3 : Int32) < 0 ∨ cl330.slots.size ≤ ((3 : Int32)).toNatClampNeg) := inb_of S330 ⟨by decide, by decide⟩
        have hat331 : cl330.slots[((3 : Int32)).toNatClampNeg]? = some (.int c3) := Hs330.at hin331 rfl
        refine gy (St T328 m 13 #[vr a1, vi 3, vr b1, vi 3, vi 4, vi 3, vi c2] [(.int c3)]) (fun _ k => X328.caload hx (j := (3 : Int32)) (v := (.int c3)) (by rw [e328]; exact Ar330.1) (State.isArrayOf_alike hZ.alike Ar330.2.1) Ar330.2.2 hin331 hat331 (g := (mkF m 12 #[vr a1, vi 3, vr b1, vi 3, vi 4, vi 3, vi c2] [(.int 3), (.ref a1)])) rfl rfl (dk d10_12) _ k) ?_
        refine gy (St T328 m 20 #[vr a1, vi 3, vr b1, vi 3, vi 4, vi 3, vi c3] [(.int 255), (.int c3)]) (fun _ k => XS.istore X328.here hx rfl (dk d10_13) rfl (l' := #[vr a1, vi 3, vr b1, vi 3, vi 4, vi 3, vi c3]) rfl (XS.iload X328.here hx rfl (dk d10_15) rfl (XS.sipush X328.here hx rfl (dk d10_17) k))) ?_
        by_cases c332 : (255 : Int32) < c3
        · skip
          refine gy (St T328 m 25 #[vr a1, vi 3, vr b1, vi 3, vi 4, vi 3, vi c3] [(.int 3)]) (fun _ k => XS.icmpNo X328.here hx rfl (dk d10_20) rfl (tlt c332).2.2.2 (XS.iload X328.here hx rfl (dk d10_23) rfl k)) ?_
          refine Go.ret X328 hx hlk (t := .int) hret rfl (Or.inl ⟨rfl, by simp, _, rfl⟩) (dk d10_25) (by decide) (by decide) ?_
          rw [e328]
          exact ⟨(3 : Int32), rfl, N328, ((((Keep.refl h0 [b1]).wr W315 (Or.inl (List.mem_of_getElem? (i := 0) rfl))).wr W321 (Or.inl (List.mem_of_getElem? (i := 0) rfl))).wr W328 (Or.inl (List.mem_of_getElem? (i := 0) rfl))), (fun q => absurd q (by decide)), (Or.inr (Or.inr (Or.inr (Or.inr ⟨rfl, c332⟩))))⟩
        · skip
          refine gy (St T328 m 31 #[vr a1, vi 3, vr b1, vi 3, vi 4, vi 3, vi c3] [(.int (c3.toInt8.toInt32)), (.int 3), (.ref b1)]) (fun _ k => XS.icmpYes X328.here hx rfl (pc0 := 20) (pc' := 26) rfl (dk d10_20) rfl (flt c332).2.2.2 (by decide) (by decide) (XS.aloadN X328.here hx rfl (dk d10_26) rfl rfl (XS.iloadN X328.here hx rfl (dk d10_27) rfl (XS.iload X328.here hx rfl (dk d10_28) rfl (XS.i2b X328.here hx rfl (dk d10_30) rfl k))))) ?_
          obtain ⟨cl333, Ar333, q333, S333, N_333, Hs333, G333⟩ := id V328
          have hin334 : ¬ ((3 : Int32) < 0 ∨ cl333.slots.size ≤ ((3 : Int32)).toNatClampNeg) := inb_of S333 ⟨by decide, by decide⟩
          obtain ⟨T334, h334, X334, e334, W334, st334⟩ := stB X328 hx hZ e328 Ar333 (j := (3 : Int32)) hin334 (g := (mkF m 31 #[vr a1, vi 3, vr b1, vi 3, vi 4, vi 3, vi c3] [(.int (c3.toInt8.toInt32)), (.int 3), (.ref b1)])) rfl rfl (dk d10_31)
          have O335 := O329.wr W334 pr3
          have Z335 : n0 ≤ h334.size := Nat.le_trans Z329 (Keep.of_wr W334).1
          have V334 : Arv Z h334 b1 kb .byte (4 : Int32) [(.int (nar .byte (c0.toInt8.toInt32))), (.int (nar .byte (c1.toInt8.toInt32))), (.int (nar .byte (c2.toInt8.toInt32))), (.int (nar .byte (c3.toInt8.toInt32)))] (.int 0) := Arv.set Ar333 q333 S333 N_333 Hs333 G333 (fits_nar_byte _) W334 3 rfl (Nat.le_of_ble_eq_true rfl)
          have N334 := Fr.snoc X334 N328 pr3
          refine gy (St T334 m 32 #[vr a1, vi 3, vr b1, vi 3, vi 4, vi 3, vi c3] []) st334 ?_
          refine gy (St T334 m 46 #[vr a1, vi 4, vr b1, vi 4, vi 4, vi 4, vi c3] [(.int 4)]) (fun _ k => XS.iinc X334.here hx rfl (dk d10_32) rfl (l' := #[vr a1, vi 4, vr b1, vi 3, vi 4, vi 3, vi c3]) rfl (XS.iinc X334.here hx rfl (dk d10_35) rfl (l' := #[vr a1, vi 4, vr b1, vi 4, vi 4, vi 3, vi c3]) rfl (XS.iinc X334.here hx rfl (dk d10_38) rfl (l' := #[vr a1, vi 4, vr b1, vi 4, vi 4, vi 4, vi c3]) rfl (XS.goto X334.here hx rfl (pc0 := 41) (pc' := 3) rfl (dk d10_41) (by decide) (by decide) (XS.iload X334.here hx rfl (dk d10_3) rfl (XS.iload X334.here hx rfl (dk d10_5) rfl (XS.icmpYes X334.here hx rfl (pc0 := 7) (pc' := 44) rfl (dk d10_7) rfl (flt (by decide : ¬ ((4 : Int32) < (4 : Int32)))).2.1 (by decide) (by decide) (XS.iload X334.here hx rfl (dk d10_44) rfl k)))))))) ?_
          refine Go.ret X334 hx hlk (t := .int) hret rfl (Or.inl ⟨rfl, by simp, _, rfl⟩) (dk d10_46) (by decide) (by decide) ?_
          rw [e334]
          exact ⟨(4 : Int32), rfl, N334, (((((Keep.refl h0 [b1]).wr W315 (Or.inl (List.mem_of_getElem? (i := 0) rfl))).wr W321 (Or.inl (List.mem_of_getElem? (i := 0) rfl))).wr W328 (Or.inl (List.mem_of_getElem? (i := 0) rfl))).wr W334 (Or.inl (List.mem_of_getElem? (i := 0) rfl))), (fun _ => V334), (Or.inl ⟨rfl, c313, c319, c326, c332⟩)⟩
theorem ef_rm_cmp3_4 (m : MethodId) (x0 : Addr) : entryFrame m #[(.ref x0), (.int 0), (.int 4)] 6 = mkF m 0 #[vr x0, vi 0, vi 4, .unset, .unset, .unset] [] := by first | (simp [entryFrame, mkF, argsToLocals, Value.category]; done) | rfl
def Q_rm_cmp3_4 (Z : State) (a1 : Addr) (ka : ClassId) (c0 : Int32) (c1 : Int32) (c2 : Int32) (c3 : Int32) (h0 : Heap) (n0 : Nat) (vv : Option Value) (h : Heap) (L : List Loc) : Prop := ∃ b : Addr, ∃ k : ClassId, ∃ u : Bool, vv = some (.ref b) ∧ Fr n0 L ∧ Keep h0 h [] ∧ h0.size ≤ b ∧ (u = false → ¬ (255 : Int32) < c0 ∧ ¬ (255 : Int32) < c1 ∧ ¬ (255 : Int32) < c2 ∧ ¬ (255 : Int32) < c3) ∧ (u = false → Arv Z h b k .byte (4 : Int32) [(.int (nar .byte (c0.toInt8.toInt32))), (.int (nar .byte (c1.toInt8.toInt32))), (.int (nar .byte (c2.toInt8.toInt32))), (.int (nar .byte (c3.toInt8.toInt32)))] (.int 0)) ∧ (u = true → Arv Z h b k .byte (8 : Int32) [(.int (own_b0 c0)), (.int (own_b1 c0)), (.int (own_b0 c1)), (.int (own_b1 c1)), (.int (own_b0 c2)), (.int (own_b1 c2)), (.int (own_b0 c3)), (.int (own_b1 c3))] (.int 0))
set_option maxRecDepth 65536 in
set_option maxHeartbeats 40000000 in
theorem rm_cmp3_4 (l : Launch) (Z : State) (a0 : Array Value) (hw : HW a0 Z) (ws : List Jvm.Cond) (a1 : Addr) (ka : ClassId) (c0 : Int32) (c1 : Int32) (c2 : Int32) (c3 : Int32) (h0 : Heap) (n0 : Nat) (Z0 : n0 ≤ h0.size) (pr0 : Old Z n0 h0) (pr1 : Sta Z Z.heap "java/lang/StringUTF16" "$assertionsDisabled" "Z" (.int 1)) (pr2 : Sta Z Z.heap "java/lang/StringUTF16" "HI_BYTE_SHIFT" "I" (.int 0)) (pr3 : Sta Z Z.heap "java/lang/StringUTF16" "LO_BYTE_SHIFT" "I" (.int 8)) (pr4 : Arv Z h0 a1 ka .char (4 : Int32) [(.int c0), (.int c1), (.int c2), (.int c3)] (.int 0)) (hr0 : own_rng c0) (hr1 : own_rng c1) (hr2 : own_rng c2) (hr3 : own_rng c3) :
    Met l Z Y16 jdk_52_method_16_code 6 (some (.array .byte)) ws ({ frames := 3, cells := 2, slots := 12, locals := 40 } : Room) #[(.ref a1), (.int 0), (.int 4)] h0 (Q_rm_cmp3_4 Z a1 ka c0 c1 c2 c3 h0 n0) := by
  refine Met.enter (f0 := fun m => mkF m 0 #[vr a1, vi 0, vi 4, .unset, .unset, .unset] []) (plainFor_of_name pn_java_lang_StringUTF16) (fun m => ef_rm_cmp3_4 m a1) ?_
  intro p e s m below meth c s₁ hx hby hml hown hnm hret hlk hZ X0 e0
  have hown : s.vm.findClass "java/lang/StringUTF16" = some m.cls := hown
  have hnm : meth.name = "compress" := hnm
  have hml : c.maxLocals = 6 := hml
  have dk : ∀ {i : Nat} {r : Except DecodeError (Instr × Nat)}, decode jdk_52_method_16_code i = r → decode c.code i = r := fun h => hb hby h
  have N0 := Fr.nil n0
  refine gy (St s₁ m 1 #[vr a1, vi 0, vi 4, .unset, .unset, .unset] [(.int 4)]) (fun _ k => XS.iloadN X0.here hx rfl (dk d9_0) rfl k) ?_
  obtain ⟨T336, h336, k336, X336, e336, E336, A336, st336⟩ := newP X0 hx hZ (wd hw 24 rfl) e0 (g := (mkF m 1 #[vr a1, vi 0, vi 4, .unset, .unset, .unset] [(.int 4)])) rfl (dk d9_1) rfl (by decide) (cap := 4) (by decide) (by decide) (by decide) (by decide)
  obtain ⟨b336, g336⟩ : ∃ z, z = h0.size := ⟨_, rfl⟩
  rw [← g336] at A336 st336
  have sz_b336 : h0.size ≤ b336 := Nat.le_of_eq g336.symm
  have V336 : Arv Z h336 b336 k336 .byte (4 : Int32) [(.int 0), (.int 0), (.int 0), (.int 0)] (.int 0) := (Arv.new A336 (by decide)).pad (pad_rep [] (.int 0) 4)
  have O337 := pr0.ext E336
  have Z337 : n0 ≤ h336.size := Nat.le_trans Z0 E336.1
  refine gy (St T336 m 3 #[vr a1, vi 0, vi 4, .unset, .unset, .unset] [(.ref b336)]) st336 ?_
  refine gy (St T336 m 9 #[vr a1, vi 0, vi 4, vr b336, .unset, .unset] [(.int 4), (.int 0), (.ref b336), (.int 0), (.ref a1)]) (fun _ k => XS.astoreN X336.here hx rfl (dk d9_3) rfl rfl (l' := #[vr a1, vi 0, vi 4, vr b336, .unset, .unset]) rfl (XS.aloadN X336.here hx rfl (dk d9_4) rfl rfl (XS.iloadN X336.here hx rfl (dk d9_5) rfl (XS.aloadN X336.here hx rfl (dk d9_6) rfl rfl (XS.iconst X336.here hx rfl (dk d9_7) (XS.iloadN X336.here hx rfl (dk d9_8) rfl k)))))) ?_
  obtain ⟨_, _, ⟨T338, L338, k338, n338⟩, -, X338, ⟨Lc338, hQ338, l338, y338, z338⟩, st338⟩ := Jvm.LawKit.callS X336 hx (y := Y17) hown (mvT hZ (wd hw 50 rfl)) (mvT hZ (wd hw 51 rfl)) (mvT hZ (wd hw 48 rfl)) (mvT hZ (wd hw 52 rfl)) (by decide) (backOf (W := 0) (rm_cmp5_4 l Z a0 hw [] a1 b336 ka k336 c0 c1 c2 c3 h336 n0 Z337 O337 (pr4.ext E336) V336 (Nat.le_trans Z0 sz_b336) (Nat.ne_of_lt (Nat.lt_of_lt_of_le pr4.lt sz_b336))) hZ (wd hw 52 rfl) (wd hw 48 rfl) (by decide) (by decide)) (g := (mkF m 9 #[vr a1, vi 0, vi 4, vr b336, .unset, .unset] [(.int 4), (.int 0), (.ref b336), (.int 0), (.ref a1)])) rfl (by rw [hml]; rfl) (argsL := [(.ref a1), (.int 0), (.ref b336), (.int 0), (.int 4)]) (rest := []) (lenOf pd_3 rfl) rfl (by show 2 * 0 + _ ≤ _; exact Nat.le_of_eq rfl) (dk d9_9) (fun _ _ => ⟨rfl, e336, Nat.le_of_ble_eq_true rfl, Nat.le_of_ble_eq_true rfl⟩)
  dsimp only [Pt.U, Pt.locs, Pt.cells, Pt.slots] at X338 l338 y338 z338 st338 hQ338
  subst l338 y338 z338
  obtain ⟨r338, rfl, Nq338, K338, p338_0, p338_1⟩ := hQ338
  have N338 := Fr.app N0 Nq338
  have O339 := O337.keep K338 (allS (Nat.le_trans Z0 sz_b336) all0)
  have Z339 : n0 ≤ T338.heap.size := Nat.le_trans Z337 K338.1
  refine gy (St T338 m 12 #[vr a1, vi 0, vi 4, vr b336, .unset, .unset] [(.int r338)]) (fun _ k => st338 _ k) ?_
  rcases p338_1 with ⟨rfl, e340, e341, e342, e343⟩ | ⟨rfl, e344⟩ | ⟨rfl, e345⟩ | ⟨rfl, e346⟩ | ⟨rfl, e347⟩
  · skip
    have V348 := p338_0 rfl
    refine gy (St T338 m 58 #[vr a1, vi 0, vi 4, vr b336, vi 4, .unset] [(.ref b336)]) (fun _ k => XS.istore X338.here hx rfl (dk d9_12) rfl (l' := #[vr a1, vi 0, vi 4, vr b336, vi 4, .unset]) rfl (XS.iload X338.here hx rfl (dk d9_14) rfl (XS.iloadN X338.here hx rfl (dk d9_16) rfl (XS.icmpYes X338.here hx rfl (pc0 := 17) (pc' := 57) rfl (dk d9_17) rfl (teq (by decide : (4 : Int32) = (4 : Int32))).1 (by decide) (by decide) (XS.aloadN X338.here hx rfl (dk d9_57) rfl rfl k))))) ?_
    refine Go.ret X338 hx hlk (t := (.array .byte)) hret rfl (Or.inr (Or.inr (Or.inr (Or.inr ⟨rfl, rfl, rfl⟩)))) (dk d9_58) (by decide) (by decide) ?_
    exact ⟨b336, k336, false, rfl, N338, (((Keep.refl h0 []).ext E336).trans K338 (allS (Or.inr (Nat.le_trans (Nat.le_refl _) sz_b336)) all0)), (Nat.le_trans (Nat.le_refl _) sz_b336), (fun _ => ⟨e340, e341, e342, e343⟩), (fun _ => V348), (fun q => nomatch q)⟩
  · skip
    refine gy (St T338 m 23 #[vr a1, vi 0, vi 4, vr b336, vi 0, .unset] [(.int 4), (.int 0), (.ref a1)]) (fun _ k => XS.istore X338.here hx rfl (dk d9_12) rfl (l' := #[vr a1, vi 0, vi 4, vr b336, vi 0, .unset]) rfl (XS.iload X338.here hx rfl (dk d9_14) rfl (XS.iloadN X338.here hx rfl (dk d9_16) rfl (XS.icmpNo X338.here hx rfl (dk d9_17) rfl (feq (by decide : ¬ ((0 : Int32) = (4 : Int32)))).1 (XS.aloadN X338.here hx rfl (dk d9_20) rfl rfl (XS.iloadN X338.here hx rfl (dk d9_21) rfl (XS.iloadN X338.here hx rfl (dk d9_22) rfl k))))))) ?_
    have f349 := ((pr4.ext E336).keep K338 (ninS (Nat.ne_of_lt (Nat.lt_of_lt_of_le pr4.lt sz_b336)) nin0))
    obtain ⟨_, _, ⟨T350, L350, k350, n350⟩, -, X350, ⟨Lc350, hQ350, l350, y350, z350⟩, st350⟩ := Jvm.LawKit.callS X338 hx (y := Y23) hown (mvT hZ (wd hw 84 rfl)) (mvT hZ (wd hw 85 rfl)) (mvT hZ (wd hw 48 rfl)) (mvT hZ (wd hw 86 rfl)) (by decide) (backOf (W := 0) (rm_tb_4 l Z a0 hw [] a1 ka c0 c1 c2 c3 T338.heap n0 Z339 O339 pr1 pr2 pr3 f349) hZ (wd hw 86 rfl) (wd hw 48 rfl) (by decide) (by decide)) (g := (mkF m 23 #[vr a1, vi 0, vi 4, vr b336, vi 0, .unset] [(.int 4), (.int 0), (.ref a1)])) rfl (by rw [hml]; rfl) (argsL := [(.ref a1), (.int 0), (.int 4)]) (rest := []) (lenOf pd_4 rfl) rfl (by show 2 * 0 + _ ≤ _; exact Nat.le_of_eq rfl) (dk d9_23) (fun _ _ => ⟨rfl, rfl, Nat.le_of_ble_eq_true rfl, Nat.le_of_ble_eq_true rfl⟩)
    dsimp only [Pt.U, Pt.locs, Pt.cells, Pt.slots] at X350 l350 y350 z350 st350 hQ350
    subst l350 y350 z350
    obtain ⟨b350, k350, rfl, Nq350, K350, p350_0, p350_1⟩ := hQ350
    have N350 := Fr.app N338 Nq350
    have O351 := O339.keep K350 all0
    have Z351 : n0 ≤ T350.heap.size := Nat.le_trans Z339 K350.1
    have sz_b350 : T338.heap.size ≤ b350 := p350_1
    refine gy (St T350 m 26 #[vr a1, vi 0, vi 4, vr b336, vi 0, .unset] [(.ref b350)]) (fun _ k => st350 _ k) ?_
    refine gy (St T350 m 32 #[vr a1, vi 0, vi 4, vr b336, vi 0, vr b350] [(.int 0), (.ref b350)]) (fun _ k => XS.astore X350.here hx rfl (dk d9_26) rfl rfl (l' := #[vr a1, vi 0, vi 4, vr b336, vi 0, vr b350]) rfl (XS.aload X350.here hx rfl (dk d9_28) rfl rfl (XS.iload X350.here hx rfl (dk d9_30) rfl k))) ?_
    obtain ⟨_, _, ⟨T352, L352, k352, n352⟩, -, X352, ⟨Lc352, hQ352, l352, y352, z352⟩, st352⟩ := Jvm.LawKit.callS X350 hx (y := Y18) hown (mvT hZ (wd hw 100 rfl)) (mvT hZ (wd hw 101 rfl)) (mvT hZ (wd hw 48 rfl)) (mvT hZ (wd hw 102 rfl)) (by decide) (backOf (W := 0) (rm_get_0 l Z a0 hw [] b350 k350 c0 (8 : Int32) [(.int (own_b0 c0)), (.int (own_b1 c0)), (.int (own_b0 c1)), (.int (own_b1 c1)), (.int (own_b0 c2)), (.int (own_b1 c2)), (.int (own_b0 c3)), (.int (own_b1 c3))] T350.heap n0 Z351 O351 pr1 pr2 pr3 p350_0 (by decide) (by decide) rfl rfl hr0) hZ (wd hw 102 rfl) (wd hw 48 rfl) (by decide) (by decide)) (g := (mkF m 32 #[vr a1, vi 0, vi 4, vr b336, vi 0, vr b350] [(.int 0), (.ref b350)])) rfl (by rw [hml]; rfl) (argsL := [(.ref b350), (.int 0)]) (rest := []) (lenOf pd_5 rfl) rfl (by show 2 * 0 + _ ≤ _; exact Nat.le_of_eq rfl) (dk d9_32) (fun _ _ => ⟨rfl, rfl, Nat.le_of_ble_eq_true rfl, Nat.le_of_ble_eq_true rfl⟩)
    dsimp only [Pt.U, Pt.locs, Pt.cells, Pt.slots] at X352 l352 y352 z352 st352 hQ352
    subst l352 y352 z352
    obtain ⟨rfl, Nq352, hh352⟩ := hQ352
    have N352 := Fr.app N350 Nq352
    refine gy (St T352 m 35 #[vr a1, vi 0, vi 4, vr b336, vi 0, vr b350] [(.int c0)]) (fun _ k => st352 _ k) ?_
    refine gy (St T352 m 56 #[vr a1, vi 0, vi 4, vr b336, vi 0, vr b350] [(.ref b350)]) (fun _ k => XS.sipush X352.here hx rfl (dk d9_35) (XS.icmpYes X352.here hx rfl (pc0 := 38) (pc' := 54) rfl (dk d9_38) rfl (tlt e344).2.2.1 (by decide) (by decide) (XS.aload X352.here hx rfl (dk d9_54) rfl rfl k))) ?_
    refine Go.ret X352 hx hlk (t := (.array .byte)) hret rfl (Or.inr (Or.inr (Or.inr (Or.inr ⟨rfl, rfl, rfl⟩)))) (dk d9_56) (by decide) (by decide) ?_
    rw [hh352]
    exact ⟨b350, k350, true, rfl, N352, ((((Keep.refl h0 []).ext E336).trans K338 (allS (Or.inr (Nat.le_trans (Nat.le_refl _) sz_b336)) all0)).trans K350 all0), (Nat.le_trans (Nat.le_trans (Nat.le_trans (Nat.le_refl _) E336.1) K338.1) sz_b350), (fun q => nomatch q), (fun q => nomatch q), (fun _ => p350_0)⟩
  · skip
    refine gy (St T338 m 23 #[vr a1, vi 0, vi 4, vr b336, vi 1, .unset] [(.int 4), (.int 0), (.ref a1)]) (fun _ k => XS.istore X338.here hx rfl (dk d9_12) rfl (l' := #[vr a1, vi 0, vi 4, vr b336, vi 1, .unset]) rfl (XS.iload X338.here hx rfl (dk d9_14) rfl (XS.iloadN X338.here hx rfl (dk d9_16) rfl (XS.icmpNo X338.here hx rfl (dk d9_17) rfl (feq (by decide : ¬ ((1 : Int32) = (4 : Int32)))).1 (XS.aloadN X338.here hx rfl (dk d9_20) rfl rfl (XS.iloadN X338.here hx rfl (dk d9_21) rfl (XS.iloadN X338.here hx rfl (dk d9_22) rfl k))))))) ?_
    have f353 := ((pr4.ext E336).keep K338 (ninS (Nat.ne_of_lt (Nat.lt_of_lt_of_le pr4.lt sz_b336)) nin0))
    obtain ⟨_, _, ⟨T354, L354, k354, n354⟩, -, X354, ⟨Lc354, hQ354, l354, y354, z354⟩, st354⟩ := Jvm.LawKit.callS X338 hx (y := Y23) hown (mvT hZ (wd hw 84 rfl)) (mvT hZ (wd hw 85 rfl)) (mvT hZ (wd hw 48 rfl)) (mvT hZ (wd hw 86 rfl)) (by decide) (backOf (W := 0) (rm_tb_4 l Z a0 hw [] a1 ka c0 c1 c2 c3 T338.heap n0 Z339 O339 pr1 pr2 pr3 f353) hZ (wd hw 86 rfl) (wd hw 48 rfl) (by decide) (by decide)) (g := (mkF m 23 #[vr a1, vi 0, vi 4, vr b336, vi 1, .unset] [(.int 4), (.int 0), (.ref a1)])) rfl (by rw [hml]; rfl) (argsL := [(.ref a1), (.int 0), (.int 4)]) (rest := []) (lenOf pd_4 rfl) rfl (by show 2 * 0 + _ ≤ _; exact Nat.le_of_eq rfl) (dk d9_23) (fun _ _ => ⟨rfl, rfl, Nat.le_of_ble_eq_true rfl, Nat.le_of_ble_eq_true rfl⟩)
    dsimp only [Pt.U, Pt.locs, Pt.cells, Pt.slots] at X354 l354 y354 z354 st354 hQ354
    subst l354 y354 z354
    obtain ⟨b354, k354, rfl, Nq354, K354, p354_0, p354_1⟩ := hQ354
    have N354 := Fr.app N338 Nq354
    have O355 := O339.keep K354 all0
    have Z355 : n0 ≤ T354.heap.size := Nat.le_trans Z339 K354.1
    have sz_b354 : T338.heap.size ≤ b354 := p354_1
    refine gy (St T354 m 26 #[vr a1, vi 0, vi 4, vr b336, vi 1, .unset] [(.ref b354)]) (fun _ k => st354 _ k) ?_
    refine gy (St T354 m 32 #[vr a1, vi 0, vi 4, vr b336, vi 1, vr b354] [(.int 1), (.ref b354)]) (fun _ k => XS.astore X354.here hx rfl (dk d9_26) rfl rfl (l' := #[vr a1, vi 0, vi 4, vr b336, vi 1, vr b354]) rfl (XS.aload X354.here hx rfl (dk d9_28) rfl rfl (XS.iload X354.here hx rfl (dk d9_30) rfl k))) ?_
    obtain ⟨_, _, ⟨T356, L356, k356, n356⟩, -, X356, ⟨Lc356, hQ356, l356, y356, z356⟩, st356⟩ := Jvm.LawKit.callS X354 hx (y := Y18) hown (mvT hZ (wd hw 100 rfl)) (mvT hZ (wd hw 101 rfl)) (mvT hZ (wd hw 48 rfl)) (mvT hZ (wd hw 102 rfl)) (by decide) (backOf (W := 0) (rm_get_1 l Z a0 hw [] b354 k354 c1 (8 : Int32) [(.int (own_b0 c0)), (.int (own_b1 c0)), (.int (own_b0 c1)), (.int (own_b1 c1)), (.int (own_b0 c2)), (.int (own_b1 c2)), (.int (own_b0 c3)), (.int (own_b1 c3))] T354.heap n0 Z355 O355 pr1 pr2 pr3 p354_0 (by decide) (by decide) rfl rfl hr1) hZ (wd hw 102 rfl) (wd hw 48 rfl) (by decide) (by decide)) (g := (mkF m 32 #[vr a1, vi 0, vi 4, vr b336, vi 1, vr b354] [(.int 1), (.ref b354)])) rfl (by rw [hml]; rfl) (argsL := [(.ref b354), (.int 1)]) (rest := []) (lenOf pd_5 rfl) rfl (by show 2 * 0 + _ ≤ _; exact Nat.le_of_eq rfl) (dk d9_32) (fun _ _ => ⟨rfl, rfl, Nat.le_of_ble_eq_true rfl, Nat.le_of_ble_eq_true rfl⟩)
    dsimp only [Pt.U, Pt.locs, Pt.cells, Pt.slots] at X356 l356 y356 z356 st356 hQ356
    subst l356 y356 z356
    obtain ⟨rfl, Nq356, hh356⟩ := hQ356
    have N356 := Fr.app N354 Nq356
    refine gy (St T356 m 35 #[vr a1, vi 0, vi 4, vr b336, vi 1, vr b354] [(.int c1)]) (fun _ k => st356 _ k) ?_
    refine gy (St T356 m 56 #[vr a1, vi 0, vi 4, vr b336, vi 1, vr b354] [(.ref b354)]) (fun _ k => XS.sipush X356.here hx rfl (dk d9_35) (XS.icmpYes X356.here hx rfl (pc0 := 38) (pc' := 54) rfl (dk d9_38) rfl (tlt e345).2.2.1 (by decide) (by decide) (XS.aload X356.here hx rfl (dk d9_54) rfl rfl k))) ?_
    refine Go.ret X356 hx hlk (t := (.array .byte)) hret rfl (Or.inr (Or.inr (Or.inr (Or.inr ⟨rfl, rfl, rfl⟩)))) (dk d9_56) (by decide) (by decide) ?_
    rw [hh356]
    exact ⟨b354, k354, true, rfl, N356, ((((Keep.refl h0 []).ext E336).trans K338 (allS (Or.inr (Nat.le_trans (Nat.le_refl _) sz_b336)) all0)).trans K354 all0), (Nat.le_trans (Nat.le_trans (Nat.le_trans (Nat.le_refl _) E336.1) K338.1) sz_b354), (fun q => nomatch q), (fun q => nomatch q), (fun _ => p354_0)⟩
  · skip
    refine gy (St T338 m 23 #[vr a1, vi 0, vi 4, vr b336, vi 2, .unset] [(.int 4), (.int 0), (.ref a1)]) (fun _ k => XS.istore X338.here hx rfl (dk d9_12) rfl (l' := #[vr a1, vi 0, vi 4, vr b336, vi 2, .unset]) rfl (XS.iload X338.here hx rfl (dk d9_14) rfl (XS.iloadN X338.here hx rfl (dk d9_16) rfl (XS.icmpNo X338.here hx rfl (dk d9_17) rfl (feq (by decide : ¬ ((2 : Int32) = (4 : Int32)))).1 (XS.aloadN X338.here hx rfl (dk d9_20) rfl rfl (XS.iloadN X338.here hx rfl (dk d9_21) rfl (XS.iloadN X338.here hx rfl (dk d9_22) rfl k))))))) ?_
    have f357 := ((pr4.ext E336).keep K338 (ninS (Nat.ne_of_lt (Nat.lt_of_lt_of_le pr4.lt sz_b336)) nin0))
    obtain ⟨_, _, ⟨T358, L358, k358, n358⟩, -, X358, ⟨Lc358, hQ358, l358, y358, z358⟩, st358⟩ := Jvm.LawKit.callS X338 hx (y := Y23) hown (mvT hZ (wd hw 84 rfl)) (mvT hZ (wd hw 85 rfl)) (mvT hZ (wd hw 48 rfl)) (mvT hZ (wd hw 86 rfl)) (by decide) (backOf (W := 0) (rm_tb_4 l Z a0 hw [] a1 ka c0 c1 c2 c3 T338.heap n0 Z339 O339 pr1 pr2 pr3 f357) hZ (wd hw 86 rfl) (wd hw 48 rfl) (by decide) (by decide)) (g := (mkF m 23 #[vr a1, vi 0, vi 4, vr b336, vi 2, .unset] [(.int 4), (.int 0), (.ref a1)])) rfl (by rw [hml]; rfl) (argsL := [(.ref a1), (.int 0), (.int 4)]) (rest := []) (lenOf pd_4 rfl) rfl (by show 2 * 0 + _ ≤ _; exact Nat.le_of_eq rfl) (dk d9_23) (fun _ _ => ⟨rfl, rfl, Nat.le_of_ble_eq_true rfl, Nat.le_of_ble_eq_true rfl⟩)
    dsimp only [Pt.U, Pt.locs, Pt.cells, Pt.slots] at X358 l358 y358 z358 st358 hQ358
    subst l358 y358 z358
    obtain ⟨b358, k358, rfl, Nq358, K358, p358_0, p358_1⟩ := hQ358
    have N358 := Fr.app N338 Nq358
    have O359 := O339.keep K358 all0
    have Z359 : n0 ≤ T358.heap.size := Nat.le_trans Z339 K358.1
    have sz_b358 : T338.heap.size ≤ b358 := p358_1
    refine gy (St T358 m 26 #[vr a1, vi 0, vi 4, vr b336, vi 2, .unset] [(.ref b358)]) (fun _ k => st358 _ k) ?_
    refine gy (St T358 m 32 #[vr a1, vi 0, vi 4, vr b336, vi 2, vr b358] [(.int 2), (.ref b358)]) (fun _ k => XS.astore X358.here hx rfl (dk d9_26) rfl rfl (l' := #[vr a1, vi 0, vi 4, vr b336, vi 2, vr b358]) rfl (XS.aload X358.here hx rfl (dk d9_28) rfl rfl (XS.iload X358.here hx rfl (dk d9_30) rfl k))) ?_
    obtain ⟨_, _, ⟨T360, L360, k360, n360⟩, -, X360, ⟨Lc360, hQ360, l360, y360, z360⟩, st360⟩ := Jvm.LawKit.callS X358 hx (y := Y18) hown (mvT hZ (wd hw 100 rfl)) (mvT hZ (wd hw 101 rfl)) (mvT hZ (wd hw 48 rfl)) (mvT hZ (wd hw 102 rfl)) (by decide) (backOf (W := 0) (rm_get_2 l Z a0 hw [] b358 k358 c2 (8 : Int32) [(.int (own_b0 c0)), (.int (own_b1 c0)), (.int (own_b0 c1)), (.int (own_b1 c1)), (.int (own_b0 c2)), (.int (own_b1 c2)), (.int (own_b0 c3)), (.int (own_b1 c3))] T358.heap n0 Z359 O359 pr1 pr2 pr3 p358_0 (by decide) (by decide) rfl rfl hr2) hZ (wd hw 102 rfl) (wd hw 48 rfl) (by decide) (by decide)) (g := (mkF m 32 #[vr a1, vi 0, vi 4, vr b336, vi 2, vr b358] [(.int 2), (.ref b358)])) rfl (by rw [hml]; rfl) (argsL := [(.ref b358), (.int 2)]) (rest := []) (lenOf pd_5 rfl) rfl (by show 2 * 0 + _ ≤ _; exact Nat.le_of_eq rfl) (dk d9_32) (fun _ _ => ⟨rfl, rfl, Nat.le_of_ble_eq_true rfl, Nat.le_of_ble_eq_true rfl⟩)
    dsimp only [Pt.U, Pt.locs, Pt.cells, Pt.slots] at X360 l360 y360 z360 st360 hQ360
    subst l360 y360 z360
    obtain ⟨rfl, Nq360, hh360⟩ := hQ360
    have N360 := Fr.app N358 Nq360
    refine gy (St T360 m 35 #[vr a1, vi 0, vi 4, vr b336, vi 2, vr b358] [(.int c2)]) (fun _ k => st360 _ k) ?_
    refine gy (St T360 m 56 #[vr a1, vi 0, vi 4, vr b336, vi 2, vr b358] [(.ref b358)]) (fun _ k => XS.sipush X360.here hx rfl (dk d9_35) (XS.icmpYes X360.here hx rfl (pc0 := 38) (pc' := 54) rfl (dk d9_38) rfl (tlt e346).2.2.1 (by decide) (by decide) (XS.aload X360.here hx rfl (dk d9_54) rfl rfl k))) ?_
    refine Go.ret X360 hx hlk (t := (.array .byte)) hret rfl (Or.inr (Or.inr (Or.inr (Or.inr ⟨rfl, rfl, rfl⟩)))) (dk d9_56) (by decide) (by decide) ?_
    rw [hh360]
    exact ⟨b358, k358, true, rfl, N360, ((((Keep.refl h0 []).ext E336).trans K338 (allS (Or.inr (Nat.le_trans (Nat.le_refl _) sz_b336)) all0)).trans K358 all0), (Nat.le_trans (Nat.le_trans (Nat.le_trans (Nat.le_refl _) E336.1) K338.1) sz_b358), (fun q => nomatch q), (fun q => nomatch q), (fun _ => p358_0)⟩
  · skip
    refine gy (St T338 m 23 #[vr a1, vi 0, vi 4, vr b336, vi 3, .unset] [(.int 4), (.int 0), (.ref a1)]) (fun _ k => XS.istore X338.here hx rfl (dk d9_12) rfl (l' := #[vr a1, vi 0, vi 4, vr b336, vi 3, .unset]) rfl (XS.iload X338.here hx rfl (dk d9_14) rfl (XS.iloadN X338.here hx rfl (dk d9_16) rfl (XS.icmpNo X338.here hx rfl (dk d9_17) rfl (feq (by decide : ¬ ((3 : Int32) = (4 : Int32)))).1 (XS.aloadN X338.here hx rfl (dk d9_20) rfl rfl (XS.iloadN X338.here hx rfl (dk d9_21) rfl (XS.iloadN X338.here hx rfl (dk d9_22) rfl k))))))) ?_
    have f361 := ((pr4.ext E336).keep K338 (ninS (Nat.ne_of_lt (Nat.lt_of_lt_of_le pr4.lt sz_b336)) nin0))
    obtain ⟨_, _, ⟨T362, L362, k362, n362⟩, -, X362, ⟨Lc362, hQ362, l362, y362, z362⟩, st362⟩ := Jvm.LawKit.callS X338 hx (y := Y23) hown (mvT hZ (wd hw 84 rfl)) (mvT hZ (wd hw 85 rfl)) (mvT hZ (wd hw 48 rfl)) (mvT hZ (wd hw 86 rfl)) (by decide) (backOf (W := 0) (rm_tb_4 l Z a0 hw [] a1 ka c0 c1 c2 c3 T338.heap n0 Z339 O339 pr1 pr2 pr3 f361) hZ (wd hw 86 rfl) (wd hw 48 rfl) (by decide) (by decide)) (g := (mkF m 23 #[vr a1, vi 0, vi 4, vr b336, vi 3, .unset] [(.int 4), (.int 0), (.ref a1)])) rfl (by rw [hml]; rfl) (argsL := [(.ref a1), (.int 0), (.int 4)]) (rest := []) (lenOf pd_4 rfl) rfl (by show 2 * 0 + _ ≤ _; exact Nat.le_of_eq rfl) (dk d9_23) (fun _ _ => ⟨rfl, rfl, Nat.le_of_ble_eq_true rfl, Nat.le_of_ble_eq_true rfl⟩)
    dsimp only [Pt.U, Pt.locs, Pt.cells, Pt.slots] at X362 l362 y362 z362 st362 hQ362
    subst l362 y362 z362
    obtain ⟨b362, k362, rfl, Nq362, K362, p362_0, p362_1⟩ := hQ362
    have N362 := Fr.app N338 Nq362
    have O363 := O339.keep K362 all0
    have Z363 : n0 ≤ T362.heap.size := Nat.le_trans Z339 K362.1
    have sz_b362 : T338.heap.size ≤ b362 := p362_1
    refine gy (St T362 m 26 #[vr a1, vi 0, vi 4, vr b336, vi 3, .unset] [(.ref b362)]) (fun _ k => st362 _ k) ?_
    refine gy (St T362 m 32 #[vr a1, vi 0, vi 4, vr b336, vi 3, vr b362] [(.int 3), (.ref b362)]) (fun _ k => XS.astore X362.here hx rfl (dk d9_26) rfl rfl (l' := #[vr a1, vi 0, vi 4, vr b336, vi 3, vr b362]) rfl (XS.aload X362.here hx rfl (dk d9_28) rfl rfl (XS.iload X362.here hx rfl (dk d9_30) rfl k))) ?_
    obtain ⟨_, _, ⟨T364, L364, k364, n364⟩, -, X364, ⟨Lc364, hQ364, l364, y364, z364⟩, st364⟩ := Jvm.LawKit.callS X362 hx (y := Y18) hown (mvT hZ (wd hw 100 rfl)) (mvT hZ (wd hw 101 rfl)) (mvT hZ (wd hw 48 rfl)) (mvT hZ (wd hw 102 rfl)) (by decide) (backOf (W := 0) (rm_get_3 l Z a0 hw [] b362 k362 c3 (8 : Int32) [(.int (own_b0 c0)), (.int (own_b1 c0)), (.int (own_b0 c1)), (.int (own_b1 c1)), (.int (own_b0 c2)), (.int (own_b1 c2)), (.int (own_b0 c3)), (.int (own_b1 c3))] T362.heap n0 Z363 O363 pr1 pr2 pr3 p362_0 (by decide) (by decide) rfl rfl hr3) hZ (wd hw 102 rfl) (wd hw 48 rfl) (by decide) (by decide)) (g := (mkF m 32 #[vr a1, vi 0, vi 4, vr b336, vi 3, vr b362] [(.int 3), (.ref b362)])) rfl (by rw [hml]; rfl) (argsL := [(.ref b362), (.int 3)]) (rest := []) (lenOf pd_5 rfl) rfl (by show 2 * 0 + _ ≤ _; exact Nat.le_of_eq rfl) (dk d9_32) (fun _ _ => ⟨rfl, rfl, Nat.le_of_ble_eq_true rfl, Nat.le_of_ble_eq_true rfl⟩)
    dsimp only [Pt.U, Pt.locs, Pt.cells, Pt.slots] at X364 l364 y364 z364 st364 hQ364
    subst l364 y364 z364
    obtain ⟨rfl, Nq364, hh364⟩ := hQ364
    have N364 := Fr.app N362 Nq364
    refine gy (St T364 m 35 #[vr a1, vi 0, vi 4, vr b336, vi 3, vr b362] [(.int c3)]) (fun _ k => st364 _ k) ?_
    refine gy (St T364 m 56 #[vr a1, vi 0, vi 4, vr b336, vi 3, vr b362] [(.ref b362)]) (fun _ k => XS.sipush X364.here hx rfl (dk d9_35) (XS.icmpYes X364.here hx rfl (pc0 := 38) (pc' := 54) rfl (dk d9_38) rfl (tlt e347).2.2.1 (by decide) (by decide) (XS.aload X364.here hx rfl (dk d9_54) rfl rfl k))) ?_
    refine Go.ret X364 hx hlk (t := (.array .byte)) hret rfl (Or.inr (Or.inr (Or.inr (Or.inr ⟨rfl, rfl, rfl⟩)))) (dk d9_56) (by decide) (by decide) ?_
    rw [hh364]
    exact ⟨b362, k362, true, rfl, N364, ((((Keep.refl h0 []).ext E336).trans K338 (allS (Or.inr (Nat.le_trans (Nat.le_refl _) sz_b336)) all0)).trans K362 all0), (Nat.le_trans (Nat.le_trans (Nat.le_trans (Nat.le_refl _) E336.1) K338.1) sz_b362), (fun q => nomatch q), (fun q => nomatch q), (fun _ => p362_0)⟩
theorem ef_rm_sV_4 (m : MethodId) (x0 : Addr) (x1 : Addr) : entryFrame m #[(.ref x0), (.ref x1), (.int 0), (.int 4), .null] 6 = mkF m 0 #[vr x0, vr x1, vi 0, vi 4, .val .null, .unset] [] := by first | (simp [entryFrame, mkF, argsToLocals, Value.category]; done) | rfl
def Q_rm_sV_4 (Z : State) (a1 : Addr) (v1 : Addr) (ka : ClassId) (c0 : Int32) (c1 : Int32) (c2 : Int32) (c3 : Int32) (cs : Int32) (h0 : Heap) (n0 : Nat) (vv : Option Value) (h : Heap) (L : List Loc) : Prop := ∃ t : Addr, ∃ k : ClassId, ∃ u : Bool, vv = none ∧ Fr n0 L ∧ Keep h0 h [a1] ∧ Exa Z h a1 "java/lang/String" ∧ Fld Z h a1 "java/lang/String" "value" "[B" (.ref t) ∧ h0.size ≤ t ∧ (u = false → ¬ (255 : Int32) < c0 ∧ ¬ (255 : Int32) < c1 ∧ ¬ (255 : Int32) < c2 ∧ ¬ (255 : Int32) < c3) ∧ (u = false → Arv Z h t k .byte (4 : Int32) [(.int (nar .byte (c0.toInt8.toInt32))), (.int (nar .byte (c1.toInt8.toInt32))), (.int (nar .byte (c2.toInt8.toInt32))), (.int (nar .byte (c3.toInt8.toInt32)))] (.int 0)) ∧ (u = true → Arv Z h t k .byte (8 : Int32) [(.int (own_b0 c0)), (.int (own_b1 c0)), (.int (own_b0 c1)), (.int (own_b1 c1)), (.int (own_b0 c2)), (.int (own_b1 c2)), (.int (own_b0 c3)), (.int (own_b1 c3))] (.int 0)) ∧ (u = false → Fld Z h a1 "java/lang/String" "coder" "B" (.int 0)) ∧ (u = true → Fld Z h a1 "java/lang/String" "coder" "B" (.int 1))
set_option maxRecDepth 65536 in
set_option maxHeartbeats 40000000 in
theorem rm_sV_4 (l : Launch) (Z : State) (a0 : Array Value) (hw : HW a0 Z) (ws : List Jvm.Cond) (a1 : Addr) (v1 : Addr) (ka : ClassId) (c0 : Int32) (c1 : Int32) (c2 : Int32) (c3 : Int32) (cs : Int32) (h0 : Heap) (n0 : Nat) (Z0 : n0 ≤ h0.size) (pr0 : Old Z n0 h0) (pr1 : Sta Z Z.heap "java/lang/String" "COMPACT_STRINGS" "Z" (.int cs)) (hcs : ¬ (cs = (0 : Int32))) (pr3 : Sta Z Z.heap "java/lang/StringUTF16" "$assertionsDisabled" "Z" (.int 1)) (pr4 : Sta Z Z.heap "java/lang/StringUTF16" "HI_BYTE_SHIFT" "I" (.int 0)) (pr5 : Sta Z Z.heap "java/lang/StringUTF16" "LO_BYTE_SHIFT" "I" (.int 8)) (pr6 : Exa Z h0 a1 "java/lang/String") (pr7 : Fld Z h0 a1 "java/lang/String" "value" "[B" .null) (pr8 : Fld Z h0 a1 "java/lang/String" "coder" "B" (.int 0)) (pr9 : n0 ≤ a1) (pr10 : Arv Z h0 v1 ka .char (4 : Int32) [(.int c0), (.int c1), (.int c2), (.int c3)] (.int 0)) (hr0 : own_rng c0) (hr1 : own_rng c1) (hr2 : own_rng c2) (hr3 : own_rng c3) :
    Met l Z Y6 jdk_42_method_149_code 6 none ws ({ frames := 4, cells := 2, slots := 12, locals := 57 } : Room) #[(.ref a1), (.ref v1), (.int 0), (.int 4), .null] h0 (Q_rm_sV_4 Z a1 v1 ka c0 c1 c2 c3 cs h0 n0) := by
  refine Met.enter (f0 := fun m => mkF m 0 #[vr a1, vr v1, vi 0, vi 4, .val .null, .unset] []) (plainFor_of_name pn_java_lang_String) (fun m => ef_rm_sV_4 m a1 v1) ?_
  intro p e s m below meth c s₁ hx hby hml hown hnm hret hlk hZ X0 e0
  have hown : s.vm.findClass "java/lang/String" = some m.cls := hown
  have hnm : meth.name = "<init>" := hnm
  have hml : c.maxLocals = 6 := hml
  have dk : ∀ {i : Nat} {r : Except DecodeError (Instr × Nat)}, decode jdk_42_method_149_code i = r → decode c.code i = r := fun h => hb hby h
  have N0 := Fr.nil n0
  refine gy (St s₁ m 1 #[vr a1, vr v1, vi 0, vi 4, .val .null, .unset] [(.ref a1)]) (fun _ k => XS.aloadN X0.here hx rfl (dk d4_0) rfl rfl k) ?_
  obtain ⟨T365, X365, e365, st365⟩ := initO X0 hx hZ hown (wd hw 20 rfl) (wd hw 21 rfl) (wd hw 22 rfl) e0 (g := (mkF m 1 #[vr a1, vr v1, vi 0, vi 4, .val .null, .unset] [(.ref a1)])) rfl (by rw [hml]; rfl) rfl (dk d4_1) (by decide) (W := 0) (by show 2 * 0 + _ ≤ _; exact Nat.le_of_eq rfl) (by decide)
  refine gy (St T365 m 4 #[vr a1, vr v1, vi 0, vi 4, .val .null, .unset] []) st365 ?_
  refine gy (St T365 m 27 #[vr a1, vr v1, vi 0, vi 4, .val .null, .unset] []) (fun _ k => XS.iloadN X365.here hx rfl (dk d4_4) rfl (XS.ifYes X365.here hx rfl (pc0 := 5) (pc' := 27) rfl (dk d4_5) rfl ((if0 _ _).trans (feq (by decide : ¬ ((4 : Int32) = (0 : Int32)))).2) (by decide) (by decide) k)) ?_
  obtain ⟨T366, X366, e366, st366⟩ := getS2 X365 hx hZ hown (host := "") (Or.inl (wd hw 45 rfl)) Via.refl e365 (pr1.ext pr0.2) (g := (mkF m 27 #[vr a1, vr v1, vi 0, vi 4, .val .null, .unset] [])) rfl (dk d4_27)
  refine gy (St T366 m 30 #[vr a1, vr v1, vi 0, vi 4, .val .null, .unset] [(.int cs)]) st366 ?_
  refine gy (St T366 m 36 #[vr a1, vr v1, vi 0, vi 4, .val .null, .unset] [(.int 4), (.int 0), (.ref v1)]) (fun _ k => XS.ifNo X366.here hx rfl (dk d4_30) rfl ((if0 _ _).trans (feq hcs).1) (XS.aloadN X366.here hx rfl (dk d4_33) rfl rfl (XS.iloadN X366.here hx rfl (dk d4_34) rfl (XS.iloadN X366.here hx rfl (dk d4_35) rfl k)))) ?_
  obtain ⟨_, _, ⟨T367, L367, k367, n367⟩, -, X367, ⟨Lc367, hQ367, l367, y367, z367⟩, st367⟩ := Jvm.LawKit.callS X366 hx (y := Y16) hown (mvT hZ (wd hw 46 rfl)) (mvT hZ (wd hw 47 rfl)) (mvT hZ (wd hw 48 rfl)) (mvT hZ (wd hw 49 rfl)) (by decide) (backOf (W := 0) (rm_cmp3_4 l Z a0 hw [] v1 ka c0 c1 c2 c3 h0 n0 Z0 pr0 pr3 pr4 pr5 pr10 hr0 hr1 hr2 hr3) hZ (wd hw 49 rfl) (wd hw 48 rfl) (by decide) (by decide)) (g := (mkF m 36 #[vr a1, vr v1, vi 0, vi 4, .val .null, .unset] [(.int 4), (.int 0), (.ref v1)])) rfl (by rw [hml]; rfl) (argsL := [(.ref v1), (.int 0), (.int 4)]) (rest := []) (lenOf pd_4 rfl) rfl (by show 2 * 0 + _ ≤ _; exact Nat.le_of_eq rfl) (dk d4_36) (fun _ _ => ⟨rfl, e366, Nat.le_of_ble_eq_true rfl, Nat.le_of_ble_eq_true rfl⟩)
  dsimp only [Pt.U, Pt.locs, Pt.cells, Pt.slots] at X367 l367 y367 z367 st367 hQ367
  subst l367 y367 z367
  obtain ⟨b367, k367, u367, rfl, Nq367, K367, p367_0, p367_1, p367_2, p367_3⟩ := hQ367
  have N367 := Fr.app N0 Nq367
  have O368 := pr0.keep K367 all0
  have Z368 : n0 ≤ T367.heap.size := Nat.le_trans Z0 K367.1
  have sz_b367 : h0.size ≤ b367 := p367_0
  refine gy (St T367 m 39 #[vr a1, vr v1, vi 0, vi 4, .val .null, .unset] [(.ref b367)]) (fun _ k => st367 _ k) ?_
  rcases u367 with _ | _
  · skip
    have V369 := p367_2 rfl
    refine gy (St T367 m 45 #[vr a1, vr v1, vi 0, vi 4, .val .null, vr b367] [(.int 4), (.ref b367), (.ref a1)]) (fun _ k => XS.astore X367.here hx rfl (dk d4_39) rfl rfl (l' := #[vr a1, vr v1, vi 0, vi 4, .val .null, vr b367]) rfl (XS.aloadN X367.here hx rfl (dk d4_41) rfl rfl (XS.aload X367.here hx rfl (dk d4_42) rfl rfl (XS.iloadN X367.here hx rfl (dk d4_44) rfl k)))) ?_
    obtain ⟨_, _, ⟨T370, L370, k370, n370⟩, -, X370, ⟨Lc370, hQ370, l370, y370, z370⟩, st370⟩ := Jvm.LawKit.callS X367 hx (y := Y15) hown (mvT hZ (wd hw 53 rfl)) (mvT hZ (wd hw 54 rfl)) (mvT hZ (wd hw 48 rfl)) (mvT hZ (wd hw 55 rfl)) (by decide) (backOf (W := 1) (rm_cfal_4_0 l Z a0 hw [] b367 k367 c0 c1 c2 c3 T367.heap n0 Z368 V369) hZ (wd hw 55 rfl) (wd hw 48 rfl) (by decide) (by decide)) (g := (mkF m 45 #[vr a1, vr v1, vi 0, vi 4, .val .null, vr b367] [(.int 4), (.ref b367), (.ref a1)])) rfl (by rw [hml]; rfl) (argsL := [(.ref b367), (.int 4)]) (rest := [(.ref a1)]) (lenOf pd_6 rfl) rfl (by show 2 * 0 + _ ≤ _; exact Nat.le_of_eq rfl) (dk d4_45) (fun _ _ => ⟨rfl, rfl, Nat.le_of_ble_eq_true rfl, Nat.le_of_ble_eq_true rfl⟩)
    dsimp only [Pt.U, Pt.locs, Pt.cells, Pt.slots] at X370 l370 y370 z370 st370 hQ370
    subst l370 y370 z370
    obtain ⟨rfl, Nq370, hh370⟩ := hQ370
    have N370 := Fr.app N367 Nq370
    refine gy (St T370 m 48 #[vr a1, vr v1, vi 0, vi 4, .val .null, vr b367] [(.int 0), (.ref a1)]) (fun _ k => st370 _ k) ?_
    obtain ⟨T371, h371, X371, e371, W371, st371⟩ := putFN X370 hx hZ hown (wd hw 30 rfl) Via.refl hh370 (pr8.keep K367 nin0) (pr6.keep K367) (Or.inr ⟨(wd hw 26 rfl), rfl, hnm⟩) (wd hw 10 rfl) (ty := .byte) (v' := (.int 0)) (by decide) rfl rfl (g := (mkF m 48 #[vr a1, vr v1, vi 0, vi 4, .val .null, vr b367] [(.int 0), (.ref a1)])) rfl rfl (dk d4_48)
    have N371 := Fr.snoc X371 N370 pr9
    have O372 := O368.wr W371 pr9
    have Z372 : n0 ≤ h371.size := Nat.le_trans Z368 (Keep.of_wr W371).1
    have F371 := (pr8.keep K367 nin0).same W371
    refine gy (St T371 m 51 #[vr a1, vr v1, vi 0, vi 4, .val .null, vr b367] []) st371 ?_
    refine gy (St T371 m 54 #[vr a1, vr v1, vi 0, vi 4, .val .null, vr b367] [(.ref b367), (.ref a1)]) (fun _ k => XS.aloadN X371.here hx rfl (dk d4_51) rfl rfl (XS.aload X371.here hx rfl (dk d4_52) rfl rfl k)) ?_
    have f373 := ((pr7.keep K367 nin0).other W371 (Or.inr (slot_ne (Or.inr (wd hw 25 rfl)) (Or.inr (wd hw 26 rfl)) (by decide) (t := (.array .byte)) (t' := .byte) (by decide) (by decide))))
    obtain ⟨T374, h374, X374, e374, W374, st374⟩ := putF X371 hx hZ hown (host := "") (Or.inl (wd hw 29 rfl)) Via.refl e371 f373 ((pr6.keep K367).wr W371) (Or.inr ⟨(wd hw 25 rfl), rfl, hnm⟩) (wd hw 10 rfl) (ty := (.array .byte)) (by decide) rfl rfl (g := (mkF m 54 #[vr a1, vr v1, vi 0, vi 4, .val .null, vr b367] [(.ref b367), (.ref a1)])) rfl rfl (dk d4_54)
    have N374 := Fr.snoc X374 N371 pr9
    have O375 := O372.wr W374 pr9
    have Z375 : n0 ≤ h374.size := Nat.le_trans Z372 (Keep.of_wr W374).1
    have F374 := f373.same W374
    refine gy (St T374 m 57 #[vr a1, vr v1, vi 0, vi 4, .val .null, vr b367] []) st374 ?_
    refine Go.retV X374 hx hlk hret (dk d4_57) (by decide) (by decide) ?_
    rw [e374]
    exact ⟨b367, k367, false, rfl, N374, ((((Keep.refl h0 [a1]).trans K367 all0).wr W371 (Or.inl (List.mem_of_getElem? (i := 0) rfl))).wr W374 (Or.inl (List.mem_of_getElem? (i := 0) rfl))), (((pr6.keep K367).wr W371).wr W374), F374, (Nat.le_trans (Nat.le_refl _) sz_b367), p367_1, (fun _ => ((V369.other W371 (Ne.symm (Nat.ne_of_lt (Nat.lt_of_lt_of_le pr6.lt sz_b367)))).other W374 (Ne.symm (Nat.ne_of_lt (Nat.lt_of_lt_of_le pr6.lt sz_b367))))), (fun q => nomatch q), (fun _ => (F371.other W374 (Or.inr (slot_ne (Or.inr (wd hw 26 rfl)) (Or.inr (wd hw 25 rfl)) (by decide) (t := .byte) (t' := (.array .byte)) (by decide) (by decide))))), (fun q => nomatch q)⟩
  · skip
    have V376 := p367_3 rfl
    refine gy (St T367 m 45 #[vr a1, vr v1, vi 0, vi 4, .val .null, vr b367] [(.int 4), (.ref b367), (.ref a1)]) (fun _ k => XS.astore X367.here hx rfl (dk d4_39) rfl rfl (l' := #[vr a1, vr v1, vi 0, vi 4, .val .null, vr b367]) rfl (XS.aloadN X367.here hx rfl (dk d4_41) rfl rfl (XS.aload X367.here hx rfl (dk d4_42) rfl rfl (XS.iloadN X367.here hx rfl (dk d4_44) rfl k)))) ?_
    obtain ⟨_, _, ⟨T377, L377, k377, n377⟩, -, X377, ⟨Lc377, hQ377, l377, y377, z377⟩, st377⟩ := Jvm.LawKit.callS X367 hx (y := Y15) hown (mvT hZ (wd hw 53 rfl)) (mvT hZ (wd hw 54 rfl)) (mvT hZ (wd hw 48 rfl)) (mvT hZ (wd hw 55 rfl)) (by decide) (backOf (W := 1) (rm_cfal_4_1 l Z a0 hw [] b367 k367 c0 c1 c2 c3 T367.heap n0 Z368 V376) hZ (wd hw 55 rfl) (wd hw 48 rfl) (by decide) (by decide)) (g := (mkF m 45 #[vr a1, vr v1, vi 0, vi 4, .val .null, vr b367] [(.int 4), (.ref b367), (.ref a1)])) rfl (by rw [hml]; rfl) (argsL := [(.ref b367), (.int 4)]) (rest := [(.ref a1)]) (lenOf pd_6 rfl) rfl (by show 2 * 0 + _ ≤ _; exact Nat.le_of_eq rfl) (dk d4_45) (fun _ _ => ⟨rfl, rfl, Nat.le_of_ble_eq_true rfl, Nat.le_of_ble_eq_true rfl⟩)
    dsimp only [Pt.U, Pt.locs, Pt.cells, Pt.slots] at X377 l377 y377 z377 st377 hQ377
    subst l377 y377 z377
    obtain ⟨rfl, Nq377, hh377⟩ := hQ377
    have N377 := Fr.app N367 Nq377
    refine gy (St T377 m 48 #[vr a1, vr v1, vi 0, vi 4, .val .null, vr b367] [(.int 1), (.ref a1)]) (fun _ k => st377 _ k) ?_
    obtain ⟨T378, h378, X378, e378, W378, st378⟩ := putFN X377 hx hZ hown (wd hw 30 rfl) Via.refl hh377 (pr8.keep K367 nin0) (pr6.keep K367) (Or.inr ⟨(wd hw 26 rfl), rfl, hnm⟩) (wd hw 10 rfl) (ty := .byte) (v' := (.int 1)) (by decide) rfl rfl (g := (mkF m 48 #[vr a1, vr v1, vi 0, vi 4, .val .null, vr b367] [(.int 1), (.ref a1)])) rfl rfl (dk d4_48)
    have N378 := Fr.snoc X378 N377 pr9
    have O379 := O368.wr W378 pr9
    have Z379 : n0 ≤ h378.size := Nat.le_trans Z368 (Keep.of_wr W378).1
    have F378 := (pr8.keep K367 nin0).same W378
    refine gy (St T378 m 51 #[vr a1, vr v1, vi 0, vi 4, .val .null, vr b367] []) st378 ?_
    refine gy (St T378 m 54 #[vr a1, vr v1, vi 0, vi 4, .val .null, vr b367] [(.ref b367), (.ref a1)]) (fun _ k => XS.aloadN X378.here hx rfl (dk d4_51) rfl rfl (XS.aload X378.here hx rfl (dk d4_52) rfl rfl k)) ?_
    have f380 := ((pr7.keep K367 nin0).other W378 (Or.inr (slot_ne (Or.inr (wd hw 25 rfl)) (Or.inr (wd hw 26 rfl)) (by decide) (t := (.array .byte)) (t' := .byte) (by decide) (by decide))))
    obtain ⟨T381, h381, X381, e381, W381, st381⟩ := putF X378 hx hZ hown (host := "") (Or.inl (wd hw 29 rfl)) Via.refl e378 f380 ((pr6.keep K367).wr W378) (Or.inr ⟨(wd hw 25 rfl), rfl, hnm⟩) (wd hw 10 rfl) (ty := (.array .byte)) (by decide) rfl rfl (g := (mkF m 54 #[vr a1, vr v1, vi 0, vi 4, .val .null, vr b367] [(.ref b367), (.ref a1)])) rfl rfl (dk d4_54)
    have N381 := Fr.snoc X381 N378 pr9
    have O382 := O379.wr W381 pr9
    have Z382 : n0 ≤ h381.size := Nat.le_trans Z379 (Keep.of_wr W381).1
    have F381 := f380.same W381
    refine gy (St T381 m 57 #[vr a1, vr v1, vi 0, vi 4, .val .null, vr b367] []) st381 ?_
    refine Go.retV X381 hx hlk hret (dk d4_57) (by decide) (by decide) ?_
    rw [e381]
    exact ⟨b367, k367, true, rfl, N381, ((((Keep.refl h0 [a1]).trans K367 all0).wr W378 (Or.inl (List.mem_of_getElem? (i := 0) rfl))).wr W381 (Or.inl (List.mem_of_getElem? (i := 0) rfl))), (((pr6.keep K367).wr W378).wr W381), F381, (Nat.le_trans (Nat.le_refl _) sz_b367), (fun q => nomatch q), (fun q => nomatch q), (fun _ => ((V376.other W378 (Ne.symm (Nat.ne_of_lt (Nat.lt_of_lt_of_le pr6.lt sz_b367)))).other W381 (Ne.symm (Nat.ne_of_lt (Nat.lt_of_lt_of_le pr6.lt sz_b367))))), (fun q => nomatch q), (fun _ => (F378.other W381 (Or.inr (slot_ne (Or.inr (wd hw 26 rfl)) (Or.inr (wd hw 25 rfl)) (by decide) (t := .byte) (t' := (.array .byte)) (by decide) (by decide)))))⟩
theorem ef_rm_sC_4 (m : MethodId) (x0 : Addr) (x1 : Addr) : entryFrame m #[(.ref x0), (.ref x1)] 2 = mkF m 0 #[vr x0, vr x1] [] := by first | (simp [entryFrame, mkF, argsToLocals, Value.category]; done) | rfl
def Q_rm_sC_4 (Z : State) (a1 : Addr) (v1 : Addr) (ka : ClassId) (c0 : Int32) (c1 : Int32) (c2 : Int32) (c3 : Int32) (cs : Int32) (h0 : Heap) (n0 : Nat) (vv : Option Value) (h : Heap) (L : List Loc) : Prop := ∃ t : Addr, ∃ k : ClassId, ∃ u : Bool, vv = none ∧ Fr n0 L ∧ Keep h0 h [a1] ∧ Exa Z h a1 "java/lang/String" ∧ Fld Z h a1 "java/lang/String" "value" "[B" (.ref t) ∧ h0.size ≤ t ∧ (u = false → ¬ (255 : Int32) < c0 ∧ ¬ (255 : Int32) < c1 ∧ ¬ (255 : Int32) < c2 ∧ ¬ (255 : Int32) < c3) ∧ (u = false → Arv Z h t k .byte (4 : Int32) [(.int (nar .byte (c0.toInt8.toInt32))), (.int (nar .byte (c1.toInt8.toInt32))), (.int (nar .byte (c2.toInt8.toInt32))), (.int (nar .byte (c3.toInt8.toInt32)))] (.int 0)) ∧ (u = true → Arv Z h t k .byte (8 : Int32) [(.int (own_b0 c0)), (.int (own_b1 c0)), (.int (own_b0 c1)), (.int (own_b1 c1)), (.int (own_b0 c2)), (.int (own_b1 c2)), (.int (own_b0 c3)), (.int (own_b1 c3))] (.int 0)) ∧ (u = false → Fld Z h a1 "java/lang/String" "coder" "B" (.int 0)) ∧ (u = true → Fld Z h a1 "java/lang/String" "coder" "B" (.int 1))
set_option maxRecDepth 65536 in
set_option maxHeartbeats 40000000 in
theorem rm_sC_4 (l : Launch) (Z : State) (a0 : Array Value) (hw : HW a0 Z) (ws : List Jvm.Cond) (a1 : Addr) (v1 : Addr) (ka : ClassId) (c0 : Int32) (c1 : Int32) (c2 : Int32) (c3 : Int32) (cs : Int32) (h0 : Heap) (n0 : Nat) (Z0 : n0 ≤ h0.size) (pr0 : Old Z n0 h0) (pr1 : Sta Z Z.heap "java/lang/String" "COMPACT_STRINGS" "Z" (.int cs)) (hcs : ¬ (cs = (0 : Int32))) (pr3 : Sta Z Z.heap "java/lang/StringUTF16" "$assertionsDisabled" "Z" (.int 1)) (pr4 : Sta Z Z.heap "java/lang/StringUTF16" "HI_BYTE_SHIFT" "I" (.int 0)) (pr5 : Sta Z Z.heap "java/lang/StringUTF16" "LO_BYTE_SHIFT" "I" (.int 8)) (pr6 : Exa Z h0 a1 "java/lang/String") (pr7 : Fld Z h0 a1 "java/lang/String" "value" "[B" .null) (pr8 : Fld Z h0 a1 "java/lang/String" "coder" "B" (.int 0)) (pr9 : n0 ≤ a1) (pr10 : Arv Z h0 v1 ka .char (4 : Int32) [(.int c0), (.int c1), (.int c2), (.int c3)] (.int 0)) (hr0 : own_rng c0) (hr1 : own_rng c1) (hr2 : own_rng c2) (hr3 : own_rng c3) :
    Met l Z Y5 jdk_42_method_3_code 2 none ws ({ frames := 5, cells := 2, slots := 12, locals := 74 } : Room) #[(.ref a1), (.ref v1)] h0 (Q_rm_sC_4 Z a1 v1 ka c0 c1 c2 c3 cs h0 n0) := by
  refine Met.enter (f0 := fun m => mkF m 0 #[vr a1, vr v1] []) (plainFor_of_name pn_java_lang_String) (fun m => ef_rm_sC_4 m a1 v1) ?_
  intro p e s m below meth c s₁ hx hby hml hown hnm hret hlk hZ X0 e0
  have hown : s.vm.findClass "java/lang/String" = some m.cls := hown
  have hnm : meth.name = "<init>" := hnm
  have hml : c.maxLocals = 2 := hml
  have dk : ∀ {i : Nat} {r : Except DecodeError (Instr × Nat)}, decode jdk_42_method_3_code i = r → decode c.code i = r := fun h => hb hby h
  have N0 := Fr.nil n0
  refine gy (St s₁ m 4 #[vr a1, vr v1] [(.ref v1), (.int 0), (.ref v1), (.ref a1)]) (fun _ k => XS.aloadN X0.here hx rfl (dk d3_0) rfl rfl (XS.aloadN X0.here hx rfl (dk d3_1) rfl rfl (XS.iconst X0.here hx rfl (dk d3_2) (XS.aloadN X0.here hx rfl (dk d3_3) rfl rfl k)))) ?_
  obtain ⟨cl383, Ar383, q383, S383, N_383, Hs383, G383⟩ := id pr10
  refine gy (St s₁ m 5 #[vr a1, vr v1] [(.int 4), (.int 0), (.ref v1), (.ref a1)]) (fun _ k => X0.arraylength hx (by rw [e0]; exact Ar383.1) (State.isArrayOf_alike hZ.alike Ar383.2.1) (g := (mkF m 4 #[vr a1, vr v1] [(.ref v1), (.int 0), (.ref v1), (.ref a1)])) rfl rfl (dk d3_4) _ (by rw [len_of S383 N_383]; exact k)) ?_
  refine gy (St s₁ m 6 #[vr a1, vr v1] [.null, (.int 4), (.int 0), (.ref v1), (.ref a1)]) (fun _ k => XS.aconstNull X0.here hx rfl (dk d3_5) k) ?_
  obtain ⟨_, _, ⟨T384, L384, k384, n384⟩, -, X384, ⟨Lc384, hQ384, l384, y384, z384⟩, st384⟩ := X0.specialBack hx (y := Y6) rfl hown (mvT hZ (wd hw 16 rfl)) (mvT hZ (wd hw 17 rfl)) (mvT hZ (wd hw 19 rfl)) (by decide) (backOf (W := 0) (rm_sV_4 l Z a0 hw [] a1 v1 ka c0 c1 c2 c3 cs h0 n0 Z0 pr0 pr1 hcs pr3 pr4 pr5 pr6 pr7 pr8 pr9 pr10 hr0 hr1 hr2 hr3) hZ (wd hw 19 rfl) (wd hw 11 rfl) (by decide) (by decide)) (g := (mkF m 6 #[vr a1, vr v1] [.null, (.int 4), (.int 0), (.ref v1), (.ref a1)])) rfl (by rw [hml]; rfl) (Steps.refl _) (a := a1) (argsL := [(.ref v1), (.int 0), (.int 4), .null]) (rest := []) (lenOf pd_7 rfl) rfl (by show 2 * 0 + _ ≤ _; exact Nat.le_of_eq rfl) (dk d3_6) (fun _ _ => ⟨rfl, e0, Nat.le_of_ble_eq_true rfl, Nat.le_of_ble_eq_true rfl⟩)
  dsimp only [Pt.U, Pt.locs, Pt.cells, Pt.slots] at X384 l384 y384 z384 st384 hQ384
  subst l384 y384 z384
  obtain ⟨t384, k384, u384, rfl, Nq384, K384, p384_0, p384_1, p384_2, p384_3, p384_4, p384_5, p384_6, p384_7⟩ := hQ384
  have N384 := Fr.app N0 Nq384
  have O385 := pr0.keep K384 (allS pr9 all0)
  have Z385 : n0 ≤ T384.heap.size := Nat.le_trans Z0 K384.1
  have sz_t384 : h0.size ≤ t384 := p384_2
  refine gy (St T384 m 9 #[vr a1, vr v1] []) (fun _ k => st384.trans k) ?_
  refine Go.retV X384 hx hlk hret (dk d3_9) (by decide) (by decide) ?_
  exact ⟨t384, k384, u384, rfl, N384, ((Keep.refl h0 [a1]).trans K384 (allS (Or.inl (List.mem_of_getElem? (i := 0) rfl)) all0)), p384_0, p384_1, (Nat.le_trans (Nat.le_refl _) sz_t384), p384_3, p384_4, p384_5, p384_6, p384_7⟩
theorem ef_rm_nbl_5 (m : MethodId)  : entryFrame m #[(.int 5)] 1 = mkF m 0 #[vi 5] [] := by first | (simp [entryFrame, mkF, argsToLocals, Value.category]; done) | rfl
def Q_rm_nbl_5 (Z : State)  (h0 : Heap) (n0 : Nat) (vv : Option Value) (h : Heap) (L : List Loc) : Prop := vv = some (.int 10) ∧ Fr n0 L ∧ h = h0
set_option maxRecDepth 65536 in
set_option maxHeartbeats 40000000 in
theorem rm_nbl_5 (l : Launch) (Z : State) (a0 : Array Value) (hw : HW a0 Z) (ws : List Jvm.Cond)  (h0 : Heap) (n0 : Nat) (Z0 : n0 ≤ h0.size) :
    Met l Z Y21 jdk_52_method_3_code 1 (some .int) ws ({ frames := 0, cells := 0, slots := 0, locals := 0 } : Room) #[(.int 5)] h0 (Q_rm_nbl_5 Z  h0 n0) := by
  refine Met.enter (f0 := fun m => mkF m 0 #[vi 5] []) (plainFor_of_name pn_java_lang_StringUTF16) (fun m => ef_rm_nbl_5 m ) ?_
  intro p e s m below meth c s₁ hx hby hml hown hnm hret hlk hZ X0 e0
  have hown : s.vm.findClass "java/lang/StringUTF16" = some m.cls := hown
  have hnm : meth.name = "newBytesLength" := hnm
  have hml : c.maxLocals = 1 := hml
  have dk : ∀ {i : Nat} {r : Except DecodeError (Instr × Nat)}, decode jdk_52_method_3_code i = r → decode c.code i = r := fun h => hb hby h
  have N0 := Fr.nil n0
  refine gy (St s₁ m 58 #[vi 5] [(.int 10)]) (fun _ k => XS.iloadN X0.here hx rfl (dk d21_0) rfl (XS.ifYes X0.here hx rfl (pc0 := 1) (pc' := 12) rfl (dk d21_1) rfl ((if0 _ _).trans (flt (by decide : ¬ ((5 : Int32) < (0 : Int32)))).2.1) (by decide) (by decide) (XS.iloadN X0.here hx rfl (dk d21_12) rfl (X0.ldcInt hx hown (mvT hZ (wd hw 93 rfl)) (g := (mkF m 13 #[vi 5] [(.int 5)])) rfl (dk d21_13) _ (XS.icmpYes X0.here hx rfl (pc0 := 15) (pc' := 55) rfl (dk d21_15) rfl (tlt (by decide : (5 : Int32) < (1073741823 : Int32))).1 (by decide) (by decide) (XS.iloadN X0.here hx rfl (dk d21_55) rfl (XS.iconst X0.here hx rfl (dk d21_56) (XS.ishl X0.here hx rfl (dk d21_57) rfl k)))))))) ?_
  refine Go.ret X0 hx hlk (t := .int) hret rfl (Or.inl ⟨rfl, by simp, _, rfl⟩) (dk d21_58) (by decide) (by decide) ?_
  rw [e0]
  exact ⟨rfl, N0, rfl⟩
theorem ef_rm_nbf_5 (m : MethodId)  : entryFrame m #[(.int 5)] 1 = mkF m 0 #[vi 5] [] := by first | (simp [entryFrame, mkF, argsToLocals, Value.category]; done) | rfl
def Q_rm_nbf_5 (Z : State)  (h0 : Heap) (n0 : Nat) (vv : Option Value) (h : Heap) (L : List Loc) : Prop := ∃ b : Addr, ∃ k : ClassId, vv = some (.ref b) ∧ Fr n0 L ∧ Keep h0 h [] ∧ Arv Z h b k .byte (10 : Int32) [(.int 0), (.int 0), (.int 0), (.int 0), (.int 0), (.int 0), (.int 0), (.int 0), (.int 0), (.int 0)] (.int 0) ∧ h0.size ≤ b
set_option maxRecDepth 65536 in
set_option maxHeartbeats 40000000 in
theorem rm_nbf_5 (l : Launch) (Z : State) (a0 : Array Value) (hw : HW a0 Z) (ws : List Jvm.Cond)  (h0 : Heap) (n0 : Nat) (Z0 : n0 ≤ h0.size) (pr0 : Old Z n0 h0) :
    Met l Z Y20 jdk_52_method_2_code 1 (some (.array .byte)) ws ({ frames := 1, cells := 1, slots := 10, locals := 12 } : Room) #[(.int 5)] h0 (Q_rm_nbf_5 Z  h0 n0) := by
  refine Met.enter (f0 := fun m => mkF m 0 #[vi 5] []) (plainFor_of_name pn_java_lang_StringUTF16) (fun m => ef_rm_nbf_5 m ) ?_
  intro p e s m below meth c s₁ hx hby hml hown hnm hret hlk hZ X0 e0
  have hown : s.vm.findClass "java/lang/StringUTF16" = some m.cls := hown
  have hnm : meth.name = "newBytesFor" := hnm
  have hml : c.maxLocals = 1 := hml
  have dk : ∀ {i : Nat} {r : Except DecodeError (Instr × Nat)}, decode jdk_52_method_2_code i = r → decode c.code i = r := fun h => hb hby h
  have N0 := Fr.nil n0
  refine gy (St s₁ m 1 #[vi 5] [(.int 5)]) (fun _ k => XS.iloadN X0.here hx rfl (dk d20_0) rfl k) ?_
  obtain ⟨_, _, ⟨T386, L386, k386, n386⟩, -, X386, ⟨Lc386, hQ386, l386, y386, z386⟩, st386⟩ := Jvm.LawKit.callS X0 hx (y := Y21) hown (mvT hZ (wd hw 90 rfl)) (mvT hZ (wd hw 91 rfl)) (mvT hZ (wd hw 48 rfl)) (mvT hZ (wd hw 92 rfl)) (by decide) (backOf (W := 0) (rm_nbl_5 l Z a0 hw []  h0 n0 Z0 ) hZ (wd hw 92 rfl) (wd hw 48 rfl) (by decide) (by decide)) (g := (mkF m 1 #[vi 5] [(.int 5)])) rfl (by rw [hml]; rfl) (argsL := [(.int 5)]) (rest := []) (lenOf pd_0 rfl) rfl (by show 2 * 0 + _ ≤ _; exact Nat.le_of_eq rfl) (dk d20_1) (fun _ _ => ⟨rfl, e0, Nat.le_of_ble_eq_true rfl, Nat.le_of_ble_eq_true rfl⟩)
  dsimp only [Pt.U, Pt.locs, Pt.cells, Pt.slots] at X386 l386 y386 z386 st386 hQ386
  subst l386 y386 z386
  obtain ⟨rfl, Nq386, hh386⟩ := hQ386
  have N386 := Fr.app N0 Nq386
  refine gy (St T386 m 4 #[vi 5] [(.int 10)]) (fun _ k => st386 _ k) ?_
  obtain ⟨T387, h387, k387, X387, e387, E387, A387, st387⟩ := newP X386 hx hZ (wd hw 24 rfl) hh386 (g := (mkF m 4 #[vi 5] [(.int 10)])) rfl (dk d20_4) rfl (by decide) (cap := 10) (by decide) (by decide) (by decide) (by decide)
  obtain ⟨b387, g387⟩ : ∃ z, z = h0.size := ⟨_, rfl⟩
  rw [← g387] at A387 st387
  have sz_b387 : h0.size ≤ b387 := Nat.le_of_eq g387.symm
  have V387 : Arv Z h387 b387 k387 .byte (10 : Int32) [(.int 0), (.int 0), (.int 0), (.int 0), (.int 0), (.int 0), (.int 0), (.int 0), (.int 0), (.int 0)] (.int 0) := (Arv.new A387 (by decide)).pad (pad_rep [] (.int 0) 10)
  have O388 := pr0.ext E387
  have Z388 : n0 ≤ h387.size := Nat.le_trans Z0 E387.1
  refine gy (St T387 m 6 #[vi 5] [(.ref b387)]) st387 ?_
  refine Go.ret X387 hx hlk (t := (.array .byte)) hret rfl (Or.inr (Or.inr (Or.inr (Or.inr ⟨rfl, rfl, rfl⟩)))) (dk d20_6) (by decide) (by decide) ?_
  rw [e387]
  exact ⟨b387, k387, rfl, N386, ((Keep.refl h0 []).ext E387), V387, (Nat.le_trans (Nat.le_refl _) sz_b387)⟩
theorem ef_rm_tb_5 (m : MethodId) (x0 : Addr) : entryFrame m #[(.ref x0), (.int 0), (.int 5)] 5 = mkF m 0 #[vr x0, vi 0, vi 5, .unset, .unset] [] := by first | (simp [entryFrame, mkF, argsToLocals, Value.category]; done) | rfl
def Q_rm_tb_5 (Z : State) (a1 : Addr) (ka : ClassId) (c0 : Int32) (c1 : Int32) (c2 : Int32) (c3 : Int32) (c4 : Int32) (h0 : Heap) (n0 : Nat) (vv : Option Value) (h : Heap) (L : List Loc) : Prop := ∃ b : Addr, ∃ k : ClassId, vv = some (.ref b) ∧ Fr n0 L ∧ Keep h0 h [] ∧ Arv Z h b k .byte (10 : Int32) [(.int (own_b0 c0)), (.int (own_b1 c0)), (.int (own_b0 c1)), (.int (own_b1 c1)), (.int (own_b0 c2)), (.int (own_b1 c2)), (.int (own_b0 c3)), (.int (own_b1 c3)), (.int (own_b0 c4)), (.int (own_b1 c4))] (.int 0) ∧ h0.size ≤ b
set_option maxRecDepth 65536 in
set_option maxHeartbeats 40000000 in
theorem rm_tb_5 (l : Launch) (Z : State) (a0 : Array Value) (hw : HW a0 Z) (ws : List Jvm.Cond) (a1 : Addr) (ka : ClassId) (c0 : Int32) (c1 : Int32) (c2 : Int32) (c3 : Int32) (c4 : Int32) (h0 : Heap) (n0 : Nat) (Z0 : n0 ≤ h0.size) (pr0 : Old Z n0 h0) (pr1 : Sta Z Z.heap "java/lang/StringUTF16" "$assertionsDisabled" "Z" (.int 1)) (pr2 : Sta Z Z.heap "java/lang/StringUTF16" "HI_BYTE_SHIFT" "I" (.int 0)) (pr3 : Sta Z Z.heap "java/lang/StringUTF16" "LO_BYTE_SHIFT" "I" (.int 8)) (pr4 : Arv Z h0 a1 ka .char (5 : Int32) [(.int c0), (.int c1), (.int c2), (.int c3), (.int c4)] (.int 0)) :
    Met l Z Y23 jdk_52_method_14_code 5 (some (.array .byte)) ws ({ frames := 2, cells := 1, slots := 10, locals := 24 } : Room) #[(.ref a1), (.int 0), (.int 5)] h0 (Q_rm_tb_5 Z a1 ka c0 c1 c2 c3 c4 h0 n0) := by
  refine Met.enter (f0 := fun m => mkF m 0 #[vr a1, vi 0, vi 5, .unset, .unset] []) (plainFor_of_name pn_java_lang_StringUTF16) (fun m => ef_rm_tb_5 m a1) ?_
  intro p e s m below meth c s₁ hx hby hml hown hnm hret hlk hZ X0 e0
  have hown : s.vm.findClass "java/lang/StringUTF16" = some m.cls := hown
  have hnm : meth.name = "toBytes" := hnm
  have hml : c.maxLocals = 5 := hml
  have dk : ∀ {i : Nat} {r : Except DecodeError (Instr × Nat)}, decode jdk_52_method_14_code i = r → decode c.code i = r := fun h => hb hby h
  have N0 := Fr.nil n0
  refine gy (St s₁ m 1 #[vr a1, vi 0, vi 5, .unset, .unset] [(.int 5)]) (fun _ k => XS.iloadN X0.here hx rfl (dk d19_0) rfl k) ?_
  obtain ⟨_, _, ⟨T389, L389, k389, n389⟩, -, X389, ⟨Lc389, hQ389, l389, y389, z389⟩, st389⟩ := Jvm.LawKit.callS X0 hx (y := Y20) hown (mvT hZ (wd hw 87 rfl)) (mvT hZ (wd hw 88 rfl)) (mvT hZ (wd hw 48 rfl)) (mvT hZ (wd hw 89 rfl)) (by decide) (backOf (W := 0) (rm_nbf_5 l Z a0 hw []  h0 n0 Z0 pr0) hZ (wd hw 89 rfl) (wd hw 48 rfl) (by decide) (by decide)) (g := (mkF m 1 #[vr a1, vi 0, vi 5, .unset, .unset] [(.int 5)])) rfl (by rw [hml]; rfl) (argsL := [(.int 5)]) (rest := []) (lenOf pd_1 rfl) rfl (by show 2 * 0 + _ ≤ _; exact Nat.le_of_eq rfl) (dk d19_1) (fun _ _ => ⟨rfl, e0, Nat.le_of_ble_eq_true rfl, Nat.le_of_ble_eq_true rfl⟩)
  dsimp only [Pt.U, Pt.locs, Pt.cells, Pt.slots] at X389 l389 y389 z389 st389 hQ389
  subst l389 y389 z389
  obtain ⟨b389, k389, rfl, Nq389, K389, p389_0, p389_1⟩ := hQ389
  have N389 := Fr.app N0 Nq389
  have O390 := pr0.keep K389 all0
  have Z390 : n0 ≤ T389.heap.size := Nat.le_trans Z0 K389.1
  have sz_b389 : h0.size ≤ b389 := p389_1
  refine gy (St T389 m 4 #[vr a1, vi 0, vi 5, .unset, .unset] [(.ref b389)]) (fun _ k => st389 _ k) ?_
  refine gy (St T389 m 17 #[vr a1, vi 0, vi 5, vr b389, vi 0] [(.int 0), (.ref b389)]) (fun _ k => XS.astoreN X389.here hx rfl (dk d19_4) rfl rfl (l' := #[vr a1, vi 0, vi 5, vr b389, .unset]) rfl (XS.iconst X389.here hx rfl (dk d19_5) (XS.istore X389.here hx rfl (dk d19_6) rfl (l' := #[vr a1, vi 0, vi 5, vr b389, vi 0]) rfl (XS.iload X389.here hx rfl (dk d19_8) rfl (XS.iloadN X389.here hx rfl (dk d19_10) rfl (XS.icmpNo X389.here hx rfl (dk d19_11) rfl (tlt (by decide : (0 : Int32) < (5 : Int32))).2.1 (XS.aloadN X389.here hx rfl (dk d19_14) rfl rfl (XS.iload X389.here hx rfl (dk d19_15) rfl k)))))))) ?_
  refine gy (St T389 m 19 #[vr a1, vi 0, vi 5, vr b389, vi 0] [(.int 0), (.ref a1), (.int 0), (.ref b389)]) (fun _ k => XS.aloadN X389.here hx rfl (dk d19_17) rfl rfl (XS.iloadN X389.here hx rfl (dk d19_18) rfl k)) ?_
  obtain ⟨cl391, Ar391, q391, S391, N_391, Hs391, G391⟩ := id (pr4.keep K389 nin0)
  have hin392 : ¬ ((0 : Int32) < 0 ∨ cl391.slots.size ≤ ((0 : Int32)).toNatClampNeg) := inb_of S391 ⟨by decide, by decide⟩
  have hat392 : cl391.slots[((0 : Int32)).toNatClampNeg]? = some (.int c0) := Hs391.at hin392 rfl
  refine gy (St T389 m 20 #[vr a1, vi 0, vi 5, vr b389, vi 0] [(.int c0), (.int 0), (.ref b389)]) (fun _ k => X389.caload hx (j := (0 : Int32)) (v := (.int c0)) Ar391.1 (State.isArrayOf_alike hZ.alike Ar391.2.1) Ar391.2.2 hin392 hat392 (g := (mkF m 19 #[vr a1, vi 0, vi 5, vr b389, vi 0] [(.int 0), (.ref a1), (.int 0), (.ref b389)])) rfl rfl (dk d19_19) _ k) ?_
  obtain ⟨_, _, ⟨T393, L393, k393, n393⟩, -, X393, ⟨Lc393, hQ393, l393, y393, z393⟩, st393⟩ := Jvm.LawKit.callS X389 hx (y := Y22) hown (mvT hZ (wd hw 94 rfl)) (mvT hZ (wd hw 95 rfl)) (mvT hZ (wd hw 48 rfl)) (mvT hZ (wd hw 96 rfl)) (by decide) (backOf (W := 0) (rm_put_0 l Z a0 hw [] b389 k389 c0 (10 : Int32) [(.int 0), (.int 0), (.int 0), (.int 0), (.int 0), (.int 0), (.int 0), (.int 0), (.int 0), (.int 0)] T389.heap n0 Z390 O390 pr1 pr2 pr3 p389_0 (Nat.le_trans Z0 sz_b389) (by decide) (by decide) (Nat.le_of_ble_eq_true rfl) (Nat.le_of_ble_eq_true rfl)) hZ (wd hw 96 rfl) (wd hw 48 rfl) (by decide) (by decide)) (g := (mkF m 20 #[vr a1, vi 0, vi 5, vr b389, vi 0] [(.int c0), (.int 0), (.ref b389)])) rfl (by rw [hml]; rfl) (argsL := [(.ref b389), (.int 0), (.int c0)]) (rest := []) (lenOf pd_2 rfl) rfl (by show 2 * 0 + _ ≤ _; exact Nat.le_of_eq rfl) (dk d19_20) (fun _ _ => ⟨rfl, rfl, Nat.le_of_ble_eq_true rfl, Nat.le_of_ble_eq_true rfl⟩)
  dsimp only [Pt.U, Pt.locs, Pt.cells, Pt.slots] at X393 l393 y393 z393 st393 hQ393
  subst l393 y393 z393
  obtain ⟨rfl, Nq393, K393, p393_0⟩ := hQ393
  have N393 := Fr.app N389 Nq393
  have O394 := O390.keep K393 (allS (Nat.le_trans Z0 sz_b389) all0)
  have Z394 : n0 ≤ T393.heap.size := Nat.le_trans Z390 K393.1
  have p393_0 : Arv Z T393.heap b389 k389 .byte (10 : Int32) [(.int (own_b0 c0)), (.int (own_b1 c0)), (.int 0), (.int 0), (.int 0), (.int 0), (.int 0), (.int 0), (.int 0), (.int 0)] (.int 0) := p393_0
  refine gy (St T393 m 23 #[vr a1, vi 0, vi 5, vr b389, vi 0] []) (fun _ k => st393 _ k) ?_
  refine gy (St T393 m 17 #[vr a1, vi 1, vi 5, vr b389, vi 1] [(.int 1), (.ref b389)]) (fun _ k => XS.iinc X393.here hx rfl (dk d19_23) rfl (l' := #[vr a1, vi 1, vi 5, vr b389, vi 0]) rfl (XS.iinc X393.here hx rfl (dk d19_26) rfl (l' := #[vr a1, vi 1, vi 5, vr b389, vi 1]) rfl (XS.goto X393.here hx rfl (pc0 := 29) (pc' := 8) rfl (dk d19_29) (by decide) (by decide) (XS.iload X393.here hx rfl (dk d19_8) rfl (XS.iloadN X393.here hx rfl (dk d19_10) rfl (XS.icmpNo X393.here hx rfl (dk d19_11) rfl (tlt (by decide : (1 : Int32) < (5 : Int32))).2.1 (XS.aloadN X393.here hx rfl (dk d19_14) rfl rfl (XS.iload X393.here hx rfl (dk d19_15) rfl k)))))))) ?_
  refine gy (St T393 m 19 #[vr a1, vi 1, vi 5, vr b389, vi 1] [(.int 1), (.ref a1), (.int 1), (.ref b389)]) (fun _ k => XS.aloadN X393.here hx rfl (dk d19_17) rfl rfl (XS.iloadN X393.here hx rfl (dk d19_18) rfl k)) ?_
  have f396 := ((pr4.keep K389 nin0).keep K393 (ninS (Nat.ne_of_lt (Nat.lt_of_lt_of_le pr4.lt sz_b389)) nin0))
  obtain ⟨cl395, Ar395, q395, S395, N_395, Hs395, G395⟩ := id f396
  have hin397 : ¬ ((1 : Int32) < 0 ∨ cl395.slots.size ≤ ((1 : Int32)).toNatClampNeg) := inb_of S395 ⟨by decide, by decide⟩
  have hat397 : cl395.slots[((1 : Int32)).toNatClampNeg]? = some (.int c1) := Hs395.at hin397 rfl
  refine gy (St T393 m 20 #[vr a1, vi 1, vi 5, vr b389, vi 1] [(.int c1), (.int 1), (.ref b389)]) (fun _ k => X393.caload hx (j := (1 : Int32)) (v := (.int c1)) Ar395.1 (State.isArrayOf_alike hZ.alike Ar395.2.1) Ar395.2.2 hin397 hat397 (g := (mkF m 19 #[vr a1, vi 1, vi 5, vr b389, vi 1] [(.int 1), (.ref a1), (.int 1), (.ref b389)])) rfl rfl (dk d19_19) _ k) ?_
  obtain ⟨_, _, ⟨T398, L398, k398, n398⟩, -, X398, ⟨Lc398, hQ398, l398, y398, z398⟩, st398⟩ := Jvm.LawKit.callS X393 hx (y := Y22) hown (mvT hZ (wd hw 94 rfl)) (mvT hZ (wd hw 95 rfl)) (mvT hZ (wd hw 48 rfl)) (mvT hZ (wd hw 96 rfl)) (by decide) (backOf (W := 0) (rm_put_1 l Z a0 hw [] b389 k389 c1 (10 : Int32) [(.int (own_b0 c0)), (.int (own_b1 c0)), (.int 0), (.int 0), (.int 0), (.int 0), (.int 0), (.int 0), (.int 0), (.int 0)] T393.heap n0 Z394 O394 pr1 pr2 pr3 p393_0 (Nat.le_trans Z0 sz_b389) (by decide) (by decide) (Nat.le_of_ble_eq_true rfl) (Nat.le_of_ble_eq_true rfl)) hZ (wd hw 96 rfl) (wd hw 48 rfl) (by decide) (by decide)) (g := (mkF m 20 #[vr a1, vi 1, vi 5, vr b389, vi 1] [(.int c1), (.int 1), (.ref b389)])) rfl (by rw [hml]; rfl) (argsL := [(.ref b389), (.int 1), (.int c1)]) (rest := []) (lenOf pd_2 rfl) rfl (by show 2 * 0 + _ ≤ _; exact Nat.le_of_eq rfl) (dk d19_20) (fun _ _ => ⟨rfl, rfl, Nat.le_of_ble_eq_true rfl, Nat.le_of_ble_eq_true rfl⟩)
  dsimp only [Pt.U, Pt.locs, Pt.cells, Pt.slots] at X398 l398 y398 z398 st398 hQ398
  subst l398 y398 z398
  obtain ⟨rfl, Nq398, K398, p398_0⟩ := hQ398
  have N398 := Fr.app N393 Nq398
  have O399 := O394.keep K398 (allS (Nat.le_trans Z0 sz_b389) all0)
  have Z399 : n0 ≤ T398.heap.size := Nat.le_trans Z394 K398.1
  have p398_0 : Arv Z T398.heap b389 k389 .byte (10 : Int32) [(.int (own_b0 c0)), (.int (own_b1 c0)), (.int (own_b0 c1)), (.int (own_b1 c1)), (.int 0), (.int 0), (.int 0), (.int 0), (.int 0), (.int 0)] (.int 0) := p398_0
  refine gy (St T398 m 23 #[vr a1, vi 1, vi 5, vr b389, vi 1] []) (fun _ k => st398 _ k) ?_
  refine gy (St T398 m 17 #[vr a1, vi 2, vi 5, vr b389, vi 2] [(.int 2), (.ref b389)]) (fun _ k => XS.iinc X398.here hx rfl (dk d19_23) rfl (l' := #[vr a1, vi 2, vi 5, vr b389, vi 1]) rfl (XS.iinc X398.here hx rfl (dk d19_26) rfl (l' := #[vr a1, vi 2, vi 5, vr b389, vi 2]) rfl (XS.goto X398.here hx rfl (pc0 := 29) (pc' := 8) rfl (dk d19_29) (by decide) (by decide) (XS.iload X398.here hx rfl (dk d19_8) rfl (XS.iloadN X398.here hx rfl (dk d19_10) rfl (XS.icmpNo X398.here hx rfl (dk d19_11) rfl (tlt (by decide : (2 : Int32) < (5 : Int32))).2.1 (XS.aloadN X398.here hx rfl (dk d19_14) rfl rfl (XS.iload X398.here hx rfl (dk d19_15) rfl k)))))))) ?_
  refine gy (St T398 m 19 #[vr a1, vi 2, vi 5, vr b389, vi 2] [(.int 2), (.ref a1), (.int 2), (.ref b389)]) (fun _ k => XS.aloadN X398.here hx rfl (dk d19_17) rfl rfl (XS.iloadN X398.here hx rfl (dk d19_18) rfl k)) ?_
  have f401 := (f396.keep K398 (ninS (Nat.ne_of_lt (Nat.lt_of_lt_of_le pr4.lt sz_b389)) nin0))
  obtain ⟨cl400, Ar400, q400, S400, N_400, Hs400, G400⟩ := id f401
  have hin402 : ¬ ((2 : Int32) < 0 ∨ cl400.slots.size ≤ ((2 : Int32)).toNatClampNeg) := inb_of S400 ⟨by decide, by decide⟩
  have hat402 : cl400.slots[((2 : Int32)).toNatClampNeg]? = some (.int c2) := Hs400.at hin402 rfl
  refine gy (St T398 m 20 #[vr a1, vi 2, vi 5, vr b389, vi 2] [(.int c2), (.int 2), (.ref b389)]) (fun _ k => X398.caload hx (j := (2 : Int32)) (v := (.int c2)) Ar400.1 (State.isArrayOf_alike hZ.alike Ar400.2.1) Ar400.2.2 hin402 hat402 (g := (mkF m 19 #[vr a1, vi 2, vi 5, vr b389, vi 2] [(.int 2), (.ref a1), (.int 2), (.ref b389)])) rfl rfl (dk d19_19) _ k) ?_
  obtain ⟨_, _, ⟨T403, L403, k403, n403⟩, -, X403, ⟨Lc403, hQ403, l403, y403, z403⟩, st403⟩ := Jvm.LawKit.callS X398 hx (y := Y22) hown (mvT hZ (wd hw 94 rfl)) (mvT hZ (wd hw 95 rfl)) (mvT hZ (wd hw 48 rfl)) (mvT hZ (wd hw 96 rfl)) (by decide) (backOf (W := 0) (rm_put_2 l Z a0 hw [] b389 k389 c2 (10 : Int32) [(.int (own_b0 c0)), (.int (own_b1 c0)), (.int (own_b0 c1)), (.int (own_b1 c1)), (.int 0), (.int 0), (.int 0), (.int 0), (.int 0), (.int 0)] T398.heap n0 Z399 O399 pr1 pr2 pr3 p398_0 (Nat.le_trans Z0 sz_b389) (by decide) (by decide) (Nat.le_of_ble_eq_true rfl) (Nat.le_of_ble_eq_true rfl)) hZ (wd hw 96 rfl) (wd hw 48 rfl) (by decide) (by decide)) (g := (mkF m 20 #[vr a1, vi 2, vi 5, vr b389, vi 2] [(.int c2), (.int 2), (.ref b389)])) rfl (by rw [hml]; rfl) (argsL := [(.ref b389), (.int 2), (.int c2)]) (rest := []) (lenOf pd_2 rfl) rfl (by show 2 * 0 + _ ≤ _; exact Nat.le_of_eq rfl) (dk d19_20) (fun _ _ => ⟨rfl, rfl, Nat.le_of_ble_eq_true rfl, Nat.le_of_ble_eq_true rfl⟩)
  dsimp only [Pt.U, Pt.locs, Pt.cells, Pt.slots] at X403 l403 y403 z403 st403 hQ403
  subst l403 y403 z403
  obtain ⟨rfl, Nq403, K403, p403_0⟩ := hQ403
  have N403 := Fr.app N398 Nq403
  have O404 := O399.keep K403 (allS (Nat.le_trans Z0 sz_b389) all0)
  have Z404 : n0 ≤ T403.heap.size := Nat.le_trans Z399 K403.1
  have p403_0 : Arv Z T403.heap b389 k389 .byte (10 : Int32) [(.int (own_b0 c0)), (.int (own_b1 c0)), (.int (own_b0 c1)), (.int (own_b1 c1)), (.int (own_b0 c2)), (.int (own_b1 c2)), (.int 0), (.int 0), (.int 0), (.int 0)] (.int 0) := p403_0
  refine gy (St T403 m 23 #[vr a1, vi 2, vi 5, vr b389, vi 2] []) (fun _ k => st403 _ k) ?_
  refine gy (St T403 m 17 #[vr a1, vi 3, vi 5, vr b389, vi 3] [(.int 3), (.ref b389)]) (fun _ k => XS.iinc X403.here hx rfl (dk d19_23) rfl (l' := #[vr a1, vi 3, vi 5, vr b389, vi 2]) rfl (XS.iinc X403.here hx rfl (dk d19_26) rfl (l' := #[vr a1, vi 3, vi 5, vr b389, vi 3]) rfl (XS.goto X403.here hx rfl (pc0 := 29) (pc' := 8) rfl (dk d19_29) (by decide) (by decide) (XS.iload X403.here hx rfl (dk d19_8) rfl (XS.iloadN X403.here hx rfl (dk d19_10) rfl (XS.icmpNo X403.here hx rfl (dk d19_11) rfl (tlt (by decide : (3 : Int32) < (5 : Int32))).2.1 (XS.aloadN X403.here hx rfl (dk d19_14) rfl rfl (XS.iload X403.here hx rfl (dk d19_15) rfl k)))))))) ?_
  refine gy (St T403 m 19 #[vr a1, vi 3, vi 5, vr b389, vi 3] [(.int 3), (.ref a1), (.int 3), (.ref b389)]) (fun _ k => XS.aloadN X403.here hx rfl (dk d19_17) rfl rfl (XS.iloadN X403.here hx rfl (dk d19_18) rfl k)) ?_
  have f406 := (f401.keep K403 (ninS (Nat.ne_of_lt (Nat.lt_of_lt_of_le pr4.lt sz_b389)) nin0))
  obtain ⟨cl405, Ar405, q405, S405, N_405, Hs405, G405⟩ := id f406
  have hin407 : ¬ ((3 : Int32) < 0 ∨ cl405.slots.size ≤ ((3 : Int32)).toNatClampNeg) := inb_of S405 ⟨by decide, by decide⟩
  have hat407 : cl405.slots[((3 : Int32)).toNatClampNeg]? = some (.int c3) := Hs405.at hin407 rfl
  refine gy (St T403 m 20 #[vr a1, vi 3, vi 5, vr b389, vi 3] [(.int c3), (.int 3), (.ref b389)]) (fun _ k => X403.caload hx (j := (3 : Int32)) (v := (.int c3)) Ar405.1 (State.isArrayOf_alike hZ.alike Ar405.2.1) Ar405.2.2 hin407 hat407 (g := (mkF m 19 #[vr a1, vi 3, vi 5, vr b389, vi 3] [(.int 3), (.ref a1), (.int 3), (.ref b389)])) rfl rfl (dk d19_19) _ k) ?_
  obtain ⟨_, _, ⟨T408, L408, k408, n408⟩, -, X408, ⟨Lc408, hQ408, l408, y408, z408⟩, st408⟩ := Jvm.LawKit.callS X403 hx (y := Y22) hown (mvT hZ (wd hw 94 rfl)) (mvT hZ (wd hw 95 rfl)) (mvT hZ (wd hw 48 rfl)) (mvT hZ (wd hw 96 rfl)) (by decide) (backOf (W := 0) (rm_put_3 l Z a0 hw [] b389 k389 c3 (10 : Int32) [(.int (own_b0 c0)), (.int (own_b1 c0)), (.int (own_b0 c1)), (.int (own_b1 c1)), (.int (own_b0 c2)), (.int (own_b1 c2)), (.int 0), (.int 0), (.int 0), (.int 0)] T403.heap n0 Z404 O404 pr1 pr2 pr3 p403_0 (Nat.le_trans Z0 sz_b389) (by decide) (by decide) (Nat.le_of_ble_eq_true rfl) (Nat.le_of_ble_eq_true rfl)) hZ (wd hw 96 rfl) (wd hw 48 rfl) (by decide) (by decide)) (g := (mkF m 20 #[vr a1, vi 3, vi 5, vr b389, vi 3] [(.int c3), (.int 3), (.ref b389)])) rfl (by rw [hml]; rfl) (argsL := [(.ref b389), (.int 3), (.int c3)]) (rest := []) (lenOf pd_2 rfl) rfl (by show 2 * 0 + _ ≤ _; exact Nat.le_of_eq rfl) (dk d19_20) (fun _ _ => ⟨rfl, rfl, Nat.le_of_ble_eq_true rfl, Nat.le_of_ble_eq_true rfl⟩)
  dsimp only [Pt.U, Pt.locs, Pt.cells, Pt.slots] at X408 l408 y408 z408 st408 hQ408
  subst l408 y408 z408
  obtain ⟨rfl, Nq408, K408, p408_0⟩ := hQ408
  have N408 := Fr.app N403 Nq408
  have O409 := O404.keep K408 (allS (Nat.le_trans Z0 sz_b389) all0)
  have Z409 : n0 ≤ T408.heap.size := Nat.le_trans Z404 K408.1
  have p408_0 : Arv Z T408.heap b389 k389 .byte (10 : Int32) [(.int (own_b0 c0)), (.int (own_b1 c0)), (.int (own_b0 c1)), (.int (own_b1 c1)), (.int (own_b0 c2)), (.int (own_b1 c2)), (.int (own_b0 c3)), (.int (own_b1 c3)), (.int 0), (.int 0)] (.int 0) := p408_0
  refine gy (St T408 m 23 #[vr a1, vi 3, vi 5, vr b389, vi 3] []) (fun _ k => st408 _ k) ?_
  refine gy (St T408 m 17 #[vr a1, vi 4, vi 5, vr b389, vi 4] [(.int 4), (.ref b389)]) (fun _ k => XS.iinc X408.here hx rfl (dk d19_23) rfl (l' := #[vr a1, vi 4, vi 5, vr b389, vi 3]) rfl (XS.iinc X408.here hx rfl (dk d19_26) rfl (l' := #[vr a1, vi 4, vi 5, vr b389, vi 4]) rfl (XS.goto X408.here hx rfl (pc0 := 29) (pc' := 8) rfl (dk d19_29) (by decide) (by decide) (XS.iload X408.here hx rfl (dk d19_8) rfl (XS.iloadN X408.here hx rfl (dk d19_10) rfl (XS.icmpNo X408.here hx rfl (dk d19_11) rfl (tlt (by decide : (4 : Int32) < (5 : Int32))).2.1 (XS.aloadN X408.here hx rfl (dk d19_14) rfl rfl (XS.iload X408.here hx rfl (dk d19_15) rfl k)))))))) ?_
  refine gy (St T408 m 19 #[vr a1, vi 4, vi 5, vr b389, vi 4] [(.int 4), (.ref a1), (.int 4), (.ref b389)]) (fun _ k => XS.aloadN X408.here hx rfl (dk d19_17) rfl rfl (XS.iloadN X408.here hx rfl (dk d19_18) rfl k)) ?_
  have f411 := (f406.keep K408 (ninS (Nat.ne_of_lt (Nat.lt_of_lt_of_le pr4.lt sz_b389)) nin0))
  obtain ⟨cl410, Ar410, q410, S410, N_410, Hs410, G410⟩ := id f411
  have hin412 : ¬ ((4 : Int32) < 0 ∨ cl410.slots.size ≤ ((4 : Int32)).toNatClampNeg) := inb_of S410 ⟨by decide, by decide⟩
  have hat412 : cl410.slots[((4 : Int32)).toNatClampNeg]? = some (.int c4) := Hs410.at hin412 rfl
  refine gy (St T408 m 20 #[vr a1, vi 4, vi 5, vr b389, vi 4] [(.int c4), (.int 4), (.ref b389)]) (fun _ k => X408.caload hx (j := (4 : Int32)) (v := (.int c4)) Ar410.1 (State.isArrayOf_alike hZ.alike Ar410.2.1) Ar410.2.2 hin412 hat412 (g := (mkF m 19 #[vr a1, vi 4, vi 5, vr b389, vi 4] [(.int 4), (.ref a1), (.int 4), (.ref b389)])) rfl rfl (dk d19_19) _ k) ?_
  obtain ⟨_, _, ⟨T413, L413, k413, n413⟩, -, X413, ⟨Lc413, hQ413, l413, y413, z413⟩, st413⟩ := Jvm.LawKit.callS X408 hx (y := Y22) hown (mvT hZ (wd hw 94 rfl)) (mvT hZ (wd hw 95 rfl)) (mvT hZ (wd hw 48 rfl)) (mvT hZ (wd hw 96 rfl)) (by decide) (backOf (W := 0) (rm_put_4 l Z a0 hw [] b389 k389 c4 (10 : Int32) [(.int (own_b0 c0)), (.int (own_b1 c0)), (.int (own_b0 c1)), (.int (own_b1 c1)), (.int (own_b0 c2)), (.int (own_b1 c2)), (.int (own_b0 c3)), (.int (own_b1 c3)), (.int 0), (.int 0)] T408.heap n0 Z409 O409 pr1 pr2 pr3 p408_0 (Nat.le_trans Z0 sz_b389) (by decide) (by decide) (Nat.le_of_ble_eq_true rfl) (Nat.le_of_ble_eq_true rfl)) hZ (wd hw 96 rfl) (wd hw 48 rfl) (by decide) (by decide)) (g := (mkF m 20 #[vr a1, vi 4, vi 5, vr b389, vi 4] [(.int c4), (.int 4), (.ref b389)])) rfl (by rw [hml]; rfl) (argsL := [(.ref b389), (.int 4), (.int c4)]) (rest := []) (lenOf pd_2 rfl) rfl (by show 2 * 0 + _ ≤ _; exact Nat.le_of_eq rfl) (dk d19_20) (fun _ _ => ⟨rfl, rfl, Nat.le_of_ble_eq_true rfl, Nat.le_of_ble_eq_true rfl⟩)
  dsimp only [Pt.U, Pt.locs, Pt.cells, Pt.slots] at X413 l413 y413 z413 st413 hQ413
  subst l413 y413 z413
  obtain ⟨rfl, Nq413, K413, p413_0⟩ := hQ413
  have N413 := Fr.app N408 Nq413
  have O414 := O409.keep K413 (allS (Nat.le_trans Z0 sz_b389) all0)
  have Z414 : n0 ≤ T413.heap.size := Nat.le_trans Z409 K413.1
  have p413_0 : Arv Z T413.heap b389 k389 .byte (10 : Int32) [(.int (own_b0 c0)), (.int (own_b1 c0)), (.int (own_b0 c1)), (.int (own_b1 c1)), (.int (own_b0 c2)), (.int (own_b1 c2)), (.int (own_b0 c3)), (.int (own_b1 c3)), (.int (own_b0 c4)), (.int (own_b1 c4))] (.int 0) := p413_0
  refine gy (St T413 m 23 #[vr a1, vi 4, vi 5, vr b389, vi 4] []) (fun _ k => st413 _ k) ?_
  refine gy (St T413 m 33 #[vr a1, vi 5, vi 5, vr b389, vi 5] [(.ref b389)]) (fun _ k => XS.iinc X413.here hx rfl (dk d19_23) rfl (l' := #[vr a1, vi 5, vi 5, vr b389, vi 4]) rfl (XS.iinc X413.here hx rfl (dk d19_26) rfl (l' := #[vr a1, vi 5, vi 5, vr b389, vi 5]) rfl (XS.goto X413.here hx rfl (pc0 := 29) (pc' := 8) rfl (dk d19_29) (by decide) (by decide) (XS.iload X413.here hx rfl (dk d19_8) rfl (XS.iloadN X413.here hx rfl (dk d19_10) rfl (XS.icmpYes X413.here hx rfl (pc0 := 11) (pc' := 32) rfl (dk d19_11) rfl (flt (by decide : ¬ ((5 : Int32) < (5 : Int32)))).2.1 (by decide) (by decide) (XS.aloadN X413.here hx rfl (dk d19_32) rfl rfl k))))))) ?_
  refine Go.ret X413 hx hlk (t := (.array .byte)) hret rfl (Or.inr (Or.inr (Or.inr (Or.inr ⟨rfl, rfl, rfl⟩)))) (dk d19_33) (by decide) (by decide) ?_
  exact ⟨b389, k389, rfl, N413, (((((((Keep.refl h0 []).trans K389 all0).trans K393 (allS (Or.inr (Nat.le_trans (Nat.le_refl _) sz_b389)) all0)).trans K398 (allS (Or.inr (Nat.le_trans (Nat.le_refl _) sz_b389)) all0)).trans K403 (allS (Or.inr (Nat.le_trans (Nat.le_refl _) sz_b389)) all0)).trans K408 (allS (Or.inr (Nat.le_trans (Nat.le_refl _) sz_b389)) all0)).trans K413 (allS (Or.inr (Nat.le_trans (Nat.le_refl _) sz_b389)) all0)), p413_0, (Nat.le_trans (Nat.le_refl _) sz_b389)⟩
theorem ef_rm_cfal_5_0 (m : MethodId) (x0 : Addr) : entryFrame m #[(.ref x0), (.int 5)] 2 = mkF m 0 #[vr x0, vi 5] [] := by first | (simp [entryFrame, mkF, argsToLocals, Value.category]; done) | rfl
def Q_rm_cfal_5_0 (Z : State) (b1 : Addr) (kb : ClassId) (c0 : Int32) (c1 : Int32) (c2 : Int32) (c3 : Int32) (c4 : Int32) (h0 : Heap) (n0 : Nat) (vv : Option Value) (h : Heap) (L : List Loc) : Prop := vv = some (.int 0) ∧ Fr n0 L ∧ h = h0
set_option maxRecDepth 65536 in
set_option maxHeartbeats 40000000 in
theorem rm_cfal_5_0 (l : Launch) (Z : State) (a0 : Array Value) (hw : HW a0 Z) (ws : List Jvm.Cond) (b1 : Addr) (kb : ClassId) (c0 : Int32) (c1 : Int32) (c2 : Int32) (c3 : Int32) (c4 : Int32) (h0 : Heap) (n0 : Nat) (Z0 : n0 ≤ h0.size) (pr0 : Arv Z h0 b1 kb .byte (5 : Int32) [(.int (nar .byte (c0.toInt8.toInt32))), (.int (nar .byte (c1.toInt8.toInt32))), (.int (nar .byte (c2.toInt8.toInt32))), (.int (nar .byte (c3.toInt8.toInt32))), (.int (nar .byte (c4.toInt8.toInt32)))] (.int 0)) :
    Met l Z Y15 jdk_52_method_15_code 2 (some .byte) ws ({ frames := 0, cells := 0, slots := 0, locals := 0 } : Room) #[(.ref b1), (.int 5)] h0 (Q_rm_cfal_5_0 Z b1 kb c0 c1 c2 c3 c4 h0 n0) := by
  refine Met.enter (f0 := fun m => mkF m 0 #[vr b1, vi 5] []) (plainFor_of_name pn_java_lang_StringUTF16) (fun m => ef_rm_cfal_5_0 m b1) ?_
  intro p e s m below meth c s₁ hx hby hml hown hnm hret hlk hZ X0 e0
  have hown : s.vm.findClass "java/lang/StringUTF16" = some m.cls := hown
  have hnm : meth.name = "coderFromArrayLen" := hnm
  have hml : c.maxLocals = 2 := hml
  have dk : ∀ {i : Nat} {r : Except DecodeError (Instr × Nat)}, decode jdk_52_method_15_code i = r → decode c.code i = r := fun h => hb hby h
  have N0 := Fr.nil n0
  refine gy (St s₁ m 2 #[vr b1, vi 5] [(.ref b1), (.int 5)]) (fun _ k => XS.iloadN X0.here hx rfl (dk d11_0) rfl (XS.aloadN X0.here hx rfl (dk d11_1) rfl rfl k)) ?_
  obtain ⟨cl415, Ar415, q415, S415, N_415, Hs415, G415⟩ := id pr0
  refine gy (St s₁ m 3 #[vr b1, vi 5] [(.int 5), (.int 5)]) (fun _ k => X0.arraylength hx (by rw [e0]; exact Ar415.1) (State.isArrayOf_alike hZ.alike Ar415.2.1) (g := (mkF m 2 #[vr b1, vi 5] [(.ref b1), (.int 5)])) rfl rfl (dk d11_2) _ (by rw [len_of S415 N_415]; exact k)) ?_
  refine gy (St s₁ m 8 #[vr b1, vi 5] [(.int 0)]) (fun _ k => XS.isub X0.here hx rfl (dk d11_3) rfl (XS.bipush X0.here hx rfl (dk d11_4) (XS.iushr X0.here hx rfl (dk d11_6) rfl (XS.i2b X0.here hx rfl (dk d11_7) rfl k)))) ?_
  refine Go.ret X0 hx hlk (t := .byte) hret rfl (Or.inl ⟨rfl, by simp, _, rfl⟩) (dk d11_8) (by decide) (by decide) ?_
  rw [e0]
  exact ⟨rfl, N0, rfl⟩
theorem ef_rm_cfal_5_1 (m : MethodId) (x0 : Addr) : entryFrame m #[(.ref x0), (.int 5)] 2 = mkF m 0 #[vr x0, vi 5] [] := by first | (simp [entryFrame, mkF, argsToLocals, Value.category]; done) | rfl
def Q_rm_cfal_5_1 (Z : State) (b1 : Addr) (kb : ClassId) (c0 : Int32) (c1 : Int32) (c2 : Int32) (c3 : Int32) (c4 : Int32) (h0 : Heap) (n0 : Nat) (vv : Option Value) (h : Heap) (L : List Loc) : Prop := vv = some (.int 1) ∧ Fr n0 L ∧ h = h0
set_option maxRecDepth 65536 in
set_option maxHeartbeats 40000000 in
theorem rm_cfal_5_1 (l : Launch) (Z : State) (a0 : Array Value) (hw : HW a0 Z) (ws : List Jvm.Cond) (b1 : Addr) (kb : ClassId) (c0 : Int32) (c1 : Int32) (c2 : Int32) (c3 : Int32) (c4 : Int32) (h0 : Heap) (n0 : Nat) (Z0 : n0 ≤ h0.size) (pr0 : Arv Z h0 b1 kb .byte (10 : Int32) [(.int (own_b0 c0)), (.int (own_b1 c0)), (.int (own_b0 c1)), (.int (own_b1 c1)), (.int (own_b0 c2)), (.int (own_b1 c2)), (.int (own_b0 c3)), (.int (own_b1 c3)), (.int (own_b0 c4)), (.int (own_b1 c4))] (.int 0)) :
    Met l Z Y15 jdk_52_method_15_code 2 (some .byte) ws ({ frames := 0, cells := 0, slots := 0, locals := 0 } : Room) #[(.ref b1), (.int 5)] h0 (Q_rm_cfal_5_1 Z b1 kb c0 c1 c2 c3 c4 h0 n0) := by
  refine Met.enter (f0 := fun m => mkF m 0 #[vr b1, vi 5] []) (plainFor_of_name pn_java_lang_StringUTF16) (fun m => ef_rm_cfal_5_1 m b1) ?_
  intro p e s m below meth c s₁ hx hby hml hown hnm hret hlk hZ X0 e0
  have hown : s.vm.findClass "java/lang/StringUTF16" = some m.cls := hown
  have hnm : meth.name = "coderFromArrayLen" := hnm
  have hml : c.maxLocals = 2 := hml
  have dk : ∀ {i : Nat} {r : Except DecodeError (Instr × Nat)}, decode jdk_52_method_15_code i = r → decode c.code i = r := fun h => hb hby h
  have N0 := Fr.nil n0
  refine gy (St s₁ m 2 #[vr b1, vi 5] [(.ref b1), (.int 5)]) (fun _ k => XS.iloadN X0.here hx rfl (dk d11_0) rfl (XS.aloadN X0.here hx rfl (dk d11_1) rfl rfl k)) ?_
  obtain ⟨cl416, Ar416, q416, S416, N_416, Hs416, G416⟩ := id pr0
  refine gy (St s₁ m 3 #[vr b1, vi 5] [(.int 10), (.int 5)]) (fun _ k => X0.arraylength hx (by rw [e0]; exact Ar416.1) (State.isArrayOf_alike hZ.alike Ar416.2.1) (g := (mkF m 2 #[vr b1, vi 5] [(.ref b1), (.int 5)])) rfl rfl (dk d11_2) _ (by rw [len_of S416 N_416]; exact k)) ?_
  refine gy (St s₁ m 8 #[vr b1, vi 5] [(.int 1)]) (fun _ k => XS.isub X0.here hx rfl (dk d11_3) rfl (XS.bipush X0.here hx rfl (dk d11_4) (XS.iushr X0.here hx rfl (dk d11_6) rfl (XS.i2b X0.here hx rfl (dk d11_7) rfl k)))) ?_
  refine Go.ret X0 hx hlk (t := .byte) hret rfl (Or.inl ⟨rfl, by simp, _, rfl⟩) (dk d11_8) (by decide) (by decide) ?_
  rw [e0]
  exact ⟨rfl, N0, rfl⟩
theorem ef_rm_cmp5_5 (m : MethodId) (x0 : Addr) (x2 : Addr) : entryFrame m #[(.ref x0), (.int 0), (.ref x2), (.int 0), (.int 5)] 7 = mkF m 0 #[vr x0, vi 0, vr x2, vi 0, vi 5, .unset, .unset] [] := by first | (simp [entryFrame, mkF, argsToLocals, Value.category]; done) | rfl
def Q_rm_cmp5_5 (Z : State) (a1 : Addr) (b1 : Addr) (ka : ClassId) (kb : ClassId) (c0 : Int32) (c1 : Int32) (c2 : Int32) (c3 : Int32) (c4 : Int32) (h0 : Heap) (n0 : Nat) (vv : Option Value) (h : Heap) (L : List Loc) : Prop := ∃ r : Int32, vv = some (.int r) ∧ Fr n0 L ∧ Keep h0 h [b1] ∧ (r = (5 : Int32) → Arv Z h b1 kb .byte (5 : Int32) [(.int (nar .byte (c0.toInt8.toInt32))), (.int (nar .byte (c1.toInt8.toInt32))), (.int (nar .byte (c2.toInt8.toInt32))), (.int (nar .byte (c3.toInt8.toInt32))), (.int (nar .byte (c4.toInt8.toInt32)))] (.int 0)) ∧ ((r = (5 : Int32) ∧ ¬ (255 : Int32) < c0 ∧ ¬ (255 : Int32) < c1 ∧ ¬ (255 : Int32) < c2 ∧ ¬ (255 : Int32) < c3 ∧ ¬ (255 : Int32) < c4) ∨ (r = (0 : Int32) ∧ (255 : Int32) < c0) ∨ (r = (1 : Int32) ∧ (255 : Int32) < c1) ∨ (r = (2 : Int32) ∧ (255 : Int32) < c2) ∨ (r = (3 : Int32) ∧ (255 : Int32) < c3) ∨ (r = (4 : Int32) ∧ (255 : Int32) < c4))
set_option maxRecDepth 65536 in
set_option maxHeartbeats 40000000 in
theorem rm_cmp5_5 (l : Launch) (Z : State) (a0 : Array Value) (hw : HW a0 Z) (ws : List Jvm.Cond) (a1 : Addr) (b1 : Addr) (ka : ClassId) (kb : ClassId) (c0 : Int32) (c1 : Int32) (c2 : Int32) (c3 : Int32) (c4 : Int32) (h0 : Heap) (n0 : Nat) (Z0 : n0 ≤ h0.size) (pr0 : Old Z n0 h0) (pr1 : Arv Z h0 a1 ka .char (5 : Int32) [(.int c0), (.int c1), (.int c2), (.int c3), (.int c4)] (.int 0)) (pr2 : Arv Z h0 b1 kb .byte (5 : Int32) [(.int 0), (.int 0), (.int 0), (.int 0), (.int 0)] (.int 0)) (pr3 : n0 ≤ b1) (pr4 : a1 ≠ b1) :
    Met l Z Y17 jdk_52_method_21_code 7 (some .int) ws ({ frames := 0, cells := 0, slots := 0, locals := 0 } : Room) #[(.ref a1), (.int 0), (.ref b1), (.int 0), (.int 5)] h0 (Q_rm_cmp5_5 Z a1 b1 ka kb c0 c1 c2 c3 c4 h0 n0) := by
  refine Met.enter (f0 := fun m => mkF m 0 #[vr a1, vi 0, vr b1, vi 0, vi 5, .unset, .unset] []) (plainFor_of_name pn_java_lang_StringUTF16) (fun m => ef_rm_cmp5_5 m a1 b1) ?_
  intro p e s m below meth c s₁ hx hby hml hown hnm hret hlk hZ X0 e0
  have hown : s.vm.findClass "java/lang/StringUTF16" = some m.cls := hown
  have hnm : meth.name = "compress" := hnm
  have hml : c.maxLocals = 7 := hml
  have dk : ∀ {i : Nat} {r : Except DecodeError (Instr × Nat)}, decode jdk_52_method_21_code i = r → decode c.code i = r := fun h => hb hby h
  have N0 := Fr.nil n0
  refine gy (St s₁ m 12 #[vr a1, vi 0, vr b1, vi 0, vi 5, vi 0, .unset] [(.int 0), (.ref a1)]) (fun _ k => XS.iconst X0.here hx rfl (dk d10_0) (XS.istore X0.here hx rfl (dk d10_1) rfl (l' := #[vr a1, vi 0, vr b1, vi 0, vi 5, vi 0, .unset]) rfl (XS.iload X0.here hx rfl (dk d10_3) rfl (XS.iload X0.here hx rfl (dk d10_5) rfl (XS.icmpNo X0.here hx rfl (dk d10_7) rfl (tlt (by decide : (0 : Int32) < (5 : Int32))).2.1 (XS.aloadN X0.here hx rfl (dk d10_10) rfl rfl (XS.iloadN X0.here hx rfl (dk d10_11) rfl k))))))) ?_
  obtain ⟨cl417, Ar417, q417, S417, N_417, Hs417, G417⟩ := id pr1
  have hin418 : ¬ ((0 : Int32) < 0 ∨ cl417.slots.size ≤ ((0 : Int32)).toNatClampNeg) := inb_of S417 ⟨by decide, by decide⟩
  have hat418 : cl417.slots[((0 : Int32)).toNatClampNeg]? = some (.int c0) := Hs417.at hin418 rfl
  refine gy (St s₁ m 13 #[vr a1, vi 0, vr b1, vi 0, vi 5, vi 0, .unset] [(.int c0)]) (fun _ k => X0.caload hx (j := (0 : Int32)) (v := (.int c0)) (by rw [e0]; exact Ar417.1) (State.isArrayOf_alike hZ.alike Ar417.2.1) Ar417.2.2 hin418 hat418 (g := (mkF m 12 #[vr a1, vi 0, vr b1, vi 0, vi 5, vi 0, .unset] [(.int 0), (.ref a1)])) rfl rfl (dk d10_12) _ k) ?_
  refine gy (St s₁ m 20 #[vr a1, vi 0, vr b1, vi 0, vi 5, vi 0, vi c0] [(.int 255), (.int c0)]) (fun _ k => XS.istore X0.here hx rfl (dk d10_13) rfl (l' := #[vr a1, vi 0, vr b1, vi 0, vi 5, vi 0, vi c0]) rfl (XS.iload X0.here hx rfl (dk d10_15) rfl (XS.sipush X0.here hx rfl (dk d10_17) k))) ?_
  by_cases c419 : (255 : Int32) < c0
  · skip
    refine gy (St s₁ m 25 #[vr a1, vi 0, vr b1, vi 0, vi 5, vi 0, vi c0] [(.int 0)]) (fun _ k => XS.icmpNo X0.here hx rfl (dk d10_20) rfl (tlt c419).2.2.2 (XS.iload X0.here hx rfl (dk d10_23) rfl k)) ?_
    refine Go.ret X0 hx hlk (t := .int) hret rfl (Or.inl ⟨rfl, by simp, _, rfl⟩) (dk d10_25) (by decide) (by decide) ?_
    rw [e0]
    exact ⟨(0 : Int32), rfl, N0, (Keep.refl h0 [b1]), (fun q => absurd q (by decide)), (Or.inr (Or.inl ⟨rfl, c419⟩))⟩
  · skip
    refine gy (St s₁ m 31 #[vr a1, vi 0, vr b1, vi 0, vi 5, vi 0, vi c0] [(.int (c0.toInt8.toInt32)), (.int 0), (.ref b1)]) (fun _ k => XS.icmpYes X0.here hx rfl (pc0 := 20) (pc' := 26) rfl (dk d10_20) rfl (flt c419).2.2.2 (by decide) (by decide) (XS.aloadN X0.here hx rfl (dk d10_26) rfl rfl (XS.iloadN X0.here hx rfl (dk d10_27) rfl (XS.iload X0.here hx rfl (dk d10_28) rfl (XS.i2b X0.here hx rfl (dk d10_30) rfl k))))) ?_
    obtain ⟨cl420, Ar420, q420, S420, N_420, Hs420, G420⟩ := id pr2
    have hin421 : ¬ ((0 : Int32) < 0 ∨ cl420.slots.size ≤ ((0 : Int32)).toNatClampNeg) := inb_of S420 ⟨by decide, by decide⟩
    obtain ⟨T421, h421, X421, e421, W421, st421⟩ := stB X0 hx hZ e0 Ar420 (j := (0 : Int32)) hin421 (g := (mkF m 31 #[vr a1, vi 0, vr b1, vi 0, vi 5, vi 0, vi c0] [(.int (c0.toInt8.toInt32)), (.int 0), (.ref b1)])) rfl rfl (dk d10_31)
    have O422 := pr0.wr W421 pr3
    have Z422 : n0 ≤ h421.size := Nat.le_trans Z0 (Keep.of_wr W421).1
    have V421 : Arv Z h421 b1 kb .byte (5 : Int32) [(.int (nar .byte (c0.toInt8.toInt32))), (.int 0), (.int 0), (.int 0), (.int 0)] (.int 0) := Arv.set Ar420 q420 S420 N_420 Hs420 G420 (fits_nar_byte _) W421 0 rfl (Nat.le_of_ble_eq_true rfl)
    have N421 := Fr.snoc X421 N0 pr3
    refine gy (St T421 m 32 #[vr a1, vi 0, vr b1, vi 0, vi 5, vi 0, vi c0] []) st421 ?_
    refine gy (St T421 m 11 #[vr a1, vi 1, vr b1, vi 1, vi 5, vi 1, vi c0] [(.ref a1)]) (fun _ k => XS.iinc X421.here hx rfl (dk d10_32) rfl (l' := #[vr a1, vi 1, vr b1, vi 0, vi 5, vi 0, vi c0]) rfl (XS.iinc X421.here hx rfl (dk d10_35) rfl (l' := #[vr a1, vi 1, vr b1, vi 1, vi 5, vi 0, vi c0]) rfl (XS.iinc X421.here hx rfl (dk d10_38) rfl (l' := #[vr a1, vi 1, vr b1, vi 1, vi 5, vi 1, vi c0]) rfl (XS.goto X421.here hx rfl (pc0 := 41) (pc' := 3) rfl (dk d10_41) (by decide) (by decide) (XS.iload X421.here hx rfl (dk d10_3) rfl (XS.iload X421.here hx rfl (dk d10_5) rfl (XS.icmpNo X421.here hx rfl (dk d10_7) rfl (tlt (by decide : (1 : Int32) < (5 : Int32))).2.1 (XS.aloadN X421.here hx rfl (dk d10_10) rfl rfl k)))))))) ?_
    refine gy (St T421 m 12 #[vr a1, vi 1, vr b1, vi 1, vi 5, vi 1, vi c0] [(.int 1), (.ref a1)]) (fun _ k => XS.iloadN X421.here hx rfl (dk d10_11) rfl k) ?_
    obtain ⟨cl423, Ar423, q423, S423, N_423, Hs423, G423⟩ := id (pr1.other W421 pr4)
    have hin424 : ¬ ((1 : Int32) < 0 ∨ cl423.slots.size ≤ ((1 : Int32)).toNatClampNeg) := inb_of S423 ⟨by decide, by decide⟩
    have hat424 : cl423.slots[((1 : Int32)).toNatClampNeg]? = some (.int c1) := Hs423.at hin424 rfl
    refine gy (St T421 m 13 #[vr a1, vi 1, vr b1, vi 1, vi 5, vi 1, vi c0] [(.int c1)]) (fun _ k => X421.caload hx (j := (1 : Int32)) (v := (.int c1)) (by rw [e421]; exact Ar423.1) (State.isArrayOf_alike hZ.alike Ar423.2.1) Ar423.2.2 hin424 hat424 (g := (mkF m 12 #[vr a1, vi 1, vr b1, vi 1, vi 5, vi 1, vi c0] [(.int 1), (.ref a1)])) rfl rfl (dk d10_12) _ k) ?_
    refine gy (St T421 m 20 #[vr a1, vi 1, vr b1, vi 1, vi 5, vi 1, vi c1] [(.int 255), (.int c1)]) (fun _ k => XS.istore X421.here hx rfl (dk d10_13) rfl (l' := #[vr a1, vi 1, vr b1, vi 1, vi 5, vi 1, vi c1]) rfl (XS.iload X421.here hx rfl (dk d10_15) rfl (XS.sipush X421.here hx rfl (dk d10_17) k))) ?_
    by_cases c425 : (255 : Int32) < c1
    · skip
      refine gy (St T421 m 25 #[vr a1, vi 1, vr b1, vi 1, vi 5, vi 1, vi c1] [(.int 1)]) (fun _ k => XS.icmpNo X421.here hx rfl (dk d10_20) rfl (tlt c425).2.2.2 (XS.iload X421.here hx rfl (dk d10_23) rfl k)) ?_
      refine Go.ret X421 hx hlk (t := .int) hret rfl (Or.inl ⟨rfl, by simp, _, rfl⟩) (dk d10_25) (by decide) (by decide) ?_
      rw [e421]
      exact ⟨(1 : Int32), rfl, N421, ((Keep.refl h0 [b1]).wr W421 (Or.inl (List.mem_of_getElem? (i := 0) rfl))), (fun q => absurd q (by decide)), (Or.inr (Or.inr (Or.inl ⟨rfl, c425⟩)))⟩
    · skip
      refine gy (St T421 m 31 #[vr a1, vi 1, vr b1, vi 1, vi 5, vi 1, vi c1] [(.int (c1.toInt8.toInt32)), (.int 1), (.ref b1)]) (fun _ k => XS.icmpYes X421.here hx rfl (pc0 := 20) (pc' := 26) rfl (dk d10_20) rfl (flt c425).2.2.2 (by decide) (by decide) (XS.aloadN X421.here hx rfl (dk d10_26) rfl rfl (XS.iloadN X421.here hx rfl (dk d10_27) rfl (XS.iload X421.here hx rfl (dk d10_28) rfl (XS.i2b X421.here hx rfl (dk d10_30) rfl k))))) ?_
      obtain ⟨cl426, Ar426, q426, S426, N_426, Hs426, G426⟩ := id V421
      have hin427 : ¬ ((1 : Int32) < 0 ∨ cl426.slots.size ≤ ((1 : Int32)).toNatClampNeg) := inb_of S426 ⟨by decide, by decide⟩
      obtain ⟨T427, h427, X427, e427, W427, st427⟩ := stB X421 hx hZ e421 Ar426 (j := (1 : Int32)) hin427 (g := (mkF m 31 #[vr a1, vi 1, vr b1, vi 1, vi 5, vi 1, vi c1] [(.int (c1.toInt8.toInt32)), (.int 1), (.ref b1)])) rfl rfl (dk d10_31)
      have O428 := O422.wr W427 pr3
      have Z428 : n0 ≤ h427.size := Nat.le_trans Z422 (Keep.of_wr W427).1
      have V427 : Arv Z h427 b1 kb .byte (5 : Int32) [(.int (nar .byte (c0.toInt8.toInt32))), (.int (nar .byte (c1.toInt8.toInt32))), (.int 0), (.int 0), (.int 0)] (.int 0) := Arv.set Ar426 q426 S426 N_426 Hs426 G426 (fits_nar_byte _) W427 1 rfl (Nat.le_of_ble_eq_true rfl)
      have N427 := Fr.snoc X427 N421 pr3
      refine gy (St T427 m 32 #[vr a1, vi 1, vr b1, vi 1, vi 5, vi 1, vi c1] []) st427 ?_
      refine gy (St T427 m 11 #[vr a1, vi 2, vr b1, vi 2, vi 5, vi 2, vi c1] [(.ref a1)]) (fun _ k => XS.iinc X427.here hx rfl (dk d10_32) rfl (l' := #[vr a1, vi 2, vr b1, vi 1, vi 5, vi 1, vi c1]) rfl (XS.iinc X427.here hx rfl (dk d10_35) rfl (l' := #[vr a1, vi 2, vr b1, vi 2, vi 5, vi 1, vi c1]) rfl (XS.iinc X427.here hx rfl (dk d10_38) rfl (l' := #[vr a1, vi 2, vr b1, vi 2, vi 5, vi 2, vi c1]) rfl (XS.goto X427.here hx rfl (pc0 := 41) (pc' := 3) rfl (dk d10_41) (by decide) (by decide) (XS.iload X427.here hx rfl (dk d10_3) rfl (XS.iload X427.here hx rfl (dk d10_5) rfl (XS.icmpNo X427.here hx rfl (dk d10_7) rfl (tlt (by decide : (2 : Int32) < (5 : Int32))).2.1 (XS.aloadN X427.here hx rfl (dk d10_10) rfl rfl k)))))))) ?_
      refine gy (St T427 m 12 #[vr a1, vi 2, vr b1, vi 2, vi 5, vi 2, vi c1] [(.int 2), (.ref a1)]) (fun _ k => XS.iloadN X427.here hx rfl (dk d10_11) rfl k) ?_
      have f430 := ((pr1.other W421 pr4).other W427 pr4)
      obtain ⟨cl429, Ar429, q429, S429, N_429, Hs429, G429⟩ := id f430
      have hin431 : ¬ ((2 : Int32) < 0 ∨ cl429.slots.size ≤ ((2 : Int32)).toNatClampNeg) := inb_of S429 ⟨by decide, by decide⟩
      have hat431 : cl429.slots[((2 : Int32)).toNatClampNeg]? = some (.int c2) := Hs429.at hin431 rfl
      refine gy (St T427 m 13 #[vr a1, vi 2, vr b1, vi 2, vi 5, vi 2, vi c1] [(.int c2)]) (fun _ k => X427.caload hx (j := (2 : Int32)) (v := (.int c2)) (by rw [e427]; exact Ar429.1) (State.isArrayOf_alike hZ.alike Ar429.2.1) Ar429.2.2 hin431 hat431 (g := (mkF m 12 #[vr a1, vi 2, vr b1, vi 2, vi 5, vi 2, vi c1] [(.int 2), (.ref a1)])) rfl rfl (dk d10_12) _ k) ?_
      refine gy (St T427 m 20 #[vr a1, vi 2, vr b1, vi 2, vi 5, vi 2, vi c2] [(.int 255), (.int c2)]) (fun _ k => XS.istore X427.here hx rfl (dk d10_13) rfl (l' := #[vr a1, vi 2, vr b1, vi 2, vi 5, vi 2, vi c2]) rfl (XS.iload X427.here hx rfl (dk d10_15) rfl (XS.sipush X427.here hx rfl (dk d10_17) k))) ?_
      by_cases c432 : (255 : Int32) < c2
      · skip
        refine gy (St T427 m 25 #[vr a1, vi 2, vr b1, vi 2, vi 5, vi 2, vi c2] [(.int 2)]) (fun _ k => XS.icmpNo X427.here hx rfl (dk d10_20) rfl (tlt c432).2.2.2 (XS.iload X427.here hx rfl (dk d10_23) rfl k)) ?_
        refine Go.ret X427 hx hlk (t := .int) hret rfl (Or.inl ⟨rfl, by simp, _, rfl⟩) (dk d10_25) (by decide) (by decide) ?_
        rw [e427]
        exact ⟨(2 : Int32), rfl, N427, (((Keep.refl h0 [b1]).wr W421 (Or.inl (List.mem_of_getElem? (i := 0) rfl))).wr W427 (Or.inl (List.mem_of_getElem? (i := 0) rfl))), (fun q => absurd q (by decide)), (Or.inr (Or.inr (Or.inr (Or.inl ⟨rfl, c432⟩))))⟩
      · skip
        refine gy (St T427 m 31 #[vr a1, vi 2, vr b1, vi 2, vi 5, vi 2, vi c2] [(.int (c2.toInt8.toInt32)), (.int 2), (.ref b1)]) (fun _ k => XS.icmpYes X427.here hx rfl (pc0 := 20) (pc' := 26) rfl (dk d10_20) rfl (flt c432).2.2.2 (by decide) (by decide) (XS.aloadN X427.here hx rfl (dk d10_26) rfl rfl (XS.iloadN X427.here hx rfl (dk d10_27) rfl (XS.iload X427.here hx rfl (dk d10_28) rfl (XS.i2b X427.here hx rfl (dk d10_30) rfl k))))) ?_
        obtain ⟨cl433, Ar433, q433, S433, N_433, Hs433, G433⟩ := id V427
        have hin434 : ¬ ((2 : Int32) < 0 ∨ cl433.slots.size ≤ ((2 : Int32)).toNatClampNeg) := inb_of S433 ⟨by decide, by decide⟩
        obtain ⟨T434, h434, X434, e434, W434, st434⟩ := stB X427 hx hZ e427 Ar433 (j := (2 : Int32)) hin434 (g := (mkF m 31 #[vr a1, vi 2, vr b1, vi 2, vi 5, vi 2, vi c2] [(.int (c2.toInt8.toInt32)), (.int 2), (.ref b1)])) rfl rfl (dk d10_31)
        have O435 := O428.wr W434 pr3
        have Z435 : n0 ≤ h434.size := Nat.le_trans Z428 (Keep.of_wr W434).1
        have V434 : Arv Z h434 b1 kb .byte (5 : Int32) [(.int (nar .byte (c0.toInt8.toInt32))), (.int (nar .byte (c1.toInt8.toInt32))), (.int (nar .byte (c2.toInt8.toInt32))), (.int 0), (.int 0)] (.int 0) := Arv.set Ar433 q433 S433 N_433 Hs433 G433 (fits_nar_byte _) W434 2 rfl (Nat.le_of_ble_eq_true rfl)
        have N434 := Fr.snoc X434 N427 pr3
        refine gy (St T434 m 32 #[vr a1, vi 2, vr b1, vi 2, vi 5, vi 2, vi c2] []) st434 ?_
        refine gy (St T434 m 11 #[vr a1, vi 3, vr b1, vi 3, vi 5, vi 3, vi c2] [(.ref a1)]) (fun _ k => XS.iinc X434.here hx rfl (dk d10_32) rfl (l' := #[vr a1, vi 3, vr b1, vi 2, vi 5, vi 2, vi c2]) rfl (XS.iinc X434.here hx rfl (dk d10_35) rfl (l' := #[vr a1, vi 3, vr b1, vi 3, vi 5, vi 2, vi c2]) rfl (XS.iinc X434.here hx rfl (dk d10_38) rfl (l' := #[vr a1, vi 3, vr b1, vi 3, vi 5, vi 3, vi c2]) rfl (XS.goto X434.here hx rfl (pc0 := 41) (pc' := 3) rfl (dk d10_41) (by decide) (by decide) (XS.iload X434.here hx rfl (dk d10_3) rfl (XS.iload X434.here hx rfl (dk d10_5) rfl (XS.icmpNo X434.here hx rfl (dk d10_7) rfl (tlt (by decide : (3 : Int32) < (5 : Int32))).2.1 (XS.aloadN X434.here hx rfl (dk d10_10) rfl rfl k)))))))) ?_
        refine gy (St T434 m 12 #[vr a1, vi 3, vr b1, vi 3, vi 5, vi 3, vi c2] [(.int 3), (.ref a1)]) (fun _ k => XS.iloadN X434.here hx rfl (dk d10_11) rfl k) ?_
        obtain ⟨cl436, Ar436, q436, S436, N_436, Hs436, G436⟩ := id (f430.other W434 pr4)
        have hin437 : ¬ ((3 : Int32) < 0 ∨ cl436.slots.size ≤ ((3 : Int32)).toNatClampNeg) := inb_of S436 ⟨by decide, by decide⟩
        have hat437 : cl436.slots[((3 : Int32)).toNatClampNeg]? = some (.int c3) := Hs436.at hin437 rfl
        refine gy (St T434 m 13 #[vr a1, vi 3, vr b1, vi 3, vi 5, vi 3, vi c2] [(.int c3)]) (fun _ k => X434.caload hx (j := (3 : Int32)) (v := (.int c3)) (by rw [e434]; exact Ar436.1) (State.isArrayOf_alike hZ.alike Ar436.2.1) Ar436.2.2 hin437 hat437 (g := (mkF m 12 #[vr a1, vi 3, vr b1, vi 3, vi 5, vi 3, vi c2] [(.int 3), (.ref a1)])) rfl rfl (dk d10_12) _ k) ?_
        refine gy (St T434 m 20 #[vr a1, vi 3, vr b1, vi 3, vi 5, vi 3, vi c3] [(.int 255), (.int c3)]) (fun _ k => XS.istore X434.here hx rfl (dk d10_13) rfl (l' := #[vr a1, vi 3, vr b1, vi 3, vi 5, vi 3, vi c3]) rfl (XS.iload X434.here hx rfl (dk d10_15) rfl (XS.sipush X434.here hx rfl (dk d10_17) k))) ?_
        by_cases c438 : (255 : Int32) < c3
        · skip
          refine gy (St T434 m 25 #[vr a1, vi 3, vr b1, vi 3, vi 5, vi 3, vi c3] [(.int 3)]) (fun _ k => XS.icmpNo X434.here hx rfl (dk d10_20) rfl (tlt c438).2.2.2 (XS.iload X434.here hx rfl (dk d10_23) rfl k)) ?_
          refine Go.ret X434 hx hlk (t := .int) hret rfl (Or.inl ⟨rfl, by simp, _, rfl⟩) (dk d10_25) (by decide) (by decide) ?_
          rw [e434]
          exact ⟨(3 : Int32), rfl, N434, ((((Keep.refl h0 [b1]).wr W421 (Or.inl (List.mem_of_getElem? (i := 0) rfl))).wr W427 (Or.inl (List.mem_of_getElem? (i := 0) rfl))).wr W434 (Or.inl (List.mem_of_getElem? (i := 0) rfl))), (fun q => absurd q (by decide)), (Or.inr (Or.inr (Or.inr (Or.inr (Or.inl ⟨rfl, c438⟩)))))⟩
        · skip
          refine gy (St T434 m 31 #[vr a1, vi 3, vr b1, vi 3, vi 5, vi 3, vi c3] [(.int (c3.toInt8.toInt32)), (.int 3), (.ref b1)]) (fun _ k => XS.icmpYes X434.here hx rfl (pc0 := 20) (pc' := 26) rfl (dk d10_20) rfl (flt c438).2.2.2 (by decide) (by decide) (XS.aloadN X434.here hx rfl (dk d10_26) rfl rfl (XS.iloadN X434.here hx rfl (dk d10_27) rfl (XS.iload X434.here hx rfl (dk d10_28) rfl (XS.i2b X434.here hx rfl (dk d10_30) rfl k))))) ?_
          obtain ⟨cl439, Ar439, q439, S439, N_439, Hs439, G439⟩ := id V434
          have hin440 : ¬ ((3 : Int32) < 0 ∨ cl439.slots.size ≤ ((3 : Int32)).toNatClampNeg) := inb_of S439 ⟨by decide, by decide⟩
          obtain ⟨T440, h440, X440, e440, W440, st440⟩ := stB X434 hx hZ e434 Ar439 (j := (3 : Int32)) hin440 (g := (mkF m 31 #[vr a1, vi 3, vr b1, vi 3, vi 5, vi 3, vi c3] [(.int (c3.toInt8.toInt32)), (.int 3), (.ref b1)])) rfl rfl (dk d10_31)
          have O441 := O435.wr W440 pr3
          have Z441 : n0 ≤ h440.size := Nat.le_trans Z435 (Keep.of_wr W440).1
          have V440 : Arv Z h440 b1 kb .byte (5 : Int32) [(.int (nar .byte (c0.toInt8.toInt32))), (.int (nar .byte (c1.toInt8.toInt32))), (.int (nar .byte (c2.toInt8.toInt32))), (.int (nar .byte (c3.toInt8.toInt32))), (.int 0)] (.int 0) := Arv.set Ar439 q439 S439 N_439 Hs439 G439 (fits_nar_byte _) W440 3 rfl (Nat.le_of_ble_eq_true rfl)
          have N440 := Fr.snoc X440 N434 pr3
          refine gy (St T440 m 32 #[vr a1, vi 3, vr b1, vi 3, vi 5, vi 3, vi c3] []) st440 ?_
          refine gy (St T440 m 11 #[vr a1, vi 4, vr b1, vi 4, vi 5, vi 4, vi c3] [(.ref a1)]) (fun _ k => XS.iinc X440.here hx rfl (dk d10_32) rfl (l' := #[vr a1, vi 4, vr b1, vi 3, vi 5, vi 3, vi c3]) rfl (XS.iinc X440.here hx rfl (dk d10_35) rfl (l' := #[vr a1, vi 4, vr b1, vi 4, vi 5, vi 3, vi c3]) rfl (XS.iinc X440.here hx rfl (dk d10_38) rfl (l' := #[vr a1, vi 4, vr b1, vi 4, vi 5, vi 4, vi c3]) rfl (XS.goto X440.here hx rfl (pc0 := 41) (pc' := 3) rfl (dk d10_41) (by decide) (by decide) (XS.iload X440.here hx rfl (dk d10_3) rfl (XS.iload X440.here hx rfl (dk d10_5) rfl (XS.icmpNo X440.here hx rfl (dk d10_7) rfl (tlt (by decide : (4 : Int32) < (5 : Int32))).2.1 (XS.aloadN X440.here hx rfl (dk d10_10) rfl rfl k)))))))) ?_
          refine gy (St T440 m 12 #[vr a1, vi 4, vr b1, vi 4, vi 5, vi 4, vi c3] [(.int 4), (.ref a1)]) (fun _ k => XS.iloadN X440.here hx rfl (dk d10_11) rfl k) ?_
          have f443 := ((f430.other W434 pr4).other W440 pr4)
          obtain ⟨cl442, Ar442, q442, S442, N_442, Hs442, G442⟩ := id f443
          have hin444 : ¬ ((4 : Int32) < 0 ∨ cl442.slots.size ≤ ((4 : Int32)).toNatClampNeg) := inb_of S442 ⟨by decide, by decide⟩
          have hat444 : cl442.slots[((4 : Int32)).toNatClampNeg]? = some (.int c4) := Hs442.at hin444 rfl
          refine gy (St T440 m 13 #[vr a1, vi 4, vr b1, vi 4, vi 5, vi 4, vi c3] [(.int c4)]) (fun _ k => X440.caload hx (j := (4 : Int32)) (v := (.int c4)) (by rw [e440]; exact Ar442.1) (State.isArrayOf_alike hZ.alike Ar442.2.1) Ar442.2.2 hin444 hat444 (g := (mkF m 12 #[vr a1, vi 4, vr b1, vi 4, vi 5, vi 4, vi c3] [(.int 4), (.ref a1)])) rfl rfl (dk d10_12) _ k) ?_
          refine gy (St T440 m 20 #[vr a1, vi 4, vr b1, vi 4, vi 5, vi 4, vi c4] [(.int 255), (.int c4)]) (fun _ k => XS.istore X440.here hx rfl (dk d10_13) rfl (l' := #[vr a1, vi 4, vr b1, vi 4, vi 5, vi 4, vi c4]) rfl (XS.iload X440.here hx rfl (dk d10_15) rfl (XS.sipush X440.here hx rfl (dk d10_17) k))) ?_
          by_cases c445 : (255 : Int32) < c4
          · skip
            refine gy (St T440 m 25 #[vr a1, vi 4, vr b1, vi 4, vi 5, vi 4, vi c4] [(.int 4)]) (fun _ k => XS.icmpNo X440.here hx rfl (dk d10_20) rfl (tlt c445).2.2.2 (XS.iload X440.here hx rfl (dk d10_23) rfl k)) ?_
            refine Go.ret X440 hx hlk (t := .int) hret rfl (Or.inl ⟨rfl, by simp, _, rfl⟩) (dk d10_25) (by decide) (by decide) ?_
            rw [e440]
            exact ⟨(4 : Int32), rfl, N440, (((((Keep.refl h0 [b1]).wr W421 (Or.inl (List.mem_of_getElem? (i := 0) rfl))).wr W427 (Or.inl (List.mem_of_getElem? (i := 0) rfl))).wr W434 (Or.inl (List.mem_of_getElem? (i := 0) rfl))).wr W440 (Or.inl (List.mem_of_getElem? (i := 0) rfl))), (fun q => absurd q (by decide)), (Or.inr (Or.inr (Or.inr (Or.inr (Or.inr ⟨rfl, c445⟩)))))⟩
          · skip
            refine gy (St T440 m 31 #[vr a1, vi 4, vr b1, vi 4, vi 5, vi 4, vi c4] [(.int (c4.toInt8.toInt32)), (.int 4), (.ref b1)]) (fun _ k => XS.icmpYes X440.here hx rfl (pc0 := 20) (pc' := 26) rfl (dk d10_20) rfl (flt c445).2.2.2 (by decide) (by decide) (XS.aloadN X440.here hx rfl (dk d10_26) rfl rfl (XS.iloadN X440.here hx rfl (dk d10_27) rfl (XS.iload X440.here hx rfl (dk d10_28) rfl (XS.i2b X440.here hx rfl (dk d10_30) rfl k))))) ?_
            obtain ⟨cl446, Ar446, q446, S446, N_446, Hs446, G446⟩ := id V440
            have hin447 : ¬ ((4 : Int32) < 0 ∨ cl446.slots.size ≤ ((4 : Int32)).toNatClampNeg) := inb_of S446 ⟨by decide, by decide⟩
            obtain ⟨T447, h447, X447, e447, W447, st447⟩ := stB X440 hx hZ e440 Ar446 (j := (4 : Int32)) hin447 (g := (mkF m 31 #[vr a1, vi 4, vr b1, vi 4, vi 5, vi 4, vi c4] [(.int (c4.toInt8.toInt32)), (.int 4), (.ref b1)])) rfl rfl (dk d10_31)
            have O448 := O441.wr W447 pr3
            have Z448 : n0 ≤ h447.size := Nat.le_trans Z441 (Keep.of_wr W447).1
            have V447 : Arv Z h447 b1 kb .byte (5 : Int32) [(.int (nar .byte (c0.toInt8.toInt32))), (.int (nar .byte (c1.toInt8.toInt32))), (.int (nar .byte (c2.toInt8.toInt32))), (.int (nar .byte (c3.toInt8.toInt32))), (.int (nar .byte (c4.toInt8.toInt32)))] (.int 0) := Arv.set Ar446 q446 S446 N_446 Hs446 G446 (fits_nar_byte _) W447 4 rfl (Nat.le_of_ble_eq_true rfl)
            have N447 := Fr.snoc X447 N440 pr3
            refine gy (St T447 m 32 #[vr a1, vi 4, vr b1, vi 4, vi 5, vi 4, vi c4] []) st447 ?_
            refine gy (St T447 m 46 #[vr a1, vi 5, vr b1, vi 5, vi 5, vi 5, vi c4] [(.int 5)]) (fun _ k => XS.iinc X447.here hx rfl (dk d10_32) rfl (l' := #[vr a1, vi 5, vr b1, vi 4, vi 5, vi 4, vi c4]) rfl (XS.iinc X447.here hx rfl (dk d10_35) rfl (l' := #[vr a1, vi 5, vr b1, vi 5, vi 5, vi 4, vi c4]) rfl (XS.iinc X447.here hx rfl (dk d10_38) rfl (l' := #[vr a1, vi 5, vr b1, vi 5, vi 5, vi 5, vi c4]) rfl (XS.goto X447.here hx rfl (pc0 := 41) (pc' := 3) rfl (dk d10_41) (by decide) (by decide) (XS.iload X447.here hx rfl (dk d10_3) rfl (XS.iload X447.here hx rfl (dk d10_5) rfl (XS.icmpYes X447.here hx rfl (pc0 := 7) (pc' := 44) rfl (dk d10_7) rfl (flt (by decide : ¬ ((5 : Int32) < (5 : Int32)))).2.1 (by decide) (by decide) (XS.iload X447.here hx rfl (dk d10_44) rfl k)))))))) ?_
            refine Go.ret X447 hx hlk (t := .int) hret rfl (Or.inl ⟨rfl, by simp, _, rfl⟩) (dk d10_46) (by decide) (by decide) ?_
            rw [e447]
            exact ⟨(5 : Int32), rfl, N447, ((((((Keep.refl h0 [b1]).wr W421 (Or.inl (List.mem_of_getElem? (i := 0) rfl))).wr W427 (Or.inl (List.mem_of_getElem? (i := 0) rfl))).wr W434 (Or.inl (List.mem_of_getElem? (i := 0) rfl))).wr W440 (Or.inl (List.mem_of_getElem? (i := 0) rfl))).wr W447 (Or.inl (List.mem_of_getElem? (i := 0) rfl))), (fun _ => V447), (Or.inl ⟨rfl, c419, c425, c432, c438, c445⟩)⟩
theorem ef_rm_cmp3_5 (m : MethodId) (x0 : Addr) : entryFrame m #[(.ref x0), (.int 0), (.int 5)] 6 = mkF m 0 #[vr x0, vi 0, vi 5, .unset, .unset, .unset] [] := by first | (simp [entryFrame, mkF, argsToLocals, Value.category]; done) | rfl
def Q_rm_cmp3_5 (Z : State) (a1 : Addr) (ka : ClassId) (c0 : Int32) (c1 : Int32) (c2 : Int32) (c3 : Int32) (c4 : Int32) (h0 : Heap) (n0 : Nat) (vv : Option Value) (h : Heap) (L : List Loc) : Prop := ∃ b : Addr, ∃ k : ClassId, ∃ u : Bool, vv = some (.ref b) ∧ Fr n0 L ∧ Keep h0 h [] ∧ h0.size ≤ b ∧ (u = false → ¬ (255 : Int32) < c0 ∧ ¬ (255 : Int32) < c1 ∧ ¬ (255 : Int32) < c2 ∧ ¬ (255 : Int32) < c3 ∧ ¬ (255 : Int32) < c4) ∧ (u = false → Arv Z h b k .byte (5 : Int32) [(.int (nar .byte (c0.toInt8.toInt32))), (.int (nar .byte (c1.toInt8.toInt32))), (.int (nar .byte (c2.toInt8.toInt32))), (.int (nar .byte (c3.toInt8.toInt32))), (.int (nar .byte (c4.toInt8.toInt32)))] (.int 0)) ∧ (u = true → Arv Z h b k .byte (10 : Int32) [(.int (own_b0 c0)), (.int (own_b1 c0)), (.int (own_b0 c1)), (.int (own_b1 c1)), (.int (own_b0 c2)), (.int (own_b1 c2)), (.int (own_b0 c3)), (.int (own_b1 c3)), (.int (own_b0 c4)), (.int (own_b1 c4))] (.int 0))
set_option maxRecDepth 65536 in
set_option maxHeartbeats 40000000 in
theorem rm_cmp3_5 (l : Launch) (Z : State) (a0 : Array Value) (hw : HW a0 Z) (ws : List Jvm.Cond) (a1 : Addr) (ka : ClassId) (c0 : Int32) (c1 : Int32) (c2 : Int32) (c3 : Int32) (c4 : Int32) (h0 : Heap) (n0 : Nat) (Z0 : n0 ≤ h0.size) (pr0 : Old Z n0 h0) (pr1 : Sta Z Z.heap "java/lang/StringUTF16" "$assertionsDisabled" "Z" (.int 1)) (pr2 : Sta Z Z.heap "java/lang/StringUTF16" "HI_BYTE_SHIFT" "I" (.int 0)) (pr3 : Sta Z Z.heap "java/lang/StringUTF16" "LO_BYTE_SHIFT" "I" (.int 8)) (pr4 : Arv Z h0 a1 ka .char (5 : Int32) [(.int c0), (.int c1), (.int c2), (.int c3), (.int c4)] (.int 0)) (hr0 : own_rng c0) (hr1 : own_rng c1) (hr2 : own_rng c2) (hr3 : own_rng c3) (hr4 : own_rng c4) :
    Met l Z Y16 jdk_52_method_16_code 6 (some (.array .byte)) ws ({ frames := 3, cells := 2, slots := 15, locals := 40 } : Room) #[(.ref a1), (.int 0), (.int 5)] h0 (Q_rm_cmp3_5 Z a1 ka c0 c1 c2 c3 c4 h0 n0) := by
  refine Met.enter (f0 := fun m => mkF m 0 #[vr a1, vi 0, vi 5, .unset, .unset, .unset] []) (plainFor_of_name pn_java_lang_StringUTF16) (fun m => ef_rm_cmp3_5 m a1) ?_
  intro p e s m below meth c s₁ hx hby hml hown hnm hret hlk hZ X0 e0
  have hown : s.vm.findClass "java/lang/StringUTF16" = some m.cls := hown
  have hnm : meth.name = "compress" := hnm
  have hml : c.maxLocals = 6 := hml
  have dk : ∀ {i : Nat} {r : Except DecodeError (Instr × Nat)}, decode jdk_52_method_16_code i = r → decode c.code i = r := fun h => hb hby h
  have N0 := Fr.nil n0
  refine gy (St s₁ m 1 #[vr a1, vi 0, vi 5, .unset, .unset, .unset] [(.int 5)]) (fun _ k => XS.iloadN X0.here hx rfl (dk d9_0) rfl k) ?_
  obtain ⟨T449, h449, k449, X449, e449, E449, A449, st449⟩ := newP X0 hx hZ (wd hw 24 rfl) e0 (g := (mkF m 1 #[vr a1, vi 0, vi 5, .unset, .unset, .unset] [(.int 5)])) rfl (dk d9_1) rfl (by decide) (cap := 5) (by decide) (by decide) (by decide) (by decide)
  obtain ⟨b449, g449⟩ : ∃ z, z = h0.size := ⟨_, rfl⟩
  rw [← g449] at A449 st449
  have sz_b449 : h0.size ≤ b449 := Nat.le_of_eq g449.symm
  have V449 : Arv Z h449 b449 k449 .byte (5 : Int32) [(.int 0), (.int 0), (.int 0), (.int 0), (.int 0)] (.int 0) := (Arv.new A449 (by decide)).pad (pad_rep [] (.int 0) 5)
  have O450 := pr0.ext E449
  have Z450 : n0 ≤ h449.size := Nat.le_trans Z0 E449.1
  refine gy (St T449 m 3 #[vr a1, vi 0, vi 5, .unset, .unset, .unset] [(.ref b449)]) st449 ?_
  refine gy (St T449 m 9 #[vr a1, vi 0, vi 5, vr b449, .unset, .unset] [(.int 5), (.int 0), (.ref b449), (.int 0), (.ref a1)]) (fun _ k => XS.astoreN X449.here hx rfl (dk d9_3) rfl rfl (l' := #[vr a1, vi 0, vi 5, vr b449, .unset, .unset]) rfl (XS.aloadN X449.here hx rfl (dk d9_4) rfl rfl (XS.iloadN X449.here hx rfl (dk d9_5) rfl (XS.aloadN X449.here hx rfl (dk d9_6) rfl rfl (XS.iconst X449.here hx rfl (dk d9_7) (XS.iloadN X449.here hx rfl (dk d9_8) rfl k)))))) ?_
  obtain ⟨_, _, ⟨T451, L451, k451, n451⟩, -, X451, ⟨Lc451, hQ451, l451, y451, z451⟩, st451⟩ := Jvm.LawKit.callS X449 hx (y := Y17) hown (mvT hZ (wd hw 50 rfl)) (mvT hZ (wd hw 51 rfl)) (mvT hZ (wd hw 48 rfl)) (mvT hZ (wd hw 52 rfl)) (by decide) (backOf (W := 0) (rm_cmp5_5 l Z a0 hw [] a1 b449 ka k449 c0 c1 c2 c3 c4 h449 n0 Z450 O450 (pr4.ext E449) V449 (Nat.le_trans Z0 sz_b449) (Nat.ne_of_lt (Nat.lt_of_lt_of_le pr4.lt sz_b449))) hZ (wd hw 52 rfl) (wd hw 48 rfl) (by decide) (by decide)) (g := (mkF m 9 #[vr a1, vi 0, vi 5, vr b449, .unset, .unset] [(.int 5), (.int 0), (.ref b449), (.int 0), (.ref a1)])) rfl (by rw [hml]; rfl) (argsL := [(.ref a1), (.int 0), (.ref b449), (.int 0), (.int 5)]) (rest := []) (lenOf pd_3 rfl) rfl (by show 2 * 0 + _ ≤ _; exact Nat.le_of_eq rfl) (dk d9_9) (fun _ _ => ⟨rfl, e449, Nat.le_of_ble_eq_true rfl, Nat.le_of_ble_eq_true rfl⟩)
  dsimp only [Pt.U, Pt.locs, Pt.cells, Pt.slots] at X451 l451 y451 z451 st451 hQ451
  subst l451 y451 z451
  obtain ⟨r451, rfl, Nq451, K451, p451_0, p451_1⟩ := hQ451
  have N451 := Fr.app N0 Nq451
  have O452 := O450.keep K451 (allS (Nat.le_trans Z0 sz_b449) all0)
  have Z452 : n0 ≤ T451.heap.size := Nat.le_trans Z450 K451.1
  refine gy (St T451 m 12 #[vr a1, vi 0, vi 5, vr b449, .unset, .unset] [(.int r451)]) (fun _ k => st451 _ k) ?_
  rcases p451_1 with ⟨rfl, e453, e454, e455, e456, e457⟩ | ⟨rfl, e458⟩ | ⟨rfl, e459⟩ | ⟨rfl, e460⟩ | ⟨rfl, e461⟩ | ⟨rfl, e462⟩
  · skip
    have V463 := p451_0 rfl
    refine gy (St T451 m 58 #[vr a1, vi 0, vi 5, vr b449, vi 5, .unset] [(.ref b449)]) (fun _ k => XS.istore X451.here hx rfl (dk d9_12) rfl (l' := #[vr a1, vi 0, vi 5, vr b449, vi 5, .unset]) rfl (XS.iload X451.here hx rfl (dk d9_14) rfl (XS.iloadN X451.here hx rfl (dk d9_16) rfl (XS.icmpYes X451.here hx rfl (pc0 := 17) (pc' := 57) rfl (dk d9_17) rfl (teq (by decide : (5 : Int32) = (5 : Int32))).1 (by decide) (by decide) (XS.aloadN X451.here hx rfl (dk d9_57) rfl rfl k))))) ?_
    refine Go.ret X451 hx hlk (t := (.array .byte)) hret rfl (Or.inr (Or.inr (Or.inr (Or.inr ⟨rfl, rfl, rfl⟩)))) (dk d9_58) (by decide) (by decide) ?_
    exact ⟨b449, k449, false, rfl, N451, (((Keep.refl h0 []).ext E449).trans K451 (allS (Or.inr (Nat.le_trans (Nat.le_refl _) sz_b449)) all0)), (Nat.le_trans (Nat.le_refl _) sz_b449), (fun _ => ⟨e453, e454, e455, e456, e457⟩), (fun _ => V463), (fun q => nomatch q)⟩
  · skip
    refine gy (St T451 m 23 #[vr a1, vi 0, vi 5, vr b449, vi 0, .unset] [(.int 5), (.int 0), (.ref a1)]) (fun _ k => XS.istore X451.here hx rfl (dk d9_12) rfl (l' := #[vr a1, vi 0, vi 5, vr b449, vi 0, .unset]) rfl (XS.iload X451.here hx rfl (dk d9_14) rfl (XS.iloadN X451.here hx rfl (dk d9_16) rfl (XS.icmpNo X451.here hx rfl (dk d9_17) rfl (feq (by decide : ¬ ((0 : Int32) = (5 : Int32)))).1 (XS.aloadN X451.here hx rfl (dk d9_20) rfl rfl (XS.iloadN X451.here hx rfl (dk d9_21) rfl (XS.iloadN X451.here hx rfl (dk d9_22) rfl k))))))) ?_
    have f464 := ((pr4.ext E449).keep K451 (ninS (Nat.ne_of_lt (Nat.lt_of_lt_of_le pr4.lt sz_b449)) nin0))
    obtain ⟨_, _, ⟨T465, L465, k465, n465⟩, -, X465, ⟨Lc465, hQ465, l465, y465, z465⟩, st465⟩ := Jvm.LawKit.callS X451 hx (y := Y23) hown (mvT hZ (wd hw 84 rfl)) (mvT hZ (wd hw 85 rfl)) (mvT hZ (wd hw 48 rfl)) (mvT hZ (wd hw 86 rfl)) (by decide) (backOf (W := 0) (rm_tb_5 l Z a0 hw [] a1 ka c0 c1 c2 c3 c4 T451.heap n0 Z452 O452 pr1 pr2 pr3 f464) hZ (wd hw 86 rfl) (wd hw 48 rfl) (by decide) (by decide)) (g := (mkF m 23 #[vr a1, vi 0, vi 5, vr b449, vi 0, .unset] [(.int 5), (.int 0), (.ref a1)])) rfl (by rw [hml]; rfl) (argsL := [(.ref a1), (.int 0), (.int 5)]) (rest := []) (lenOf pd_4 rfl) rfl (by show 2 * 0 + _ ≤ _; exact Nat.le_of_eq rfl) (dk d9_23) (fun _ _ => ⟨rfl, rfl, Nat.le_of_ble_eq_true rfl, Nat.le_of_ble_eq_true rfl⟩)
    dsimp only [Pt.U, Pt.locs, Pt.cells, Pt.slots] at X465 l465 y465 z465 st465 hQ465
    subst l465 y465 z465
    obtain ⟨b465, k465, rfl, Nq465, K465, p465_0, p465_1⟩ := hQ465
    have N465 := Fr.app N451 Nq465
    have O466 := O452.keep K465 all0
    have Z466 : n0 ≤ T465.heap.size := Nat.le_trans Z452 K465.1
    have sz_b465 : T451.heap.size ≤ b465 := p465_1
    refine gy (St T465 m 26 #[vr a1, vi 0, vi 5, vr b449, vi 0, .unset] [(.ref b465)]) (fun _ k => st465 _ k) ?_
    refine gy (St T465 m 32 #[vr a1, vi 0, vi 5, vr b449, vi 0, vr b465] [(.int 0), (.ref b465)]) (fun _ k => XS.astore X465.here hx rfl (dk d9_26) rfl rfl (l' := #[vr a1, vi 0, vi 5, vr b449, vi 0, vr b465]) rfl (XS.aload X465.here hx rfl (dk d9_28) rfl rfl (XS.iload X465.here hx rfl (dk d9_30) rfl k))) ?_
    obtain ⟨_, _, ⟨T467, L467, k467, n467⟩, -, X467, ⟨Lc467, hQ467, l467, y467, z467⟩, st467⟩ := Jvm.LawKit.callS X465 hx (y := Y18) hown (mvT hZ (wd hw 100 rfl)) (mvT hZ (wd hw 101 rfl)) (mvT hZ (wd hw 48 rfl)) (mvT hZ (wd hw 102 rfl)) (by decide) (backOf (W := 0) (rm_get_0 l Z a0 hw [] b465 k465 c0 (10 : Int32) [(.int (own_b0 c0)), (.int (own_b1 c0)), (.int (own_b0 c1)), (.int (own_b1 c1)), (.int (own_b0 c2)), (.int (own_b1 c2)), (.int (own_b0 c3)), (.int (own_b1 c3)), (.int (own_b0 c4)), (.int (own_b1 c4))] T465.heap n0 Z466 O466 pr1 pr2 pr3 p465_0 (by decide) (by decide) rfl rfl hr0) hZ (wd hw 102 rfl) (wd hw 48 rfl) (by decide) (by decide)) (g := (mkF m 32 #[vr a1, vi 0, vi 5, vr b449, vi 0, vr b465] [(.int 0), (.ref b465)])) rfl (by rw [hml]; rfl) (argsL := [(.ref b465), (.int 0)]) (rest := []) (lenOf pd_5 rfl) rfl (by show 2 * 0 + _ ≤ _; exact Nat.le_of_eq rfl) (dk d9_32) (fun _ _ => ⟨rfl, rfl, Nat.le_of_ble_eq_true rfl, Nat.le_of_ble_eq_true rfl⟩)
    dsimp only [Pt.U, Pt.locs, Pt.cells, Pt.slots] at X467 l467 y467 z467 st467 hQ467
    subst l467 y467 z467
    obtain ⟨rfl, Nq467, hh467⟩ := hQ467
    have N467 := Fr.app N465 Nq467
    refine gy (St T467 m 35 #[vr a1, vi 0, vi 5, vr b449, vi 0, vr b465] [(.int c0)]) (fun _ k => st467 _ k) ?_
    refine gy (St T467 m 56 #[vr a1, vi 0, vi 5, vr b449, vi 0, vr b465] [(.ref b465)]) (fun _ k => XS.sipush X467.here hx rfl (dk d9_35) (XS.icmpYes X467.here hx rfl (pc0 := 38) (pc' := 54) rfl (dk d9_38) rfl (tlt e458).2.2.1 (by decide) (by decide) (XS.aload X467.here hx rfl (dk d9_54) rfl rfl k))) ?_
    refine Go.ret X467 hx hlk (t := (.array .byte)) hret rfl (Or.inr (Or.inr (Or.inr (Or.inr ⟨rfl, rfl, rfl⟩)))) (dk d9_56) (by decide) (by decide) ?_
    rw [hh467]
    exact ⟨b465, k465, true, rfl, N467, ((((Keep.refl h0 []).ext E449).trans K451 (allS (Or.inr (Nat.le_trans (Nat.le_refl _) sz_b449)) all0)).trans K465 all0), (Nat.le_trans (Nat.le_trans (Nat.le_trans (Nat.le_refl _) E449.1) K451.1) sz_b465), (fun q => nomatch q), (fun q => nomatch q), (fun _ => p465_0)⟩
  · skip
    refine gy (St T451 m 23 #[vr a1, vi 0, vi 5, vr b449, vi 1, .unset] [(.int 5), (.int 0), (.ref a1)]) (fun _ k => XS.istore X451.here hx rfl (dk d9_12) rfl (l' := #[vr a1, vi 0, vi 5, vr b449, vi 1, .unset]) rfl (XS.iload X451.here hx rfl (dk d9_14) rfl (XS.iloadN X451.here hx rfl (dk d9_16) rfl (XS.icmpNo X451.here hx rfl (dk d9_17) rfl (feq (by decide : ¬ ((1 : Int32) = (5 : Int32)))).1 (XS.aloadN X451.here hx rfl (dk d9_20) rfl rfl (XS.iloadN X451.here hx rfl (dk d9_21) rfl (XS.iloadN X451.here hx rfl (dk d9_22) rfl k))))))) ?_
    have f468 := ((pr4.ext E449).keep K451 (ninS (Nat.ne_of_lt (Nat.lt_of_lt_of_le pr4.lt sz_b449)) nin0))
    obtain ⟨_, _, ⟨T469, L469, k469, n469⟩, -, X469, ⟨Lc469, hQ469, l469, y469, z469⟩, st469⟩ := Jvm.LawKit.callS X451 hx (y := Y23) hown (mvT hZ (wd hw 84 rfl)) (mvT hZ (wd hw 85 rfl)) (mvT hZ (wd hw 48 rfl)) (mvT hZ (wd hw 86 rfl)) (by decide) (backOf (W := 0) (rm_tb_5 l Z a0 hw [] a1 ka c0 c1 c2 c3 c4 T451.heap n0 Z452 O452 pr1 pr2 pr3 f468) hZ (wd hw 86 rfl) (wd hw 48 rfl) (by decide) (by decide)) (g := (mkF m 23 #[vr a1, vi 0, vi 5, vr b449, vi 1, .unset] [(.int 5), (.int 0), (.ref a1)])) rfl (by rw [hml]; rfl) (argsL := [(.ref a1), (.int 0), (.int 5)]) (rest := []) (lenOf pd_4 rfl) rfl (by show 2 * 0 + _ ≤ _; exact Nat.le_of_eq rfl) (dk d9_23) (fun _ _ => ⟨rfl, rfl, Nat.le_of_ble_eq_true rfl, Nat.le_of_ble_eq_true rfl⟩)
    dsimp only [Pt.U, Pt.locs, Pt.cells, Pt.slots] at X469 l469 y469 z469 st469 hQ469
    subst l469 y469 z469
    obtain ⟨b469, k469, rfl, Nq469, K469, p469_0, p469_1⟩ := hQ469
    have N469 := Fr.app N451 Nq469
    have O470 := O452.keep K469 all0
    have Z470 : n0 ≤ T469.heap.size := Nat.le_trans Z452 K469.1
    have sz_b469 : T451.heap.size ≤ b469 := p469_1
    refine gy (St T469 m 26 #[vr a1, vi 0, vi 5, vr b449, vi 1, .unset] [(.ref b469)]) (fun _ k => st469 _ k) ?_
    refine gy (St T469 m 32 #[vr a1, vi 0, vi 5, vr b449, vi 1, vr b469] [(.int 1), (.ref b469)]) (fun _ k => XS.astore X469.here hx rfl (dk d9_26) rfl rfl (l' := #[vr a1, vi 0, vi 5, vr b449, vi 1, vr b469]) rfl (XS.aload X469.here hx rfl (dk d9_28) rfl rfl (XS.iload X469.here hx rfl (dk d9_30) rfl k))) ?_
    obtain ⟨_, _, ⟨T471, L471, k471, n471⟩, -, X471, ⟨Lc471, hQ471, l471, y471, z471⟩, st471⟩ := Jvm.LawKit.callS X469 hx (y := Y18) hown (mvT hZ (wd hw 100 rfl)) (mvT hZ (wd hw 101 rfl)) (mvT hZ (wd hw 48 rfl)) (mvT hZ (wd hw 102 rfl)) (by decide) (backOf (W := 0) (rm_get_1 l Z a0 hw [] b469 k469 c1 (10 : Int32) [(.int (own_b0 c0)), (.int (own_b1 c0)), (.int (own_b0 c1)), (.int (own_b1 c1)), (.int (own_b0 c2)), (.int (own_b1 c2)), (.int (own_b0 c3)), (.int (own_b1 c3)), (.int (own_b0 c4)), (.int (own_b1 c4))] T469.heap n0 Z470 O470 pr1 pr2 pr3 p469_0 (by decide) (by decide) rfl rfl hr1) hZ (wd hw 102 rfl) (wd hw 48 rfl) (by decide) (by decide)) (g := (mkF m 32 #[vr a1, vi 0, vi 5, vr b449, vi 1, vr b469] [(.int 1), (.ref b469)])) rfl (by rw [hml]; rfl) (argsL := [(.ref b469), (.int 1)]) (rest := []) (lenOf pd_5 rfl) rfl (by show 2 * 0 + _ ≤ _; exact Nat.le_of_eq rfl) (dk d9_32) (fun _ _ => ⟨rfl, rfl, Nat.le_of_ble_eq_true rfl, Nat.le_of_ble_eq_true rfl⟩)
    dsimp only [Pt.U, Pt.locs, Pt.cells, Pt.slots] at X471 l471 y471 z471 st471 hQ471
    subst l471 y471 z471
    obtain ⟨rfl, Nq471, hh471⟩ := hQ471
    have N471 := Fr.app N469 Nq471
    refine gy (St T471 m 35 #[vr a1, vi 0, vi 5, vr b449, vi 1, vr b469] [(.int c1)]) (fun _ k => st471 _ k) ?_
    refine gy (St T471 m 56 #[vr a1, vi 0, vi 5, vr b449, vi 1, vr b469] [(.ref b469)]) (fun _ k => XS.sipush X471.here hx rfl (dk d9_35) (XS.icmpYes X471.here hx rfl (pc0 := 38) (pc' := 54) rfl (dk d9_38) rfl (tlt e459).2.2.1 (by decide) (by decide) (XS.aload X471.here hx rfl (dk d9_54) rfl rfl k))) ?_
    refine Go.ret X471 hx hlk (t := (.array .byte)) hret rfl (Or.inr (Or.inr (Or.inr (Or.inr ⟨rfl, rfl, rfl⟩)))) (dk d9_56) (by decide) (by decide) ?_
    rw [hh471]
    exact ⟨b469, k469, true, rfl, N471, ((((Keep.refl h0 []).ext E449).trans K451 (allS (Or.inr (Nat.le_trans (Nat.le_refl _) sz_b449)) all0)).trans K469 all0), (Nat.le_trans (Nat.le_trans (Nat.le_trans (Nat.le_refl _) E449.1) K451.1) sz_b469), (fun q => nomatch q), (fun q => nomatch q), (fun _ => p469_0)⟩
  · skip
    refine gy (St T451 m 23 #[vr a1, vi 0, vi 5, vr b449, vi 2, .unset] [(.int 5), (.int 0), (.ref a1)]) (fun _ k => XS.istore X451.here hx rfl (dk d9_12) rfl (l' := #[vr a1, vi 0, vi 5, vr b449, vi 2, .unset]) rfl (XS.iload X451.here hx rfl (dk d9_14) rfl (XS.iloadN X451.here hx rfl (dk d9_16) rfl (XS.icmpNo X451.here hx rfl (dk d9_17) rfl (feq (by decide : ¬ ((2 : Int32) = (5 : Int32)))).1 (XS.aloadN X451.here hx rfl (dk d9_20) rfl rfl (XS.iloadN X451.here hx rfl (dk d9_21) rfl (XS.iloadN X451.here hx rfl (dk d9_22) rfl k))))))) ?_
    have f472 := ((pr4.ext E449).keep K451 (ninS (Nat.ne_of_lt (Nat.lt_of_lt_of_le pr4.lt sz_b449)) nin0))
    obtain ⟨_, _, ⟨T473, L473, k473, n473⟩, -, X473, ⟨Lc473, hQ473, l473, y473, z473⟩, st473⟩ := Jvm.LawKit.callS X451 hx (y := Y23) hown (mvT hZ (wd hw 84 rfl)) (mvT hZ (wd hw 85 rfl)) (mvT hZ (wd hw 48 rfl)) (mvT hZ (wd hw 86 rfl)) (by decide) (backOf (W := 0) (rm_tb_5 l Z a0 hw [] a1 ka c0 c1 c2 c3 c4 T451.heap n0 Z452 O452 pr1 pr2 pr3 f472) hZ (wd hw 86 rfl) (wd hw 48 rfl) (by decide) (by decide)) (g := (mkF m 23 #[vr a1, vi 0, vi 5, vr b449, vi 2, .unset] [(.int 5), (.int 0), (.ref a1)])) rfl (by rw [hml]; rfl) (argsL := [(.ref a1), (.int 0), (.int 5)]) (rest := []) (lenOf pd_4 rfl) rfl (by show 2 * 0 + _ ≤ _; exact Nat.le_of_eq rfl) (dk d9_23) (fun _ _ => ⟨rfl, rfl, Nat.le_of_ble_eq_true rfl, Nat.le_of_ble_eq_true rfl⟩)
    dsimp only [Pt.U, Pt.locs, Pt.cells, Pt.slots] at X473 l473 y473 z473 st473 hQ473
    subst l473 y473 z473
    obtain ⟨b473, k473, rfl, Nq473, K473, p473_0, p473_1⟩ := hQ473
    have N473 := Fr.app N451 Nq473
    have O474 := O452.keep K473 all0
    have Z474 : n0 ≤ T473.heap.size := Nat.le_trans Z452 K473.1
    have sz_b473 : T451.heap.size ≤ b473 := p473_1
    refine gy (St T473 m 26 #[vr a1, vi 0, vi 5, vr b449, vi 2, .unset] [(.ref b473)]) (fun _ k => st473 _ k) ?_
    refine gy (St T473 m 32 #[vr a1, vi 0, vi 5, vr b449, vi 2, vr b473] [(.int 2), (.ref b473)]) (fun _ k => XS.astore X473.here hx rfl (dk d9_26) rfl rfl (l' := #[vr a1, vi 0, vi 5, vr b449, vi 2, vr b473]) rfl (XS.aload X473.here hx rfl (dk d9_28) rfl rfl (XS.iload X473.here hx rfl (dk d9_30) rfl k))) ?_
    obtain ⟨_, _, ⟨T475, L475, k475, n475⟩, -, X475, ⟨Lc475, hQ475, l475, y475, z475⟩, st475⟩ := Jvm.LawKit.callS X473 hx (y := Y18) hown (mvT hZ (wd hw 100 rfl)) (mvT hZ (wd hw 101 rfl)) (mvT hZ (wd hw 48 rfl)) (mvT hZ (wd hw 102 rfl)) (by decide) (backOf (W := 0) (rm_get_2 l Z a0 hw [] b473 k473 c2 (10 : Int32) [(.int (own_b0 c0)), (.int (own_b1 c0)), (.int (own_b0 c1)), (.int (own_b1 c1)), (.int (own_b0 c2)), (.int (own_b1 c2)), (.int (own_b0 c3)), (.int (own_b1 c3)), (.int (own_b0 c4)), (.int (own_b1 c4))] T473.heap n0 Z474 O474 pr1 pr2 pr3 p473_0 (by decide) (by decide) rfl rfl hr2) hZ (wd hw 102 rfl) (wd hw 48 rfl) (by decide) (by decide)) (g := (mkF m 32 #[vr a1, vi 0, vi 5, vr b449, vi 2, vr b473] [(.int 2), (.ref b473)])) rfl (by rw [hml]; rfl) (argsL := [(.ref b473), (.int 2)]) (rest := []) (lenOf pd_5 rfl) rfl (by show 2 * 0 + _ ≤ _; exact Nat.le_of_eq rfl) (dk d9_32) (fun _ _ => ⟨rfl, rfl, Nat.le_of_ble_eq_true rfl, Nat.le_of_ble_eq_true rfl⟩)
    dsimp only [Pt.U, Pt.locs, Pt.cells, Pt.slots] at X475 l475 y475 z475 st475 hQ475
    subst l475 y475 z475
    obtain ⟨rfl, Nq475, hh475⟩ := hQ475
    have N475 := Fr.app N473 Nq475
    refine gy (St T475 m 35 #[vr a1, vi 0, vi 5, vr b449, vi 2, vr b473] [(.int c2)]) (fun _ k => st475 _ k) ?_
    refine gy (St T475 m 56 #[vr a1, vi 0, vi 5, vr b449, vi 2, vr b473] [(.ref b473)]) (fun _ k => XS.sipush X475.here hx rfl (dk d9_35) (XS.icmpYes X475.here hx rfl (pc0 := 38) (pc' := 54) rfl (dk d9_38) rfl (tlt e460).2.2.1 (by decide) (by decide) (XS.aload X475.here hx rfl (dk d9_54) rfl rfl k))) ?_
    refine Go.ret X475 hx hlk (t := (.array .byte)) hret rfl (Or.inr (Or.inr (Or.inr (Or.inr ⟨rfl, rfl, rfl⟩)))) (dk d9_56) (by decide) (by decide) ?_
    rw [hh475]
    exact ⟨b473, k473, true, rfl, N475, ((((Keep.refl h0 []).ext E449).trans K451 (allS (Or.inr (Nat.le_trans (Nat.le_refl _) sz_b449)) all0)).trans K473 all0), (Nat.le_trans (Nat.le_trans (Nat.le_trans (Nat.le_refl _) E449.1) K451.1) sz_b473), (fun q => nomatch q), (fun q => nomatch q), (fun _ => p473_0)⟩
  · skip
    refine gy (St T451 m 23 #[vr a1, vi 0, vi 5, vr b449, vi 3, .unset] [(.int 5), (.int 0), (.ref a1)]) (fun _ k => XS.istore X451.here hx rfl (dk d9_12) rfl (l' := #[vr a1, vi 0, vi 5, vr b449, vi 3, .unset]) rfl (XS.iload X451.here hx rfl (dk d9_14) rfl (XS.iloadN X451.here hx rfl (dk d9_16) rfl (XS.icmpNo X451.here hx rfl (dk d9_17) rfl (feq (by decide : ¬ ((3 : Int32) = (5 : Int32)))).1 (XS.aloadN X451.here hx rfl (dk d9_20) rfl rfl (XS.iloadN X451.here hx rfl (dk d9_21) rfl (XS.iloadN X451.here hx rfl (dk d9_22) rfl k))))))) ?_
    have f476 := ((pr4.ext E449).keep K451 (ninS (Nat.ne_of_lt (Nat.lt_of_lt_of_le pr4.lt sz_b449)) nin0))
    obtain ⟨_, _, ⟨T477, L477, k477, n477⟩, -, X477, ⟨Lc477, hQ477, l477, y477, z477⟩, st477⟩ := Jvm.LawKit.callS X451 hx (y := Y23) hown (mvT hZ (wd hw 84 rfl)) (mvT hZ (wd hw 85 rfl)) (mvT hZ (wd hw 48 rfl)) (mvT hZ (wd hw 86 rfl)) (by decide) (backOf (W := 0) (rm_tb_5 l Z a0 hw [] a1 ka c0 c1 c2 c3 c4 T451.heap n0 Z452 O452 pr1 pr2 pr3 f476) hZ (wd hw 86 rfl) (wd hw 48 rfl) (by decide) (by decide)) (g := (mkF m 23 #[vr a1, vi 0, vi 5, vr b449, vi 3, .unset] [(.int 5), (.int 0), (.ref a1)])) rfl (by rw [hml]; rfl) (argsL := [(.ref a1), (.int 0), (.int 5)]) (rest := []) (lenOf pd_4 rfl) rfl (by show 2 * 0 + _ ≤ _; exact Nat.le_of_eq rfl) (dk d9_23) (fun _ _ => ⟨rfl, rfl, Nat.le_of_ble_eq_true rfl, Nat.le_of_ble_eq_true rfl⟩)
    dsimp only [Pt.U, Pt.locs, Pt.cells, Pt.slots] at X477 l477 y477 z477 st477 hQ477
    subst l477 y477 z477
    obtain ⟨b477, k477, rfl, Nq477, K477, p477_0, p477_1⟩ := hQ477
    have N477 := Fr.app N451 Nq477
    have O478 := O452.keep K477 all0
    have Z478 : n0 ≤ T477.heap.size := Nat.le_trans Z452 K477.1
    have sz_b477 : T451.heap.size ≤ b477 := p477_1
    refine gy (St T477 m 26 #[vr a1, vi 0, vi 5, vr b449, vi 3, .unset] [(.ref b477)]) (fun _ k => st477 _ k) ?_
    refine gy (St T477 m 32 #[vr a1, vi 0, vi 5, vr b449, vi 3, vr b477] [(.int 3), (.ref b477)]) (fun _ k => XS.astore X477.here hx rfl (dk d9_26) rfl rfl (l' := #[vr a1, vi 0, vi 5, vr b449, vi 3, vr b477]) rfl (XS.aload X477.here hx rfl (dk d9_28) rfl rfl (XS.iload X477.here hx rfl (dk d9_30) rfl k))) ?_
    obtain ⟨_, _, ⟨T479, L479, k479, n479⟩, -, X479, ⟨Lc479, hQ479, l479, y479, z479⟩, st479⟩ := Jvm.LawKit.callS X477 hx (y := Y18) hown (mvT hZ (wd hw 100 rfl)) (mvT hZ (wd hw 101 rfl)) (mvT hZ (wd hw 48 rfl)) (mvT hZ (wd hw 102 rfl)) (by decide) (backOf (W := 0) (rm_get_3 l Z a0 hw [] b477 k477 c3 (10 : Int32) [(.int (own_b0 c0)), (.int (own_b1 c0)), (.int (own_b0 c1)), (.int (own_b1 c1)), (.int (own_b0 c2)), (.int (own_b1 c2)), (.int (own_b0 c3)), (.int (own_b1 c3)), (.int (own_b0 c4)), (.int (own_b1 c4))] T477.heap n0 Z478 O478 pr1 pr2 pr3 p477_0 (by decide) (by decide) rfl rfl hr3) hZ (wd hw 102 rfl) (wd hw 48 rfl) (by decide) (by decide)) (g := (mkF m 32 #[vr a1, vi 0, vi 5, vr b449, vi 3, vr b477] [(.int 3), (.ref b477)])) rfl (by rw [hml]; rfl) (argsL := [(.ref b477), (.int 3)]) (rest := []) (lenOf pd_5 rfl) rfl (by show 2 * 0 + _ ≤ _; exact Nat.le_of_eq rfl) (dk d9_32) (fun _ _ => ⟨rfl, rfl, Nat.le_of_ble_eq_true rfl, Nat.le_of_ble_eq_true rfl⟩)
    dsimp only [Pt.U, Pt.locs, Pt.cells, Pt.slots] at X479 l479 y479 z479 st479 hQ479
    subst l479 y479 z479
    obtain ⟨rfl, Nq479, hh479⟩ := hQ479
    have N479 := Fr.app N477 Nq479
    refine gy (St T479 m 35 #[vr a1, vi 0, vi 5, vr b449, vi 3, vr b477] [(.int c3)]) (fun _ k => st479 _ k) ?_
    refine gy (St T479 m 56 #[vr a1, vi 0, vi 5, vr b449, vi 3, vr b477] [(.ref b477)]) (fun _ k => XS.sipush X479.here hx rfl (dk d9_35) (XS.icmpYes X479.here hx rfl (pc0 := 38) (pc' := 54) rfl (dk d9_38) rfl (tlt e461).2.2.1 (by decide) (by decide) (XS.aload X479.here hx rfl (dk d9_54) rfl rfl k))) ?_
    refine Go.ret X479 hx hlk (t := (.array .byte)) hret rfl (Or.inr (Or.inr (Or.inr (Or.inr ⟨rfl, rfl, rfl⟩)))) (dk d9_56) (by decide) (by decide) ?_
    rw [hh479]
    exact ⟨b477, k477, true, rfl, N479, ((((Keep.refl h0 []).ext E449).trans K451 (allS (Or.inr (Nat.le_trans (Nat.le_refl _) sz_b449)) all0)).trans K477 all0), (Nat.le_trans (Nat.le_trans (Nat.le_trans (Nat.le_refl _) E449.1) K451.1) sz_b477), (fun q => nomatch q), (fun q => nomatch q), (fun _ => p477_0)⟩
  · skip
    refine gy (St T451 m 23 #[vr a1, vi 0, vi 5, vr b449, vi 4, .unset] [(.int 5), (.int 0), (.ref a1)]) (fun _ k => XS.istore X451.here hx rfl (dk d9_12) rfl (l' := #[vr a1, vi 0, vi 5, vr b449, vi 4, .unset]) rfl (XS.iload X451.here hx rfl (dk d9_14) rfl (XS.iloadN X451.here hx rfl (dk d9_16) rfl (XS.icmpNo X451.here hx rfl (dk d9_17) rfl (feq (by decide : ¬ ((4 : Int32) = (5 : Int32)))).1 (XS.aloadN X451.here hx rfl (dk d9_20) rfl rfl (XS.iloadN X451.here hx rfl (dk d9_21) rfl (XS.iloadN X451.here hx rfl (dk d9_22) rfl k))))))) ?_
    have f480 := ((pr4.ext E449).keep K451 (ninS (Nat.ne_of_lt (Nat.lt_of_lt_of_le pr4.lt sz_b449)) nin0))
    obtain ⟨_, _, ⟨T481, L481, k481, n481⟩, -, X481, ⟨Lc481, hQ481, l481, y481, z481⟩, st481⟩ := Jvm.LawKit.callS X451 hx (y := Y23) hown (mvT hZ (wd hw 84 rfl)) (mvT hZ (wd hw 85 rfl)) (mvT hZ (wd hw 48 rfl)) (mvT hZ (wd hw 86 rfl)) (by decide) (backOf (W := 0) (rm_tb_5 l Z a0 hw [] a1 ka c0 c1 c2 c3 c4 T451.heap n0 Z452 O452 pr1 pr2 pr3 f480) hZ (wd hw 86 rfl) (wd hw 48 rfl) (by decide) (by decide)) (g := (mkF m 23 #[vr a1, vi 0, vi 5, vr b449, vi 4, .unset] [(.int 5), (.int 0), (.ref a1)])) rfl (by rw [hml]; rfl) (argsL := [(.ref a1), (.int 0), (.int 5)]) (rest := []) (lenOf pd_4 rfl) rfl (by show 2 * 0 + _ ≤ _; exact Nat.le_of_eq rfl) (dk d9_23) (fun _ _ => ⟨rfl, rfl, Nat.le_of_ble_eq_true rfl, Nat.le_of_ble_eq_true rfl⟩)
    dsimp only [Pt.U, Pt.locs, Pt.cells, Pt.slots] at X481 l481 y481 z481 st481 hQ481
    subst l481 y481 z481
    obtain ⟨b481, k481, rfl, Nq481, K481, p481_0, p481_1⟩ := hQ481
    have N481 := Fr.app N451 Nq481
    have O482 := O452.keep K481 all0
    have Z482 : n0 ≤ T481.heap.size := Nat.le_trans Z452 K481.1
    have sz_b481 : T451.heap.size ≤ b481 := p481_1
    refine gy (St T481 m 26 #[vr a1, vi 0, vi 5, vr b449, vi 4, .unset] [(.ref b481)]) (fun _ k => st481 _ k) ?_
    refine gy (St T481 m 32 #[vr a1, vi 0, vi 5, vr b449, vi 4, vr b481] [(.int 4), (.ref b481)]) (fun _ k => XS.astore X481.here hx rfl (dk d9_26) rfl rfl (l' := #[vr a1, vi 0, vi 5, vr b449, vi 4, vr b481]) rfl (XS.aload X481.here hx rfl (dk d9_28) rfl rfl (XS.iload X481.here hx rfl (dk d9_30) rfl k))) ?_
    obtain ⟨_, _, ⟨T483, L483, k483, n483⟩, -, X483, ⟨Lc483, hQ483, l483, y483, z483⟩, st483⟩ := Jvm.LawKit.callS X481 hx (y := Y18) hown (mvT hZ (wd hw 100 rfl)) (mvT hZ (wd hw 101 rfl)) (mvT hZ (wd hw 48 rfl)) (mvT hZ (wd hw 102 rfl)) (by decide) (backOf (W := 0) (rm_get_4 l Z a0 hw [] b481 k481 c4 (10 : Int32) [(.int (own_b0 c0)), (.int (own_b1 c0)), (.int (own_b0 c1)), (.int (own_b1 c1)), (.int (own_b0 c2)), (.int (own_b1 c2)), (.int (own_b0 c3)), (.int (own_b1 c3)), (.int (own_b0 c4)), (.int (own_b1 c4))] T481.heap n0 Z482 O482 pr1 pr2 pr3 p481_0 (by decide) (by decide) rfl rfl hr4) hZ (wd hw 102 rfl) (wd hw 48 rfl) (by decide) (by decide)) (g := (mkF m 32 #[vr a1, vi 0, vi 5, vr b449, vi 4, vr b481] [(.int 4), (.ref b481)])) rfl (by rw [hml]; rfl) (argsL := [(.ref b481), (.int 4)]) (rest := []) (lenOf pd_5 rfl) rfl (by show 2 * 0 + _ ≤ _; exact Nat.le_of_eq rfl) (dk d9_32) (fun _ _ => ⟨rfl, rfl, Nat.le_of_ble_eq_true rfl, Nat.le_of_ble_eq_true rfl⟩)
    dsimp only [Pt.U, Pt.locs, Pt.cells, Pt.slots] at X483 l483 y483 z483 st483 hQ483
    subst l483 y483 z483
    obtain ⟨rfl, Nq483, hh483⟩ := hQ483
    have N483 := Fr.app N481 Nq483
    refine gy (St T483 m 35 #[vr a1, vi 0, vi 5, vr b449, vi 4, vr b481] [(.int c4)]) (fun _ k => st483 _ k) ?_
    refine gy (St T483 m 56 #[vr a1, vi 0, vi 5, vr b449, vi 4, vr b481] [(.ref b481)]) (fun _ k => XS.sipush X483.here hx rfl (dk d9_35) (XS.icmpYes X483.here hx rfl (pc0 := 38) (pc' := 54) rfl (dk d9_38) rfl (tlt e462).2.2.1 (by decide) (by decide) (XS.aload X483.here hx rfl (dk d9_54) rfl rfl k))) ?_
    refine Go.ret X483 hx hlk (t := (.array .byte)) hret rfl (Or.inr (Or.inr (Or.inr (Or.inr ⟨rfl, rfl, rfl⟩)))) (dk d9_56) (by decide) (by decide) ?_
    rw [hh483]
    exact ⟨b481, k481, true, rfl, N483, ((((Keep.refl h0 []).ext E449).trans K451 (allS (Or.inr (Nat.le_trans (Nat.le_refl _) sz_b449)) all0)).trans K481 all0), (Nat.le_trans (Nat.le_trans (Nat.le_trans (Nat.le_refl _) E449.1) K451.1) sz_b481), (fun q => nomatch q), (fun q => nomatch q), (fun _ => p481_0)⟩
theorem ef_rm_sV_5 (m : MethodId) (x0 : Addr) (x1 : Addr) : entryFrame m #[(.ref x0), (.ref x1), (.int 0), (.int 5), .null] 6 = mkF m 0 #[vr x0, vr x1, vi 0, vi 5, .val .null, .unset] [] := by first | (simp [entryFrame, mkF, argsToLocals, Value.category]; done) | rfl
def Q_rm_sV_5 (Z : State) (a1 : Addr) (v1 : Addr) (ka : ClassId) (c0 : Int32) (c1 : Int32) (c2 : Int32) (c3 : Int32) (c4 : Int32) (cs : Int32) (h0 : Heap) (n0 : Nat) (vv : Option Value) (h : Heap) (L : List Loc) : Prop := ∃ t : Addr, ∃ k : ClassId, ∃ u : Bool, vv = none ∧ Fr n0 L ∧ Keep h0 h [a1] ∧ Exa Z h a1 "java/lang/String" ∧ Fld Z h a1 "java/lang/String" "value" "[B" (.ref t) ∧ h0.size ≤ t ∧ (u = false → ¬ (255 : Int32) < c0 ∧ ¬ (255 : Int32) < c1 ∧ ¬ (255 : Int32) < c2 ∧ ¬ (255 : Int32) < c3 ∧ ¬ (255 : Int32) < c4) ∧ (u = false → Arv Z h t k .byte (5 : Int32) [(.int (nar .byte (c0.toInt8.toInt32))), (.int (nar .byte (c1.toInt8.toInt32))), (.int (nar .byte (c2.toInt8.toInt32))), (.int (nar .byte (c3.toInt8.toInt32))), (.int (nar .byte (c4.toInt8.toInt32)))] (.int 0)) ∧ (u = true → Arv Z h t k .byte (10 : Int32) [(.int (own_b0 c0)), (.int (own_b1 c0)), (.int (own_b0 c1)), (.int (own_b1 c1)), (.int (own_b0 c2)), (.int (own_b1 c2)), (.int (own_b0 c3)), (.int (own_b1 c3)), (.int (own_b0 c4)), (.int (own_b1 c4))] (.int 0)) ∧ (u = false → Fld Z h a1 "java/lang/String" "coder" "B" (.int 0)) ∧ (u = true → Fld Z h a1 "java/lang/String" "coder" "B" (.int 1))
set_option maxRecDepth 65536 in
set_option maxHeartbeats 40000000 in
theorem rm_sV_5 (l : Launch) (Z : State) (a0 : Array Value) (hw : HW a0 Z) (ws : List Jvm.Cond) (a1 : Addr) (v1 : Addr) (ka : ClassId) (c0 : Int32) (c1 : Int32) (c2 : Int32) (c3 : Int32) (c4 : Int32) (cs : Int32) (h0 : Heap) (n0 : Nat) (Z0 : n0 ≤ h0.size) (pr0 : Old Z n0 h0) (pr1 : Sta Z Z.heap "java/lang/String" "COMPACT_STRINGS" "Z" (.int cs)) (hcs : ¬ (cs = (0 : Int32))) (pr3 : Sta Z Z.heap "java/lang/StringUTF16" "$assertionsDisabled" "Z" (.int 1)) (pr4 : Sta Z Z.heap "java/lang/StringUTF16" "HI_BYTE_SHIFT" "I" (.int 0)) (pr5 : Sta Z Z.heap "java/lang/StringUTF16" "LO_BYTE_SHIFT" "I" (.int 8)) (pr6 : Exa Z h0 a1 "java/lang/String") (pr7 : Fld Z h0 a1 "java/lang/String" "value" "[B" .null) (pr8 : Fld Z h0 a1 "java/lang/String" "coder" "B" (.int 0)) (pr9 : n0 ≤ a1) (pr10 : Arv Z h0 v1 ka .char (5 : Int32) [(.int c0), (.int c1), (.int c2), (.int c3), (.int c4)] (.int 0)) (hr0 : own_rng c0) (hr1 : own_rng c1) (hr2 : own_rng c2) (hr3 : own_rng c3) (hr4 : own_rng c4) :
    Met l Z Y6 jdk_42_method_149_code 6 none ws ({ frames := 4, cells := 2, slots := 15, locals := 57 } : Room) #[(.ref a1), (.ref v1), (.int 0), (.int 5), .null] h0 (Q_rm_sV_5 Z a1 v1 ka c0 c1 c2 c3 c4 cs h0 n0) := by
  refine Met.enter (f0 := fun m => mkF m 0 #[vr a1, vr v1, vi 0, vi 5, .val .null, .unset] []) (plainFor_of_name pn_java_lang_String) (fun m => ef_rm_sV_5 m a1 v1) ?_
  intro p e s m below meth c s₁ hx hby hml hown hnm hret hlk hZ X0 e0
  have hown : s.vm.findClass "java/lang/String" = some m.cls := hown
  have hnm : meth.name = "<init>" := hnm
  have hml : c.maxLocals = 6 := hml
  have dk : ∀ {i : Nat} {r : Except DecodeError (Instr × Nat)}, decode jdk_42_method_149_code i = r → decode c.code i = r := fun h => hb hby h
  have N0 := Fr.nil n0
  refine gy (St s₁ m 1 #[vr a1, vr v1, vi 0, vi 5, .val .null, .unset] [(.ref a1)]) (fun _ k => XS.aloadN X0.here hx rfl (dk d4_0) rfl rfl k) ?_
  obtain ⟨T484, X484, e484, st484⟩ := initO X0 hx hZ hown (wd hw 20 rfl) (wd hw 21 rfl) (wd hw 22 rfl) e0 (g := (mkF m 1 #[vr a1, vr v1, vi 0, vi 5, .val .null, .unset] [(.ref a1)])) rfl (by rw [hml]; rfl) rfl (dk d4_1) (by decide) (W := 0) (by show 2 * 0 + _ ≤ _; exact Nat.le_of_eq rfl) (by decide)
  refine gy (St T484 m 4 #[vr a1, vr v1, vi 0, vi 5, .val .null, .unset] []) st484 ?_
  refine gy (St T484 m 27 #[vr a1, vr v1, vi 0, vi 5, .val .null, .unset] []) (fun _ k => XS.iloadN X484.here hx rfl (dk d4_4) rfl (XS.ifYes X484.here hx rfl (pc0 := 5) (pc' := 27) rfl (dk d4_5) rfl ((if0 _ _).trans (feq (by decide : ¬ ((5 : Int32) = (0 : Int32)))).2) (by decide) (by decide) k)) ?_
  obtain ⟨T485, X485, e485, st485⟩ := getS2 X484 hx hZ hown (host := "") (Or.inl (wd hw 45 rfl)) Via.refl e484 (pr1.ext pr0.2) (g := (mkF m 27 #[vr a1, vr v1, vi 0, vi 5, .val .null, .unset] [])) rfl (dk d4_27)
  refine gy (St T485 m 30 #[vr a1, vr v1, vi 0, vi 5, .val .null, .unset] [(.int cs)]) st485 ?_
  refine gy (St T485 m 36 #[vr a1, vr v1, vi 0, vi 5, .val .null, .unset] [(.int 5), (.int 0), (.ref v1)]) (fun _ k => XS.ifNo X485.here hx rfl (dk d4_30) rfl ((if0 _ _).trans (feq hcs).1) (XS.aloadN X485.here hx rfl (dk d4_33) rfl rfl (XS.iloadN X485.here hx rfl (dk d4_34) rfl (XS.iloadN X485.here hx rfl (dk d4_35) rfl k)))) ?_
  obtain ⟨_, _, ⟨T486, L486, k486, n486⟩, -, X486, ⟨Lc486, hQ486, l486, y486, z486⟩, st486⟩ := Jvm.LawKit.callS X485 hx (y := Y16) hown (mvT hZ (wd hw 46 rfl)) (mvT hZ (wd hw 47 rfl)) (mvT hZ (wd hw 48 rfl)) (mvT hZ (wd hw 49 rfl)) (by decide) (backOf (W := 0) (rm_cmp3_5 l Z a0 hw [] v1 ka c0 c1 c2 c3 c4 h0 n0 Z0 pr0 pr3 pr4 pr5 pr10 hr0 hr1 hr2 hr3 hr4) hZ (wd hw 49 rfl) (wd hw 48 rfl) (by decide) (by decide)) (g := (mkF m 36 #[vr a1, vr v1, vi 0, vi 5, .val .null, .unset] [(.int 5), (.int 0), (.ref v1)])) rfl (by rw [hml]; rfl) (argsL := [(.ref v1), (.int 0), (.int 5)]) (rest := []) (lenOf pd_4 rfl) rfl (by show 2 * 0 + _ ≤ _; exact Nat.le_of_eq rfl) (dk d4_36) (fun _ _ => ⟨rfl, e485, Nat.le_of_ble_eq_true rfl, Nat.le_of_ble_eq_true rfl⟩)
  dsimp only [Pt.U, Pt.locs, Pt.cells, Pt.slots] at X486 l486 y486 z486 st486 hQ486
  subst l486 y486 z486
  obtain ⟨b486, k486, u486, rfl, Nq486, K486, p486_0, p486_1, p486_2, p486_3⟩ := hQ486
  have N486 := Fr.app N0 Nq486
  have O487 := pr0.keep K486 all0
  have Z487 : n0 ≤ T486.heap.size := Nat.le_trans Z0 K486.1
  have sz_b486 : h0.size ≤ b486 := p486_0
  refine gy (St T486 m 39 #[vr a1, vr v1, vi 0, vi 5, .val .null, .unset] [(.ref b486)]) (fun _ k => st486 _ k) ?_
  rcases u486 with _ | _
  · skip
    have V488 := p486_2 rfl
    refine gy (St T486 m 45 #[vr a1, vr v1, vi 0, vi 5, .val .null, vr b486] [(.int 5), (.ref b486), (.ref a1)]) (fun _ k => XS.astore X486.here hx rfl (dk d4_39) rfl rfl (l' := #[vr a1, vr v1, vi 0, vi 5, .val .null, vr b486]) rfl (XS.aloadN X486.here hx rfl (dk d4_41) rfl rfl (XS.aload X486.here hx rfl (dk d4_42) rfl rfl (XS.iloadN X486.here hx rfl (dk d4_44) rfl k)))) ?_
    obtain ⟨_, _, ⟨T489, L489, k489, n489⟩, -, X489, ⟨Lc489, hQ489, l489, y489, z489⟩, st489⟩ := Jvm.LawKit.callS X486 hx (y := Y15) hown (mvT hZ (wd hw 53 rfl)) (mvT hZ (wd hw 54 rfl)) (mvT hZ (wd hw 48 rfl)) (mvT hZ (wd hw 55 rfl)) (by decide) (backOf (W := 1) (rm_cfal_5_0 l Z a0 hw [] b486 k486 c0 c1 c2 c3 c4 T486.heap n0 Z487 V488) hZ (wd hw 55 rfl) (wd hw 48 rfl) (by decide) (by decide)) (g := (mkF m 45 #[vr a1, vr v1, vi 0, vi 5, .val .null, vr b486] [(.int 5), (.ref b486), (.ref a1)])) rfl (by rw [hml]; rfl) (argsL := [(.ref b486), (.int 5)]) (rest := [(.ref a1)]) (lenOf pd_6 rfl) rfl (by show 2 * 0 + _ ≤ _; exact Nat.le_of_eq rfl) (dk d4_45) (fun _ _ => ⟨rfl, rfl, Nat.le_of_ble_eq_true rfl, Nat.le_of_ble_eq_true rfl⟩)
    dsimp only [Pt.U, Pt.locs, Pt.cells, Pt.slots] at X489 l489 y489 z489 st489 hQ489
    subst l489 y489 z489
    obtain ⟨rfl, Nq489, hh489⟩ := hQ489
    have N489 := Fr.app N486 Nq489
    refine gy (St T489 m 48 #[vr a1, vr v1, vi 0, vi 5, .val .null, vr b486] [(.int 0), (.ref a1)]) (fun _ k => st489 _ k) ?_
    obtain ⟨T490, h490, X490, e490, W490, st490⟩ := putFN X489 hx hZ hown (wd hw 30 rfl) Via.refl hh489 (pr8.keep K486 nin0) (pr6.keep K486) (Or.inr ⟨(wd hw 26 rfl), rfl, hnm⟩) (wd hw 10 rfl) (ty := .byte) (v' := (.int 0)) (by decide) rfl rfl (g := (mkF m 48 #[vr a1, vr v1, vi 0, vi 5, .val .null, vr b486] [(.int 0), (.ref a1)])) rfl rfl (dk d4_48)
    have N490 := Fr.snoc X490 N489 pr9
    have O491 := O487.wr W490 pr9
    have Z491 : n0 ≤ h490.size := Nat.le_trans Z487 (Keep.of_wr W490).1
    have F490 := (pr8.keep K486 nin0).same W490
    refine gy (St T490 m 51 #[vr a1, vr v1, vi 0, vi 5, .val .null, vr b486] []) st490 ?_
    refine gy (St T490 m 54 #[vr a1, vr v1, vi 0, vi 5, .val .null, vr b486] [(.ref b486), (.ref a1)]) (fun _ k => XS.aloadN X490.here hx rfl (dk d4_51) rfl rfl (XS.aload X490.here hx rfl (dk d4_52) rfl rfl k)) ?_
    have f492 := ((pr7.keep K486 nin0).other W490 (Or.inr (slot_ne (Or.inr (wd hw 25 rfl)) (Or.inr (wd hw 26 rfl)) (by decide) (t := (.array .byte)) (t' := .byte) (by decide) (by decide))))
    obtain ⟨T493, h493, X493, e493, W493, st493⟩ := putF X490 hx hZ hown (host := "") (Or.inl (wd hw 29 rfl)) Via.refl e490 f492 ((pr6.keep K486).wr W490) (Or.inr ⟨(wd hw 25 rfl), rfl, hnm⟩) (wd hw 10 rfl) (ty := (.array .byte)) (by decide) rfl rfl (g := (mkF m 54 #[vr a1, vr v1, vi 0, vi 5, .val .null, vr b486] [(.ref b486), (.ref a1)])) rfl rfl (dk d4_54)
    have N493 := Fr.snoc X493 N490 pr9
    have O494 := O491.wr W493 pr9
    have Z494 : n0 ≤ h493.size := Nat.le_trans Z491 (Keep.of_wr W493).1
    have F493 := f492.same W493
    refine gy (St T493 m 57 #[vr a1, vr v1, vi 0, vi 5, .val .null, vr b486] []) st493 ?_
    refine Go.retV X493 hx hlk hret (dk d4_57) (by decide) (by decide) ?_
    rw [e493]
    exact ⟨b486, k486, false, rfl, N493, ((((Keep.refl h0 [a1]).trans K486 all0).wr W490 (Or.inl (List.mem_of_getElem? (i := 0) rfl))).wr W493 (Or.inl (List.mem_of_getElem? (i := 0) rfl))), (((pr6.keep K486).wr W490).wr W493), F493, (Nat.le_trans (Nat.le_refl _) sz_b486), p486_1, (fun _ => ((V488.other W490 (Ne.symm (Nat.ne_of_lt (Nat.lt_of_lt_of_le pr6.lt sz_b486)))).other W493 (Ne.symm (Nat.ne_of_lt (Nat.lt_of_lt_of_le pr6.lt sz_b486))))), (fun q => nomatch q), (fun _ => (F490.other W493 (Or.inr (slot_ne (Or.inr (wd hw 26 rfl)) (Or.inr (wd hw 25 rfl)) (by decide) (t := .byte) (t' := (.array .byte)) (by decide) (by decide))))), (fun q => nomatch q)⟩
  · skip
    have V495 := p486_3 rfl
    refine gy (St T486 m 45 #[vr a1, vr v1, vi 0, vi 5, .val .null, vr b486] [(.int 5), (.ref b486), (.ref a1)]) (fun _ k => XS.astore X486.here hx rfl (dk d4_39) rfl rfl (l' := #[vr a1, vr v1, vi 0, vi 5, .val .null, vr b486]) rfl (XS.aloadN X486.here hx rfl (dk d4_41) rfl rfl (XS.aload X486.here hx rfl (dk d4_42) rfl rfl (XS.iloadN X486.here hx rfl (dk d4_44) rfl k)))) ?_
    obtain ⟨_, _, ⟨T496, L496, k496, n496⟩, -, X496, ⟨Lc496, hQ496, l496, y496, z496⟩, st496⟩ := Jvm.LawKit.callS X486 hx (y := Y15) hown (mvT hZ (wd hw 53 rfl)) (mvT hZ (wd hw 54 rfl)) (mvT hZ (wd hw 48 rfl)) (mvT hZ (wd hw 55 rfl)) (by decide) (backOf (W := 1) (rm_cfal_5_1 l Z a0 hw [] b486 k486 c0 c1 c2 c3 c4 T486.heap n0 Z487 V495) hZ (wd hw 55 rfl) (wd hw 48 rfl) (by decide) (by decide)) (g := (mkF m 45 #[vr a1, vr v1, vi 0, vi 5, .val .null, vr b486] [(.int 5), (.ref b486), (.ref a1)])) rfl (by rw [hml]; rfl) (argsL := [(.ref b486), (.int 5)]) (rest := [(.ref a1)]) (lenOf pd_6 rfl) rfl (by show 2 * 0 + _ ≤ _; exact Nat.le_of_eq rfl) (dk d4_45) (fun _ _ => ⟨rfl, rfl, Nat.le_of_ble_eq_true rfl, Nat.le_of_ble_eq_true rfl⟩)
    dsimp only [Pt.U, Pt.locs, Pt.cells, Pt.slots] at X496 l496 y496 z496 st496 hQ496
    subst l496 y496 z496
    obtain ⟨rfl, Nq496, hh496⟩ := hQ496
    have N496 := Fr.app N486 Nq496
    refine gy (St T496 m 48 #[vr a1, vr v1, vi 0, vi 5, .val .null, vr b486] [(.int 1), (.ref a1)]) (fun _ k => st496 _ k) ?_
    obtain ⟨T497, h497, X497, e497, W497, st497⟩ := putFN X496 hx hZ hown (wd hw 30 rfl) Via.refl hh496 (pr8.keep K486 nin0) (pr6.keep K486) (Or.inr ⟨(wd hw 26 rfl), rfl, hnm⟩) (wd hw 10 rfl) (ty := .byte) (v' := (.int 1)) (by decide) rfl rfl (g := (mkF m 48 #[vr a1, vr v1, vi 0, vi 5, .val .null, vr b486] [(.int 1), (.ref a1)])) rfl rfl (dk d4_48)
    have N497 := Fr.snoc X497 N496 pr9
    have O498 := O487.wr W497 pr9
    have Z498 : n0 ≤ h497.size := Nat.le_trans Z487 (Keep.of_wr W497).1
    have F497 := (pr8.keep K486 nin0).same W497
    refine gy (St T497 m 51 #[vr a1, vr v1, vi 0, vi 5, .val .null, vr b486] []) st497 ?_
    refine gy (St T497 m 54 #[vr a1, vr v1, vi 0, vi 5, .val .null, vr b486] [(.ref b486), (.ref a1)]) (fun _ k => XS.aloadN X497.here hx rfl (dk d4_51) rfl rfl (XS.aload X497.here hx rfl (dk d4_52) rfl rfl k)) ?_
    have f499 := ((pr7.keep K486 nin0).other W497 (Or.inr (slot_ne (Or.inr (wd hw 25 rfl)) (Or.inr (wd hw 26 rfl)) (by decide) (t := (.array .byte)) (t' := .byte) (by decide) (by decide))))
    obtain ⟨T500, h500, X500, e500, W500, st500⟩ := putF X497 hx hZ hown (host := "") (Or.inl (wd hw 29 rfl)) Via.refl e497 f499 ((pr6.keep K486).wr W497) (Or.inr ⟨(wd hw 25 rfl), rfl, hnm⟩) (wd hw 10 rfl) (ty := (.array .byte)) (by decide) rfl rfl (g := (mkF m 54 #[vr a1, vr v1, vi 0, vi 5, .val .null, vr b486] [(.ref b486), (.ref a1)])) rfl rfl (dk d4_54)
    have N500 := Fr.snoc X500 N497 pr9
    have O501 := O498.wr W500 pr9
    have Z501 : n0 ≤ h500.size := Nat.le_trans Z498 (Keep.of_wr W500).1
    have F500 := f499.same W500
    refine gy (St T500 m 57 #[vr a1, vr v1, vi 0, vi 5, .val .null, vr b486] []) st500 ?_
    refine Go.retV X500 hx hlk hret (dk d4_57) (by decide) (by decide) ?_
    rw [e500]
    exact ⟨b486, k486, true, rfl, N500, ((((Keep.refl h0 [a1]).trans K486 all0).wr W497 (Or.inl (List.mem_of_getElem? (i := 0) rfl))).wr W500 (Or.inl (List.mem_of_getElem? (i := 0) rfl))), (((pr6.keep K486).wr W497).wr W500), F500, (Nat.le_trans (Nat.le_refl _) sz_b486), (fun q => nomatch q), (fun q => nomatch q), (fun _ => ((V495.other W497 (Ne.symm (Nat.ne_of_lt (Nat.lt_of_lt_of_le pr6.lt sz_b486)))).other W500 (Ne.symm (Nat.ne_of_lt (Nat.lt_of_lt_of_le pr6.lt sz_b486))))), (fun q => nomatch q), (fun _ => (F497.other W500 (Or.inr (slot_ne (Or.inr (wd hw 26 rfl)) (Or.inr (wd hw 25 rfl)) (by decide) (t := .byte) (t' := (.array .byte)) (by decide) (by decide)))))⟩
theorem ef_rm_sC_5 (m : MethodId) (x0 : Addr) (x1 : Addr) : entryFrame m #[(.ref x0), (.ref x1)] 2 = mkF m 0 #[vr x0, vr x1] [] := by first | (simp [entryFrame, mkF, argsToLocals, Value.category]; done) | rfl
def Q_rm_sC_5 (Z : State) (a1 : Addr) (v1 : Addr) (ka : ClassId) (c0 : Int32) (c1 : Int32) (c2 : Int32) (c3 : Int32) (c4 : Int32) (cs : Int32) (h0 : Heap) (n0 : Nat) (vv : Option Value) (h : Heap) (L : List Loc) : Prop := ∃ t : Addr, ∃ k : ClassId, ∃ u : Bool, vv = none ∧ Fr n0 L ∧ Keep h0 h [a1] ∧ Exa Z h a1 "java/lang/String" ∧ Fld Z h a1 "java/lang/String" "value" "[B" (.ref t) ∧ h0.size ≤ t ∧ (u = false → ¬ (255 : Int32) < c0 ∧ ¬ (255 : Int32) < c1 ∧ ¬ (255 : Int32) < c2 ∧ ¬ (255 : Int32) < c3 ∧ ¬ (255 : Int32) < c4) ∧ (u = false → Arv Z h t k .byte (5 : Int32) [(.int (nar .byte (c0.toInt8.toInt32))), (.int (nar .byte (c1.toInt8.toInt32))), (.int (nar .byte (c2.toInt8.toInt32))), (.int (nar .byte (c3.toInt8.toInt32))), (.int (nar .byte (c4.toInt8.toInt32)))] (.int 0)) ∧ (u = true → Arv Z h t k .byte (10 : Int32) [(.int (own_b0 c0)), (.int (own_b1 c0)), (.int (own_b0 c1)), (.int (own_b1 c1)), (.int (own_b0 c2)), (.int (own_b1 c2)), (.int (own_b0 c3)), (.int (own_b1 c3)), (.int (own_b0 c4)), (.int (own_b1 c4))] (.int 0)) ∧ (u = false → Fld Z h a1 "java/lang/String" "coder" "B" (.int 0)) ∧ (u = true → Fld Z h a1 "java/lang/String" "coder" "B" (.int 1))
set_option maxRecDepth 65536 in
set_option maxHeartbeats 40000000 in
theorem rm_sC_5 (l : Launch) (Z : State) (a0 : Array Value) (hw : HW a0 Z) (ws : List Jvm.Cond) (a1 : Addr) (v1 : Addr) (ka : ClassId) (c0 : Int32) (c1 : Int32) (c2 : Int32) (c3 : Int32) (c4 : Int32) (cs : Int32) (h0 : Heap) (n0 : Nat) (Z0 : n0 ≤ h0.size) (pr0 : Old Z n0 h0) (pr1 : Sta Z Z.heap "java/lang/String" "COMPACT_STRINGS" "Z" (.int cs)) (hcs : ¬ (cs = (0 : Int32))) (pr3 : Sta Z Z.heap "java/lang/StringUTF16" "$assertionsDisabled" "Z" (.int 1)) (pr4 : Sta Z Z.heap "java/lang/StringUTF16" "HI_BYTE_SHIFT" "I" (.int 0)) (pr5 : Sta Z Z.heap "java/lang/StringUTF16" "LO_BYTE_SHIFT" "I" (.int 8)) (pr6 : Exa Z h0 a1 "java/lang/String") (pr7 : Fld Z h0 a1 "java/lang/String" "value" "[B" .null) (pr8 : Fld Z h0 a1 "java/lang/String" "coder" "B" (.int 0)) (pr9 : n0 ≤ a1) (pr10 : Arv Z h0 v1 ka .char (5 : Int32) [(.int c0), (.int c1), (.int c2), (.int c3), (.int c4)] (.int 0)) (hr0 : own_rng c0) (hr1 : own_rng c1) (hr2 : own_rng c2) (hr3 : own_rng c3) (hr4 : own_rng c4) :
    Met l Z Y5 jdk_42_method_3_code 2 none ws ({ frames := 5, cells := 2, slots := 15, locals := 74 } : Room) #[(.ref a1), (.ref v1)] h0 (Q_rm_sC_5 Z a1 v1 ka c0 c1 c2 c3 c4 cs h0 n0) := by
  refine Met.enter (f0 := fun m => mkF m 0 #[vr a1, vr v1] []) (plainFor_of_name pn_java_lang_String) (fun m => ef_rm_sC_5 m a1 v1) ?_
  intro p e s m below meth c s₁ hx hby hml hown hnm hret hlk hZ X0 e0
  have hown : s.vm.findClass "java/lang/String" = some m.cls := hown
  have hnm : meth.name = "<init>" := hnm
  have hml : c.maxLocals = 2 := hml
  have dk : ∀ {i : Nat} {r : Except DecodeError (Instr × Nat)}, decode jdk_42_method_3_code i = r → decode c.code i = r := fun h => hb hby h
  have N0 := Fr.nil n0
  refine gy (St s₁ m 4 #[vr a1, vr v1] [(.ref v1), (.int 0), (.ref v1), (.ref a1)]) (fun _ k => XS.aloadN X0.here hx rfl (dk d3_0) rfl rfl (XS.aloadN X0.here hx rfl (dk d3_1) rfl rfl (XS.iconst X0.here hx rfl (dk d3_2) (XS.aloadN X0.here hx rfl (dk d3_3) rfl rfl k)))) ?_
  obtain ⟨cl502, Ar502, q502, S502, N_502, Hs502, G502⟩ := id pr10
  refine gy (St s₁ m 5 #[vr a1, vr v1] [(.int 5), (.int 0), (.ref v1), (.ref a1)]) (fun _ k => X0.arraylength hx (by rw [e0]; exact Ar502.1) (State.isArrayOf_alike hZ.alike Ar502.2.1) (g := (mkF m 4 #[vr a1, vr v1] [(.ref v1), (.int 0), (.ref v1), (.ref a1)])) rfl rfl (dk d3_4) _ (by rw [len_of S502 N_502]; exact k)) ?_
  refine gy (St s₁ m 6 #[vr a1, vr v1] [.null, (.int 5), (.int 0), (.ref v1), (.ref a1)]) (fun _ k => XS.aconstNull X0.here hx rfl (dk d3_5) k) ?_
  obtain ⟨_, _, ⟨T503, L503, k503, n503⟩, -, X503, ⟨Lc503, hQ503, l503, y503, z503⟩, st503⟩ := X0.specialBack hx (y := Y6) rfl hown (mvT hZ (wd hw 16 rfl)) (mvT hZ (wd hw 17 rfl)) (mvT hZ (wd hw 19 rfl)) (by decide) (backOf (W := 0) (rm_sV_5 l Z a0 hw [] a1 v1 ka c0 c1 c2 c3 c4 cs h0 n0 Z0 pr0 pr1 hcs pr3 pr4 pr5 pr6 pr7 pr8 pr9 pr10 hr0 hr1 hr2 hr3 hr4) hZ (wd hw 19 rfl) (wd hw 11 rfl) (by decide) (by decide)) (g := (mkF m 6 #[vr a1, vr v1] [.null, (.int 5), (.int 0), (.ref v1), (.ref a1)])) rfl (by rw [hml]; rfl) (Steps.refl _) (a := a1) (argsL := [(.ref v1), (.int 0), (.int 5), .null]) (rest := []) (lenOf pd_7 rfl) rfl (by show 2 * 0 + _ ≤ _; exact Nat.le_of_eq rfl) (dk d3_6) (fun _ _ => ⟨rfl, e0, Nat.le_of_ble_eq_true rfl, Nat.le_of_ble_eq_true rfl⟩)
  dsimp only [Pt.U, Pt.locs, Pt.cells, Pt.slots] at X503 l503 y503 z503 st503 hQ503
  subst l503 y503 z503
  obtain ⟨t503, k503, u503, rfl, Nq503, K503, p503_0, p503_1, p503_2, p503_3, p503_4, p503_5, p503_6, p503_7⟩ := hQ503
  have N503 := Fr.app N0 Nq503
  have O504 := pr0.keep K503 (allS pr9 all0)
  have Z504 : n0 ≤ T503.heap.size := Nat.le_trans Z0 K503.1
  have sz_t503 : h0.size ≤ t503 := p503_2
  refine gy (St T503 m 9 #[vr a1, vr v1] []) (fun _ k => st503.trans k) ?_
  refine Go.retV X503 hx hlk hret (dk d3_9) (by decide) (by decide) ?_
  exact ⟨t503, k503, u503, rfl, N503, ((Keep.refl h0 [a1]).trans K503 (allS (Or.inl (List.mem_of_getElem? (i := 0) rfl)) all0)), p503_0, p503_1, (Nat.le_trans (Nat.le_refl _) sz_t503), p503_3, p503_4, p503_5, p503_6, p503_7⟩
theorem ef_rm_sV_0 (m : MethodId) (x0 : Addr) (x1 : Addr) : entryFrame m #[(.ref x0), (.ref x1), (.int 0), (.int 0), .null] 6 = mkF m 0 #[vr x0, vr x1, vi 0, vi 0, .val .null, .unset] [] := by first | (simp [entryFrame, mkF, argsToLocals, Value.category]; done) | rfl
theorem d4_8 : decode jdk_42_method_149_code 8 = .ok (.aload_n 0, 1) := by decide +kernel
theorem d4_9 : decode jdk_42_method_149_code 9 = .ok (.ldc 7, 2) := by decide +kernel
theorem d4_11 : decode jdk_42_method_149_code 11 = .ok (.getfield 9, 3) := by decide +kernel
theorem d4_14 : decode jdk_42_method_149_code 14 = .ok (.putfield 9, 3) := by decide +kernel
theorem d4_17 : decode jdk_42_method_149_code 17 = .ok (.aload_n 0, 1) := by decide +kernel
theorem d4_18 : decode jdk_42_method_149_code 18 = .ok (.ldc 7, 2) := by decide +kernel
theorem d4_20 : decode jdk_42_method_149_code 20 = .ok (.getfield 15, 3) := by decide +kernel
theorem d4_23 : decode jdk_42_method_149_code 23 = .ok (.putfield 15, 3) := by decide +kernel
theorem d4_26 : decode jdk_42_method_149_code 26 = .ok (.return_, 1) := by decide +kernel
def Q_rm_sV_0 (Z : State) (a1 : Addr) (v1 : Addr) (h0 : Heap) (n0 : Nat) (vv : Option Value) (h : Heap) (L : List Loc) : Prop := ∃ t : Addr, ∃ k : ClassId, vv = none ∧ Fr n0 L ∧ Keep h0 h [a1] ∧ Exa Z h a1 "java/lang/String" ∧ Fld Z h a1 "java/lang/String" "value" "[B" (.ref t) ∧ Fld Z h a1 "java/lang/String" "coder" "B" (.int 0) ∧ Arv Z h t k .byte (0 : Int32) [] (.int 0)
set_option maxRecDepth 65536 in
set_option maxHeartbeats 40000000 in
theorem rm_sV_0 (l : Launch) (Z : State) (a0 : Array Value) (hw : HW a0 Z) (ws : List Jvm.Cond) (a1 : Addr) (v1 : Addr) (h0 : Heap) (n0 : Nat) (Z0 : n0 ≤ h0.size) (pr0 : Old Z n0 h0) (pr1 : Exa Z h0 a1 "java/lang/String") (pr2 : Fld Z h0 a1 "java/lang/String" "value" "[B" .null) (pr3 : Fld Z h0 a1 "java/lang/String" "coder" "B" (.int 0)) (pr4 : n0 ≤ a1) :
    MetS l Z own_EL Y6 jdk_42_method_149_code 6 none ws ({ frames := 1, cells := 2, slots := 4, locals := 12 } : Room) #[(.ref a1), (.ref v1), (.int 0), (.int 0), .null] h0 (Q_rm_sV_0 Z a1 v1 h0 n0) := by
  refine MetS.enter (f0 := fun m => mkF m 0 #[vr a1, vr v1, vi 0, vi 0, .val .null, .unset] []) (plainFor_of_name pn_java_lang_String) (fun m => ef_rm_sV_0 m a1 v1) ?_
  intro p e s m below meth c s₁ hx hby hml hown hnm hret hlk hZ X0 e0 hS C0
  have hown : s.vm.findClass "java/lang/String" = some m.cls := hown
  have hnm : meth.name = "<init>" := hnm
  have hml : c.maxLocals = 6 := hml
  have dk : ∀ {i : Nat} {r : Except DecodeError (Instr × Nat)}, decode jdk_42_method_149_code i = r → decode c.code i = r := fun h => hb hby h
  have N0 := Fr.nil n0
  have hk : h0.size ≤ h0.size := Nat.le_refl _
  have hEL : EW Z a0 own_EL := own_hEL hw
  have wS : ∀ a ∈ Bundle.stringAtoms, a.before a0 Z = true := own_wS hw
  have Sf0_a1 : Safe Z own_EL s.vm h0 a1 := own_safe0 hZ.alike pr1 pr2
  refine gy (St s₁ m 1 #[vr a1, vr v1, vi 0, vi 0, .val .null, .unset] [(.ref a1)]) (fun _ k => XS.aloadN X0.here hx rfl (dk d4_0) rfl rfl k) ?_
  obtain ⟨T505, X505, e505, st505⟩ := initO X0 hx hZ hown (wd hw 20 rfl) (wd hw 21 rfl) (wd hw 22 rfl) e0 (g := (mkF m 1 #[vr a1, vr v1, vi 0, vi 0, .val .null, .unset] [(.ref a1)])) rfl (by rw [hml]; rfl) rfl (dk d4_1) (by decide) (W := 0) (by show 2 * 0 + _ ≤ _; exact Nat.le_of_eq rfl) (by decide)
  refine gy (St T505 m 4 #[vr a1, vr v1, vi 0, vi 0, .val .null, .unset] []) st505 ?_
  refine gy (St T505 m 9 #[vr a1, vr v1, vi 0, vi 0, .val .null, .unset] [(.ref a1)]) (fun _ k => XS.iloadN X505.here hx rfl (dk d4_4) rfl (XS.ifNo X505.here hx rfl (dk d4_5) rfl ((if0 _ _).trans (teq (by decide : (0 : Int32) = (0 : Int32))).2) (XS.aloadN X505.here hx rfl (dk d4_8) rfl rfl k))) ?_
  obtain ⟨la506, T506, h506, k1506, lb506, kk506, X506, e506, E506, hS, hk, hZ, hown, EA506, FC506, FV506, VA506, -, -, CS506, LI506, SN506, st506⟩ := ldcCH (vs := []) (z := (0 : Int32)) X505 hx hZ hown (wd hw 23 rfl) wS e505 hS hk hEL (by decide) C0.1 ⟨by decide, by decide⟩ (by decide) rfl (g := (mkF m 9 #[vr a1, vr v1, vi 0, vi 0, .val .null, .unset] [(.ref a1)])) rfl (dk d4_9) (n := 0) (by decide) (by decide) (by decide) (by decide)
  have Sf507_a1 := CHr.safe CS506 pr1.lt Sf0_a1
  have C507 := C0.trans CS506
  have O507 := pr0.ext E506
  have Z507 : n0 ≤ h506.size := Nat.le_trans Z0 E506.1
  refine gy (St T506 m 11 #[vr a1, vr v1, vi 0, vi 0, .val .null, .unset] [(.ref la506), (.ref a1)]) st506 ?_
  obtain ⟨T508, X508, e508, st508⟩ := getF X506 hx hZ hown (host := "") (Or.inl (wd hw 29 rfl)) Via.refl e506 FV506 (g := (mkF m 11 #[vr a1, vr v1, vi 0, vi 0, .val .null, .unset] [(.ref la506), (.ref a1)])) rfl rfl (dk d4_11)
  refine gy (St T508 m 14 #[vr a1, vr v1, vi 0, vi 0, .val .null, .unset] [(.ref lb506), (.ref a1)]) st508 ?_
  obtain ⟨T509, h509, X509, e509, W509, st509⟩ := putF X508 hx hZ hown (host := "") (Or.inl (wd hw 29 rfl)) Via.refl e508 (pr2.ext E506) (pr1.ext E506) (Or.inr ⟨(wd hw 25 rfl), rfl, hnm⟩) (wd hw 10 rfl) (ty := (.array .byte)) (by decide) rfl rfl (g := (mkF m 14 #[vr a1, vr v1, vi 0, vi 0, .val .null, .unset] [(.ref lb506), (.ref a1)])) rfl rfl (dk d4_14)
  have N509 := Fr.snoc X509 N0 pr4
  have Sf510_a1 := Safe.wr W509 Sf507_a1 C507.1 Sf507_a1
  have C510 := C507.trans (CHr.wr W509 Sf507_a1 C507.1)
  have O510 := O507.wr W509 pr4
  have Z510 : n0 ≤ h509.size := Nat.le_trans Z507 (Keep.of_wr W509).1
  have F509 := (pr2.ext E506).same W509
  refine gy (St T509 m 17 #[vr a1, vr v1, vi 0, vi 0, .val .null, .unset] []) st509 ?_
  refine gy (St T509 m 18 #[vr a1, vr v1, vi 0, vi 0, .val .null, .unset] [(.ref a1)]) (fun _ k => XS.aloadN X509.here hx rfl (dk d4_17) rfl rfl k) ?_
  refine Go.by (B := (T509.setTop (mkF m 20 #[vr a1, vr v1, vi 0, vi 0, .val .null, .unset] [(.ref la506), (.ref a1)]))) (ldcAgain X509 hx hZ hown (wd hw 23 rfl) LI506 (g := (mkF m 18 #[vr a1, vr v1, vi 0, vi 0, .val .null, .unset] [(.ref a1)])) rfl (dk d4_18)) ?_
  have f511 := (FC506.other W509 (Or.inl (Ne.symm (SN506 _ Sf507_a1).1)))
  obtain ⟨T512, X512, e512, st512⟩ := getF X509 hx hZ hown (host := "") (Or.inl (wd hw 30 rfl)) Via.refl e509 f511 (g := (mkF m 20 #[vr a1, vr v1, vi 0, vi 0, .val .null, .unset] [(.ref la506), (.ref a1)])) rfl rfl (dk d4_20)
  refine gy (St T512 m 23 #[vr a1, vr v1, vi 0, vi 0, .val .null, .unset] [(.int 0), (.ref a1)]) st512 ?_
  have f513 := ((pr3.ext E506).other W509 (Or.inr (slot_ne (Or.inr (wd hw 26 rfl)) (Or.inr (wd hw 25 rfl)) (by decide) (t := .byte) (t' := (.array .byte)) (by decide) (by decide))))
  obtain ⟨T514, h514, X514, e514, W514, st514⟩ := putFN X512 hx hZ hown (wd hw 30 rfl) Via.refl e512 f513 ((pr1.ext E506).wr W509) (Or.inr ⟨(wd hw 26 rfl), rfl, hnm⟩) (wd hw 10 rfl) (ty := .byte) (v' := (.int 0)) (by decide) rfl rfl (g := (mkF m 23 #[vr a1, vr v1, vi 0, vi 0, .val .null, .unset] [(.int 0), (.ref a1)])) rfl rfl (dk d4_23)
  have N514 := Fr.snoc X514 N509 pr4
  have Sf515_a1 := Safe.wr W514 Sf510_a1 C510.1 Sf510_a1
  have C515 := C510.trans (CHr.wr W514 Sf510_a1 C510.1)
  have O515 := O510.wr W514 pr4
  have Z515 : n0 ≤ h514.size := Nat.le_trans Z510 (Keep.of_wr W514).1
  have F514 := f513.same W514
  refine gy (St T514 m 26 #[vr a1, vr v1, vi 0, vi 0, .val .null, .unset] []) st514 ?_
  have hkE516 : _ ≤ T514.heap.size := (by rw [e514]; exact (Nat.le_trans (Nat.le_trans hk (Keep.of_wr W509).1) (Keep.of_wr W514).1))
  have CE516 : CHr Z own_EL s.vm s.heap T506.vm T514.heap := (by rw [e514]; exact C515)
  refine Go.retVS X514 hx hlk hS hkE516 hZ hEL CE516 hret (dk d4_26) (by decide) (by decide) ?_
  rw [e514]
  exact ⟨lb506, kk506, rfl, N514, ((((Keep.refl h0 [a1]).ext E506).wr W509 (Or.inl (List.mem_of_getElem? (i := 0) rfl))).wr W514 (Or.inl (List.mem_of_getElem? (i := 0) rfl))), (((pr1.ext E506).wr W509).wr W514), (F509.other W514 (Or.inr (slot_ne (Or.inr (wd hw 25 rfl)) (Or.inr (wd hw 26 rfl)) (by decide) (t := (.array .byte)) (t' := .byte) (by decide) (by decide)))), F514, ((VA506.other W509 (Ne.symm (SN506 _ Sf507_a1).2)).other W514 (Ne.symm (SN506 _ Sf507_a1).2))⟩
theorem ef_rm_sC_0 (m : MethodId) (x0 : Addr) (x1 : Addr) : entryFrame m #[(.ref x0), (.ref x1)] 2 = mkF m 0 #[vr x0, vr x1] [] := by first | (simp [entryFrame, mkF, argsToLocals, Value.category]; done) | rfl
def Q_rm_sC_0 (Z : State) (a1 : Addr) (v1 : Addr) (ka : ClassId) (h0 : Heap) (n0 : Nat) (vv : Option Value) (h : Heap) (L : List Loc) : Prop := ∃ t : Addr, ∃ k : ClassId, vv = none ∧ Fr n0 L ∧ Keep h0 h [a1] ∧ Exa Z h a1 "java/lang/String" ∧ Fld Z h a1 "java/lang/String" "value" "[B" (.ref t) ∧ Fld Z h a1 "java/lang/String" "coder" "B" (.int 0) ∧ Arv Z h t k .byte (0 : Int32) [] (.int 0)
set_option maxRecDepth 65536 in
set_option maxHeartbeats 40000000 in
theorem rm_sC_0 (l : Launch) (Z : State) (a0 : Array Value) (hw : HW a0 Z) (ws : List Jvm.Cond) (a1 : Addr) (v1 : Addr) (ka : ClassId) (h0 : Heap) (n0 : Nat) (Z0 : n0 ≤ h0.size) (pr0 : Old Z n0 h0) (pr1 : Exa Z h0 a1 "java/lang/String") (pr2 : Fld Z h0 a1 "java/lang/String" "value" "[B" .null) (pr3 : Fld Z h0 a1 "java/lang/String" "coder" "B" (.int 0)) (pr4 : n0 ≤ a1) (pr5 : Arv Z h0 v1 ka .char (0 : Int32) [] (.int 0)) :
    MetS l Z own_EL Y5 jdk_42_method_3_code 2 none ws ({ frames := 2, cells := 2, slots := 4, locals := 29 } : Room) #[(.ref a1), (.ref v1)] h0 (Q_rm_sC_0 Z a1 v1 ka h0 n0) := by
  refine MetS.enter (f0 := fun m => mkF m 0 #[vr a1, vr v1] []) (plainFor_of_name pn_java_lang_String) (fun m => ef_rm_sC_0 m a1 v1) ?_
  intro p e s m below meth c s₁ hx hby hml hown hnm hret hlk hZ X0 e0 hS C0
  have hown : s.vm.findClass "java/lang/String" = some m.cls := hown
  have hnm : meth.name = "<init>" := hnm
  have hml : c.maxLocals = 2 := hml
  have dk : ∀ {i : Nat} {r : Except DecodeError (Instr × Nat)}, decode jdk_42_method_3_code i = r → decode c.code i = r := fun h => hb hby h
  have N0 := Fr.nil n0
  have hk : h0.size ≤ h0.size := Nat.le_refl _
  have hEL : EW Z a0 own_EL := own_hEL hw
  have wS : ∀ a ∈ Bundle.stringAtoms, a.before a0 Z = true := own_wS hw
  refine gy (St s₁ m 4 #[vr a1, vr v1] [(.ref v1), (.int 0), (.ref v1), (.ref a1)]) (fun _ k => XS.aloadN X0.here hx rfl (dk d3_0) rfl rfl (XS.aloadN X0.here hx rfl (dk d3_1) rfl rfl (XS.iconst X0.here hx rfl (dk d3_2) (XS.aloadN X0.here hx rfl (dk d3_3) rfl rfl k)))) ?_
  obtain ⟨cl517, Ar517, q517, S517, N_517, Hs517, G517⟩ := id pr5
  refine gy (St s₁ m 5 #[vr a1, vr v1] [(.int 0), (.int 0), (.ref v1), (.ref a1)]) (fun _ k => X0.arraylength hx (by rw [e0]; exact Ar517.1) (State.isArrayOf_alike hZ.alike Ar517.2.1) (g := (mkF m 4 #[vr a1, vr v1] [(.ref v1), (.int 0), (.ref v1), (.ref a1)])) rfl rfl (dk d3_4) _ (by rw [len_of S517 N_517]; exact k)) ?_
  refine gy (St s₁ m 6 #[vr a1, vr v1] [.null, (.int 0), (.int 0), (.ref v1), (.ref a1)]) (fun _ k => XS.aconstNull X0.here hx rfl (dk d3_5) k) ?_
  have hkT518 : _ ≤ s₁.heap.size := (by rw [e0]; exact hk)
  obtain ⟨_, _, ⟨T518, L518, k518, n518⟩, -, X518, hSn518, hgr518, ⟨Lc518, hQ518, l518, y518, z518, CS518⟩, st518⟩ := X0.specialBackS hx (y := Y6) rfl hown (mvT hZ (wd hw 16 rfl)) (mvT hZ (wd hw 17 rfl)) (mvT hZ (wd hw 19 rfl)) (by decide) (backOfSH (W := 0) (rm_sV_0 l Z a0 hw [] a1 v1 h0 n0 Z0 pr0 pr1 pr2 pr3 pr4) hZ (wd hw 19 rfl) (wd hw 11 rfl) (by decide) (by decide) hEL C0.1) (g := (mkF m 6 #[vr a1, vr v1] [.null, (.int 0), (.int 0), (.ref v1), (.ref a1)])) rfl (by rw [hml]; rfl) (Steps.refl _) (a := a1) (argsL := [(.ref v1), (.int 0), (.int 0), .null]) (rest := []) (lenOf pd_7 rfl) rfl (by show 2 * 0 + _ ≤ _; exact Nat.le_of_eq rfl) (dk d3_6) (fun _ _ => ⟨rfl, e0, Nat.le_of_ble_eq_true rfl, Nat.le_of_ble_eq_true rfl⟩)
  dsimp only [Pt.U, Pt.locs, Pt.cells, Pt.slots] at X518 l518 y518 z518 st518 hQ518 hSn518 hgr518 CS518
  subst l518 y518 z518
  obtain ⟨X518, hS, hZ, hown⟩ := rebS hS hkT518 X518 hSn518 hgr518 hZ hown
  have hk : T518.heap.size ≤ T518.heap.size := Nat.le_refl _
  obtain ⟨t518, k518, rfl, Nq518, K518, p518_0, p518_1, p518_2, p518_3⟩ := hQ518
  have N518 := Fr.app N0 Nq518
  have C519 := C0.trans CS518
  have O519 := pr0.keep K518 (allS pr4 all0)
  have Z519 : n0 ≤ T518.heap.size := Nat.le_trans Z0 K518.1
  refine gy (St T518 m 9 #[vr a1, vr v1] []) (fun _ k => st518.trans k) ?_
  have hkE520 : _ ≤ T518.heap.size := hk
  have CE520 : CHr Z own_EL s.vm s.heap T518.vm T518.heap := C519
  refine Go.retVS X518 hx hlk hS hkE520 hZ hEL CE520 hret (dk d3_9) (by decide) (by decide) ?_
  exact ⟨t518, k518, rfl, N518, ((Keep.refl h0 [a1]).trans K518 (allS (Or.inl (List.mem_of_getElem? (i := 0) rfl)) all0)), p518_0, p518_1, p518_2, p518_3⟩
theorem ef_rm_str_0 (m : MethodId) (x1 : Int32) (x2 : Int32) (x3 : Int32) (x4 : Int32) (x5 : Int32) : entryFrame m #[(.int 0), (.int x1), (.int x2), (.int x3), (.int x4), (.int x5)] 6 = mkF m 0 #[vi 0, vi x1, vi x2, vi x3, vi x4, vi x5] [] := by first | (simp [entryFrame, mkF, argsToLocals, Value.category]; done) | rfl
theorem d2_0 : decode method_4_code 0 = .ok (.iload_n 0, 1) := by decide +kernel
theorem d2_1 : decode method_4_code 1 = .ok (.ifCond .ne 14, 3) := by decide +kernel
theorem d2_4 : decode method_4_code 4 = .ok (.new 8, 3) := by decide +kernel
theorem d2_7 : decode method_4_code 7 = .ok (.dup, 1) := by decide +kernel
theorem d2_8 : decode method_4_code 8 = .ok (.iconst 0, 1) := by decide +kernel
theorem d2_9 : decode method_4_code 9 = .ok (.newarray .char, 2) := by decide +kernel
theorem d2_11 : decode method_4_code 11 = .ok (.invokespecial 10, 3) := by decide +kernel
theorem pd_8 : parseMethodDescriptor "([C)V" = some ⟨[(.array .char)], none⟩ := by decide +kernel
theorem d2_14 : decode method_4_code 14 = .ok (.areturn, 1) := by decide +kernel
def Q_rm_str_0 (Z : State) (c0 : Int32) (c1 : Int32) (c2 : Int32) (c3 : Int32) (c4 : Int32) (h0 : Heap) (n0 : Nat) (vv : Option Value) (h : Heap) (L : List Loc) : Prop := ∃ b : Addr, ∃ t : Addr, ∃ k : ClassId, vv = some (.ref b) ∧ Fr n0 L ∧ Keep h0 h [] ∧ Exa Z h b "java/lang/String" ∧ Fld Z h b "java/lang/String" "value" "[B" (.ref t) ∧ Fld Z h b "java/lang/String" "coder" "B" (.int 0) ∧ Arv Z h t k .byte (0 : Int32) [] (.int 0) ∧ h0.size ≤ b
set_option maxRecDepth 65536 in
set_option maxHeartbeats 40000000 in
theorem rm_str_0 (l : Launch) (Z : State) (a0 : Array Value) (hw : HW a0 Z) (ws : List Jvm.Cond) (c0 : Int32) (c1 : Int32) (c2 : Int32) (c3 : Int32) (c4 : Int32) (h0 : Heap) (n0 : Nat) (Z0 : n0 ≤ h0.size) (pr0 : Old Z n0 h0) :
    MetS l Z own_EL Y4 method_4_code 6 (some (.object "java/lang/String")) ws ({ frames := 3, cells := 4, slots := 8, locals := 43 } : Room) #[(.int 0), (.int c0), (.int c1), (.int c2), (.int c3), (.int c4)] h0 (Q_rm_str_0 Z c0 c1 c2 c3 c4 h0 n0) := by
  refine MetS.enter (f0 := fun m => mkF m 0 #[vi 0, vi c0, vi c1, vi c2, vi c3, vi c4] []) (plainFor_of_name pn_com_example_vestwright_vestwright_FormatsIsYearPinLaw) (fun m => ef_rm_str_0 m c0 c1 c2 c3 c4) ?_
  intro p e s m below meth c s₁ hx hby hml hown hnm hret hlk hZ X0 e0 hS C0
  have hown : s.vm.findClass "com/example/vestwright/vestwright/FormatsIsYearPinLaw" = some m.cls := hown
  have hnm : meth.name = "str" := hnm
  have hml : c.maxLocals = 6 := hml
  have dk : ∀ {i : Nat} {r : Except DecodeError (Instr × Nat)}, decode method_4_code i = r → decode c.code i = r := fun h => hb hby h
  have N0 := Fr.nil n0
  have hk : h0.size ≤ h0.size := Nat.le_refl _
  have hEL : EW Z a0 own_EL := own_hEL hw
  have wS : ∀ a ∈ Bundle.stringAtoms, a.before a0 Z = true := own_wS hw
  refine gy (St s₁ m 4 #[vi 0, vi c0, vi c1, vi c2, vi c3, vi c4] []) (fun _ k => XS.iloadN X0.here hx rfl (dk d2_0) rfl (XS.ifNo X0.here hx rfl (dk d2_1) rfl ((if0 _ _).trans (teq (by decide : (0 : Int32) = (0 : Int32))).2) k)) ?_
  obtain ⟨T521, h521, X521, e521, E521, A521, D521, -, st521⟩ := newO X0 hx hZ hown (wd hw 9 rfl) (wd hw 10 rfl) (wd hw 11 rfl) e0 (g := (mkF m 4 #[vi 0, vi c0, vi c1, vi c2, vi c3, vi c4] [])) rfl (dk d2_4) (by decide) (by decide)
  obtain ⟨b521, g521⟩ : ∃ z, z = h0.size := ⟨_, rfl⟩
  rw [← g521] at A521 D521 st521
  have sz_b521 : h0.size ≤ b521 := Nat.le_of_eq g521.symm
  have C522 := C0.trans (CHr.ext E521 C0.1)
  have O522 := pr0.ext E521
  have Z522 : n0 ≤ h521.size := Nat.le_trans Z0 E521.1
  have Sf523_b521 : Safe Z own_EL s.vm h521 b521 := Safe.ext E521 C0.1 (Safe.new sz_b521)
  have F524 : Fld Z h521 b521 "java/lang/String" "value" "[B" .null := D521 (Or.inr (wd hw 25 rfl)) (ty := (.array .byte)) (by decide)
  have F525 : Fld Z h521 b521 "java/lang/String" "coder" "B" (.int 0) := D521 (Or.inr (wd hw 26 rfl)) (ty := .byte) (by decide)
  refine gy (St T521 m 7 #[vi 0, vi c0, vi c1, vi c2, vi c3, vi c4] [(.ref b521)]) st521 ?_
  refine gy (St T521 m 9 #[vi 0, vi c0, vi c1, vi c2, vi c3, vi c4] [(.int 0), (.ref b521), (.ref b521)]) (fun _ k => XS.dup X521.here hx rfl (dk d2_7) rfl rfl (XS.iconst X521.here hx rfl (dk d2_8) k)) ?_
  obtain ⟨T526, h526, k526, X526, e526, E526, A526, st526⟩ := newP X521 hx hZ (wd hw 12 rfl) e521 (g := (mkF m 9 #[vi 0, vi c0, vi c1, vi c2, vi c3, vi c4] [(.int 0), (.ref b521), (.ref b521)])) rfl (dk d2_9) rfl (by decide) (cap := 0) (by decide) (by decide) (by decide) (by decide)
  obtain ⟨b526, g526⟩ : ∃ z, z = h521.size := ⟨_, rfl⟩
  rw [← g526] at A526 st526
  have sz_b526 : h521.size ≤ b526 := Nat.le_of_eq g526.symm
  have V526 : Arv Z h526 b526 k526 .char (0 : Int32) [] (.int 0) := (Arv.new A526 (by decide)).pad (pad_rep [] (.int 0) 0)
  have Sf527_b521 := Safe.ext E526 C522.1 Sf523_b521
  have C527 := C522.trans (CHr.ext E526 C522.1)
  have O527 := O522.ext E526
  have Z527 : n0 ≤ h526.size := Nat.le_trans Z522 E526.1
  refine gy (St T526 m 11 #[vi 0, vi c0, vi c1, vi c2, vi c3, vi c4] [(.ref b526), (.ref b521), (.ref b521)]) st526 ?_
  have hkT528 : _ ≤ T526.heap.size := (by rw [e526]; exact (Nat.le_trans (Nat.le_trans hk E521.1) E526.1))
  obtain ⟨_, _, ⟨T528, L528, k528, n528⟩, -, X528, hSn528, hgr528, ⟨Lc528, hQ528, l528, y528, z528, CS528⟩, st528⟩ := X526.specialBackS hx (y := Y5) rfl hown (mvT hZ (wd hw 13 rfl)) (mvT hZ (wd hw 14 rfl)) (mvT hZ (wd hw 15 rfl)) (by decide) (backOfSH (W := 1) (rm_sC_0 l Z a0 hw [] b521 b526 k526 h526 n0 Z527 O527 (A521.ext E526) (F524.ext E526) (F525.ext E526) (Nat.le_trans Z0 sz_b521) V526) hZ (wd hw 15 rfl) (wd hw 11 rfl) (by decide) (by decide) hEL C527.1) (g := (mkF m 11 #[vi 0, vi c0, vi c1, vi c2, vi c3, vi c4] [(.ref b526), (.ref b521), (.ref b521)])) rfl (by rw [hml]; rfl) (Steps.refl _) (a := b521) (argsL := [(.ref b526)]) (rest := [(.ref b521)]) (lenOf pd_8 rfl) rfl (by show 2 * 0 + _ ≤ _; exact Nat.le_of_eq rfl) (dk d2_11) (fun _ _ => ⟨rfl, e526, Nat.le_of_ble_eq_true rfl, Nat.le_of_ble_eq_true rfl⟩)
  dsimp only [Pt.U, Pt.locs, Pt.cells, Pt.slots] at X528 l528 y528 z528 st528 hQ528 hSn528 hgr528 CS528
  subst l528 y528 z528
  obtain ⟨X528, hS, hZ, hown⟩ := rebS hS hkT528 X528 hSn528 hgr528 hZ hown
  have hk : T528.heap.size ≤ T528.heap.size := Nat.le_refl _
  obtain ⟨t528, k528, rfl, Nq528, K528, p528_0, p528_1, p528_2, p528_3⟩ := hQ528
  have N528 := Fr.app N0 Nq528
  have Sf529_b521 := CHr.safe CS528 (A521.ext E526).lt Sf527_b521
  have C529 := C527.trans CS528
  have O529 := O527.keep K528 (allS (Nat.le_trans Z0 sz_b521) all0)
  have Z529 : n0 ≤ T528.heap.size := Nat.le_trans Z527 K528.1
  refine gy (St T528 m 14 #[vi 0, vi c0, vi c1, vi c2, vi c3, vi c4] [(.ref b521)]) (fun _ k => st528.trans k) ?_
  have hkE530 : _ ≤ T528.heap.size := hk
  have CE530 : CHr Z own_EL s.vm s.heap T528.vm T528.heap := C529
  refine Go.retS X528 hx hlk hS hkE530 hZ hEL CE530 (t := (.object "java/lang/String")) hret rfl (Or.inr (Or.inr (Or.inr (Or.inr ⟨rfl, rfl, rfl⟩)))) (dk d2_14) (by decide) (by decide) ?_
  exact ⟨b521, t528, k528, rfl, N528, ((((Keep.refl h0 []).ext E521).ext E526).trans K528 (allS (Or.inr (Nat.le_trans (Nat.le_refl _) sz_b521)) all0)), p528_0, p528_1, p528_2, p528_3, (Nat.le_trans (Nat.le_refl _) sz_b521)⟩
theorem ef_rm_str_1 (m : MethodId) (x1 : Int32) (x2 : Int32) (x3 : Int32) (x4 : Int32) (x5 : Int32) : entryFrame m #[(.int 1), (.int x1), (.int x2), (.int x3), (.int x4), (.int x5)] 6 = mkF m 0 #[vi 1, vi x1, vi x2, vi x3, vi x4, vi x5] [] := by first | (simp [entryFrame, mkF, argsToLocals, Value.category]; done) | rfl
theorem d2_15 : decode method_4_code 15 = .ok (.iload_n 0, 1) := by decide +kernel
theorem d2_16 : decode method_4_code 16 = .ok (.iconst 1, 1) := by decide +kernel
theorem d2_17 : decode method_4_code 17 = .ok (.if_icmp .ne 18, 3) := by decide +kernel
theorem d2_20 : decode method_4_code 20 = .ok (.new 8, 3) := by decide +kernel
theorem d2_23 : decode method_4_code 23 = .ok (.dup, 1) := by decide +kernel
theorem d2_24 : decode method_4_code 24 = .ok (.iconst 1, 1) := by decide +kernel
theorem d2_25 : decode method_4_code 25 = .ok (.newarray .char, 2) := by decide +kernel
theorem d2_27 : decode method_4_code 27 = .ok (.dup, 1) := by decide +kernel
theorem d2_28 : decode method_4_code 28 = .ok (.iconst 0, 1) := by decide +kernel
theorem d2_29 : decode method_4_code 29 = .ok (.iload_n 1, 1) := by decide +kernel
theorem d2_30 : decode method_4_code 30 = .ok (.castore, 1) := by decide +kernel
theorem d2_31 : decode method_4_code 31 = .ok (.invokespecial 10, 3) := by decide +kernel
theorem d2_34 : decode method_4_code 34 = .ok (.areturn, 1) := by decide +kernel
def Q_rm_str_1 (Z : State) (c0 : Int32) (c1 : Int32) (c2 : Int32) (c3 : Int32) (c4 : Int32) (cs : Int32) (h0 : Heap) (n0 : Nat) (vv : Option Value) (h : Heap) (L : List Loc) : Prop := ∃ b : Addr, ∃ t : Addr, ∃ k : ClassId, ∃ u : Bool, vv = some (.ref b) ∧ Fr n0 L ∧ Keep h0 h [] ∧ Exa Z h b "java/lang/String" ∧ Fld Z h b "java/lang/String" "value" "[B" (.ref t) ∧ h0.size ≤ t ∧ h0.size ≤ b ∧ (u = false → ¬ (255 : Int32) < c0) ∧ (u = false → Arv Z h t k .byte (1 : Int32) [(.int (nar .byte (c0.toInt8.toInt32)))] (.int 0)) ∧ (u = true → Arv Z h t k .byte (2 : Int32) [(.int (own_b0 c0)), (.int (own_b1 c0))] (.int 0)) ∧ (u = false → Fld Z h b "java/lang/String" "coder" "B" (.int 0)) ∧ (u = true → Fld Z h b "java/lang/String" "coder" "B" (.int 1))
set_option maxRecDepth 65536 in
set_option maxHeartbeats 40000000 in
theorem rm_str_1 (l : Launch) (Z : State) (a0 : Array Value) (hw : HW a0 Z) (ws : List Jvm.Cond) (c0 : Int32) (c1 : Int32) (c2 : Int32) (c3 : Int32) (c4 : Int32) (cs : Int32) (h0 : Heap) (n0 : Nat) (Z0 : n0 ≤ h0.size) (pr0 : Old Z n0 h0) (pr1 : Sta Z Z.heap "java/lang/String" "COMPACT_STRINGS" "Z" (.int cs)) (hcs : ¬ (cs = (0 : Int32))) (pr3 : Sta Z Z.heap "java/lang/StringUTF16" "$assertionsDisabled" "Z" (.int 1)) (pr4 : Sta Z Z.heap "java/lang/StringUTF16" "HI_BYTE_SHIFT" "I" (.int 0)) (pr5 : Sta Z Z.heap "java/lang/StringUTF16" "LO_BYTE_SHIFT" "I" (.int 8)) (hr0 : own_rng c0) (hr1 : own_rng c1) (hr2 : own_rng c2) (hr3 : own_rng c3) (hr4 : own_rng c4) :
    Met l Z Y4 method_4_code 6 (some (.object "java/lang/String")) ws ({ frames := 6, cells := 4, slots := 8, locals := 88 } : Room) #[(.int 1), (.int c0), (.int c1), (.int c2), (.int c3), (.int c4)] h0 (Q_rm_str_1 Z c0 c1 c2 c3 c4 cs h0 n0) := by
  refine Met.enter (f0 := fun m => mkF m 0 #[vi 1, vi c0, vi c1, vi c2, vi c3, vi c4] []) (plainFor_of_name pn_com_example_vestwright_vestwright_FormatsIsYearPinLaw) (fun m => ef_rm_str_1 m c0 c1 c2 c3 c4) ?_
  intro p e s m below meth c s₁ hx hby hml hown hnm hret hlk hZ X0 e0
  have hown : s.vm.findClass "com/example/vestwright/vestwright/FormatsIsYearPinLaw" = some m.cls := hown
  have hnm : meth.name = "str" := hnm
  have hml : c.maxLocals = 6 := hml
  have dk : ∀ {i : Nat} {r : Except DecodeError (Instr × Nat)}, decode method_4_code i = r → decode c.code i = r := fun h => hb hby h
  have N0 := Fr.nil n0
  refine gy (St s₁ m 20 #[vi 1, vi c0, vi c1, vi c2, vi c3, vi c4] []) (fun _ k => XS.iloadN X0.here hx rfl (dk d2_0) rfl (XS.ifYes X0.here hx rfl (pc0 := 1) (pc' := 15) rfl (dk d2_1) rfl ((if0 _ _).trans (feq (by decide : ¬ ((1 : Int32) = (0 : Int32)))).2) (by decide) (by decide) (XS.iloadN X0.here hx rfl (dk d2_15) rfl (XS.iconst X0.here hx rfl (dk d2_16) (XS.icmpNo X0.here hx rfl (dk d2_17) rfl (teq (by decide : (1 : Int32) = (1 : Int32))).2 k))))) ?_
  obtain ⟨T531, h531, X531, e531, E531, A531, D531, -, st531⟩ := newO X0 hx hZ hown (wd hw 9 rfl) (wd hw 10 rfl) (wd hw 11 rfl) e0 (g := (mkF m 20 #[vi 1, vi c0, vi c1, vi c2, vi c3, vi c4] [])) rfl (dk d2_20) (by decide) (by decide)
  obtain ⟨b531, g531⟩ : ∃ z, z = h0.size := ⟨_, rfl⟩
  rw [← g531] at A531 D531 st531
  have sz_b531 : h0.size ≤ b531 := Nat.le_of_eq g531.symm
  have O532 := pr0.ext E531
  have Z532 : n0 ≤ h531.size := Nat.le_trans Z0 E531.1
  have F533 : Fld Z h531 b531 "java/lang/String" "value" "[B" .null := D531 (Or.inr (wd hw 25 rfl)) (ty := (.array .byte)) (by decide)
  have F534 : Fld Z h531 b531 "java/lang/String" "coder" "B" (.int 0) := D531 (Or.inr (wd hw 26 rfl)) (ty := .byte) (by decide)
  refine gy (St T531 m 23 #[vi 1, vi c0, vi c1, vi c2, vi c3, vi c4] [(.ref b531)]) st531 ?_
  refine gy (St T531 m 25 #[vi 1, vi c0, vi c1, vi c2, vi c3, vi c4] [(.int 1), (.ref b531), (.ref b531)]) (fun _ k => XS.dup X531.here hx rfl (dk d2_23) rfl rfl (XS.iconst X531.here hx rfl (dk d2_24) k)) ?_
  obtain ⟨T535, h535, k535, X535, e535, E535, A535, st535⟩ := newP X531 hx hZ (wd hw 12 rfl) e531 (g := (mkF m 25 #[vi 1, vi c0, vi c1, vi c2, vi c3, vi c4] [(.int 1), (.ref b531), (.ref b531)])) rfl (dk d2_25) rfl (by decide) (cap := 1) (by decide) (by decide) (by decide) (by decide)
  obtain ⟨b535, g535⟩ : ∃ z, z = h531.size := ⟨_, rfl⟩
  rw [← g535] at A535 st535
  have sz_b535 : h531.size ≤ b535 := Nat.le_of_eq g535.symm
  have V535 : Arv Z h535 b535 k535 .char (1 : Int32) [(.int 0)] (.int 0) := (Arv.new A535 (by decide)).pad (pad_rep [] (.int 0) 1)
  have O536 := O532.ext E535
  have Z536 : n0 ≤ h535.size := Nat.le_trans Z532 E535.1
  refine gy (St T535 m 27 #[vi 1, vi c0, vi c1, vi c2, vi c3, vi c4] [(.ref b535), (.ref b531), (.ref b531)]) st535 ?_
  refine gy (St T535 m 30 #[vi 1, vi c0, vi c1, vi c2, vi c3, vi c4] [(.int c0), (.int 0), (.ref b535), (.ref b535), (.ref b531), (.ref b531)]) (fun _ k => XS.dup X535.here hx rfl (dk d2_27) rfl rfl (XS.iconst X535.here hx rfl (dk d2_28) (XS.iloadN X535.here hx rfl (dk d2_29) rfl k))) ?_
  obtain ⟨cl537, Ar537, q537, S537, N_537, Hs537, G537⟩ := id V535
  have hin538 : ¬ ((0 : Int32) < 0 ∨ cl537.slots.size ≤ ((0 : Int32)).toNatClampNeg) := inb_of S537 ⟨by decide, by decide⟩
  obtain ⟨T538, h538, X538, e538, W538, st538⟩ := stC X535 hx hZ e535 Ar537 (j := (0 : Int32)) hin538 (g := (mkF m 30 #[vi 1, vi c0, vi c1, vi c2, vi c3, vi c4] [(.int c0), (.int 0), (.ref b535), (.ref b535), (.ref b531), (.ref b531)])) rfl rfl (dk d2_30)
  rw [own_nc hr0] at W538
  have O539 := O536.wr W538 (Nat.le_trans Z532 sz_b535)
  have Z539 : n0 ≤ h538.size := Nat.le_trans Z536 (Keep.of_wr W538).1
  have V538 : Arv Z h538 b535 k535 .char (1 : Int32) [(.int c0)] (.int 0) := Arv.set Ar537 q537 S537 N_537 Hs537 G537 (own_fc hr0) W538 0 rfl (Nat.le_of_ble_eq_true rfl)
  have N538 := Fr.snoc X538 N0 (Nat.le_trans Z532 sz_b535)
  refine gy (St T538 m 31 #[vi 1, vi c0, vi c1, vi c2, vi c3, vi c4] [(.ref b535), (.ref b531), (.ref b531)]) st538 ?_
  have f540 := ((F533.ext E535).other W538 (Or.inl (Nat.ne_of_lt (Nat.lt_of_lt_of_le A531.lt sz_b535))))
  have f541 := ((F534.ext E535).other W538 (Or.inl (Nat.ne_of_lt (Nat.lt_of_lt_of_le A531.lt sz_b535))))
  obtain ⟨_, _, ⟨T542, L542, k542, n542⟩, -, X542, ⟨Lc542, hQ542, l542, y542, z542⟩, st542⟩ := X538.specialBack hx (y := Y5) rfl hown (mvT hZ (wd hw 13 rfl)) (mvT hZ (wd hw 14 rfl)) (mvT hZ (wd hw 15 rfl)) (by decide) (backOf (W := 1) (rm_sC_1 l Z a0 hw [] b531 b535 k535 c0 cs h538 n0 Z539 O539 pr1 hcs pr3 pr4 pr5 ((A531.ext E535).wr W538) f540 f541 (Nat.le_trans Z0 sz_b531) V538 hr0) hZ (wd hw 15 rfl) (wd hw 11 rfl) (by decide) (by decide)) (g := (mkF m 31 #[vi 1, vi c0, vi c1, vi c2, vi c3, vi c4] [(.ref b535), (.ref b531), (.ref b531)])) rfl (by rw [hml]; rfl) (Steps.refl _) (a := b531) (argsL := [(.ref b535)]) (rest := [(.ref b531)]) (lenOf pd_8 rfl) rfl (by show 2 * 0 + _ ≤ _; exact Nat.le_of_eq rfl) (dk d2_31) (fun _ _ => ⟨rfl, e538, Nat.le_of_ble_eq_true rfl, Nat.le_of_ble_eq_true rfl⟩)
  dsimp only [Pt.U, Pt.locs, Pt.cells, Pt.slots] at X542 l542 y542 z542 st542 hQ542
  subst l542 y542 z542
  obtain ⟨t542, k542, u542, rfl, Nq542, K542, p542_0, p542_1, p542_2, p542_3, p542_4, p542_5, p542_6, p542_7⟩ := hQ542
  have N542 := Fr.app N538 Nq542
  have O543 := O539.keep K542 (allS (Nat.le_trans Z0 sz_b531) all0)
  have Z543 : n0 ≤ T542.heap.size := Nat.le_trans Z539 K542.1
  have sz_t542 : h538.size ≤ t542 := p542_2
  refine gy (St T542 m 34 #[vi 1, vi c0, vi c1, vi c2, vi c3, vi c4] [(.ref b531)]) (fun _ k => st542.trans k) ?_
  refine Go.ret X542 hx hlk (t := (.object "java/lang/String")) hret rfl (Or.inr (Or.inr (Or.inr (Or.inr ⟨rfl, rfl, rfl⟩)))) (dk d2_34) (by decide) (by decide) ?_
  exact ⟨b531, t542, k542, u542, rfl, N542, (((((Keep.refl h0 []).ext E531).ext E535).wr W538 (Or.inr (Nat.le_trans (Nat.le_trans (Nat.le_refl _) E531.1) sz_b535))).trans K542 (allS (Or.inr (Nat.le_trans (Nat.le_refl _) sz_b531)) all0)), p542_0, p542_1, (Nat.le_trans (Nat.le_trans (Nat.le_trans (Nat.le_trans (Nat.le_refl _) E531.1) E535.1) (Keep.of_wr W538).1) sz_t542), (Nat.le_trans (Nat.le_refl _) sz_b531), p542_3, p542_4, p542_5, p542_6, p542_7⟩
theorem ef_rm_str_2 (m : MethodId) (x1 : Int32) (x2 : Int32) (x3 : Int32) (x4 : Int32) (x5 : Int32) : entryFrame m #[(.int 2), (.int x1), (.int x2), (.int x3), (.int x4), (.int x5)] 6 = mkF m 0 #[vi 2, vi x1, vi x2, vi x3, vi x4, vi x5] [] := by first | (simp [entryFrame, mkF, argsToLocals, Value.category]; done) | rfl
theorem d2_35 : decode method_4_code 35 = .ok (.iload_n 0, 1) := by decide +kernel
theorem d2_36 : decode method_4_code 36 = .ok (.iconst 2, 1) := by decide +kernel
theorem d2_37 : decode method_4_code 37 = .ok (.if_icmp .ne 22, 3) := by decide +kernel
theorem d2_40 : decode method_4_code 40 = .ok (.new 8, 3) := by decide +kernel
theorem d2_43 : decode method_4_code 43 = .ok (.dup, 1) := by decide +kernel
theorem d2_44 : decode method_4_code 44 = .ok (.iconst 2, 1) := by decide +kernel
theorem d2_45 : decode method_4_code 45 = .ok (.newarray .char, 2) := by decide +kernel
theorem d2_47 : decode method_4_code 47 = .ok (.dup, 1) := by decide +kernel
theorem d2_48 : decode method_4_code 48 = .ok (.iconst 0, 1) := by decide +kernel
theorem d2_49 : decode method_4_code 49 = .ok (.iload_n 1, 1) := by decide +kernel
theorem d2_50 : decode method_4_code 50 = .ok (.castore, 1) := by decide +kernel
theorem d2_51 : decode method_4_code 51 = .ok (.dup, 1) := by decide +kernel
theorem d2_52 : decode method_4_code 52 = .ok (.iconst 1, 1) := by decide +kernel
theorem d2_53 : decode method_4_code 53 = .ok (.iload_n 2, 1) := by decide +kernel
theorem d2_54 : decode method_4_code 54 = .ok (.castore, 1) := by decide +kernel
theorem d2_55 : decode method_4_code 55 = .ok (.invokespecial 10, 3) := by decide +kernel
theorem d2_58 : decode method_4_code 58 = .ok (.areturn, 1) := by decide +kernel
def Q_rm_str_2 (Z : State) (c0 : Int32) (c1 : Int32) (c2 : Int32) (c3 : Int32) (c4 : Int32) (cs : Int32) (h0 : Heap) (n0 : Nat) (vv : Option Value) (h : Heap) (L : List Loc) : Prop := ∃ b : Addr, ∃ t : Addr, ∃ k : ClassId, ∃ u : Bool, vv = some (.ref b) ∧ Fr n0 L ∧ Keep h0 h [] ∧ Exa Z h b "java/lang/String" ∧ Fld Z h b "java/lang/String" "value" "[B" (.ref t) ∧ h0.size ≤ t ∧ h0.size ≤ b ∧ (u = false → ¬ (255 : Int32) < c0 ∧ ¬ (255 : Int32) < c1) ∧ (u = false → Arv Z h t k .byte (2 : Int32) [(.int (nar .byte (c0.toInt8.toInt32))), (.int (nar .byte (c1.toInt8.toInt32)))] (.int 0)) ∧ (u = true → Arv Z h t k .byte (4 : Int32) [(.int (own_b0 c0)), (.int (own_b1 c0)), (.int (own_b0 c1)), (.int (own_b1 c1))] (.int 0)) ∧ (u = false → Fld Z h b "java/lang/String" "coder" "B" (.int 0)) ∧ (u = true → Fld Z h b "java/lang/String" "coder" "B" (.int 1))
set_option maxRecDepth 65536 in
set_option maxHeartbeats 40000000 in
theorem rm_str_2 (l : Launch) (Z : State) (a0 : Array Value) (hw : HW a0 Z) (ws : List Jvm.Cond) (c0 : Int32) (c1 : Int32) (c2 : Int32) (c3 : Int32) (c4 : Int32) (cs : Int32) (h0 : Heap) (n0 : Nat) (Z0 : n0 ≤ h0.size) (pr0 : Old Z n0 h0) (pr1 : Sta Z Z.heap "java/lang/String" "COMPACT_STRINGS" "Z" (.int cs)) (hcs : ¬ (cs = (0 : Int32))) (pr3 : Sta Z Z.heap "java/lang/StringUTF16" "$assertionsDisabled" "Z" (.int 1)) (pr4 : Sta Z Z.heap "java/lang/StringUTF16" "HI_BYTE_SHIFT" "I" (.int 0)) (pr5 : Sta Z Z.heap "java/lang/StringUTF16" "LO_BYTE_SHIFT" "I" (.int 8)) (hr0 : own_rng c0) (hr1 : own_rng c1) (hr2 : own_rng c2) (hr3 : own_rng c3) (hr4 : own_rng c4) :
    Met l Z Y4 method_4_code 6 (some (.object "java/lang/String")) ws ({ frames := 6, cells := 4, slots := 12, locals := 88 } : Room) #[(.int 2), (.int c0), (.int c1), (.int c2), (.int c3), (.int c4)] h0 (Q_rm_str_2 Z c0 c1 c2 c3 c4 cs h0 n0) := by
  refine Met.enter (f0 := fun m => mkF m 0 #[vi 2, vi c0, vi c1, vi c2, vi c3, vi c4] []) (plainFor_of_name pn_com_example_vestwright_vestwright_FormatsIsYearPinLaw) (fun m => ef_rm_str_2 m c0 c1 c2 c3 c4) ?_
  intro p e s m below meth c s₁ hx hby hml hown hnm hret hlk hZ X0 e0
  have hown : s.vm.findClass "com/example/vestwright/vestwright/FormatsIsYearPinLaw" = some m.cls := hown
  have hnm : meth.name = "str" := hnm
  have hml : c.maxLocals = 6 := hml
  have dk : ∀ {i : Nat} {r : Except DecodeError (Instr × Nat)}, decode method_4_code i = r → decode c.code i = r := fun h => hb hby h
  have N0 := Fr.nil n0
  refine gy (St s₁ m 40 #[vi 2, vi c0, vi c1, vi c2, vi c3, vi c4] []) (fun _ k => XS.iloadN X0.here hx rfl (dk d2_0) rfl (XS.ifYes X0.here hx rfl (pc0 := 1) (pc' := 15) rfl (dk d2_1) rfl ((if0 _ _).trans (feq (by decide : ¬ ((2 : Int32) = (0 : Int32)))).2) (by decide) (by decide) (XS.iloadN X0.here hx rfl (dk d2_15) rfl (XS.iconst X0.here hx rfl (dk d2_16) (XS.icmpYes X0.here hx rfl (pc0 := 17) (pc' := 35) rfl (dk d2_17) rfl (feq (by decide : ¬ ((2 : Int32) = (1 : Int32)))).2 (by decide) (by decide) (XS.iloadN X0.here hx rfl (dk d2_35) rfl (XS.iconst X0.here hx rfl (dk d2_36) (XS.icmpNo X0.here hx rfl (dk d2_37) rfl (teq (by decide : (2 : Int32) = (2 : Int32))).2 k)))))))) ?_
  obtain ⟨T544, h544, X544, e544, E544, A544, D544, -, st544⟩ := newO X0 hx hZ hown (wd hw 9 rfl) (wd hw 10 rfl) (wd hw 11 rfl) e0 (g := (mkF m 40 #[vi 2, vi c0, vi c1, vi c2, vi c3, vi c4] [])) rfl (dk d2_40) (by decide) (by decide)
  obtain ⟨b544, g544⟩ : ∃ z, z = h0.size := ⟨_, rfl⟩
  rw [← g544] at A544 D544 st544
  have sz_b544 : h0.size ≤ b544 := Nat.le_of_eq g544.symm
  have O545 := pr0.ext E544
  have Z545 : n0 ≤ h544.size := Nat.le_trans Z0 E544.1
  have F546 : Fld Z h544 b544 "java/lang/String" "value" "[B" .null := D544 (Or.inr (wd hw 25 rfl)) (ty := (.array .byte)) (by decide)
  have F547 : Fld Z h544 b544 "java/lang/String" "coder" "B" (.int 0) := D544 (Or.inr (wd hw 26 rfl)) (ty := .byte) (by decide)
  refine gy (St T544 m 43 #[vi 2, vi c0, vi c1, vi c2, vi c3, vi c4] [(.ref b544)]) st544 ?_
  refine gy (St T544 m 45 #[vi 2, vi c0, vi c1, vi c2, vi c3, vi c4] [(.int 2), (.ref b544), (.ref b544)]) (fun _ k => XS.dup X544.here hx rfl (dk d2_43) rfl rfl (XS.iconst X544.here hx rfl (dk d2_44) k)) ?_
  obtain ⟨T548, h548, k548, X548, e548, E548, A548, st548⟩ := newP X544 hx hZ (wd hw 12 rfl) e544 (g := (mkF m 45 #[vi 2, vi c0, vi c1, vi c2, vi c3, vi c4] [(.int 2), (.ref b544), (.ref b544)])) rfl (dk d2_45) rfl (by decide) (cap := 2) (by decide) (by decide) (by decide) (by decide)
  obtain ⟨b548, g548⟩ : ∃ z, z = h544.size := ⟨_, rfl⟩
  rw [← g548] at A548 st548
  have sz_b548 : h544.size ≤ b548 := Nat.le_of_eq g548.symm
  have V548 : Arv Z h548 b548 k548 .char (2 : Int32) [(.int 0), (.int 0)] (.int 0) := (Arv.new A548 (by decide)).pad (pad_rep [] (.int 0) 2)
  have O549 := O545.ext E548
  have Z549 : n0 ≤ h548.size := Nat.le_trans Z545 E548.1
  refine gy (St T548 m 47 #[vi 2, vi c0, vi c1, vi c2, vi c3, vi c4] [(.ref b548), (.ref b544), (.ref b544)]) st548 ?_
  refine gy (St T548 m 50 #[vi 2, vi c0, vi c1, vi c2, vi c3, vi c4] [(.int c0), (.int 0), (.ref b548), (.ref b548), (.ref b544), (.ref b544)]) (fun _ k => XS.dup X548.here hx rfl (dk d2_47) rfl rfl (XS.iconst X548.here hx rfl (dk d2_48) (XS.iloadN X548.here hx rfl (dk d2_49) rfl k))) ?_
  obtain ⟨cl550, Ar550, q550, S550, N_550, Hs550, G550⟩ := id V548
  have hin551 : ¬ ((0 : Int32) < 0 ∨ cl550.slots.size ≤ ((0 : Int32)).toNatClampNeg) := inb_of S550 ⟨by decide, by decide⟩
  obtain ⟨T551, h551, X551, e551, W551, st551⟩ := stC X548 hx hZ e548 Ar550 (j := (0 : Int32)) hin551 (g := (mkF m 50 #[vi 2, vi c0, vi c1, vi c2, vi c3, vi c4] [(.int c0), (.int 0), (.ref b548), (.ref b548), (.ref b544), (.ref b544)])) rfl rfl (dk d2_50)
  rw [own_nc hr0] at W551
  have O552 := O549.wr W551 (Nat.le_trans Z545 sz_b548)
  have Z552 : n0 ≤ h551.size := Nat.le_trans Z549 (Keep.of_wr W551).1
  have V551 : Arv Z h551 b548 k548 .char (2 : Int32) [(.int c0), (.int 0)] (.int 0) := Arv.set Ar550 q550 S550 N_550 Hs550 G550 (own_fc hr0) W551 0 rfl (Nat.le_of_ble_eq_true rfl)
  have N551 := Fr.snoc X551 N0 (Nat.le_trans Z545 sz_b548)
  refine gy (St T551 m 51 #[vi 2, vi c0, vi c1, vi c2, vi c3, vi c4] [(.ref b548), (.ref b544), (.ref b544)]) st551 ?_
  refine gy (St T551 m 54 #[vi 2, vi c0, vi c1, vi c2, vi c3, vi c4] [(.int c1), (.int 1), (.ref b548), (.ref b548), (.ref b544), (.ref b544)]) (fun _ k => XS.dup X551.here hx rfl (dk d2_51) rfl rfl (XS.iconst X551.here hx rfl (dk d2_52) (XS.iloadN X551.here hx rfl (dk d2_53) rfl k))) ?_
  obtain ⟨cl553, Ar553, q553, S553, N_553, Hs553, G553⟩ := id V551
  have hin554 : ¬ ((1 : Int32) < 0 ∨ cl553.slots.size ≤ ((1 : Int32)).toNatClampNeg) := inb_of S553 ⟨by decide, by decide⟩
  obtain ⟨T554, h554, X554, e554, W554, st554⟩ := stC X551 hx hZ e551 Ar553 (j := (1 : Int32)) hin554 (g := (mkF m 54 #[vi 2, vi c0, vi c1, vi c2, vi c3, vi c4] [(.int c1), (.int 1), (.ref b548), (.ref b548), (.ref b544), (.ref b544)])) rfl rfl (dk d2_54)
  rw [own_nc hr1] at W554
  have O555 := O552.wr W554 (Nat.le_trans Z545 sz_b548)
  have Z555 : n0 ≤ h554.size := Nat.le_trans Z552 (Keep.of_wr W554).1
  have V554 : Arv Z h554 b548 k548 .char (2 : Int32) [(.int c0), (.int c1)] (.int 0) := Arv.set Ar553 q553 S553 N_553 Hs553 G553 (own_fc hr1) W554 1 rfl (Nat.le_of_ble_eq_true rfl)
  have N554 := Fr.snoc X554 N551 (Nat.le_trans Z545 sz_b548)
  refine gy (St T554 m 55 #[vi 2, vi c0, vi c1, vi c2, vi c3, vi c4] [(.ref b548), (.ref b544), (.ref b544)]) st554 ?_
  have f556 := (((A544.ext E548).wr W551).wr W554)
  have f557 := (((F546.ext E548).other W551 (Or.inl (Nat.ne_of_lt (Nat.lt_of_lt_of_le A544.lt sz_b548)))).other W554 (Or.inl (Nat.ne_of_lt (Nat.lt_of_lt_of_le A544.lt sz_b548))))
  have f558 := (((F547.ext E548).other W551 (Or.inl (Nat.ne_of_lt (Nat.lt_of_lt_of_le A544.lt sz_b548)))).other W554 (Or.inl (Nat.ne_of_lt (Nat.lt_of_lt_of_le A544.lt sz_b548))))
  obtain ⟨_, _, ⟨T559, L559, k559, n559⟩, -, X559, ⟨Lc559, hQ559, l559, y559, z559⟩, st559⟩ := X554.specialBack hx (y := Y5) rfl hown (mvT hZ (wd hw 13 rfl)) (mvT hZ (wd hw 14 rfl)) (mvT hZ (wd hw 15 rfl)) (by decide) (backOf (W := 1) (rm_sC_2 l Z a0 hw [] b544 b548 k548 c0 c1 cs h554 n0 Z555 O555 pr1 hcs pr3 pr4 pr5 f556 f557 f558 (Nat.le_trans Z0 sz_b544) V554 hr0 hr1) hZ (wd hw 15 rfl) (wd hw 11 rfl) (by decide) (by decide)) (g := (mkF m 55 #[vi 2, vi c0, vi c1, vi c2, vi c3, vi c4] [(.ref b548), (.ref b544), (.ref b544)])) rfl (by rw [hml]; rfl) (Steps.refl _) (a := b544) (argsL := [(.ref b548)]) (rest := [(.ref b544)]) (lenOf pd_8 rfl) rfl (by show 2 * 0 + _ ≤ _; exact Nat.le_of_eq rfl) (dk d2_55) (fun _ _ => ⟨rfl, e554, Nat.le_of_ble_eq_true rfl, Nat.le_of_ble_eq_true rfl⟩)
  dsimp only [Pt.U, Pt.locs, Pt.cells, Pt.slots] at X559 l559 y559 z559 st559 hQ559
  subst l559 y559 z559
  obtain ⟨t559, k559, u559, rfl, Nq559, K559, p559_0, p559_1, p559_2, p559_3, p559_4, p559_5, p559_6, p559_7⟩ := hQ559
  have N559 := Fr.app N554 Nq559
  have O560 := O555.keep K559 (allS (Nat.le_trans Z0 sz_b544) all0)
  have Z560 : n0 ≤ T559.heap.size := Nat.le_trans Z555 K559.1
  have sz_t559 : h554.size ≤ t559 := p559_2
  refine gy (St T559 m 58 #[vi 2, vi c0, vi c1, vi c2, vi c3, vi c4] [(.ref b544)]) (fun _ k => st559.trans k) ?_
  refine Go.ret X559 hx hlk (t := (.object "java/lang/String")) hret rfl (Or.inr (Or.inr (Or.inr (Or.inr ⟨rfl, rfl, rfl⟩)))) (dk d2_58) (by decide) (by decide) ?_
  exact ⟨b544, t559, k559, u559, rfl, N559, ((((((Keep.refl h0 []).ext E544).ext E548).wr W551 (Or.inr (Nat.le_trans (Nat.le_trans (Nat.le_refl _) E544.1) sz_b548))).wr W554 (Or.inr (Nat.le_trans (Nat.le_trans (Nat.le_refl _) E544.1) sz_b548))).trans K559 (allS (Or.inr (Nat.le_trans (Nat.le_refl _) sz_b544)) all0)), p559_0, p559_1, (Nat.le_trans (Nat.le_trans (Nat.le_trans (Nat.le_trans (Nat.le_trans (Nat.le_refl _) E544.1) E548.1) (Keep.of_wr W551).1) (Keep.of_wr W554).1) sz_t559), (Nat.le_trans (Nat.le_refl _) sz_b544), p559_3, p559_4, p559_5, p559_6, p559_7⟩
theorem ef_rm_str_3 (m : MethodId) (x1 : Int32) (x2 : Int32) (x3 : Int32) (x4 : Int32) (x5 : Int32) : entryFrame m #[(.int 3), (.int x1), (.int x2), (.int x3), (.int x4), (.int x5)] 6 = mkF m 0 #[vi 3, vi x1, vi x2, vi x3, vi x4, vi x5] [] := by first | (simp [entryFrame, mkF, argsToLocals, Value.category]; done) | rfl
theorem d2_59 : decode method_4_code 59 = .ok (.iload_n 0, 1) := by decide +kernel
theorem d2_60 : decode method_4_code 60 = .ok (.iconst 3, 1) := by decide +kernel
theorem d2_61 : decode method_4_code 61 = .ok (.if_icmp .ne 26, 3) := by decide +kernel
theorem d2_64 : decode method_4_code 64 = .ok (.new 8, 3) := by decide +kernel
theorem d2_67 : decode method_4_code 67 = .ok (.dup, 1) := by decide +kernel
theorem d2_68 : decode method_4_code 68 = .ok (.iconst 3, 1) := by decide +kernel
theorem d2_69 : decode method_4_code 69 = .ok (.newarray .char, 2) := by decide +kernel
theorem d2_71 : decode method_4_code 71 = .ok (.dup, 1) := by decide +kernel
theorem d2_72 : decode method_4_code 72 = .ok (.iconst 0, 1) := by decide +kernel
theorem d2_73 : decode method_4_code 73 = .ok (.iload_n 1, 1) := by decide +kernel
theorem d2_74 : decode method_4_code 74 = .ok (.castore, 1) := by decide +kernel
theorem d2_75 : decode method_4_code 75 = .ok (.dup, 1) := by decide +kernel
theorem d2_76 : decode method_4_code 76 = .ok (.iconst 1, 1) := by decide +kernel
theorem d2_77 : decode method_4_code 77 = .ok (.iload_n 2, 1) := by decide +kernel
theorem d2_78 : decode method_4_code 78 = .ok (.castore, 1) := by decide +kernel
theorem d2_79 : decode method_4_code 79 = .ok (.dup, 1) := by decide +kernel
theorem d2_80 : decode method_4_code 80 = .ok (.iconst 2, 1) := by decide +kernel
theorem d2_81 : decode method_4_code 81 = .ok (.iload_n 3, 1) := by decide +kernel
theorem d2_82 : decode method_4_code 82 = .ok (.castore, 1) := by decide +kernel
theorem d2_83 : decode method_4_code 83 = .ok (.invokespecial 10, 3) := by decide +kernel
theorem d2_86 : decode method_4_code 86 = .ok (.areturn, 1) := by decide +kernel
def Q_rm_str_3 (Z : State) (c0 : Int32) (c1 : Int32) (c2 : Int32) (c3 : Int32) (c4 : Int32) (cs : Int32) (h0 : Heap) (n0 : Nat) (vv : Option Value) (h : Heap) (L : List Loc) : Prop := ∃ b : Addr, ∃ t : Addr, ∃ k : ClassId, ∃ u : Bool, vv = some (.ref b) ∧ Fr n0 L ∧ Keep h0 h [] ∧ Exa Z h b "java/lang/String" ∧ Fld Z h b "java/lang/String" "value" "[B" (.ref t) ∧ h0.size ≤ t ∧ h0.size ≤ b ∧ (u = false → ¬ (255 : Int32) < c0 ∧ ¬ (255 : Int32) < c1 ∧ ¬ (255 : Int32) < c2) ∧ (u = false → Arv Z h t k .byte (3 : Int32) [(.int (nar .byte (c0.toInt8.toInt32))), (.int (nar .byte (c1.toInt8.toInt32))), (.int (nar .byte (c2.toInt8.toInt32)))] (.int 0)) ∧ (u = true → Arv Z h t k .byte (6 : Int32) [(.int (own_b0 c0)), (.int (own_b1 c0)), (.int (own_b0 c1)), (.int (own_b1 c1)), (.int (own_b0 c2)), (.int (own_b1 c2))] (.int 0)) ∧ (u = false → Fld Z h b "java/lang/String" "coder" "B" (.int 0)) ∧ (u = true → Fld Z h b "java/lang/String" "coder" "B" (.int 1))
set_option maxRecDepth 65536 in
set_option maxHeartbeats 40000000 in
theorem rm_str_3 (l : Launch) (Z : State) (a0 : Array Value) (hw : HW a0 Z) (ws : List Jvm.Cond) (c0 : Int32) (c1 : Int32) (c2 : Int32) (c3 : Int32) (c4 : Int32) (cs : Int32) (h0 : Heap) (n0 : Nat) (Z0 : n0 ≤ h0.size) (pr0 : Old Z n0 h0) (pr1 : Sta Z Z.heap "java/lang/String" "COMPACT_STRINGS" "Z" (.int cs)) (hcs : ¬ (cs = (0 : Int32))) (pr3 : Sta Z Z.heap "java/lang/StringUTF16" "$assertionsDisabled" "Z" (.int 1)) (pr4 : Sta Z Z.heap "java/lang/StringUTF16" "HI_BYTE_SHIFT" "I" (.int 0)) (pr5 : Sta Z Z.heap "java/lang/StringUTF16" "LO_BYTE_SHIFT" "I" (.int 8)) (hr0 : own_rng c0) (hr1 : own_rng c1) (hr2 : own_rng c2) (hr3 : own_rng c3) (hr4 : own_rng c4) :
    Met l Z Y4 method_4_code 6 (some (.object "java/lang/String")) ws ({ frames := 6, cells := 4, slots := 16, locals := 88 } : Room) #[(.int 3), (.int c0), (.int c1), (.int c2), (.int c3), (.int c4)] h0 (Q_rm_str_3 Z c0 c1 c2 c3 c4 cs h0 n0) := by
  refine Met.enter (f0 := fun m => mkF m 0 #[vi 3, vi c0, vi c1, vi c2, vi c3, vi c4] []) (plainFor_of_name pn_com_example_vestwright_vestwright_FormatsIsYearPinLaw) (fun m => ef_rm_str_3 m c0 c1 c2 c3 c4) ?_
  intro p e s m below meth c s₁ hx hby hml hown hnm hret hlk hZ X0 e0
  have hown : s.vm.findClass "com/example/vestwright/vestwright/FormatsIsYearPinLaw" = some m.cls := hown
  have hnm : meth.name = "str" := hnm
  have hml : c.maxLocals = 6 := hml
  have dk : ∀ {i : Nat} {r : Except DecodeError (Instr × Nat)}, decode method_4_code i = r → decode c.code i = r := fun h => hb hby h
  have N0 := Fr.nil n0
  refine gy (St s₁ m 59 #[vi 3, vi c0, vi c1, vi c2, vi c3, vi c4] []) (fun _ k => XS.iloadN X0.here hx rfl (dk d2_0) rfl (XS.ifYes X0.here hx rfl (pc0 := 1) (pc' := 15) rfl (dk d2_1) rfl ((if0 _ _).trans (feq (by decide : ¬ ((3 : Int32) = (0 : Int32)))).2) (by decide) (by decide) (XS.iloadN X0.here hx rfl (dk d2_15) rfl (XS.iconst X0.here hx rfl (dk d2_16) (XS.icmpYes X0.here hx rfl (pc0 := 17) (pc' := 35) rfl (dk d2_17) rfl (feq (by decide : ¬ ((3 : Int32) = (1 : Int32)))).2 (by decide) (by decide) (XS.iloadN X0.here hx rfl (dk d2_35) rfl (XS.iconst X0.here hx rfl (dk d2_36) (XS.icmpYes X0.here hx rfl (pc0 := 37) (pc' := 59) rfl (dk d2_37) rfl (feq (by decide : ¬ ((3 : Int32) = (2 : Int32)))).2 (by decide) (by decide) k)))))))) ?_
  refine gy (St s₁ m 64 #[vi 3, vi c0, vi c1, vi c2, vi c3, vi c4] []) (fun _ k => XS.iloadN X0.here hx rfl (dk d2_59) rfl (XS.iconst X0.here hx rfl (dk d2_60) (XS.icmpNo X0.here hx rfl (dk d2_61) rfl (teq (by decide : (3 : Int32) = (3 : Int32))).2 k))) ?_
  obtain ⟨T561, h561, X561, e561, E561, A561, D561, -, st561⟩ := newO X0 hx hZ hown (wd hw 9 rfl) (wd hw 10 rfl) (wd hw 11 rfl) e0 (g := (mkF m 64 #[vi 3, vi c0, vi c1, vi c2, vi c3, vi c4] [])) rfl (dk d2_64) (by decide) (by decide)
  obtain ⟨b561, g561⟩ : ∃ z, z = h0.size := ⟨_, rfl⟩
  rw [← g561] at A561 D561 st561
  have sz_b561 : h0.size ≤ b561 := Nat.le_of_eq g561.symm
  have O562 := pr0.ext E561
  have Z562 : n0 ≤ h561.size := Nat.le_trans Z0 E561.1
  have F563 : Fld Z h561 b561 "java/lang/String" "value" "[B" .null := D561 (Or.inr (wd hw 25 rfl)) (ty := (.array .byte)) (by decide)
  have F564 : Fld Z h561 b561 "java/lang/String" "coder" "B" (.int 0) := D561 (Or.inr (wd hw 26 rfl)) (ty := .byte) (by decide)
  refine gy (St T561 m 67 #[vi 3, vi c0, vi c1, vi c2, vi c3, vi c4] [(.ref b561)]) st561 ?_
  refine gy (St T561 m 69 #[vi 3, vi c0, vi c1, vi c2, vi c3, vi c4] [(.int 3), (.ref b561), (.ref b561)]) (fun _ k => XS.dup X561.here hx rfl (dk d2_67) rfl rfl (XS.iconst X561.here hx rfl (dk d2_68) k)) ?_
  obtain ⟨T565, h565, k565, X565, e565, E565, A565, st565⟩ := newP X561 hx hZ (wd hw 12 rfl) e561 (g := (mkF m 69 #[vi 3, vi c0, vi c1, vi c2, vi c3, vi c4] [(.int 3), (.ref b561), (.ref b561)])) rfl (dk d2_69) rfl (by decide) (cap := 3) (by decide) (by decide) (by decide) (by decide)
  obtain ⟨b565, g565⟩ : ∃ z, z = h561.size := ⟨_, rfl⟩
  rw [← g565] at A565 st565
  have sz_b565 : h561.size ≤ b565 := Nat.le_of_eq g565.symm
  have V565 : Arv Z h565 b565 k565 .char (3 : Int32) [(.int 0), (.int 0), (.int 0)] (.int 0) := (Arv.new A565 (by decide)).pad (pad_rep [] (.int 0) 3)
  have O566 := O562.ext E565
  have Z566 : n0 ≤ h565.size := Nat.le_trans Z562 E565.1
  refine gy (St T565 m 71 #[vi 3, vi c0, vi c1, vi c2, vi c3, vi c4] [(.ref b565), (.ref b561), (.ref b561)]) st565 ?_
  refine gy (St T565 m 74 #[vi 3, vi c0, vi c1, vi c2, vi c3, vi c4] [(.int c0), (.int 0), (.ref b565), (.ref b565), (.ref b561), (.ref b561)]) (fun _ k => XS.dup X565.here hx rfl (dk d2_71) rfl rfl (XS.iconst X565.here hx rfl (dk d2_72) (XS.iloadN X565.here hx rfl (dk d2_73) rfl k))) ?_
  obtain ⟨cl567, Ar567, q567, S567, N_567, Hs567, G567⟩ := id V565
  have hin568 : ¬ ((0 : Int32) < 0 ∨ cl567.slots.size ≤ ((0 : Int32)).toNatClampNeg) := inb_of S567 ⟨by decide, by decide⟩
  obtain ⟨T568, h568, X568, e568, W568, st568⟩ := stC X565 hx hZ e565 Ar567 (j := (0 : Int32)) hin568 (g := (mkF m 74 #[vi 3, vi c0, vi c1, vi c2, vi c3, vi c4] [(.int c0), (.int 0), (.ref b565), (.ref b565), (.ref b561), (.ref b561)])) rfl rfl (dk d2_74)
  rw [own_nc hr0] at W568
  have O569 := O566.wr W568 (Nat.le_trans Z562 sz_b565)
  have Z569 : n0 ≤ h568.size := Nat.le_trans Z566 (Keep.of_wr W568).1
  have V568 : Arv Z h568 b565 k565 .char (3 : Int32) [(.int c0), (.int 0), (.int 0)] (.int 0) := Arv.set Ar567 q567 S567 N_567 Hs567 G567 (own_fc hr0) W568 0 rfl (Nat.le_of_ble_eq_true rfl)
  have N568 := Fr.snoc X568 N0 (Nat.le_trans Z562 sz_b565)
  refine gy (St T568 m 75 #[vi 3, vi c0, vi c1, vi c2, vi c3, vi c4] [(.ref b565), (.ref b561), (.ref b561)]) st568 ?_
  refine gy (St T568 m 78 #[vi 3, vi c0, vi c1, vi c2, vi c3, vi c4] [(.int c1), (.int 1), (.ref b565), (.ref b565), (.ref b561), (.ref b561)]) (fun _ k => XS.dup X568.here hx rfl (dk d2_75) rfl rfl (XS.iconst X568.here hx rfl (dk d2_76) (XS.iloadN X568.here hx rfl (dk d2_77) rfl k))) ?_
  obtain ⟨cl570, Ar570, q570, S570, N_570, Hs570, G570⟩ := id V568
  have hin571 : ¬ ((1 : Int32) < 0 ∨ cl570.slots.size ≤ ((1 : Int32)).toNatClampNeg) := inb_of S570 ⟨by decide, by decide⟩
  obtain ⟨T571, h571, X571, e571, W571, st571⟩ := stC X568 hx hZ e568 Ar570 (j := (1 : Int32)) hin571 (g := (mkF m 78 #[vi 3, vi c0, vi c1, vi c2, vi c3, vi c4] [(.int c1), (.int 1), (.ref b565), (.ref b565), (.ref b561), (.ref b561)])) rfl rfl (dk d2_78)
  rw [own_nc hr1] at W571
  have O572 := O569.wr W571 (Nat.le_trans Z562 sz_b565)
  have Z572 : n0 ≤ h571.size := Nat.le_trans Z569 (Keep.of_wr W571).1
  have V571 : Arv Z h571 b565 k565 .char (3 : Int32) [(.int c0), (.int c1), (.int 0)] (.int 0) := Arv.set Ar570 q570 S570 N_570 Hs570 G570 (own_fc hr1) W571 1 rfl (Nat.le_of_ble_eq_true rfl)
  have N571 := Fr.snoc X571 N568 (Nat.le_trans Z562 sz_b565)
  refine gy (St T571 m 79 #[vi 3, vi c0, vi c1, vi c2, vi c3, vi c4] [(.ref b565), (.ref b561), (.ref b561)]) st571 ?_
  refine gy (St T571 m 82 #[vi 3, vi c0, vi c1, vi c2, vi c3, vi c4] [(.int c2), (.int 2), (.ref b565), (.ref b565), (.ref b561), (.ref b561)]) (fun _ k => XS.dup X571.here hx rfl (dk d2_79) rfl rfl (XS.iconst X571.here hx rfl (dk d2_80) (XS.iloadN X571.here hx rfl (dk d2_81) rfl k))) ?_
  obtain ⟨cl573, Ar573, q573, S573, N_573, Hs573, G573⟩ := id V571
  have hin574 : ¬ ((2 : Int32) < 0 ∨ cl573.slots.size ≤ ((2 : Int32)).toNatClampNeg) := inb_of S573 ⟨by decide, by decide⟩
  obtain ⟨T574, h574, X574, e574, W574, st574⟩ := stC X571 hx hZ e571 Ar573 (j := (2 : Int32)) hin574 (g := (mkF m 82 #[vi 3, vi c0, vi c1, vi c2, vi c3, vi c4] [(.int c2), (.int 2), (.ref b565), (.ref b565), (.ref b561), (.ref b561)])) rfl rfl (dk d2_82)
  rw [own_nc hr2] at W574
  have O575 := O572.wr W574 (Nat.le_trans Z562 sz_b565)
  have Z575 : n0 ≤ h574.size := Nat.le_trans Z572 (Keep.of_wr W574).1
  have V574 : Arv Z h574 b565 k565 .char (3 : Int32) [(.int c0), (.int c1), (.int c2)] (.int 0) := Arv.set Ar573 q573 S573 N_573 Hs573 G573 (own_fc hr2) W574 2 rfl (Nat.le_of_ble_eq_true rfl)
  have N574 := Fr.snoc X574 N571 (Nat.le_trans Z562 sz_b565)
  refine gy (St T574 m 83 #[vi 3, vi c0, vi c1, vi c2, vi c3, vi c4] [(.ref b565), (.ref b561), (.ref b561)]) st574 ?_
  have f576 := ((((A561.ext E565).wr W568).wr W571).wr W574)
  have f577 := ((((F563.ext E565).other W568 (Or.inl (Nat.ne_of_lt (Nat.lt_of_lt_of_le A561.lt sz_b565)))).other W571 (Or.inl (Nat.ne_of_lt (Nat.lt_of_lt_of_le A561.lt sz_b565)))).other W574 (Or.inl (Nat.ne_of_lt (Nat.lt_of_lt_of_le A561.lt sz_b565))))
  have f578 := ((((F564.ext E565).other W568 (Or.inl (Nat.ne_of_lt (Nat.lt_of_lt_of_le A561.lt sz_b565)))).other W571 (Or.inl (Nat.ne_of_lt (Nat.lt_of_lt_of_le A561.lt sz_b565)))).other W574 (Or.inl (Nat.ne_of_lt (Nat.lt_of_lt_of_le A561.lt sz_b565))))
  obtain ⟨_, _, ⟨T579, L579, k579, n579⟩, -, X579, ⟨Lc579, hQ579, l579, y579, z579⟩, st579⟩ := X574.specialBack hx (y := Y5) rfl hown (mvT hZ (wd hw 13 rfl)) (mvT hZ (wd hw 14 rfl)) (mvT hZ (wd hw 15 rfl)) (by decide) (backOf (W := 1) (rm_sC_3 l Z a0 hw [] b561 b565 k565 c0 c1 c2 cs h574 n0 Z575 O575 pr1 hcs pr3 pr4 pr5 f576 f577 f578 (Nat.le_trans Z0 sz_b561) V574 hr0 hr1 hr2) hZ (wd hw 15 rfl) (wd hw 11 rfl) (by decide) (by decide)) (g := (mkF m 83 #[vi 3, vi c0, vi c1, vi c2, vi c3, vi c4] [(.ref b565), (.ref b561), (.ref b561)])) rfl (by rw [hml]; rfl) (Steps.refl _) (a := b561) (argsL := [(.ref b565)]) (rest := [(.ref b561)]) (lenOf pd_8 rfl) rfl (by show 2 * 0 + _ ≤ _; exact Nat.le_of_eq rfl) (dk d2_83) (fun _ _ => ⟨rfl, e574, Nat.le_of_ble_eq_true rfl, Nat.le_of_ble_eq_true rfl⟩)
  dsimp only [Pt.U, Pt.locs, Pt.cells, Pt.slots] at X579 l579 y579 z579 st579 hQ579
  subst l579 y579 z579
  obtain ⟨t579, k579, u579, rfl, Nq579, K579, p579_0, p579_1, p579_2, p579_3, p579_4, p579_5, p579_6, p579_7⟩ := hQ579
  have N579 := Fr.app N574 Nq579
  have O580 := O575.keep K579 (allS (Nat.le_trans Z0 sz_b561) all0)
  have Z580 : n0 ≤ T579.heap.size := Nat.le_trans Z575 K579.1
  have sz_t579 : h574.size ≤ t579 := p579_2
  refine gy (St T579 m 86 #[vi 3, vi c0, vi c1, vi c2, vi c3, vi c4] [(.ref b561)]) (fun _ k => st579.trans k) ?_
  refine Go.ret X579 hx hlk (t := (.object "java/lang/String")) hret rfl (Or.inr (Or.inr (Or.inr (Or.inr ⟨rfl, rfl, rfl⟩)))) (dk d2_86) (by decide) (by decide) ?_
  exact ⟨b561, t579, k579, u579, rfl, N579, (((((((Keep.refl h0 []).ext E561).ext E565).wr W568 (Or.inr (Nat.le_trans (Nat.le_trans (Nat.le_refl _) E561.1) sz_b565))).wr W571 (Or.inr (Nat.le_trans (Nat.le_trans (Nat.le_refl _) E561.1) sz_b565))).wr W574 (Or.inr (Nat.le_trans (Nat.le_trans (Nat.le_refl _) E561.1) sz_b565))).trans K579 (allS (Or.inr (Nat.le_trans (Nat.le_refl _) sz_b561)) all0)), p579_0, p579_1, (Nat.le_trans (Nat.le_trans (Nat.le_trans (Nat.le_trans (Nat.le_trans (Nat.le_trans (Nat.le_refl _) E561.1) E565.1) (Keep.of_wr W568).1) (Keep.of_wr W571).1) (Keep.of_wr W574).1) sz_t579), (Nat.le_trans (Nat.le_refl _) sz_b561), p579_3, p579_4, p579_5, p579_6, p579_7⟩
theorem ef_rm_str_4 (m : MethodId) (x1 : Int32) (x2 : Int32) (x3 : Int32) (x4 : Int32) (x5 : Int32) : entryFrame m #[(.int 4), (.int x1), (.int x2), (.int x3), (.int x4), (.int x5)] 6 = mkF m 0 #[vi 4, vi x1, vi x2, vi x3, vi x4, vi x5] [] := by first | (simp [entryFrame, mkF, argsToLocals, Value.category]; done) | rfl
theorem d2_87 : decode method_4_code 87 = .ok (.iload_n 0, 1) := by decide +kernel
theorem d2_88 : decode method_4_code 88 = .ok (.iconst 4, 1) := by decide +kernel
theorem d2_89 : decode method_4_code 89 = .ok (.if_icmp .ne 31, 3) := by decide +kernel
theorem d2_92 : decode method_4_code 92 = .ok (.new 8, 3) := by decide +kernel
theorem d2_95 : decode method_4_code 95 = .ok (.dup, 1) := by decide +kernel
theorem d2_96 : decode method_4_code 96 = .ok (.iconst 4, 1) := by decide +kernel
theorem d2_97 : decode method_4_code 97 = .ok (.newarray .char, 2) := by decide +kernel
theorem d2_99 : decode method_4_code 99 = .ok (.dup, 1) := by decide +kernel
theorem d2_100 : decode method_4_code 100 = .ok (.iconst 0, 1) := by decide +kernel
theorem d2_101 : decode method_4_code 101 = .ok (.iload_n 1, 1) := by decide +kernel
theorem d2_102 : decode method_4_code 102 = .ok (.castore, 1) := by decide +kernel
theorem d2_103 : decode method_4_code 103 = .ok (.dup, 1) := by decide +kernel
theorem d2_104 : decode method_4_code 104 = .ok (.iconst 1, 1) := by decide +kernel
theorem d2_105 : decode method_4_code 105 = .ok (.iload_n 2, 1) := by decide +kernel
theorem d2_106 : decode method_4_code 106 = .ok (.castore, 1) := by decide +kernel
theorem d2_107 : decode method_4_code 107 = .ok (.dup, 1) := by decide +kernel
theorem d2_108 : decode method_4_code 108 = .ok (.iconst 2, 1) := by decide +kernel
theorem d2_109 : decode method_4_code 109 = .ok (.iload_n 3, 1) := by decide +kernel
theorem d2_110 : decode method_4_code 110 = .ok (.castore, 1) := by decide +kernel
theorem d2_111 : decode method_4_code 111 = .ok (.dup, 1) := by decide +kernel
theorem d2_112 : decode method_4_code 112 = .ok (.iconst 3, 1) := by decide +kernel
theorem d2_113 : decode method_4_code 113 = .ok (.iload 4, 2) := by decide +kernel
theorem d2_115 : decode method_4_code 115 = .ok (.castore, 1) := by decide +kernel
theorem d2_116 : decode method_4_code 116 = .ok (.invokespecial 10, 3) := by decide +kernel
theorem d2_119 : decode method_4_code 119 = .ok (.areturn, 1) := by decide +kernel
def Q_rm_str_4 (Z : State) (c0 : Int32) (c1 : Int32) (c2 : Int32) (c3 : Int32) (c4 : Int32) (cs : Int32) (h0 : Heap) (n0 : Nat) (vv : Option Value) (h : Heap) (L : List Loc) : Prop := ∃ b : Addr, ∃ t : Addr, ∃ k : ClassId, ∃ u : Bool, vv = some (.ref b) ∧ Fr n0 L ∧ Keep h0 h [] ∧ Exa Z h b "java/lang/String" ∧ Fld Z h b "java/lang/String" "value" "[B" (.ref t) ∧ h0.size ≤ t ∧ h0.size ≤ b ∧ (u = false → ¬ (255 : Int32) < c0 ∧ ¬ (255 : Int32) < c1 ∧ ¬ (255 : Int32) < c2 ∧ ¬ (255 : Int32) < c3) ∧ (u = false → Arv Z h t k .byte (4 : Int32) [(.int (nar .byte (c0.toInt8.toInt32))), (.int (nar .byte (c1.toInt8.toInt32))), (.int (nar .byte (c2.toInt8.toInt32))), (.int (nar .byte (c3.toInt8.toInt32)))] (.int 0)) ∧ (u = true → Arv Z h t k .byte (8 : Int32) [(.int (own_b0 c0)), (.int (own_b1 c0)), (.int (own_b0 c1)), (.int (own_b1 c1)), (.int (own_b0 c2)), (.int (own_b1 c2)), (.int (own_b0 c3)), (.int (own_b1 c3))] (.int 0)) ∧ (u = false → Fld Z h b "java/lang/String" "coder" "B" (.int 0)) ∧ (u = true → Fld Z h b "java/lang/String" "coder" "B" (.int 1))
set_option maxRecDepth 65536 in
set_option maxHeartbeats 40000000 in
theorem rm_str_4 (l : Launch) (Z : State) (a0 : Array Value) (hw : HW a0 Z) (ws : List Jvm.Cond) (c0 : Int32) (c1 : Int32) (c2 : Int32) (c3 : Int32) (c4 : Int32) (cs : Int32) (h0 : Heap) (n0 : Nat) (Z0 : n0 ≤ h0.size) (pr0 : Old Z n0 h0) (pr1 : Sta Z Z.heap "java/lang/String" "COMPACT_STRINGS" "Z" (.int cs)) (hcs : ¬ (cs = (0 : Int32))) (pr3 : Sta Z Z.heap "java/lang/StringUTF16" "$assertionsDisabled" "Z" (.int 1)) (pr4 : Sta Z Z.heap "java/lang/StringUTF16" "HI_BYTE_SHIFT" "I" (.int 0)) (pr5 : Sta Z Z.heap "java/lang/StringUTF16" "LO_BYTE_SHIFT" "I" (.int 8)) (hr0 : own_rng c0) (hr1 : own_rng c1) (hr2 : own_rng c2) (hr3 : own_rng c3) (hr4 : own_rng c4) :
    Met l Z Y4 method_4_code 6 (some (.object "java/lang/String")) ws ({ frames := 6, cells := 4, slots := 20, locals := 88 } : Room) #[(.int 4), (.int c0), (.int c1), (.int c2), (.int c3), (.int c4)] h0 (Q_rm_str_4 Z c0 c1 c2 c3 c4 cs h0 n0) := by
  refine Met.enter (f0 := fun m => mkF m 0 #[vi 4, vi c0, vi c1, vi c2, vi c3, vi c4] []) (plainFor_of_name pn_com_example_vestwright_vestwright_FormatsIsYearPinLaw) (fun m => ef_rm_str_4 m c0 c1 c2 c3 c4) ?_
  intro p e s m below meth c s₁ hx hby hml hown hnm hret hlk hZ X0 e0
  have hown : s.vm.findClass "com/example/vestwright/vestwright/FormatsIsYearPinLaw" = some m.cls := hown
  have hnm : meth.name = "str" := hnm
  have hml : c.maxLocals = 6 := hml
  have dk : ∀ {i : Nat} {r : Except DecodeError (Instr × Nat)}, decode method_4_code i = r → decode c.code i = r := fun h => hb hby h
  have N0 := Fr.nil n0
  refine gy (St s₁ m 59 #[vi 4, vi c0, vi c1, vi c2, vi c3, vi c4] []) (fun _ k => XS.iloadN X0.here hx rfl (dk d2_0) rfl (XS.ifYes X0.here hx rfl (pc0 := 1) (pc' := 15) rfl (dk d2_1) rfl ((if0 _ _).trans (feq (by decide : ¬ ((4 : Int32) = (0 : Int32)))).2) (by decide) (by decide) (XS.iloadN X0.here hx rfl (dk d2_15) rfl (XS.iconst X0.here hx rfl (dk d2_16) (XS.icmpYes X0.here hx rfl (pc0 := 17) (pc' := 35) rfl (dk d2_17) rfl (feq (by decide : ¬ ((4 : Int32) = (1 : Int32)))).2 (by decide) (by decide) (XS.iloadN X0.here hx rfl (dk d2_35) rfl (XS.iconst X0.here hx rfl (dk d2_36) (XS.icmpYes X0.here hx rfl (pc0 := 37) (pc' := 59) rfl (dk d2_37) rfl (feq (by decide : ¬ ((4 : Int32) = (2 : Int32)))).2 (by decide) (by decide) k)))))))) ?_
  refine gy (St s₁ m 92 #[vi 4, vi c0, vi c1, vi c2, vi c3, vi c4] []) (fun _ k => XS.iloadN X0.here hx rfl (dk d2_59) rfl (XS.iconst X0.here hx rfl (dk d2_60) (XS.icmpYes X0.here hx rfl (pc0 := 61) (pc' := 87) rfl (dk d2_61) rfl (feq (by decide : ¬ ((4 : Int32) = (3 : Int32)))).2 (by decide) (by decide) (XS.iloadN X0.here hx rfl (dk d2_87) rfl (XS.iconst X0.here hx rfl (dk d2_88) (XS.icmpNo X0.here hx rfl (dk d2_89) rfl (teq (by decide : (4 : Int32) = (4 : Int32))).2 k)))))) ?_
  obtain ⟨T581, h581, X581, e581, E581, A581, D581, -, st581⟩ := newO X0 hx hZ hown (wd hw 9 rfl) (wd hw 10 rfl) (wd hw 11 rfl) e0 (g := (mkF m 92 #[vi 4, vi c0, vi c1, vi c2, vi c3, vi c4] [])) rfl (dk d2_92) (by decide) (by decide)
  obtain ⟨b581, g581⟩ : ∃ z, z = h0.size := ⟨_, rfl⟩
  rw [← g581] at A581 D581 st581
  have sz_b581 : h0.size ≤ b581 := Nat.le_of_eq g581.symm
  have O582 := pr0.ext E581
  have Z582 : n0 ≤ h581.size := Nat.le_trans Z0 E581.1
  have F583 : Fld Z h581 b581 "java/lang/String" "value" "[B" .null := D581 (Or.inr (wd hw 25 rfl)) (ty := (.array .byte)) (by decide)
  have F584 : Fld Z h581 b581 "java/lang/String" "coder" "B" (.int 0) := D581 (Or.inr (wd hw 26 rfl)) (ty := .byte) (by decide)
  refine gy (St T581 m 95 #[vi 4, vi c0, vi c1, vi c2, vi c3, vi c4] [(.ref b581)]) st581 ?_
  refine gy (St T581 m 97 #[vi 4, vi c0, vi c1, vi c2, vi c3, vi c4] [(.int 4), (.ref b581), (.ref b581)]) (fun _ k => XS.dup X581.here hx rfl (dk d2_95) rfl rfl (XS.iconst X581.here hx rfl (dk d2_96) k)) ?_
  obtain ⟨T585, h585, k585, X585, e585, E585, A585, st585⟩ := newP X581 hx hZ (wd hw 12 rfl) e581 (g := (mkF m 97 #[vi 4, vi c0, vi c1, vi c2, vi c3, vi c4] [(.int 4), (.ref b581), (.ref b581)])) rfl (dk d2_97) rfl (by decide) (cap := 4) (by decide) (by decide) (by decide) (by decide)
  obtain ⟨b585, g585⟩ : ∃ z, z = h581.size := ⟨_, rfl⟩
  rw [← g585] at A585 st585
  have sz_b585 : h581.size ≤ b585 := Nat.le_of_eq g585.symm
  have V585 : Arv Z h585 b585 k585 .char (4 : Int32) [(.int 0), (.int 0), (.int 0), (.int 0)] (.int 0) := (Arv.new A585 (by decide)).pad (pad_rep [] (.int 0) 4)
  have O586 := O582.ext E585
  have Z586 : n0 ≤ h585.size := Nat.le_trans Z582 E585.1
  refine gy (St T585 m 99 #[vi 4, vi c0, vi c1, vi c2, vi c3, vi c4] [(.ref b585), (.ref b581), (.ref b581)]) st585 ?_
  refine gy (St T585 m 102 #[vi 4, vi c0, vi c1, vi c2, vi c3, vi c4] [(.int c0), (.int 0), (.ref b585), (.ref b585), (.ref b581), (.ref b581)]) (fun _ k => XS.dup X585.here hx rfl (dk d2_99) rfl rfl (XS.iconst X585.here hx rfl (dk d2_100) (XS.iloadN X585.here hx rfl (dk d2_101) rfl k))) ?_
  obtain ⟨cl587, Ar587, q587, S587, N_587, Hs587, G587⟩ := id V585
  have hin588 : ¬ ((0 : Int32) < 0 ∨ cl587.slots.size ≤ ((0 : Int32)).toNatClampNeg) := inb_of S587 ⟨by decide, by decide⟩
  obtain ⟨T588, h588, X588, e588, W588, st588⟩ := stC X585 hx hZ e585 Ar587 (j := (0 : Int32)) hin588 (g := (mkF m 102 #[vi 4, vi c0, vi c1, vi c2, vi c3, vi c4] [(.int c0), (.int 0), (.ref b585), (.ref b585), (.ref b581), (.ref b581)])) rfl rfl (dk d2_102)
  rw [own_nc hr0] at W588
  have O589 := O586.wr W588 (Nat.le_trans Z582 sz_b585)
  have Z589 : n0 ≤ h588.size := Nat.le_trans Z586 (Keep.of_wr W588).1
  have V588 : Arv Z h588 b585 k585 .char (4 : Int32) [(.int c0), (.int 0), (.int 0), (.int 0)] (.int 0) := Arv.set Ar587 q587 S587 N_587 Hs587 G587 (own_fc hr0) W588 0 rfl (Nat.le_of_ble_eq_true rfl)
  have N588 := Fr.snoc X588 N0 (Nat.le_trans Z582 sz_b585)
  refine gy (St T588 m 103 #[vi 4, vi c0, vi c1, vi c2, vi c3, vi c4] [(.ref b585), (.ref b581), (.ref b581)]) st588 ?_
  refine gy (St T588 m 106 #[vi 4, vi c0, vi c1, vi c2, vi c3, vi c4] [(.int c1), (.int 1), (.ref b585), (.ref b585), (.ref b581), (.ref b581)]) (fun _ k => XS.dup X588.here hx rfl (dk d2_103) rfl rfl (XS.iconst X588.here hx rfl (dk d2_104) (XS.iloadN X588.here hx rfl (dk d2_105) rfl k))) ?_
  obtain ⟨cl590, Ar590, q590, S590, N_590, Hs590, G590⟩ := id V588
  have hin591 : ¬ ((1 : Int32) < 0 ∨ cl590.slots.size ≤ ((1 : Int32)).toNatClampNeg) := inb_of S590 ⟨by decide, by decide⟩
  obtain ⟨T591, h591, X591, e591, W591, st591⟩ := stC X588 hx hZ e588 Ar590 (j := (1 : Int32)) hin591 (g := (mkF m 106 #[vi 4, vi c0, vi c1, vi c2, vi c3, vi c4] [(.int c1), (.int 1), (.ref b585), (.ref b585), (.ref b581), (.ref b581)])) rfl rfl (dk d2_106)
  rw [own_nc hr1] at W591
  have O592 := O589.wr W591 (Nat.le_trans Z582 sz_b585)
  have Z592 : n0 ≤ h591.size := Nat.le_trans Z589 (Keep.of_wr W591).1
  have V591 : Arv Z h591 b585 k585 .char (4 : Int32) [(.int c0), (.int c1), (.int 0), (.int 0)] (.int 0) := Arv.set Ar590 q590 S590 N_590 Hs590 G590 (own_fc hr1) W591 1 rfl (Nat.le_of_ble_eq_true rfl)
  have N591 := Fr.snoc X591 N588 (Nat.le_trans Z582 sz_b585)
  refine gy (St T591 m 107 #[vi 4, vi c0, vi c1, vi c2, vi c3, vi c4] [(.ref b585), (.ref b581), (.ref b581)]) st591 ?_
  refine gy (St T591 m 110 #[vi 4, vi c0, vi c1, vi c2, vi c3, vi c4] [(.int c2), (.int 2), (.ref b585), (.ref b585), (.ref b581), (.ref b581)]) (fun _ k => XS.dup X591.here hx rfl (dk d2_107) rfl rfl (XS.iconst X591.here hx rfl (dk d2_108) (XS.iloadN X591.here hx rfl (dk d2_109) rfl k))) ?_
  obtain ⟨cl593, Ar593, q593, S593, N_593, Hs593, G593⟩ := id V591
  have hin594 : ¬ ((2 : Int32) < 0 ∨ cl593.slots.size ≤ ((2 : Int32)).toNatClampNeg) := inb_of S593 ⟨by decide, by decide⟩
  obtain ⟨T594, h594, X594, e594, W594, st594⟩ := stC X591 hx hZ e591 Ar593 (j := (2 : Int32)) hin594 (g := (mkF m 110 #[vi 4, vi c0, vi c1, vi c2, vi c3, vi c4] [(.int c2), (.int 2), (.ref b585), (.ref b585), (.ref b581), (.ref b581)])) rfl rfl (dk d2_110)
  rw [own_nc hr2] at W594
  have O595 := O592.wr W594 (Nat.le_trans Z582 sz_b585)
  have Z595 : n0 ≤ h594.size := Nat.le_trans Z592 (Keep.of_wr W594).1
  have V594 : Arv Z h594 b585 k585 .char (4 : Int32) [(.int c0), (.int c1), (.int c2), (.int 0)] (.int 0) := Arv.set Ar593 q593 S593 N_593 Hs593 G593 (own_fc hr2) W594 2 rfl (Nat.le_of_ble_eq_true rfl)
  have N594 := Fr.snoc X594 N591 (Nat.le_trans Z582 sz_b585)
  refine gy (St T594 m 111 #[vi 4, vi c0, vi c1, vi c2, vi c3, vi c4] [(.ref b585), (.ref b581), (.ref b581)]) st594 ?_
  refine gy (St T594 m 115 #[vi 4, vi c0, vi c1, vi c2, vi c3, vi c4] [(.int c3), (.int 3), (.ref b585), (.ref b585), (.ref b581), (.ref b581)]) (fun _ k => XS.dup X594.here hx rfl (dk d2_111) rfl rfl (XS.iconst X594.here hx rfl (dk d2_112) (XS.iload X594.here hx rfl (dk d2_113) rfl k))) ?_
  obtain ⟨cl596, Ar596, q596, S596, N_596, Hs596, G596⟩ := id V594
  have hin597 : ¬ ((3 : Int32) < 0 ∨ cl596.slots.size ≤ ((3 : Int32)).toNatClampNeg) := inb_of S596 ⟨by decide, by decide⟩
  obtain ⟨T597, h597, X597, e597, W597, st597⟩ := stC X594 hx hZ e594 Ar596 (j := (3 : Int32)) hin597 (g := (mkF m 115 #[vi 4, vi c0, vi c1, vi c2, vi c3, vi c4] [(.int c3), (.int 3), (.ref b585), (.ref b585), (.ref b581), (.ref b581)])) rfl rfl (dk d2_115)
  rw [own_nc hr3] at W597
  have O598 := O595.wr W597 (Nat.le_trans Z582 sz_b585)
  have Z598 : n0 ≤ h597.size := Nat.le_trans Z595 (Keep.of_wr W597).1
  have V597 : Arv Z h597 b585 k585 .char (4 : Int32) [(.int c0), (.int c1), (.int c2), (.int c3)] (.int 0) := Arv.set Ar596 q596 S596 N_596 Hs596 G596 (own_fc hr3) W597 3 rfl (Nat.le_of_ble_eq_true rfl)
  have N597 := Fr.snoc X597 N594 (Nat.le_trans Z582 sz_b585)
  refine gy (St T597 m 116 #[vi 4, vi c0, vi c1, vi c2, vi c3, vi c4] [(.ref b585), (.ref b581), (.ref b581)]) st597 ?_
  have f599 := (((((A581.ext E585).wr W588).wr W591).wr W594).wr W597)
  have f600 := (((((F583.ext E585).other W588 (Or.inl (Nat.ne_of_lt (Nat.lt_of_lt_of_le A581.lt sz_b585)))).other W591 (Or.inl (Nat.ne_of_lt (Nat.lt_of_lt_of_le A581.lt sz_b585)))).other W594 (Or.inl (Nat.ne_of_lt (Nat.lt_of_lt_of_le A581.lt sz_b585)))).other W597 (Or.inl (Nat.ne_of_lt (Nat.lt_of_lt_of_le A581.lt sz_b585))))
  have f601 := (((((F584.ext E585).other W588 (Or.inl (Nat.ne_of_lt (Nat.lt_of_lt_of_le A581.lt sz_b585)))).other W591 (Or.inl (Nat.ne_of_lt (Nat.lt_of_lt_of_le A581.lt sz_b585)))).other W594 (Or.inl (Nat.ne_of_lt (Nat.lt_of_lt_of_le A581.lt sz_b585)))).other W597 (Or.inl (Nat.ne_of_lt (Nat.lt_of_lt_of_le A581.lt sz_b585))))
  obtain ⟨_, _, ⟨T602, L602, k602, n602⟩, -, X602, ⟨Lc602, hQ602, l602, y602, z602⟩, st602⟩ := X597.specialBack hx (y := Y5) rfl hown (mvT hZ (wd hw 13 rfl)) (mvT hZ (wd hw 14 rfl)) (mvT hZ (wd hw 15 rfl)) (by decide) (backOf (W := 1) (rm_sC_4 l Z a0 hw [] b581 b585 k585 c0 c1 c2 c3 cs h597 n0 Z598 O598 pr1 hcs pr3 pr4 pr5 f599 f600 f601 (Nat.le_trans Z0 sz_b581) V597 hr0 hr1 hr2 hr3) hZ (wd hw 15 rfl) (wd hw 11 rfl) (by decide) (by decide)) (g := (mkF m 116 #[vi 4, vi c0, vi c1, vi c2, vi c3, vi c4] [(.ref b585), (.ref b581), (.ref b581)])) rfl (by rw [hml]; rfl) (Steps.refl _) (a := b581) (argsL := [(.ref b585)]) (rest := [(.ref b581)]) (lenOf pd_8 rfl) rfl (by show 2 * 0 + _ ≤ _; exact Nat.le_of_eq rfl) (dk d2_116) (fun _ _ => ⟨rfl, e597, Nat.le_of_ble_eq_true rfl, Nat.le_of_ble_eq_true rfl⟩)
  dsimp only [Pt.U, Pt.locs, Pt.cells, Pt.slots] at X602 l602 y602 z602 st602 hQ602
  subst l602 y602 z602
  obtain ⟨t602, k602, u602, rfl, Nq602, K602, p602_0, p602_1, p602_2, p602_3, p602_4, p602_5, p602_6, p602_7⟩ := hQ602
  have N602 := Fr.app N597 Nq602
  have O603 := O598.keep K602 (allS (Nat.le_trans Z0 sz_b581) all0)
  have Z603 : n0 ≤ T602.heap.size := Nat.le_trans Z598 K602.1
  have sz_t602 : h597.size ≤ t602 := p602_2
  refine gy (St T602 m 119 #[vi 4, vi c0, vi c1, vi c2, vi c3, vi c4] [(.ref b581)]) (fun _ k => st602.trans k) ?_
  refine Go.ret X602 hx hlk (t := (.object "java/lang/String")) hret rfl (Or.inr (Or.inr (Or.inr (Or.inr ⟨rfl, rfl, rfl⟩)))) (dk d2_119) (by decide) (by decide) ?_
  exact ⟨b581, t602, k602, u602, rfl, N602, ((((((((Keep.refl h0 []).ext E581).ext E585).wr W588 (Or.inr (Nat.le_trans (Nat.le_trans (Nat.le_refl _) E581.1) sz_b585))).wr W591 (Or.inr (Nat.le_trans (Nat.le_trans (Nat.le_refl _) E581.1) sz_b585))).wr W594 (Or.inr (Nat.le_trans (Nat.le_trans (Nat.le_refl _) E581.1) sz_b585))).wr W597 (Or.inr (Nat.le_trans (Nat.le_trans (Nat.le_refl _) E581.1) sz_b585))).trans K602 (allS (Or.inr (Nat.le_trans (Nat.le_refl _) sz_b581)) all0)), p602_0, p602_1, (Nat.le_trans (Nat.le_trans (Nat.le_trans (Nat.le_trans (Nat.le_trans (Nat.le_trans (Nat.le_trans (Nat.le_refl _) E581.1) E585.1) (Keep.of_wr W588).1) (Keep.of_wr W591).1) (Keep.of_wr W594).1) (Keep.of_wr W597).1) sz_t602), (Nat.le_trans (Nat.le_refl _) sz_b581), p602_3, p602_4, p602_5, p602_6, p602_7⟩
theorem ef_rm_str_5 (m : MethodId) (x1 : Int32) (x2 : Int32) (x3 : Int32) (x4 : Int32) (x5 : Int32) : entryFrame m #[(.int 5), (.int x1), (.int x2), (.int x3), (.int x4), (.int x5)] 6 = mkF m 0 #[vi 5, vi x1, vi x2, vi x3, vi x4, vi x5] [] := by first | (simp [entryFrame, mkF, argsToLocals, Value.category]; done) | rfl
theorem d2_120 : decode method_4_code 120 = .ok (.new 8, 3) := by decide +kernel
theorem d2_123 : decode method_4_code 123 = .ok (.dup, 1) := by decide +kernel
theorem d2_124 : decode method_4_code 124 = .ok (.iconst 5, 1) := by decide +kernel
theorem d2_125 : decode method_4_code 125 = .ok (.newarray .char, 2) := by decide +kernel
theorem d2_127 : decode method_4_code 127 = .ok (.dup, 1) := by decide +kernel
theorem d2_128 : decode method_4_code 128 = .ok (.iconst 0, 1) := by decide +kernel
theorem d2_129 : decode method_4_code 129 = .ok (.iload_n 1, 1) := by decide +kernel
theorem d2_130 : decode method_4_code 130 = .ok (.castore, 1) := by decide +kernel
theorem d2_131 : decode method_4_code 131 = .ok (.dup, 1) := by decide +kernel
theorem d2_132 : decode method_4_code 132 = .ok (.iconst 1, 1) := by decide +kernel
theorem d2_133 : decode method_4_code 133 = .ok (.iload_n 2, 1) := by decide +kernel
theorem d2_134 : decode method_4_code 134 = .ok (.castore, 1) := by decide +kernel
theorem d2_135 : decode method_4_code 135 = .ok (.dup, 1) := by decide +kernel
theorem d2_136 : decode method_4_code 136 = .ok (.iconst 2, 1) := by decide +kernel
theorem d2_137 : decode method_4_code 137 = .ok (.iload_n 3, 1) := by decide +kernel
theorem d2_138 : decode method_4_code 138 = .ok (.castore, 1) := by decide +kernel
theorem d2_139 : decode method_4_code 139 = .ok (.dup, 1) := by decide +kernel
theorem d2_140 : decode method_4_code 140 = .ok (.iconst 3, 1) := by decide +kernel
theorem d2_141 : decode method_4_code 141 = .ok (.iload 4, 2) := by decide +kernel
theorem d2_143 : decode method_4_code 143 = .ok (.castore, 1) := by decide +kernel
theorem d2_144 : decode method_4_code 144 = .ok (.dup, 1) := by decide +kernel
theorem d2_145 : decode method_4_code 145 = .ok (.iconst 4, 1) := by decide +kernel
theorem d2_146 : decode method_4_code 146 = .ok (.iload 5, 2) := by decide +kernel
theorem d2_148 : decode method_4_code 148 = .ok (.castore, 1) := by decide +kernel
theorem d2_149 : decode method_4_code 149 = .ok (.invokespecial 10, 3) := by decide +kernel
theorem d2_152 : decode method_4_code 152 = .ok (.areturn, 1) := by decide +kernel
def Q_rm_str_5 (Z : State) (c0 : Int32) (c1 : Int32) (c2 : Int32) (c3 : Int32) (c4 : Int32) (cs : Int32) (h0 : Heap) (n0 : Nat) (vv : Option Value) (h : Heap) (L : List Loc) : Prop := ∃ b : Addr, ∃ t : Addr, ∃ k : ClassId, ∃ u : Bool, vv = some (.ref b) ∧ Fr n0 L ∧ Keep h0 h [] ∧ Exa Z h b "java/lang/String" ∧ Fld Z h b "java/lang/String" "value" "[B" (.ref t) ∧ h0.size ≤ t ∧ h0.size ≤ b ∧ (u = false → ¬ (255 : Int32) < c0 ∧ ¬ (255 : Int32) < c1 ∧ ¬ (255 : Int32) < c2 ∧ ¬ (255 : Int32) < c3 ∧ ¬ (255 : Int32) < c4) ∧ (u = false → Arv Z h t k .byte (5 : Int32) [(.int (nar .byte (c0.toInt8.toInt32))), (.int (nar .byte (c1.toInt8.toInt32))), (.int (nar .byte (c2.toInt8.toInt32))), (.int (nar .byte (c3.toInt8.toInt32))), (.int (nar .byte (c4.toInt8.toInt32)))] (.int 0)) ∧ (u = true → Arv Z h t k .byte (10 : Int32) [(.int (own_b0 c0)), (.int (own_b1 c0)), (.int (own_b0 c1)), (.int (own_b1 c1)), (.int (own_b0 c2)), (.int (own_b1 c2)), (.int (own_b0 c3)), (.int (own_b1 c3)), (.int (own_b0 c4)), (.int (own_b1 c4))] (.int 0)) ∧ (u = false → Fld Z h b "java/lang/String" "coder" "B" (.int 0)) ∧ (u = true → Fld Z h b "java/lang/String" "coder" "B" (.int 1))
set_option maxRecDepth 65536 in
set_option maxHeartbeats 40000000 in
theorem rm_str_5 (l : Launch) (Z : State) (a0 : Array Value) (hw : HW a0 Z) (ws : List Jvm.Cond) (c0 : Int32) (c1 : Int32) (c2 : Int32) (c3 : Int32) (c4 : Int32) (cs : Int32) (h0 : Heap) (n0 : Nat) (Z0 : n0 ≤ h0.size) (pr0 : Old Z n0 h0) (pr1 : Sta Z Z.heap "java/lang/String" "COMPACT_STRINGS" "Z" (.int cs)) (hcs : ¬ (cs = (0 : Int32))) (pr3 : Sta Z Z.heap "java/lang/StringUTF16" "$assertionsDisabled" "Z" (.int 1)) (pr4 : Sta Z Z.heap "java/lang/StringUTF16" "HI_BYTE_SHIFT" "I" (.int 0)) (pr5 : Sta Z Z.heap "java/lang/StringUTF16" "LO_BYTE_SHIFT" "I" (.int 8)) (hr0 : own_rng c0) (hr1 : own_rng c1) (hr2 : own_rng c2) (hr3 : own_rng c3) (hr4 : own_rng c4) :
    Met l Z Y4 method_4_code 6 (some (.object "java/lang/String")) ws ({ frames := 6, cells := 4, slots := 24, locals := 88 } : Room) #[(.int 5), (.int c0), (.int c1), (.int c2), (.int c3), (.int c4)] h0 (Q_rm_str_5 Z c0 c1 c2 c3 c4 cs h0 n0) := by
  refine Met.enter (f0 := fun m => mkF m 0 #[vi 5, vi c0, vi c1, vi c2, vi c3, vi c4] []) (plainFor_of_name pn_com_example_vestwright_vestwright_FormatsIsYearPinLaw) (fun m => ef_rm_str_5 m c0 c1 c2 c3 c4) ?_
  intro p e s m below meth c s₁ hx hby hml hown hnm hret hlk hZ X0 e0
  have hown : s.vm.findClass "com/example/vestwright/vestwright/FormatsIsYearPinLaw" = some m.cls := hown
  have hnm : meth.name = "str" := hnm
  have hml : c.maxLocals = 6 := hml
  have dk : ∀ {i : Nat} {r : Except DecodeError (Instr × Nat)}, decode method_4_code i = r → decode c.code i = r := fun h => hb hby h
  have N0 := Fr.nil n0
  refine gy (St s₁ m 59 #[vi 5, vi c0, vi c1, vi c2, vi c3, vi c4] []) (fun _ k => XS.iloadN X0.here hx rfl (dk d2_0) rfl (XS.ifYes X0.here hx rfl (pc0 := 1) (pc' := 15) rfl (dk d2_1) rfl ((if0 _ _).trans (feq (by decide : ¬ ((5 : Int32) = (0 : Int32)))).2) (by decide) (by decide) (XS.iloadN X0.here hx rfl (dk d2_15) rfl (XS.iconst X0.here hx rfl (dk d2_16) (XS.icmpYes X0.here hx rfl (pc0 := 17) (pc' := 35) rfl (dk d2_17) rfl (feq (by decide : ¬ ((5 : Int32) = (1 : Int32)))).2 (by decide) (by decide) (XS.iloadN X0.here hx rfl (dk d2_35) rfl (XS.iconst X0.here hx rfl (dk d2_36) (XS.icmpYes X0.here hx rfl (pc0 := 37) (pc' := 59) rfl (dk d2_37) rfl (feq (by decide : ¬ ((5 : Int32) = (2 : Int32)))).2 (by decide) (by decide) k)))))))) ?_
  refine gy (St s₁ m 120 #[vi 5, vi c0, vi c1, vi c2, vi c3, vi c4] []) (fun _ k => XS.iloadN X0.here hx rfl (dk d2_59) rfl (XS.iconst X0.here hx rfl (dk d2_60) (XS.icmpYes X0.here hx rfl (pc0 := 61) (pc' := 87) rfl (dk d2_61) rfl (feq (by decide : ¬ ((5 : Int32) = (3 : Int32)))).2 (by decide) (by decide) (XS.iloadN X0.here hx rfl (dk d2_87) rfl (XS.iconst X0.here hx rfl (dk d2_88) (XS.icmpYes X0.here hx rfl (pc0 := 89) (pc' := 120) rfl (dk d2_89) rfl (feq (by decide : ¬ ((5 : Int32) = (4 : Int32)))).2 (by decide) (by decide) k)))))) ?_
  obtain ⟨T604, h604, X604, e604, E604, A604, D604, -, st604⟩ := newO X0 hx hZ hown (wd hw 9 rfl) (wd hw 10 rfl) (wd hw 11 rfl) e0 (g := (mkF m 120 #[vi 5, vi c0, vi c1, vi c2, vi c3, vi c4] [])) rfl (dk d2_120) (by decide) (by decide)
  obtain ⟨b604, g604⟩ : ∃ z, z = h0.size := ⟨_, rfl⟩
  rw [← g604] at A604 D604 st604
  have sz_b604 : h0.size ≤ b604 := Nat.le_of_eq g604.symm
  have O605 := pr0.ext E604
  have Z605 : n0 ≤ h604.size := Nat.le_trans Z0 E604.1
  have F606 : Fld Z h604 b604 "java/lang/String" "value" "[B" .null := D604 (Or.inr (wd hw 25 rfl)) (ty := (.array .byte)) (by decide)
  have F607 : Fld Z h604 b604 "java/lang/String" "coder" "B" (.int 0) := D604 (Or.inr (wd hw 26 rfl)) (ty := .byte) (by decide)
  refine gy (St T604 m 123 #[vi 5, vi c0, vi c1, vi c2, vi c3, vi c4] [(.ref b604)]) st604 ?_
  refine gy (St T604 m 125 #[vi 5, vi c0, vi c1, vi c2, vi c3, vi c4] [(.int 5), (.ref b604), (.ref b604)]) (fun _ k => XS.dup X604.here hx rfl (dk d2_123) rfl rfl (XS.iconst X604.here hx rfl (dk d2_124) k)) ?_
  obtain ⟨T608, h608, k608, X608, e608, E608, A608, st608⟩ := newP X604 hx hZ (wd hw 12 rfl) e604 (g := (mkF m 125 #[vi 5, vi c0, vi c1, vi c2, vi c3, vi c4] [(.int 5), (.ref b604), (.ref b604)])) rfl (dk d2_125) rfl (by decide) (cap := 5) (by decide) (by decide) (by decide) (by decide)
  obtain ⟨b608, g608⟩ : ∃ z, z = h604.size := ⟨_, rfl⟩
  rw [← g608] at A608 st608
  have sz_b608 : h604.size ≤ b608 := Nat.le_of_eq g608.symm
  have V608 : Arv Z h608 b608 k608 .char (5 : Int32) [(.int 0), (.int 0), (.int 0), (.int 0), (.int 0)] (.int 0) := (Arv.new A608 (by decide)).pad (pad_rep [] (.int 0) 5)
  have O609 := O605.ext E608
  have Z609 : n0 ≤ h608.size := Nat.le_trans Z605 E608.1
  refine gy (St T608 m 127 #[vi 5, vi c0, vi c1, vi c2, vi c3, vi c4] [(.ref b608), (.ref b604), (.ref b604)]) st608 ?_
  refine gy (St T608 m 130 #[vi 5, vi c0, vi c1, vi c2, vi c3, vi c4] [(.int c0), (.int 0), (.ref b608), (.ref b608), (.ref b604), (.ref b604)]) (fun _ k => XS.dup X608.here hx rfl (dk d2_127) rfl rfl (XS.iconst X608.here hx rfl (dk d2_128) (XS.iloadN X608.here hx rfl (dk d2_129) rfl k))) ?_
  obtain ⟨cl610, Ar610, q610, S610, N_610, Hs610, G610⟩ := id V608
  have hin611 : ¬ ((0 : Int32) < 0 ∨ cl610.slots.size ≤ ((0 : Int32)).toNatClampNeg) := inb_of S610 ⟨by decide, by decide⟩
  obtain ⟨T611, h611, X611, e611, W611, st611⟩ := stC X608 hx hZ e608 Ar610 (j := (0 : Int32)) hin611 (g := (mkF m 130 #[vi 5, vi c0, vi c1, vi c2, vi c3, vi c4] [(.int c0), (.int 0), (.ref b608), (.ref b608), (.ref b604), (.ref b604)])) rfl rfl (dk d2_130)
  rw [own_nc hr0] at W611
  have O612 := O609.wr W611 (Nat.le_trans Z605 sz_b608)
  have Z612 : n0 ≤ h611.size := Nat.le_trans Z609 (Keep.of_wr W611).1
  have V611 : Arv Z h611 b608 k608 .char (5 : Int32) [(.int c0), (.int 0), (.int 0), (.int 0), (.int 0)] (.int 0) := Arv.set Ar610 q610 S610 N_610 Hs610 G610 (own_fc hr0) W611 0 rfl (Nat.le_of_ble_eq_true rfl)
  have N611 := Fr.snoc X611 N0 (Nat.le_trans Z605 sz_b608)
  refine gy (St T611 m 131 #[vi 5, vi c0, vi c1, vi c2, vi c3, vi c4] [(.ref b608), (.ref b604), (.ref b604)]) st611 ?_
  refine gy (St T611 m 134 #[vi 5, vi c0, vi c1, vi c2, vi c3, vi c4] [(.int c1), (.int 1), (.ref b608), (.ref b608), (.ref b604), (.ref b604)]) (fun _ k => XS.dup X611.here hx rfl (dk d2_131) rfl rfl (XS.iconst X611.here hx rfl (dk d2_132) (XS.iloadN X611.here hx rfl (dk d2_133) rfl k))) ?_
  obtain ⟨cl613, Ar613, q613, S613, N_613, Hs613, G613⟩ := id V611
  have hin614 : ¬ ((1 : Int32) < 0 ∨ cl613.slots.size ≤ ((1 : Int32)).toNatClampNeg) := inb_of S613 ⟨by decide, by decide⟩
  obtain ⟨T614, h614, X614, e614, W614, st614⟩ := stC X611 hx hZ e611 Ar613 (j := (1 : Int32)) hin614 (g := (mkF m 134 #[vi 5, vi c0, vi c1, vi c2, vi c3, vi c4] [(.int c1), (.int 1), (.ref b608), (.ref b608), (.ref b604), (.ref b604)])) rfl rfl (dk d2_134)
  rw [own_nc hr1] at W614
  have O615 := O612.wr W614 (Nat.le_trans Z605 sz_b608)
  have Z615 : n0 ≤ h614.size := Nat.le_trans Z612 (Keep.of_wr W614).1
  have V614 : Arv Z h614 b608 k608 .char (5 : Int32) [(.int c0), (.int c1), (.int 0), (.int 0), (.int 0)] (.int 0) := Arv.set Ar613 q613 S613 N_613 Hs613 G613 (own_fc hr1) W614 1 rfl (Nat.le_of_ble_eq_true rfl)
  have N614 := Fr.snoc X614 N611 (Nat.le_trans Z605 sz_b608)
  refine gy (St T614 m 135 #[vi 5, vi c0, vi c1, vi c2, vi c3, vi c4] [(.ref b608), (.ref b604), (.ref b604)]) st614 ?_
  refine gy (St T614 m 138 #[vi 5, vi c0, vi c1, vi c2, vi c3, vi c4] [(.int c2), (.int 2), (.ref b608), (.ref b608), (.ref b604), (.ref b604)]) (fun _ k => XS.dup X614.here hx rfl (dk d2_135) rfl rfl (XS.iconst X614.here hx rfl (dk d2_136) (XS.iloadN X614.here hx rfl (dk d2_137) rfl k))) ?_
  obtain ⟨cl616, Ar616, q616, S616, N_616, Hs616, G616⟩ := id V614
  have hin617 : ¬ ((2 : Int32) < 0 ∨ cl616.slots.size ≤ ((2 : Int32)).toNatClampNeg) := inb_of S616 ⟨by decide, by decide⟩
  obtain ⟨T617, h617, X617, e617, W617, st617⟩ := stC X614 hx hZ e614 Ar616 (j := (2 : Int32)) hin617 (g := (mkF m 138 #[vi 5, vi c0, vi c1, vi c2, vi c3, vi c4] [(.int c2), (.int 2), (.ref b608), (.ref b608), (.ref b604), (.ref b604)])) rfl rfl (dk d2_138)
  rw [own_nc hr2] at W617
  have O618 := O615.wr W617 (Nat.le_trans Z605 sz_b608)
  have Z618 : n0 ≤ h617.size := Nat.le_trans Z615 (Keep.of_wr W617).1
  have V617 : Arv Z h617 b608 k608 .char (5 : Int32) [(.int c0), (.int c1), (.int c2), (.int 0), (.int 0)] (.int 0) := Arv.set Ar616 q616 S616 N_616 Hs616 G616 (own_fc hr2) W617 2 rfl (Nat.le_of_ble_eq_true rfl)
  have N617 := Fr.snoc X617 N614 (Nat.le_trans Z605 sz_b608)
  refine gy (St T617 m 139 #[vi 5, vi c0, vi c1, vi c2, vi c3, vi c4] [(.ref b608), (.ref b604), (.ref b604)]) st617 ?_
  refine gy (St T617 m 143 #[vi 5, vi c0, vi c1, vi c2, vi c3, vi c4] [(.int c3), (.int 3), (.ref b608), (.ref b608), (.ref b604), (.ref b604)]) (fun _ k => XS.dup X617.here hx rfl (dk d2_139) rfl rfl (XS.iconst X617.here hx rfl (dk d2_140) (XS.iload X617.here hx rfl (dk d2_141) rfl k))) ?_
  obtain ⟨cl619, Ar619, q619, S619, N_619, Hs619, G619⟩ := id V617
  have hin620 : ¬ ((3 : Int32) < 0 ∨ cl619.slots.size ≤ ((3 : Int32)).toNatClampNeg) := inb_of S619 ⟨by decide, by decide⟩
  obtain ⟨T620, h620, X620, e620, W620, st620⟩ := stC X617 hx hZ e617 Ar619 (j := (3 : Int32)) hin620 (g := (mkF m 143 #[vi 5, vi c0, vi c1, vi c2, vi c3, vi c4] [(.int c3), (.int 3), (.ref b608), (.ref b608), (.ref b604), (.ref b604)])) rfl rfl (dk d2_143)
  rw [own_nc hr3] at W620
  have O621 := O618.wr W620 (Nat.le_trans Z605 sz_b608)
  have Z621 : n0 ≤ h620.size := Nat.le_trans Z618 (Keep.of_wr W620).1
  have V620 : Arv Z h620 b608 k608 .char (5 : Int32) [(.int c0), (.int c1), (.int c2), (.int c3), (.int 0)] (.int 0) := Arv.set Ar619 q619 S619 N_619 Hs619 G619 (own_fc hr3) W620 3 rfl (Nat.le_of_ble_eq_true rfl)
  have N620 := Fr.snoc X620 N617 (Nat.le_trans Z605 sz_b608)
  refine gy (St T620 m 144 #[vi 5, vi c0, vi c1, vi c2, vi c3, vi c4] [(.ref b608), (.ref b604), (.ref b604)]) st620 ?_
  refine gy (St T620 m 148 #[vi 5, vi c0, vi c1, vi c2, vi c3, vi c4] [(.int c4), (.int 4), (.ref b608), (.ref b608), (.ref b604), (.ref b604)]) (fun _ k => XS.dup X620.here hx rfl (dk d2_144) rfl rfl (XS.iconst X620.here hx rfl (dk d2_145) (XS.iload X620.here hx rfl (dk d2_146) rfl k))) ?_
  obtain ⟨cl622, Ar622, q622, S622, N_622, Hs622, G622⟩ := id V620
  have hin623 : ¬ ((4 : Int32) < 0 ∨ cl622.slots.size ≤ ((4 : Int32)).toNatClampNeg) := inb_of S622 ⟨by decide, by decide⟩
  obtain ⟨T623, h623, X623, e623, W623, st623⟩ := stC X620 hx hZ e620 Ar622 (j := (4 : Int32)) hin623 (g := (mkF m 148 #[vi 5, vi c0, vi c1, vi c2, vi c3, vi c4] [(.int c4), (.int 4), (.ref b608), (.ref b608), (.ref b604), (.ref b604)])) rfl rfl (dk d2_148)
  rw [own_nc hr4] at W623
  have O624 := O621.wr W623 (Nat.le_trans Z605 sz_b608)
  have Z624 : n0 ≤ h623.size := Nat.le_trans Z621 (Keep.of_wr W623).1
  have V623 : Arv Z h623 b608 k608 .char (5 : Int32) [(.int c0), (.int c1), (.int c2), (.int c3), (.int c4)] (.int 0) := Arv.set Ar622 q622 S622 N_622 Hs622 G622 (own_fc hr4) W623 4 rfl (Nat.le_of_ble_eq_true rfl)
  have N623 := Fr.snoc X623 N620 (Nat.le_trans Z605 sz_b608)
  refine gy (St T623 m 149 #[vi 5, vi c0, vi c1, vi c2, vi c3, vi c4] [(.ref b608), (.ref b604), (.ref b604)]) st623 ?_
  have f625 := ((((((A604.ext E608).wr W611).wr W614).wr W617).wr W620).wr W623)
  have f626 := ((((((F606.ext E608).other W611 (Or.inl (Nat.ne_of_lt (Nat.lt_of_lt_of_le A604.lt sz_b608)))).other W614 (Or.inl (Nat.ne_of_lt (Nat.lt_of_lt_of_le A604.lt sz_b608)))).other W617 (Or.inl (Nat.ne_of_lt (Nat.lt_of_lt_of_le A604.lt sz_b608)))).other W620 (Or.inl (Nat.ne_of_lt (Nat.lt_of_lt_of_le A604.lt sz_b608)))).other W623 (Or.inl (Nat.ne_of_lt (Nat.lt_of_lt_of_le A604.lt sz_b608))))
  have f627 := ((((((F607.ext E608).other W611 (Or.inl (Nat.ne_of_lt (Nat.lt_of_lt_of_le A604.lt sz_b608)))).other W614 (Or.inl (Nat.ne_of_lt (Nat.lt_of_lt_of_le A604.lt sz_b608)))).other W617 (Or.inl (Nat.ne_of_lt (Nat.lt_of_lt_of_le A604.lt sz_b608)))).other W620 (Or.inl (Nat.ne_of_lt (Nat.lt_of_lt_of_le A604.lt sz_b608)))).other W623 (Or.inl (Nat.ne_of_lt (Nat.lt_of_lt_of_le A604.lt sz_b608))))
  obtain ⟨_, _, ⟨T628, L628, k628, n628⟩, -, X628, ⟨Lc628, hQ628, l628, y628, z628⟩, st628⟩ := X623.specialBack hx (y := Y5) rfl hown (mvT hZ (wd hw 13 rfl)) (mvT hZ (wd hw 14 rfl)) (mvT hZ (wd hw 15 rfl)) (by decide) (backOf (W := 1) (rm_sC_5 l Z a0 hw [] b604 b608 k608 c0 c1 c2 c3 c4 cs h623 n0 Z624 O624 pr1 hcs pr3 pr4 pr5 f625 f626 f627 (Nat.le_trans Z0 sz_b604) V623 hr0 hr1 hr2 hr3 hr4) hZ (wd hw 15 rfl) (wd hw 11 rfl) (by decide) (by decide)) (g := (mkF m 149 #[vi 5, vi c0, vi c1, vi c2, vi c3, vi c4] [(.ref b608), (.ref b604), (.ref b604)])) rfl (by rw [hml]; rfl) (Steps.refl _) (a := b604) (argsL := [(.ref b608)]) (rest := [(.ref b604)]) (lenOf pd_8 rfl) rfl (by show 2 * 0 + _ ≤ _; exact Nat.le_of_eq rfl) (dk d2_149) (fun _ _ => ⟨rfl, e623, Nat.le_of_ble_eq_true rfl, Nat.le_of_ble_eq_true rfl⟩)
  dsimp only [Pt.U, Pt.locs, Pt.cells, Pt.slots] at X628 l628 y628 z628 st628 hQ628
  subst l628 y628 z628
  obtain ⟨t628, k628, u628, rfl, Nq628, K628, p628_0, p628_1, p628_2, p628_3, p628_4, p628_5, p628_6, p628_7⟩ := hQ628
  have N628 := Fr.app N623 Nq628
  have O629 := O624.keep K628 (allS (Nat.le_trans Z0 sz_b604) all0)
  have Z629 : n0 ≤ T628.heap.size := Nat.le_trans Z624 K628.1
  have sz_t628 : h623.size ≤ t628 := p628_2
  refine gy (St T628 m 152 #[vi 5, vi c0, vi c1, vi c2, vi c3, vi c4] [(.ref b604)]) (fun _ k => st628.trans k) ?_
  refine Go.ret X628 hx hlk (t := (.object "java/lang/String")) hret rfl (Or.inr (Or.inr (Or.inr (Or.inr ⟨rfl, rfl, rfl⟩)))) (dk d2_152) (by decide) (by decide) ?_
  exact ⟨b604, t628, k628, u628, rfl, N628, (((((((((Keep.refl h0 []).ext E604).ext E608).wr W611 (Or.inr (Nat.le_trans (Nat.le_trans (Nat.le_refl _) E604.1) sz_b608))).wr W614 (Or.inr (Nat.le_trans (Nat.le_trans (Nat.le_refl _) E604.1) sz_b608))).wr W617 (Or.inr (Nat.le_trans (Nat.le_trans (Nat.le_refl _) E604.1) sz_b608))).wr W620 (Or.inr (Nat.le_trans (Nat.le_trans (Nat.le_refl _) E604.1) sz_b608))).wr W623 (Or.inr (Nat.le_trans (Nat.le_trans (Nat.le_refl _) E604.1) sz_b608))).trans K628 (allS (Or.inr (Nat.le_trans (Nat.le_refl _) sz_b604)) all0)), p628_0, p628_1, (Nat.le_trans (Nat.le_trans (Nat.le_trans (Nat.le_trans (Nat.le_trans (Nat.le_trans (Nat.le_trans (Nat.le_trans (Nat.le_refl _) E604.1) E608.1) (Keep.of_wr W611).1) (Keep.of_wr W614).1) (Keep.of_wr W617).1) (Keep.of_wr W620).1) (Keep.of_wr W623).1) sz_t628), (Nat.le_trans (Nat.le_refl _) sz_b604), p628_3, p628_4, p628_5, p628_6, p628_7⟩
theorem ef_rm_coder0 (m : MethodId) (x0 : Addr) : entryFrame m #[(.ref x0)] 1 = mkF m 0 #[vr x0] [] := by first | (simp [entryFrame, mkF, argsToLocals, Value.category]; done) | rfl
theorem d8_0 : decode jdk_42_method_152_code 0 = .ok (.getstatic 38, 3) := by decide +kernel
theorem d8_3 : decode jdk_42_method_152_code 3 = .ok (.ifCond .eq 10, 3) := by decide +kernel
theorem d8_6 : decode jdk_42_method_152_code 6 = .ok (.aload_n 0, 1) := by decide +kernel
theorem d8_7 : decode jdk_42_method_152_code 7 = .ok (.getfield 15, 3) := by decide +kernel
theorem d8_10 : decode jdk_42_method_152_code 10 = .ok (.goto 4, 3) := by decide +kernel
theorem d8_14 : decode jdk_42_method_152_code 14 = .ok (.ireturn, 1) := by decide +kernel
def Q_rm_coder0 (Z : State) (a1 : Addr) (cs : Int32) (h0 : Heap) (n0 : Nat) (vv : Option Value) (h : Heap) (L : List Loc) : Prop := vv = some (.int 0) ∧ Fr n0 L ∧ h = h0
set_option maxRecDepth 65536 in
set_option maxHeartbeats 40000000 in
theorem rm_coder0 (l : Launch) (Z : State) (a0 : Array Value) (hw : HW a0 Z) (ws : List Jvm.Cond) (a1 : Addr) (cs : Int32) (h0 : Heap) (n0 : Nat) (Z0 : n0 ≤ h0.size) (pr0 : Old Z n0 h0) (pr1 : Sta Z Z.heap "java/lang/String" "COMPACT_STRINGS" "Z" (.int cs)) (hcs : ¬ (cs = (0 : Int32))) (pr3 : Fld Z h0 a1 "java/lang/String" "coder" "B" (.int 0)) :
    Met l Z Y9 jdk_42_method_152_code 1 (some .byte) ws ({ frames := 0, cells := 0, slots := 0, locals := 0 } : Room) #[(.ref a1)] h0 (Q_rm_coder0 Z a1 cs h0 n0) := by
  refine Met.enter (f0 := fun m => mkF m 0 #[vr a1] []) (plainFor_of_name pn_java_lang_String) (fun m => ef_rm_coder0 m a1) ?_
  intro p e s m below meth c s₁ hx hby hml hown hnm hret hlk hZ X0 e0
  have hown : s.vm.findClass "java/lang/String" = some m.cls := hown
  have hnm : meth.name = "coder" := hnm
  have hml : c.maxLocals = 1 := hml
  have dk : ∀ {i : Nat} {r : Except DecodeError (Instr × Nat)}, decode jdk_42_method_152_code i = r → decode c.code i = r := fun h => hb hby h
  have N0 := Fr.nil n0
  obtain ⟨T630, X630, e630, st630⟩ := getS2 X0 hx hZ hown (host := "") (Or.inl (wd hw 45 rfl)) Via.refl e0 (pr1.ext pr0.2) (g := (mkF m 0 #[vr a1] [])) rfl (dk d8_0)
  refine gy (St T630 m 3 #[vr a1] [(.int cs)]) st630 ?_
  refine gy (St T630 m 7 #[vr a1] [(.ref a1)]) (fun _ k => XS.ifNo X630.here hx rfl (dk d8_3) rfl ((if0 _ _).trans (feq hcs).1) (XS.aloadN X630.here hx rfl (dk d8_6) rfl rfl k)) ?_
  obtain ⟨T631, X631, e631, st631⟩ := getF X630 hx hZ hown (host := "") (Or.inl (wd hw 30 rfl)) Via.refl e630 pr3 (g := (mkF m 7 #[vr a1] [(.ref a1)])) rfl rfl (dk d8_7)
  refine gy (St T631 m 10 #[vr a1] [(.int 0)]) st631 ?_
  refine gy (St T631 m 14 #[vr a1] [(.int 0)]) (fun _ k => XS.goto X631.here hx rfl (pc0 := 10) (pc' := 14) rfl (dk d8_10) (by decide) (by decide) k) ?_
  refine Go.ret X631 hx hlk (t := .byte) hret rfl (Or.inl ⟨rfl, by simp, _, rfl⟩) (dk d8_14) (by decide) (by decide) ?_
  rw [e631]
  exact ⟨rfl, N0, rfl⟩
theorem ef_rm_isL0 (m : MethodId) (x0 : Addr) : entryFrame m #[(.ref x0)] 1 = mkF m 0 #[vr x0] [] := by first | (simp [entryFrame, mkF, argsToLocals, Value.category]; done) | rfl
theorem d15_0 : decode jdk_42_method_154_code 0 = .ok (.getstatic 38, 3) := by decide +kernel
theorem d15_3 : decode jdk_42_method_154_code 3 = .ok (.ifCond .eq 14, 3) := by decide +kernel
theorem d15_6 : decode jdk_42_method_154_code 6 = .ok (.aload_n 0, 1) := by decide +kernel
theorem d15_7 : decode jdk_42_method_154_code 7 = .ok (.getfield 15, 3) := by decide +kernel
theorem d15_10 : decode jdk_42_method_154_code 10 = .ok (.ifCond .ne 7, 3) := by decide +kernel
theorem d15_13 : decode jdk_42_method_154_code 13 = .ok (.iconst 1, 1) := by decide +kernel
theorem d15_14 : decode jdk_42_method_154_code 14 = .ok (.goto 4, 3) := by decide +kernel
theorem d15_18 : decode jdk_42_method_154_code 18 = .ok (.ireturn, 1) := by decide +kernel
def Q_rm_isL0 (Z : State) (a1 : Addr) (cs : Int32) (h0 : Heap) (n0 : Nat) (vv : Option Value) (h : Heap) (L : List Loc) : Prop := vv = some (.int 1) ∧ Fr n0 L ∧ h = h0
set_option maxRecDepth 65536 in
set_option maxHeartbeats 40000000 in
theorem rm_isL0 (l : Launch) (Z : State) (a0 : Array Value) (hw : HW a0 Z) (ws : List Jvm.Cond) (a1 : Addr) (cs : Int32) (h0 : Heap) (n0 : Nat) (Z0 : n0 ≤ h0.size) (pr0 : Old Z n0 h0) (pr1 : Sta Z Z.heap "java/lang/String" "COMPACT_STRINGS" "Z" (.int cs)) (hcs : ¬ (cs = (0 : Int32))) (pr3 : Fld Z h0 a1 "java/lang/String" "coder" "B" (.int 0)) :
    Met l Z Y10 jdk_42_method_154_code 1 (some .boolean) ws ({ frames := 0, cells := 0, slots := 0, locals := 0 } : Room) #[(.ref a1)] h0 (Q_rm_isL0 Z a1 cs h0 n0) := by
  refine Met.enter (f0 := fun m => mkF m 0 #[vr a1] []) (plainFor_of_name pn_java_lang_String) (fun m => ef_rm_isL0 m a1) ?_
  intro p e s m below meth c s₁ hx hby hml hown hnm hret hlk hZ X0 e0
  have hown : s.vm.findClass "java/lang/String" = some m.cls := hown
  have hnm : meth.name = "isLatin1" := hnm
  have hml : c.maxLocals = 1 := hml
  have dk : ∀ {i : Nat} {r : Except DecodeError (Instr × Nat)}, decode jdk_42_method_154_code i = r → decode c.code i = r := fun h => hb hby h
  have N0 := Fr.nil n0
  obtain ⟨T632, X632, e632, st632⟩ := getS2 X0 hx hZ hown (host := "") (Or.inl (wd hw 45 rfl)) Via.refl e0 (pr1.ext pr0.2) (g := (mkF m 0 #[vr a1] [])) rfl (dk d15_0)
  refine gy (St T632 m 3 #[vr a1] [(.int cs)]) st632 ?_
  refine gy (St T632 m 7 #[vr a1] [(.ref a1)]) (fun _ k => XS.ifNo X632.here hx rfl (dk d15_3) rfl ((if0 _ _).trans (feq hcs).1) (XS.aloadN X632.here hx rfl (dk d15_6) rfl rfl k)) ?_
  obtain ⟨T633, X633, e633, st633⟩ := getF X632 hx hZ hown (host := "") (Or.inl (wd hw 30 rfl)) Via.refl e632 pr3 (g := (mkF m 7 #[vr a1] [(.ref a1)])) rfl rfl (dk d15_7)
  refine gy (St T633 m 10 #[vr a1] [(.int 0)]) st633 ?_
  refine gy (St T633 m 18 #[vr a1] [(.int 1)]) (fun _ k => XS.ifNo X633.here hx rfl (dk d15_10) rfl ((if0 _ _).trans (teq (by decide : (0 : Int32) = (0 : Int32))).2) (XS.iconst X633.here hx rfl (dk d15_13) (XS.goto X633.here hx rfl (pc0 := 14) (pc' := 18) rfl (dk d15_14) (by decide) (by decide) k))) ?_
  refine Go.ret X633 hx hlk (t := .boolean) hret rfl (Or.inl ⟨rfl, by simp, _, rfl⟩) (dk d15_18) (by decide) (by decide) ?_
  rw [e633]
  exact ⟨rfl, N0, rfl⟩
theorem ef_rm_coder1 (m : MethodId) (x0 : Addr) : entryFrame m #[(.ref x0)] 1 = mkF m 0 #[vr x0] [] := by first | (simp [entryFrame, mkF, argsToLocals, Value.category]; done) | rfl
def Q_rm_coder1 (Z : State) (a1 : Addr) (cs : Int32) (h0 : Heap) (n0 : Nat) (vv : Option Value) (h : Heap) (L : List Loc) : Prop := vv = some (.int 1) ∧ Fr n0 L ∧ h = h0
set_option maxRecDepth 65536 in
set_option maxHeartbeats 40000000 in
theorem rm_coder1 (l : Launch) (Z : State) (a0 : Array Value) (hw : HW a0 Z) (ws : List Jvm.Cond) (a1 : Addr) (cs : Int32) (h0 : Heap) (n0 : Nat) (Z0 : n0 ≤ h0.size) (pr0 : Old Z n0 h0) (pr1 : Sta Z Z.heap "java/lang/String" "COMPACT_STRINGS" "Z" (.int cs)) (hcs : ¬ (cs = (0 : Int32))) (pr3 : Fld Z h0 a1 "java/lang/String" "coder" "B" (.int 1)) :
    Met l Z Y9 jdk_42_method_152_code 1 (some .byte) ws ({ frames := 0, cells := 0, slots := 0, locals := 0 } : Room) #[(.ref a1)] h0 (Q_rm_coder1 Z a1 cs h0 n0) := by
  refine Met.enter (f0 := fun m => mkF m 0 #[vr a1] []) (plainFor_of_name pn_java_lang_String) (fun m => ef_rm_coder1 m a1) ?_
  intro p e s m below meth c s₁ hx hby hml hown hnm hret hlk hZ X0 e0
  have hown : s.vm.findClass "java/lang/String" = some m.cls := hown
  have hnm : meth.name = "coder" := hnm
  have hml : c.maxLocals = 1 := hml
  have dk : ∀ {i : Nat} {r : Except DecodeError (Instr × Nat)}, decode jdk_42_method_152_code i = r → decode c.code i = r := fun h => hb hby h
  have N0 := Fr.nil n0
  obtain ⟨T634, X634, e634, st634⟩ := getS2 X0 hx hZ hown (host := "") (Or.inl (wd hw 45 rfl)) Via.refl e0 (pr1.ext pr0.2) (g := (mkF m 0 #[vr a1] [])) rfl (dk d8_0)
  refine gy (St T634 m 3 #[vr a1] [(.int cs)]) st634 ?_
  refine gy (St T634 m 7 #[vr a1] [(.ref a1)]) (fun _ k => XS.ifNo X634.here hx rfl (dk d8_3) rfl ((if0 _ _).trans (feq hcs).1) (XS.aloadN X634.here hx rfl (dk d8_6) rfl rfl k)) ?_
  obtain ⟨T635, X635, e635, st635⟩ := getF X634 hx hZ hown (host := "") (Or.inl (wd hw 30 rfl)) Via.refl e634 pr3 (g := (mkF m 7 #[vr a1] [(.ref a1)])) rfl rfl (dk d8_7)
  refine gy (St T635 m 10 #[vr a1] [(.int 1)]) st635 ?_
  refine gy (St T635 m 14 #[vr a1] [(.int 1)]) (fun _ k => XS.goto X635.here hx rfl (pc0 := 10) (pc' := 14) rfl (dk d8_10) (by decide) (by decide) k) ?_
  refine Go.ret X635 hx hlk (t := .byte) hret rfl (Or.inl ⟨rfl, by simp, _, rfl⟩) (dk d8_14) (by decide) (by decide) ?_
  rw [e635]
  exact ⟨rfl, N0, rfl⟩
theorem ef_rm_isL1 (m : MethodId) (x0 : Addr) : entryFrame m #[(.ref x0)] 1 = mkF m 0 #[vr x0] [] := by first | (simp [entryFrame, mkF, argsToLocals, Value.category]; done) | rfl
theorem d15_17 : decode jdk_42_method_154_code 17 = .ok (.iconst 0, 1) := by decide +kernel
def Q_rm_isL1 (Z : State) (a1 : Addr) (cs : Int32) (h0 : Heap) (n0 : Nat) (vv : Option Value) (h : Heap) (L : List Loc) : Prop := vv = some (.int 0) ∧ Fr n0 L ∧ h = h0
set_option maxRecDepth 65536 in
set_option maxHeartbeats 40000000 in
theorem rm_isL1 (l : Launch) (Z : State) (a0 : Array Value) (hw : HW a0 Z) (ws : List Jvm.Cond) (a1 : Addr) (cs : Int32) (h0 : Heap) (n0 : Nat) (Z0 : n0 ≤ h0.size) (pr0 : Old Z n0 h0) (pr1 : Sta Z Z.heap "java/lang/String" "COMPACT_STRINGS" "Z" (.int cs)) (hcs : ¬ (cs = (0 : Int32))) (pr3 : Fld Z h0 a1 "java/lang/String" "coder" "B" (.int 1)) :
    Met l Z Y10 jdk_42_method_154_code 1 (some .boolean) ws ({ frames := 0, cells := 0, slots := 0, locals := 0 } : Room) #[(.ref a1)] h0 (Q_rm_isL1 Z a1 cs h0 n0) := by
  refine Met.enter (f0 := fun m => mkF m 0 #[vr a1] []) (plainFor_of_name pn_java_lang_String) (fun m => ef_rm_isL1 m a1) ?_
  intro p e s m below meth c s₁ hx hby hml hown hnm hret hlk hZ X0 e0
  have hown : s.vm.findClass "java/lang/String" = some m.cls := hown
  have hnm : meth.name = "isLatin1" := hnm
  have hml : c.maxLocals = 1 := hml
  have dk : ∀ {i : Nat} {r : Except DecodeError (Instr × Nat)}, decode jdk_42_method_154_code i = r → decode c.code i = r := fun h => hb hby h
  have N0 := Fr.nil n0
  obtain ⟨T636, X636, e636, st636⟩ := getS2 X0 hx hZ hown (host := "") (Or.inl (wd hw 45 rfl)) Via.refl e0 (pr1.ext pr0.2) (g := (mkF m 0 #[vr a1] [])) rfl (dk d15_0)
  refine gy (St T636 m 3 #[vr a1] [(.int cs)]) st636 ?_
  refine gy (St T636 m 7 #[vr a1] [(.ref a1)]) (fun _ k => XS.ifNo X636.here hx rfl (dk d15_3) rfl ((if0 _ _).trans (feq hcs).1) (XS.aloadN X636.here hx rfl (dk d15_6) rfl rfl k)) ?_
  obtain ⟨T637, X637, e637, st637⟩ := getF X636 hx hZ hown (host := "") (Or.inl (wd hw 30 rfl)) Via.refl e636 pr3 (g := (mkF m 7 #[vr a1] [(.ref a1)])) rfl rfl (dk d15_7)
  refine gy (St T637 m 10 #[vr a1] [(.int 1)]) st637 ?_
  refine gy (St T637 m 18 #[vr a1] [(.int 0)]) (fun _ k => XS.ifYes X637.here hx rfl (pc0 := 10) (pc' := 17) rfl (dk d15_10) rfl ((if0 _ _).trans (feq (by decide : ¬ ((1 : Int32) = (0 : Int32)))).2) (by decide) (by decide) (XS.iconst X637.here hx rfl (dk d15_17) k)) ?_
  refine Go.ret X637 hx hlk (t := .boolean) hret rfl (Or.inl ⟨rfl, by simp, _, rfl⟩) (dk d15_18) (by decide) (by decide) ?_
  rw [e637]
  exact ⟨rfl, N0, rfl⟩
theorem ef_rm_len_0_0 (m : MethodId) (x0 : Addr) : entryFrame m #[(.ref x0)] 1 = mkF m 0 #[vr x0] [] := by first | (simp [entryFrame, mkF, argsToLocals, Value.category]; done) | rfl
theorem d7_0 : decode jdk_42_method_54_code 0 = .ok (.aload_n 0, 1) := by decide +kernel
theorem d7_1 : decode jdk_42_method_54_code 1 = .ok (.getfield 9, 3) := by decide +kernel
theorem d7_4 : decode jdk_42_method_54_code 4 = .ok (.arraylength, 1) := by decide +kernel
theorem d7_5 : decode jdk_42_method_54_code 5 = .ok (.aload_n 0, 1) := by decide +kernel
theorem d7_6 : decode jdk_42_method_54_code 6 = .ok (.invokevirtual 335, 3) := by decide +kernel
theorem pd_9 : parseMethodDescriptor "()B" = some ⟨[], some .byte⟩ := by decide +kernel
theorem d7_9 : decode jdk_42_method_54_code 9 = .ok (.ishr, 1) := by decide +kernel
theorem d7_10 : decode jdk_42_method_54_code 10 = .ok (.ireturn, 1) := by decide +kernel
def Q_rm_len_0_0 (Z : State) (a1 : Addr) (t1 : Addr) (k1 : ClassId) (cs : Int32) (vs : List Value) (h0 : Heap) (n0 : Nat) (vv : Option Value) (h : Heap) (L : List Loc) : Prop := vv = some (.int 0) ∧ Fr n0 L ∧ h = h0
set_option maxRecDepth 65536 in
set_option maxHeartbeats 40000000 in
theorem rm_len_0_0 (l : Launch) (Z : State) (a0 : Array Value) (hw : HW a0 Z) (ws : List Jvm.Cond) (a1 : Addr) (t1 : Addr) (k1 : ClassId) (cs : Int32) (vs : List Value) (h0 : Heap) (n0 : Nat) (Z0 : n0 ≤ h0.size) (pr0 : Old Z n0 h0) (pr1 : Sta Z Z.heap "java/lang/String" "COMPACT_STRINGS" "Z" (.int cs)) (hcs : ¬ (cs = (0 : Int32))) (pr3 : Exa Z h0 a1 "java/lang/String") (pr4 : Fld Z h0 a1 "java/lang/String" "value" "[B" (.ref t1)) (pr5 : Fld Z h0 a1 "java/lang/String" "coder" "B" (.int 0)) (pr6 : Arv Z h0 t1 k1 .byte (0 : Int32) vs (.int 0)) :
    Met l Z Y11 jdk_42_method_54_code 1 (some .int) ws ({ frames := 1, cells := 0, slots := 0, locals := 13 } : Room) #[(.ref a1)] h0 (Q_rm_len_0_0 Z a1 t1 k1 cs vs h0 n0) := by
  refine Met.enter (f0 := fun m => mkF m 0 #[vr a1] []) (plainFor_of_name pn_java_lang_String) (fun m => ef_rm_len_0_0 m a1) ?_
  intro p e s m below meth c s₁ hx hby hml hown hnm hret hlk hZ X0 e0
  have hown : s.vm.findClass "java/lang/String" = some m.cls := hown
  have hnm : meth.name = "length" := hnm
  have hml : c.maxLocals = 1 := hml
  have dk : ∀ {i : Nat} {r : Except DecodeError (Instr × Nat)}, decode jdk_42_method_54_code i = r → decode c.code i = r := fun h => hb hby h
  have N0 := Fr.nil n0
  refine gy (St s₁ m 1 #[vr a1] [(.ref a1)]) (fun _ k => XS.aloadN X0.here hx rfl (dk d7_0) rfl rfl k) ?_
  obtain ⟨T638, X638, e638, st638⟩ := getF X0 hx hZ hown (host := "") (Or.inl (wd hw 29 rfl)) Via.refl e0 pr4 (g := (mkF m 1 #[vr a1] [(.ref a1)])) rfl rfl (dk d7_1)
  refine gy (St T638 m 4 #[vr a1] [(.ref t1)]) st638 ?_
  obtain ⟨cl639, Ar639, q639, S639, N_639, Hs639, G639⟩ := id pr6
  refine gy (St T638 m 5 #[vr a1] [(.int 0)]) (fun _ k => X638.arraylength hx (by rw [e638]; exact Ar639.1) (State.isArrayOf_alike hZ.alike Ar639.2.1) (g := (mkF m 4 #[vr a1] [(.ref t1)])) rfl rfl (dk d7_4) _ (by rw [len_of S639 N_639]; exact k)) ?_
  refine gy (St T638 m 6 #[vr a1] [(.ref a1), (.int 0)]) (fun _ k => XS.aloadN X638.here hx rfl (dk d7_5) rfl rfl k) ?_
  obtain ⟨cq640, kq640, q640a, q640b, q640c⟩ := isOf hZ e638 pr3
  obtain ⟨_, _, ⟨T640, L640, k640, n640⟩, -, X640, ⟨Lc640, hQ640, l640, y640, z640⟩, st640⟩ := X638.virtualBack hx (y := Y9) (z := Y9) hown (mvT hZ (wd hw 40 rfl)) (mvT hZ (wd hw 41 rfl)) (notFace_of_selects (args := #[]) (mvT hZ (wd hw 43 rfl))) (mvT hZ (wd hw 43 rfl)) (mvT hZ (wd hw 42 rfl)) (by decide) (backOf (W := 1) (rm_coder0 l Z a0 hw [] a1 cs h0 n0 Z0 pr0 pr1 hcs pr5) hZ (wd hw 44 rfl) (wd hw 11 rfl) (by decide) (by decide)) q640a q640c (g := (mkF m 6 #[vr a1] [(.ref a1), (.int 0)])) rfl (by rw [hml]; rfl) (Steps.refl _) (argsL := []) (rest := [(.int 0)]) (lenOf pd_9 rfl) rfl (by show 2 * 0 + _ ≤ _; exact Nat.le_of_eq rfl) (dk d7_6) (fun _ _ => ⟨rfl, e638, Nat.le_of_ble_eq_true rfl, Nat.le_of_ble_eq_true rfl⟩)
  dsimp only [Pt.U, Pt.locs, Pt.cells, Pt.slots] at X640 l640 y640 z640 st640 hQ640
  subst l640 y640 z640
  obtain ⟨rfl, Nq640, hh640⟩ := hQ640
  have N640 := Fr.app N0 Nq640
  refine gy (St T640 m 9 #[vr a1] [(.int 0), (.int 0)]) (fun _ k => st640.trans k) ?_
  refine gy (St T640 m 10 #[vr a1] [(.int 0)]) (fun _ k => XS.ishr X640.here hx rfl (dk d7_9) rfl k) ?_
  refine Go.ret X640 hx hlk (t := .int) hret rfl (Or.inl ⟨rfl, by simp, _, rfl⟩) (dk d7_10) (by decide) (by decide) ?_
  rw [hh640]
  exact ⟨rfl, N640, rfl⟩
theorem ef_rm_isY_0_0 (m : MethodId) (x0 : Addr) : entryFrame m #[(.ref x0)] 1 = mkF m 0 #[vr x0] [] := by first | (simp [entryFrame, mkF, argsToLocals, Value.category]; done) | rfl
theorem d6_0 : decode prog_16_method_2_code 0 = .ok (.aload_n 0, 1) := by decide +kernel
theorem d6_1 : decode prog_16_method_2_code 1 = .ok (.invokevirtual 7, 3) := by decide +kernel
theorem pd_10 : parseMethodDescriptor "()I" = some ⟨[], some .int⟩ := by decide +kernel
theorem d6_4 : decode prog_16_method_2_code 4 = .ok (.iconst 4, 1) := by decide +kernel
theorem d6_5 : decode prog_16_method_2_code 5 = .ok (.if_icmp .ne 16, 3) := by decide +kernel
theorem d6_21 : decode prog_16_method_2_code 21 = .ok (.iconst 0, 1) := by decide +kernel
theorem d6_22 : decode prog_16_method_2_code 22 = .ok (.ireturn, 1) := by decide +kernel
theorem pn_com_example_vestwright_vestwright_Formats : plainName "com/example/vestwright/vestwright/Formats" = true := by first | (simp [plainName, overriddenIn]; done) | decide +kernel
def Q_rm_isY_0_0 (Z : State) (a1 : Addr) (t1 : Addr) (k1 : ClassId) (cs : Int32) (vs : List Value) (h0 : Heap) (n0 : Nat) (vv : Option Value) (h : Heap) (L : List Loc) : Prop := vv = some (.int 0) ∧ Fr n0 L ∧ h = h0
set_option maxRecDepth 65536 in
set_option maxHeartbeats 40000000 in
theorem rm_isY_0_0 (l : Launch) (Z : State) (a0 : Array Value) (hw : HW a0 Z) (ws : List Jvm.Cond) (a1 : Addr) (t1 : Addr) (k1 : ClassId) (cs : Int32) (vs : List Value) (h0 : Heap) (n0 : Nat) (Z0 : n0 ≤ h0.size) (pr0 : Old Z n0 h0) (pr1 : Sta Z Z.heap "java/lang/String" "COMPACT_STRINGS" "Z" (.int cs)) (hcs : ¬ (cs = (0 : Int32))) (pr3 : Exa Z h0 a1 "java/lang/String") (pr4 : Fld Z h0 a1 "java/lang/String" "value" "[B" (.ref t1)) (pr5 : Fld Z h0 a1 "java/lang/String" "coder" "B" (.int 0)) (pr6 : Arv Z h0 t1 k1 .byte (0 : Int32) vs (.int 0)) :
    Met l Z Y1 prog_16_method_2_code 1 (some .boolean) ws ({ frames := 2, cells := 0, slots := 0, locals := 25 } : Room) #[(.ref a1)] h0 (Q_rm_isY_0_0 Z a1 t1 k1 cs vs h0 n0) := by
  refine Met.enter (f0 := fun m => mkF m 0 #[vr a1] []) (plainFor_of_name pn_com_example_vestwright_vestwright_Formats) (fun m => ef_rm_isY_0_0 m a1) ?_
  intro p e s m below meth c s₁ hx hby hml hown hnm hret hlk hZ X0 e0
  have hown : s.vm.findClass "com/example/vestwright/vestwright/Formats" = some m.cls := hown
  have hnm : meth.name = "isYear" := hnm
  have hml : c.maxLocals = 1 := hml
  have dk : ∀ {i : Nat} {r : Except DecodeError (Instr × Nat)}, decode prog_16_method_2_code i = r → decode c.code i = r := fun h => hb hby h
  have N0 := Fr.nil n0
  refine gy (St s₁ m 1 #[vr a1] [(.ref a1)]) (fun _ k => XS.aloadN X0.here hx rfl (dk d6_0) rfl rfl k) ?_
  obtain ⟨cq641, kq641, q641a, q641b, q641c⟩ := isOf hZ e0 pr3
  obtain ⟨_, _, ⟨T641, L641, k641, n641⟩, -, X641, ⟨Lc641, hQ641, l641, y641, z641⟩, st641⟩ := X0.virtualBack hx (y := Y11) (z := Y11) hown (mvT hZ (wd hw 35 rfl)) (mvT hZ (wd hw 36 rfl)) (notFace_of_selects (args := #[]) (mvT hZ (wd hw 38 rfl))) (mvT hZ (wd hw 38 rfl)) (mvT hZ (wd hw 37 rfl)) (by decide) (backOf (W := 0) (rm_len_0_0 l Z a0 hw [] a1 t1 k1 cs vs h0 n0 Z0 pr0 pr1 hcs pr3 pr4 pr5 pr6) hZ (wd hw 39 rfl) (wd hw 11 rfl) (by decide) (by decide)) q641a q641c (g := (mkF m 1 #[vr a1] [(.ref a1)])) rfl (by rw [hml]; rfl) (Steps.refl _) (argsL := []) (rest := []) (lenOf pd_10 rfl) rfl (by show 2 * 0 + _ ≤ _; exact Nat.le_of_eq rfl) (dk d6_1) (fun _ _ => ⟨rfl, e0, Nat.le_of_ble_eq_true rfl, Nat.le_of_ble_eq_true rfl⟩)
  dsimp only [Pt.U, Pt.locs, Pt.cells, Pt.slots] at X641 l641 y641 z641 st641 hQ641
  subst l641 y641 z641
  obtain ⟨rfl, Nq641, hh641⟩ := hQ641
  have N641 := Fr.app N0 Nq641
  refine gy (St T641 m 4 #[vr a1] [(.int 0)]) (fun _ k => st641.trans k) ?_
  refine gy (St T641 m 22 #[vr a1] [(.int 0)]) (fun _ k => XS.iconst X641.here hx rfl (dk d6_4) (XS.icmpYes X641.here hx rfl (pc0 := 5) (pc' := 21) rfl (dk d6_5) rfl (feq (by decide : ¬ ((0 : Int32) = (4 : Int32)))).2 (by decide) (by decide) (XS.iconst X641.here hx rfl (dk d6_21) k))) ?_
  refine Go.ret X641 hx hlk (t := .boolean) hret rfl (Or.inl ⟨rfl, by simp, _, rfl⟩) (dk d6_22) (by decide) (by decide) ?_
  rw [hh641]
  exact ⟨rfl, N641, rfl⟩
theorem ef_rm_len_1_0 (m : MethodId) (x0 : Addr) : entryFrame m #[(.ref x0)] 1 = mkF m 0 #[vr x0] [] := by first | (simp [entryFrame, mkF, argsToLocals, Value.category]; done) | rfl
def Q_rm_len_1_0 (Z : State) (a1 : Addr) (t1 : Addr) (k1 : ClassId) (cs : Int32) (vs : List Value) (h0 : Heap) (n0 : Nat) (vv : Option Value) (h : Heap) (L : List Loc) : Prop := vv = some (.int 1) ∧ Fr n0 L ∧ h = h0
set_option maxRecDepth 65536 in
set_option maxHeartbeats 40000000 in
theorem rm_len_1_0 (l : Launch) (Z : State) (a0 : Array Value) (hw : HW a0 Z) (ws : List Jvm.Cond) (a1 : Addr) (t1 : Addr) (k1 : ClassId) (cs : Int32) (vs : List Value) (h0 : Heap) (n0 : Nat) (Z0 : n0 ≤ h0.size) (pr0 : Old Z n0 h0) (pr1 : Sta Z Z.heap "java/lang/String" "COMPACT_STRINGS" "Z" (.int cs)) (hcs : ¬ (cs = (0 : Int32))) (pr3 : Exa Z h0 a1 "java/lang/String") (pr4 : Fld Z h0 a1 "java/lang/String" "value" "[B" (.ref t1)) (pr5 : Fld Z h0 a1 "java/lang/String" "coder" "B" (.int 0)) (pr6 : Arv Z h0 t1 k1 .byte (1 : Int32) vs (.int 0)) :
    Met l Z Y11 jdk_42_method_54_code 1 (some .int) ws ({ frames := 1, cells := 0, slots := 0, locals := 13 } : Room) #[(.ref a1)] h0 (Q_rm_len_1_0 Z a1 t1 k1 cs vs h0 n0) := by
  refine Met.enter (f0 := fun m => mkF m 0 #[vr a1] []) (plainFor_of_name pn_java_lang_String) (fun m => ef_rm_len_1_0 m a1) ?_
  intro p e s m below meth c s₁ hx hby hml hown hnm hret hlk hZ X0 e0
  have hown : s.vm.findClass "java/lang/String" = some m.cls := hown
  have hnm : meth.name = "length" := hnm
  have hml : c.maxLocals = 1 := hml
  have dk : ∀ {i : Nat} {r : Except DecodeError (Instr × Nat)}, decode jdk_42_method_54_code i = r → decode c.code i = r := fun h => hb hby h
  have N0 := Fr.nil n0
  refine gy (St s₁ m 1 #[vr a1] [(.ref a1)]) (fun _ k => XS.aloadN X0.here hx rfl (dk d7_0) rfl rfl k) ?_
  obtain ⟨T642, X642, e642, st642⟩ := getF X0 hx hZ hown (host := "") (Or.inl (wd hw 29 rfl)) Via.refl e0 pr4 (g := (mkF m 1 #[vr a1] [(.ref a1)])) rfl rfl (dk d7_1)
  refine gy (St T642 m 4 #[vr a1] [(.ref t1)]) st642 ?_
  obtain ⟨cl643, Ar643, q643, S643, N_643, Hs643, G643⟩ := id pr6
  refine gy (St T642 m 5 #[vr a1] [(.int 1)]) (fun _ k => X642.arraylength hx (by rw [e642]; exact Ar643.1) (State.isArrayOf_alike hZ.alike Ar643.2.1) (g := (mkF m 4 #[vr a1] [(.ref t1)])) rfl rfl (dk d7_4) _ (by rw [len_of S643 N_643]; exact k)) ?_
  refine gy (St T642 m 6 #[vr a1] [(.ref a1), (.int 1)]) (fun _ k => XS.aloadN X642.here hx rfl (dk d7_5) rfl rfl k) ?_
  obtain ⟨cq644, kq644, q644a, q644b, q644c⟩ := isOf hZ e642 pr3
  obtain ⟨_, _, ⟨T644, L644, k644, n644⟩, -, X644, ⟨Lc644, hQ644, l644, y644, z644⟩, st644⟩ := X642.virtualBack hx (y := Y9) (z := Y9) hown (mvT hZ (wd hw 40 rfl)) (mvT hZ (wd hw 41 rfl)) (notFace_of_selects (args := #[]) (mvT hZ (wd hw 43 rfl))) (mvT hZ (wd hw 43 rfl)) (mvT hZ (wd hw 42 rfl)) (by decide) (backOf (W := 1) (rm_coder0 l Z a0 hw [] a1 cs h0 n0 Z0 pr0 pr1 hcs pr5) hZ (wd hw 44 rfl) (wd hw 11 rfl) (by decide) (by decide)) q644a q644c (g := (mkF m 6 #[vr a1] [(.ref a1), (.int 1)])) rfl (by rw [hml]; rfl) (Steps.refl _) (argsL := []) (rest := [(.int 1)]) (lenOf pd_9 rfl) rfl (by show 2 * 0 + _ ≤ _; exact Nat.le_of_eq rfl) (dk d7_6) (fun _ _ => ⟨rfl, e642, Nat.le_of_ble_eq_true rfl, Nat.le_of_ble_eq_true rfl⟩)
  dsimp only [Pt.U, Pt.locs, Pt.cells, Pt.slots] at X644 l644 y644 z644 st644 hQ644
  subst l644 y644 z644
  obtain ⟨rfl, Nq644, hh644⟩ := hQ644
  have N644 := Fr.app N0 Nq644
  refine gy (St T644 m 9 #[vr a1] [(.int 0), (.int 1)]) (fun _ k => st644.trans k) ?_
  refine gy (St T644 m 10 #[vr a1] [(.int 1)]) (fun _ k => XS.ishr X644.here hx rfl (dk d7_9) rfl k) ?_
  refine Go.ret X644 hx hlk (t := .int) hret rfl (Or.inl ⟨rfl, by simp, _, rfl⟩) (dk d7_10) (by decide) (by decide) ?_
  rw [hh644]
  exact ⟨rfl, N644, rfl⟩
theorem ef_rm_isY_1_0 (m : MethodId) (x0 : Addr) : entryFrame m #[(.ref x0)] 1 = mkF m 0 #[vr x0] [] := by first | (simp [entryFrame, mkF, argsToLocals, Value.category]; done) | rfl
def Q_rm_isY_1_0 (Z : State) (a1 : Addr) (t1 : Addr) (k1 : ClassId) (cs : Int32) (vs : List Value) (h0 : Heap) (n0 : Nat) (vv : Option Value) (h : Heap) (L : List Loc) : Prop := vv = some (.int 0) ∧ Fr n0 L ∧ h = h0
set_option maxRecDepth 65536 in
set_option maxHeartbeats 40000000 in
theorem rm_isY_1_0 (l : Launch) (Z : State) (a0 : Array Value) (hw : HW a0 Z) (ws : List Jvm.Cond) (a1 : Addr) (t1 : Addr) (k1 : ClassId) (cs : Int32) (vs : List Value) (h0 : Heap) (n0 : Nat) (Z0 : n0 ≤ h0.size) (pr0 : Old Z n0 h0) (pr1 : Sta Z Z.heap "java/lang/String" "COMPACT_STRINGS" "Z" (.int cs)) (hcs : ¬ (cs = (0 : Int32))) (pr3 : Exa Z h0 a1 "java/lang/String") (pr4 : Fld Z h0 a1 "java/lang/String" "value" "[B" (.ref t1)) (pr5 : Fld Z h0 a1 "java/lang/String" "coder" "B" (.int 0)) (pr6 : Arv Z h0 t1 k1 .byte (1 : Int32) vs (.int 0)) :
    Met l Z Y1 prog_16_method_2_code 1 (some .boolean) ws ({ frames := 2, cells := 0, slots := 0, locals := 25 } : Room) #[(.ref a1)] h0 (Q_rm_isY_1_0 Z a1 t1 k1 cs vs h0 n0) := by
  refine Met.enter (f0 := fun m => mkF m 0 #[vr a1] []) (plainFor_of_name pn_com_example_vestwright_vestwright_Formats) (fun m => ef_rm_isY_1_0 m a1) ?_
  intro p e s m below meth c s₁ hx hby hml hown hnm hret hlk hZ X0 e0
  have hown : s.vm.findClass "com/example/vestwright/vestwright/Formats" = some m.cls := hown
  have hnm : meth.name = "isYear" := hnm
  have hml : c.maxLocals = 1 := hml
  have dk : ∀ {i : Nat} {r : Except DecodeError (Instr × Nat)}, decode prog_16_method_2_code i = r → decode c.code i = r := fun h => hb hby h
  have N0 := Fr.nil n0
  refine gy (St s₁ m 1 #[vr a1] [(.ref a1)]) (fun _ k => XS.aloadN X0.here hx rfl (dk d6_0) rfl rfl k) ?_
  obtain ⟨cq645, kq645, q645a, q645b, q645c⟩ := isOf hZ e0 pr3
  obtain ⟨_, _, ⟨T645, L645, k645, n645⟩, -, X645, ⟨Lc645, hQ645, l645, y645, z645⟩, st645⟩ := X0.virtualBack hx (y := Y11) (z := Y11) hown (mvT hZ (wd hw 35 rfl)) (mvT hZ (wd hw 36 rfl)) (notFace_of_selects (args := #[]) (mvT hZ (wd hw 38 rfl))) (mvT hZ (wd hw 38 rfl)) (mvT hZ (wd hw 37 rfl)) (by decide) (backOf (W := 0) (rm_len_1_0 l Z a0 hw [] a1 t1 k1 cs vs h0 n0 Z0 pr0 pr1 hcs pr3 pr4 pr5 pr6) hZ (wd hw 39 rfl) (wd hw 11 rfl) (by decide) (by decide)) q645a q645c (g := (mkF m 1 #[vr a1] [(.ref a1)])) rfl (by rw [hml]; rfl) (Steps.refl _) (argsL := []) (rest := []) (lenOf pd_10 rfl) rfl (by show 2 * 0 + _ ≤ _; exact Nat.le_of_eq rfl) (dk d6_1) (fun _ _ => ⟨rfl, e0, Nat.le_of_ble_eq_true rfl, Nat.le_of_ble_eq_true rfl⟩)
  dsimp only [Pt.U, Pt.locs, Pt.cells, Pt.slots] at X645 l645 y645 z645 st645 hQ645
  subst l645 y645 z645
  obtain ⟨rfl, Nq645, hh645⟩ := hQ645
  have N645 := Fr.app N0 Nq645
  refine gy (St T645 m 4 #[vr a1] [(.int 1)]) (fun _ k => st645.trans k) ?_
  refine gy (St T645 m 22 #[vr a1] [(.int 0)]) (fun _ k => XS.iconst X645.here hx rfl (dk d6_4) (XS.icmpYes X645.here hx rfl (pc0 := 5) (pc' := 21) rfl (dk d6_5) rfl (feq (by decide : ¬ ((1 : Int32) = (4 : Int32)))).2 (by decide) (by decide) (XS.iconst X645.here hx rfl (dk d6_21) k))) ?_
  refine Go.ret X645 hx hlk (t := .boolean) hret rfl (Or.inl ⟨rfl, by simp, _, rfl⟩) (dk d6_22) (by decide) (by decide) ?_
  rw [hh645]
  exact ⟨rfl, N645, rfl⟩
theorem ef_rm_len_1_1 (m : MethodId) (x0 : Addr) : entryFrame m #[(.ref x0)] 1 = mkF m 0 #[vr x0] [] := by first | (simp [entryFrame, mkF, argsToLocals, Value.category]; done) | rfl
def Q_rm_len_1_1 (Z : State) (a1 : Addr) (t1 : Addr) (k1 : ClassId) (cs : Int32) (vs : List Value) (h0 : Heap) (n0 : Nat) (vv : Option Value) (h : Heap) (L : List Loc) : Prop := vv = some (.int 1) ∧ Fr n0 L ∧ h = h0
set_option maxRecDepth 65536 in
set_option maxHeartbeats 40000000 in
theorem rm_len_1_1 (l : Launch) (Z : State) (a0 : Array Value) (hw : HW a0 Z) (ws : List Jvm.Cond) (a1 : Addr) (t1 : Addr) (k1 : ClassId) (cs : Int32) (vs : List Value) (h0 : Heap) (n0 : Nat) (Z0 : n0 ≤ h0.size) (pr0 : Old Z n0 h0) (pr1 : Sta Z Z.heap "java/lang/String" "COMPACT_STRINGS" "Z" (.int cs)) (hcs : ¬ (cs = (0 : Int32))) (pr3 : Exa Z h0 a1 "java/lang/String") (pr4 : Fld Z h0 a1 "java/lang/String" "value" "[B" (.ref t1)) (pr5 : Fld Z h0 a1 "java/lang/String" "coder" "B" (.int 1)) (pr6 : Arv Z h0 t1 k1 .byte (2 : Int32) vs (.int 0)) :
    Met l Z Y11 jdk_42_method_54_code 1 (some .int) ws ({ frames := 1, cells := 0, slots := 0, locals := 13 } : Room) #[(.ref a1)] h0 (Q_rm_len_1_1 Z a1 t1 k1 cs vs h0 n0) := by
  refine Met.enter (f0 := fun m => mkF m 0 #[vr a1] []) (plainFor_of_name pn_java_lang_String) (fun m => ef_rm_len_1_1 m a1) ?_
  intro p e s m below meth c s₁ hx hby hml hown hnm hret hlk hZ X0 e0
  have hown : s.vm.findClass "java/lang/String" = some m.cls := hown
  have hnm : meth.name = "length" := hnm
  have hml : c.maxLocals = 1 := hml
  have dk : ∀ {i : Nat} {r : Except DecodeError (Instr × Nat)}, decode jdk_42_method_54_code i = r → decode c.code i = r := fun h => hb hby h
  have N0 := Fr.nil n0
  refine gy (St s₁ m 1 #[vr a1] [(.ref a1)]) (fun _ k => XS.aloadN X0.here hx rfl (dk d7_0) rfl rfl k) ?_
  obtain ⟨T646, X646, e646, st646⟩ := getF X0 hx hZ hown (host := "") (Or.inl (wd hw 29 rfl)) Via.refl e0 pr4 (g := (mkF m 1 #[vr a1] [(.ref a1)])) rfl rfl (dk d7_1)
  refine gy (St T646 m 4 #[vr a1] [(.ref t1)]) st646 ?_
  obtain ⟨cl647, Ar647, q647, S647, N_647, Hs647, G647⟩ := id pr6
  refine gy (St T646 m 5 #[vr a1] [(.int 2)]) (fun _ k => X646.arraylength hx (by rw [e646]; exact Ar647.1) (State.isArrayOf_alike hZ.alike Ar647.2.1) (g := (mkF m 4 #[vr a1] [(.ref t1)])) rfl rfl (dk d7_4) _ (by rw [len_of S647 N_647]; exact k)) ?_
  refine gy (St T646 m 6 #[vr a1] [(.ref a1), (.int 2)]) (fun _ k => XS.aloadN X646.here hx rfl (dk d7_5) rfl rfl k) ?_
  obtain ⟨cq648, kq648, q648a, q648b, q648c⟩ := isOf hZ e646 pr3
  obtain ⟨_, _, ⟨T648, L648, k648, n648⟩, -, X648, ⟨Lc648, hQ648, l648, y648, z648⟩, st648⟩ := X646.virtualBack hx (y := Y9) (z := Y9) hown (mvT hZ (wd hw 40 rfl)) (mvT hZ (wd hw 41 rfl)) (notFace_of_selects (args := #[]) (mvT hZ (wd hw 43 rfl))) (mvT hZ (wd hw 43 rfl)) (mvT hZ (wd hw 42 rfl)) (by decide) (backOf (W := 1) (rm_coder1 l Z a0 hw [] a1 cs h0 n0 Z0 pr0 pr1 hcs pr5) hZ (wd hw 44 rfl) (wd hw 11 rfl) (by decide) (by decide)) q648a q648c (g := (mkF m 6 #[vr a1] [(.ref a1), (.int 2)])) rfl (by rw [hml]; rfl) (Steps.refl _) (argsL := []) (rest := [(.int 2)]) (lenOf pd_9 rfl) rfl (by show 2 * 0 + _ ≤ _; exact Nat.le_of_eq rfl) (dk d7_6) (fun _ _ => ⟨rfl, e646, Nat.le_of_ble_eq_true rfl, Nat.le_of_ble_eq_true rfl⟩)
  dsimp only [Pt.U, Pt.locs, Pt.cells, Pt.slots] at X648 l648 y648 z648 st648 hQ648
  subst l648 y648 z648
  obtain ⟨rfl, Nq648, hh648⟩ := hQ648
  have N648 := Fr.app N0 Nq648
  refine gy (St T648 m 9 #[vr a1] [(.int 1), (.int 2)]) (fun _ k => st648.trans k) ?_
  refine gy (St T648 m 10 #[vr a1] [(.int 1)]) (fun _ k => XS.ishr X648.here hx rfl (dk d7_9) rfl k) ?_
  refine Go.ret X648 hx hlk (t := .int) hret rfl (Or.inl ⟨rfl, by simp, _, rfl⟩) (dk d7_10) (by decide) (by decide) ?_
  rw [hh648]
  exact ⟨rfl, N648, rfl⟩
theorem ef_rm_isY_1_1 (m : MethodId) (x0 : Addr) : entryFrame m #[(.ref x0)] 1 = mkF m 0 #[vr x0] [] := by first | (simp [entryFrame, mkF, argsToLocals, Value.category]; done) | rfl
def Q_rm_isY_1_1 (Z : State) (a1 : Addr) (t1 : Addr) (k1 : ClassId) (cs : Int32) (vs : List Value) (h0 : Heap) (n0 : Nat) (vv : Option Value) (h : Heap) (L : List Loc) : Prop := vv = some (.int 0) ∧ Fr n0 L ∧ h = h0
set_option maxRecDepth 65536 in
set_option maxHeartbeats 40000000 in
theorem rm_isY_1_1 (l : Launch) (Z : State) (a0 : Array Value) (hw : HW a0 Z) (ws : List Jvm.Cond) (a1 : Addr) (t1 : Addr) (k1 : ClassId) (cs : Int32) (vs : List Value) (h0 : Heap) (n0 : Nat) (Z0 : n0 ≤ h0.size) (pr0 : Old Z n0 h0) (pr1 : Sta Z Z.heap "java/lang/String" "COMPACT_STRINGS" "Z" (.int cs)) (hcs : ¬ (cs = (0 : Int32))) (pr3 : Exa Z h0 a1 "java/lang/String") (pr4 : Fld Z h0 a1 "java/lang/String" "value" "[B" (.ref t1)) (pr5 : Fld Z h0 a1 "java/lang/String" "coder" "B" (.int 1)) (pr6 : Arv Z h0 t1 k1 .byte (2 : Int32) vs (.int 0)) :
    Met l Z Y1 prog_16_method_2_code 1 (some .boolean) ws ({ frames := 2, cells := 0, slots := 0, locals := 25 } : Room) #[(.ref a1)] h0 (Q_rm_isY_1_1 Z a1 t1 k1 cs vs h0 n0) := by
  refine Met.enter (f0 := fun m => mkF m 0 #[vr a1] []) (plainFor_of_name pn_com_example_vestwright_vestwright_Formats) (fun m => ef_rm_isY_1_1 m a1) ?_
  intro p e s m below meth c s₁ hx hby hml hown hnm hret hlk hZ X0 e0
  have hown : s.vm.findClass "com/example/vestwright/vestwright/Formats" = some m.cls := hown
  have hnm : meth.name = "isYear" := hnm
  have hml : c.maxLocals = 1 := hml
  have dk : ∀ {i : Nat} {r : Except DecodeError (Instr × Nat)}, decode prog_16_method_2_code i = r → decode c.code i = r := fun h => hb hby h
  have N0 := Fr.nil n0
  refine gy (St s₁ m 1 #[vr a1] [(.ref a1)]) (fun _ k => XS.aloadN X0.here hx rfl (dk d6_0) rfl rfl k) ?_
  obtain ⟨cq649, kq649, q649a, q649b, q649c⟩ := isOf hZ e0 pr3
  obtain ⟨_, _, ⟨T649, L649, k649, n649⟩, -, X649, ⟨Lc649, hQ649, l649, y649, z649⟩, st649⟩ := X0.virtualBack hx (y := Y11) (z := Y11) hown (mvT hZ (wd hw 35 rfl)) (mvT hZ (wd hw 36 rfl)) (notFace_of_selects (args := #[]) (mvT hZ (wd hw 38 rfl))) (mvT hZ (wd hw 38 rfl)) (mvT hZ (wd hw 37 rfl)) (by decide) (backOf (W := 0) (rm_len_1_1 l Z a0 hw [] a1 t1 k1 cs vs h0 n0 Z0 pr0 pr1 hcs pr3 pr4 pr5 pr6) hZ (wd hw 39 rfl) (wd hw 11 rfl) (by decide) (by decide)) q649a q649c (g := (mkF m 1 #[vr a1] [(.ref a1)])) rfl (by rw [hml]; rfl) (Steps.refl _) (argsL := []) (rest := []) (lenOf pd_10 rfl) rfl (by show 2 * 0 + _ ≤ _; exact Nat.le_of_eq rfl) (dk d6_1) (fun _ _ => ⟨rfl, e0, Nat.le_of_ble_eq_true rfl, Nat.le_of_ble_eq_true rfl⟩)
  dsimp only [Pt.U, Pt.locs, Pt.cells, Pt.slots] at X649 l649 y649 z649 st649 hQ649
  subst l649 y649 z649
  obtain ⟨rfl, Nq649, hh649⟩ := hQ649
  have N649 := Fr.app N0 Nq649
  refine gy (St T649 m 4 #[vr a1] [(.int 1)]) (fun _ k => st649.trans k) ?_
  refine gy (St T649 m 22 #[vr a1] [(.int 0)]) (fun _ k => XS.iconst X649.here hx rfl (dk d6_4) (XS.icmpYes X649.here hx rfl (pc0 := 5) (pc' := 21) rfl (dk d6_5) rfl (feq (by decide : ¬ ((1 : Int32) = (4 : Int32)))).2 (by decide) (by decide) (XS.iconst X649.here hx rfl (dk d6_21) k))) ?_
  refine Go.ret X649 hx hlk (t := .boolean) hret rfl (Or.inl ⟨rfl, by simp, _, rfl⟩) (dk d6_22) (by decide) (by decide) ?_
  rw [hh649]
  exact ⟨rfl, N649, rfl⟩
theorem ef_rm_len_2_0 (m : MethodId) (x0 : Addr) : entryFrame m #[(.ref x0)] 1 = mkF m 0 #[vr x0] [] := by first | (simp [entryFrame, mkF, argsToLocals, Value.category]; done) | rfl
def Q_rm_len_2_0 (Z : State) (a1 : Addr) (t1 : Addr) (k1 : ClassId) (cs : Int32) (vs : List Value) (h0 : Heap) (n0 : Nat) (vv : Option Value) (h : Heap) (L : List Loc) : Prop := vv = some (.int 2) ∧ Fr n0 L ∧ h = h0
set_option maxRecDepth 65536 in
set_option maxHeartbeats 40000000 in
theorem rm_len_2_0 (l : Launch) (Z : State) (a0 : Array Value) (hw : HW a0 Z) (ws : List Jvm.Cond) (a1 : Addr) (t1 : Addr) (k1 : ClassId) (cs : Int32) (vs : List Value) (h0 : Heap) (n0 : Nat) (Z0 : n0 ≤ h0.size) (pr0 : Old Z n0 h0) (pr1 : Sta Z Z.heap "java/lang/String" "COMPACT_STRINGS" "Z" (.int cs)) (hcs : ¬ (cs = (0 : Int32))) (pr3 : Exa Z h0 a1 "java/lang/String") (pr4 : Fld Z h0 a1 "java/lang/String" "value" "[B" (.ref t1)) (pr5 : Fld Z h0 a1 "java/lang/String" "coder" "B" (.int 0)) (pr6 : Arv Z h0 t1 k1 .byte (2 : Int32) vs (.int 0)) :
    Met l Z Y11 jdk_42_method_54_code 1 (some .int) ws ({ frames := 1, cells := 0, slots := 0, locals := 13 } : Room) #[(.ref a1)] h0 (Q_rm_len_2_0 Z a1 t1 k1 cs vs h0 n0) := by
  refine Met.enter (f0 := fun m => mkF m 0 #[vr a1] []) (plainFor_of_name pn_java_lang_String) (fun m => ef_rm_len_2_0 m a1) ?_
  intro p e s m below meth c s₁ hx hby hml hown hnm hret hlk hZ X0 e0
  have hown : s.vm.findClass "java/lang/String" = some m.cls := hown
  have hnm : meth.name = "length" := hnm
  have hml : c.maxLocals = 1 := hml
  have dk : ∀ {i : Nat} {r : Except DecodeError (Instr × Nat)}, decode jdk_42_method_54_code i = r → decode c.code i = r := fun h => hb hby h
  have N0 := Fr.nil n0
  refine gy (St s₁ m 1 #[vr a1] [(.ref a1)]) (fun _ k => XS.aloadN X0.here hx rfl (dk d7_0) rfl rfl k) ?_
  obtain ⟨T650, X650, e650, st650⟩ := getF X0 hx hZ hown (host := "") (Or.inl (wd hw 29 rfl)) Via.refl e0 pr4 (g := (mkF m 1 #[vr a1] [(.ref a1)])) rfl rfl (dk d7_1)
  refine gy (St T650 m 4 #[vr a1] [(.ref t1)]) st650 ?_
  obtain ⟨cl651, Ar651, q651, S651, N_651, Hs651, G651⟩ := id pr6
  refine gy (St T650 m 5 #[vr a1] [(.int 2)]) (fun _ k => X650.arraylength hx (by rw [e650]; exact Ar651.1) (State.isArrayOf_alike hZ.alike Ar651.2.1) (g := (mkF m 4 #[vr a1] [(.ref t1)])) rfl rfl (dk d7_4) _ (by rw [len_of S651 N_651]; exact k)) ?_
  refine gy (St T650 m 6 #[vr a1] [(.ref a1), (.int 2)]) (fun _ k => XS.aloadN X650.here hx rfl (dk d7_5) rfl rfl k) ?_
  obtain ⟨cq652, kq652, q652a, q652b, q652c⟩ := isOf hZ e650 pr3
  obtain ⟨_, _, ⟨T652, L652, k652, n652⟩, -, X652, ⟨Lc652, hQ652, l652, y652, z652⟩, st652⟩ := X650.virtualBack hx (y := Y9) (z := Y9) hown (mvT hZ (wd hw 40 rfl)) (mvT hZ (wd hw 41 rfl)) (notFace_of_selects (args := #[]) (mvT hZ (wd hw 43 rfl))) (mvT hZ (wd hw 43 rfl)) (mvT hZ (wd hw 42 rfl)) (by decide) (backOf (W := 1) (rm_coder0 l Z a0 hw [] a1 cs h0 n0 Z0 pr0 pr1 hcs pr5) hZ (wd hw 44 rfl) (wd hw 11 rfl) (by decide) (by decide)) q652a q652c (g := (mkF m 6 #[vr a1] [(.ref a1), (.int 2)])) rfl (by rw [hml]; rfl) (Steps.refl _) (argsL := []) (rest := [(.int 2)]) (lenOf pd_9 rfl) rfl (by show 2 * 0 + _ ≤ _; exact Nat.le_of_eq rfl) (dk d7_6) (fun _ _ => ⟨rfl, e650, Nat.le_of_ble_eq_true rfl, Nat.le_of_ble_eq_true rfl⟩)
  dsimp only [Pt.U, Pt.locs, Pt.cells, Pt.slots] at X652 l652 y652 z652 st652 hQ652
  subst l652 y652 z652
  obtain ⟨rfl, Nq652, hh652⟩ := hQ652
  have N652 := Fr.app N0 Nq652
  refine gy (St T652 m 9 #[vr a1] [(.int 0), (.int 2)]) (fun _ k => st652.trans k) ?_
  refine gy (St T652 m 10 #[vr a1] [(.int 2)]) (fun _ k => XS.ishr X652.here hx rfl (dk d7_9) rfl k) ?_
  refine Go.ret X652 hx hlk (t := .int) hret rfl (Or.inl ⟨rfl, by simp, _, rfl⟩) (dk d7_10) (by decide) (by decide) ?_
  rw [hh652]
  exact ⟨rfl, N652, rfl⟩
theorem ef_rm_isY_2_0 (m : MethodId) (x0 : Addr) : entryFrame m #[(.ref x0)] 1 = mkF m 0 #[vr x0] [] := by first | (simp [entryFrame, mkF, argsToLocals, Value.category]; done) | rfl
def Q_rm_isY_2_0 (Z : State) (a1 : Addr) (t1 : Addr) (k1 : ClassId) (cs : Int32) (vs : List Value) (h0 : Heap) (n0 : Nat) (vv : Option Value) (h : Heap) (L : List Loc) : Prop := vv = some (.int 0) ∧ Fr n0 L ∧ h = h0
set_option maxRecDepth 65536 in
set_option maxHeartbeats 40000000 in
theorem rm_isY_2_0 (l : Launch) (Z : State) (a0 : Array Value) (hw : HW a0 Z) (ws : List Jvm.Cond) (a1 : Addr) (t1 : Addr) (k1 : ClassId) (cs : Int32) (vs : List Value) (h0 : Heap) (n0 : Nat) (Z0 : n0 ≤ h0.size) (pr0 : Old Z n0 h0) (pr1 : Sta Z Z.heap "java/lang/String" "COMPACT_STRINGS" "Z" (.int cs)) (hcs : ¬ (cs = (0 : Int32))) (pr3 : Exa Z h0 a1 "java/lang/String") (pr4 : Fld Z h0 a1 "java/lang/String" "value" "[B" (.ref t1)) (pr5 : Fld Z h0 a1 "java/lang/String" "coder" "B" (.int 0)) (pr6 : Arv Z h0 t1 k1 .byte (2 : Int32) vs (.int 0)) :
    Met l Z Y1 prog_16_method_2_code 1 (some .boolean) ws ({ frames := 2, cells := 0, slots := 0, locals := 25 } : Room) #[(.ref a1)] h0 (Q_rm_isY_2_0 Z a1 t1 k1 cs vs h0 n0) := by
  refine Met.enter (f0 := fun m => mkF m 0 #[vr a1] []) (plainFor_of_name pn_com_example_vestwright_vestwright_Formats) (fun m => ef_rm_isY_2_0 m a1) ?_
  intro p e s m below meth c s₁ hx hby hml hown hnm hret hlk hZ X0 e0
  have hown : s.vm.findClass "com/example/vestwright/vestwright/Formats" = some m.cls := hown
  have hnm : meth.name = "isYear" := hnm
  have hml : c.maxLocals = 1 := hml
  have dk : ∀ {i : Nat} {r : Except DecodeError (Instr × Nat)}, decode prog_16_method_2_code i = r → decode c.code i = r := fun h => hb hby h
  have N0 := Fr.nil n0
  refine gy (St s₁ m 1 #[vr a1] [(.ref a1)]) (fun _ k => XS.aloadN X0.here hx rfl (dk d6_0) rfl rfl k) ?_
  obtain ⟨cq653, kq653, q653a, q653b, q653c⟩ := isOf hZ e0 pr3
  obtain ⟨_, _, ⟨T653, L653, k653, n653⟩, -, X653, ⟨Lc653, hQ653, l653, y653, z653⟩, st653⟩ := X0.virtualBack hx (y := Y11) (z := Y11) hown (mvT hZ (wd hw 35 rfl)) (mvT hZ (wd hw 36 rfl)) (notFace_of_selects (args := #[]) (mvT hZ (wd hw 38 rfl))) (mvT hZ (wd hw 38 rfl)) (mvT hZ (wd hw 37 rfl)) (by decide) (backOf (W := 0) (rm_len_2_0 l Z a0 hw [] a1 t1 k1 cs vs h0 n0 Z0 pr0 pr1 hcs pr3 pr4 pr5 pr6) hZ (wd hw 39 rfl) (wd hw 11 rfl) (by decide) (by decide)) q653a q653c (g := (mkF m 1 #[vr a1] [(.ref a1)])) rfl (by rw [hml]; rfl) (Steps.refl _) (argsL := []) (rest := []) (lenOf pd_10 rfl) rfl (by show 2 * 0 + _ ≤ _; exact Nat.le_of_eq rfl) (dk d6_1) (fun _ _ => ⟨rfl, e0, Nat.le_of_ble_eq_true rfl, Nat.le_of_ble_eq_true rfl⟩)
  dsimp only [Pt.U, Pt.locs, Pt.cells, Pt.slots] at X653 l653 y653 z653 st653 hQ653
  subst l653 y653 z653
  obtain ⟨rfl, Nq653, hh653⟩ := hQ653
  have N653 := Fr.app N0 Nq653
  refine gy (St T653 m 4 #[vr a1] [(.int 2)]) (fun _ k => st653.trans k) ?_
  refine gy (St T653 m 22 #[vr a1] [(.int 0)]) (fun _ k => XS.iconst X653.here hx rfl (dk d6_4) (XS.icmpYes X653.here hx rfl (pc0 := 5) (pc' := 21) rfl (dk d6_5) rfl (feq (by decide : ¬ ((2 : Int32) = (4 : Int32)))).2 (by decide) (by decide) (XS.iconst X653.here hx rfl (dk d6_21) k))) ?_
  refine Go.ret X653 hx hlk (t := .boolean) hret rfl (Or.inl ⟨rfl, by simp, _, rfl⟩) (dk d6_22) (by decide) (by decide) ?_
  rw [hh653]
  exact ⟨rfl, N653, rfl⟩
theorem ef_rm_len_2_1 (m : MethodId) (x0 : Addr) : entryFrame m #[(.ref x0)] 1 = mkF m 0 #[vr x0] [] := by first | (simp [entryFrame, mkF, argsToLocals, Value.category]; done) | rfl
def Q_rm_len_2_1 (Z : State) (a1 : Addr) (t1 : Addr) (k1 : ClassId) (cs : Int32) (vs : List Value) (h0 : Heap) (n0 : Nat) (vv : Option Value) (h : Heap) (L : List Loc) : Prop := vv = some (.int 2) ∧ Fr n0 L ∧ h = h0
set_option maxRecDepth 65536 in
set_option maxHeartbeats 40000000 in
theorem rm_len_2_1 (l : Launch) (Z : State) (a0 : Array Value) (hw : HW a0 Z) (ws : List Jvm.Cond) (a1 : Addr) (t1 : Addr) (k1 : ClassId) (cs : Int32) (vs : List Value) (h0 : Heap) (n0 : Nat) (Z0 : n0 ≤ h0.size) (pr0 : Old Z n0 h0) (pr1 : Sta Z Z.heap "java/lang/String" "COMPACT_STRINGS" "Z" (.int cs)) (hcs : ¬ (cs = (0 : Int32))) (pr3 : Exa Z h0 a1 "java/lang/String") (pr4 : Fld Z h0 a1 "java/lang/String" "value" "[B" (.ref t1)) (pr5 : Fld Z h0 a1 "java/lang/String" "coder" "B" (.int 1)) (pr6 : Arv Z h0 t1 k1 .byte (4 : Int32) vs (.int 0)) :
    Met l Z Y11 jdk_42_method_54_code 1 (some .int) ws ({ frames := 1, cells := 0, slots := 0, locals := 13 } : Room) #[(.ref a1)] h0 (Q_rm_len_2_1 Z a1 t1 k1 cs vs h0 n0) := by
  refine Met.enter (f0 := fun m => mkF m 0 #[vr a1] []) (plainFor_of_name pn_java_lang_String) (fun m => ef_rm_len_2_1 m a1) ?_
  intro p e s m below meth c s₁ hx hby hml hown hnm hret hlk hZ X0 e0
  have hown : s.vm.findClass "java/lang/String" = some m.cls := hown
  have hnm : meth.name = "length" := hnm
  have hml : c.maxLocals = 1 := hml
  have dk : ∀ {i : Nat} {r : Except DecodeError (Instr × Nat)}, decode jdk_42_method_54_code i = r → decode c.code i = r := fun h => hb hby h
  have N0 := Fr.nil n0
  refine gy (St s₁ m 1 #[vr a1] [(.ref a1)]) (fun _ k => XS.aloadN X0.here hx rfl (dk d7_0) rfl rfl k) ?_
  obtain ⟨T654, X654, e654, st654⟩ := getF X0 hx hZ hown (host := "") (Or.inl (wd hw 29 rfl)) Via.refl e0 pr4 (g := (mkF m 1 #[vr a1] [(.ref a1)])) rfl rfl (dk d7_1)
  refine gy (St T654 m 4 #[vr a1] [(.ref t1)]) st654 ?_
  obtain ⟨cl655, Ar655, q655, S655, N_655, Hs655, G655⟩ := id pr6
  refine gy (St T654 m 5 #[vr a1] [(.int 4)]) (fun _ k => X654.arraylength hx (by rw [e654]; exact Ar655.1) (State.isArrayOf_alike hZ.alike Ar655.2.1) (g := (mkF m 4 #[vr a1] [(.ref t1)])) rfl rfl (dk d7_4) _ (by rw [len_of S655 N_655]; exact k)) ?_
  refine gy (St T654 m 6 #[vr a1] [(.ref a1), (.int 4)]) (fun _ k => XS.aloadN X654.here hx rfl (dk d7_5) rfl rfl k) ?_
  obtain ⟨cq656, kq656, q656a, q656b, q656c⟩ := isOf hZ e654 pr3
  obtain ⟨_, _, ⟨T656, L656, k656, n656⟩, -, X656, ⟨Lc656, hQ656, l656, y656, z656⟩, st656⟩ := X654.virtualBack hx (y := Y9) (z := Y9) hown (mvT hZ (wd hw 40 rfl)) (mvT hZ (wd hw 41 rfl)) (notFace_of_selects (args := #[]) (mvT hZ (wd hw 43 rfl))) (mvT hZ (wd hw 43 rfl)) (mvT hZ (wd hw 42 rfl)) (by decide) (backOf (W := 1) (rm_coder1 l Z a0 hw [] a1 cs h0 n0 Z0 pr0 pr1 hcs pr5) hZ (wd hw 44 rfl) (wd hw 11 rfl) (by decide) (by decide)) q656a q656c (g := (mkF m 6 #[vr a1] [(.ref a1), (.int 4)])) rfl (by rw [hml]; rfl) (Steps.refl _) (argsL := []) (rest := [(.int 4)]) (lenOf pd_9 rfl) rfl (by show 2 * 0 + _ ≤ _; exact Nat.le_of_eq rfl) (dk d7_6) (fun _ _ => ⟨rfl, e654, Nat.le_of_ble_eq_true rfl, Nat.le_of_ble_eq_true rfl⟩)
  dsimp only [Pt.U, Pt.locs, Pt.cells, Pt.slots] at X656 l656 y656 z656 st656 hQ656
  subst l656 y656 z656
  obtain ⟨rfl, Nq656, hh656⟩ := hQ656
  have N656 := Fr.app N0 Nq656
  refine gy (St T656 m 9 #[vr a1] [(.int 1), (.int 4)]) (fun _ k => st656.trans k) ?_
  refine gy (St T656 m 10 #[vr a1] [(.int 2)]) (fun _ k => XS.ishr X656.here hx rfl (dk d7_9) rfl k) ?_
  refine Go.ret X656 hx hlk (t := .int) hret rfl (Or.inl ⟨rfl, by simp, _, rfl⟩) (dk d7_10) (by decide) (by decide) ?_
  rw [hh656]
  exact ⟨rfl, N656, rfl⟩
theorem ef_rm_isY_2_1 (m : MethodId) (x0 : Addr) : entryFrame m #[(.ref x0)] 1 = mkF m 0 #[vr x0] [] := by first | (simp [entryFrame, mkF, argsToLocals, Value.category]; done) | rfl
def Q_rm_isY_2_1 (Z : State) (a1 : Addr) (t1 : Addr) (k1 : ClassId) (cs : Int32) (vs : List Value) (h0 : Heap) (n0 : Nat) (vv : Option Value) (h : Heap) (L : List Loc) : Prop := vv = some (.int 0) ∧ Fr n0 L ∧ h = h0
set_option maxRecDepth 65536 in
set_option maxHeartbeats 40000000 in
theorem rm_isY_2_1 (l : Launch) (Z : State) (a0 : Array Value) (hw : HW a0 Z) (ws : List Jvm.Cond) (a1 : Addr) (t1 : Addr) (k1 : ClassId) (cs : Int32) (vs : List Value) (h0 : Heap) (n0 : Nat) (Z0 : n0 ≤ h0.size) (pr0 : Old Z n0 h0) (pr1 : Sta Z Z.heap "java/lang/String" "COMPACT_STRINGS" "Z" (.int cs)) (hcs : ¬ (cs = (0 : Int32))) (pr3 : Exa Z h0 a1 "java/lang/String") (pr4 : Fld Z h0 a1 "java/lang/String" "value" "[B" (.ref t1)) (pr5 : Fld Z h0 a1 "java/lang/String" "coder" "B" (.int 1)) (pr6 : Arv Z h0 t1 k1 .byte (4 : Int32) vs (.int 0)) :
    Met l Z Y1 prog_16_method_2_code 1 (some .boolean) ws ({ frames := 2, cells := 0, slots := 0, locals := 25 } : Room) #[(.ref a1)] h0 (Q_rm_isY_2_1 Z a1 t1 k1 cs vs h0 n0) := by
  refine Met.enter (f0 := fun m => mkF m 0 #[vr a1] []) (plainFor_of_name pn_com_example_vestwright_vestwright_Formats) (fun m => ef_rm_isY_2_1 m a1) ?_
  intro p e s m below meth c s₁ hx hby hml hown hnm hret hlk hZ X0 e0
  have hown : s.vm.findClass "com/example/vestwright/vestwright/Formats" = some m.cls := hown
  have hnm : meth.name = "isYear" := hnm
  have hml : c.maxLocals = 1 := hml
  have dk : ∀ {i : Nat} {r : Except DecodeError (Instr × Nat)}, decode prog_16_method_2_code i = r → decode c.code i = r := fun h => hb hby h
  have N0 := Fr.nil n0
  refine gy (St s₁ m 1 #[vr a1] [(.ref a1)]) (fun _ k => XS.aloadN X0.here hx rfl (dk d6_0) rfl rfl k) ?_
  obtain ⟨cq657, kq657, q657a, q657b, q657c⟩ := isOf hZ e0 pr3
  obtain ⟨_, _, ⟨T657, L657, k657, n657⟩, -, X657, ⟨Lc657, hQ657, l657, y657, z657⟩, st657⟩ := X0.virtualBack hx (y := Y11) (z := Y11) hown (mvT hZ (wd hw 35 rfl)) (mvT hZ (wd hw 36 rfl)) (notFace_of_selects (args := #[]) (mvT hZ (wd hw 38 rfl))) (mvT hZ (wd hw 38 rfl)) (mvT hZ (wd hw 37 rfl)) (by decide) (backOf (W := 0) (rm_len_2_1 l Z a0 hw [] a1 t1 k1 cs vs h0 n0 Z0 pr0 pr1 hcs pr3 pr4 pr5 pr6) hZ (wd hw 39 rfl) (wd hw 11 rfl) (by decide) (by decide)) q657a q657c (g := (mkF m 1 #[vr a1] [(.ref a1)])) rfl (by rw [hml]; rfl) (Steps.refl _) (argsL := []) (rest := []) (lenOf pd_10 rfl) rfl (by show 2 * 0 + _ ≤ _; exact Nat.le_of_eq rfl) (dk d6_1) (fun _ _ => ⟨rfl, e0, Nat.le_of_ble_eq_true rfl, Nat.le_of_ble_eq_true rfl⟩)
  dsimp only [Pt.U, Pt.locs, Pt.cells, Pt.slots] at X657 l657 y657 z657 st657 hQ657
  subst l657 y657 z657
  obtain ⟨rfl, Nq657, hh657⟩ := hQ657
  have N657 := Fr.app N0 Nq657
  refine gy (St T657 m 4 #[vr a1] [(.int 2)]) (fun _ k => st657.trans k) ?_
  refine gy (St T657 m 22 #[vr a1] [(.int 0)]) (fun _ k => XS.iconst X657.here hx rfl (dk d6_4) (XS.icmpYes X657.here hx rfl (pc0 := 5) (pc' := 21) rfl (dk d6_5) rfl (feq (by decide : ¬ ((2 : Int32) = (4 : Int32)))).2 (by decide) (by decide) (XS.iconst X657.here hx rfl (dk d6_21) k))) ?_
  refine Go.ret X657 hx hlk (t := .boolean) hret rfl (Or.inl ⟨rfl, by simp, _, rfl⟩) (dk d6_22) (by decide) (by decide) ?_
  rw [hh657]
  exact ⟨rfl, N657, rfl⟩
theorem ef_rm_len_3_0 (m : MethodId) (x0 : Addr) : entryFrame m #[(.ref x0)] 1 = mkF m 0 #[vr x0] [] := by first | (simp [entryFrame, mkF, argsToLocals, Value.category]; done) | rfl
def Q_rm_len_3_0 (Z : State) (a1 : Addr) (t1 : Addr) (k1 : ClassId) (cs : Int32) (vs : List Value) (h0 : Heap) (n0 : Nat) (vv : Option Value) (h : Heap) (L : List Loc) : Prop := vv = some (.int 3) ∧ Fr n0 L ∧ h = h0
set_option maxRecDepth 65536 in
set_option maxHeartbeats 40000000 in
theorem rm_len_3_0 (l : Launch) (Z : State) (a0 : Array Value) (hw : HW a0 Z) (ws : List Jvm.Cond) (a1 : Addr) (t1 : Addr) (k1 : ClassId) (cs : Int32) (vs : List Value) (h0 : Heap) (n0 : Nat) (Z0 : n0 ≤ h0.size) (pr0 : Old Z n0 h0) (pr1 : Sta Z Z.heap "java/lang/String" "COMPACT_STRINGS" "Z" (.int cs)) (hcs : ¬ (cs = (0 : Int32))) (pr3 : Exa Z h0 a1 "java/lang/String") (pr4 : Fld Z h0 a1 "java/lang/String" "value" "[B" (.ref t1)) (pr5 : Fld Z h0 a1 "java/lang/String" "coder" "B" (.int 0)) (pr6 : Arv Z h0 t1 k1 .byte (3 : Int32) vs (.int 0)) :
    Met l Z Y11 jdk_42_method_54_code 1 (some .int) ws ({ frames := 1, cells := 0, slots := 0, locals := 13 } : Room) #[(.ref a1)] h0 (Q_rm_len_3_0 Z a1 t1 k1 cs vs h0 n0) := by
  refine Met.enter (f0 := fun m => mkF m 0 #[vr a1] []) (plainFor_of_name pn_java_lang_String) (fun m => ef_rm_len_3_0 m a1) ?_
  intro p e s m below meth c s₁ hx hby hml hown hnm hret hlk hZ X0 e0
  have hown : s.vm.findClass "java/lang/String" = some m.cls := hown
  have hnm : meth.name = "length" := hnm
  have hml : c.maxLocals = 1 := hml
  have dk : ∀ {i : Nat} {r : Except DecodeError (Instr × Nat)}, decode jdk_42_method_54_code i = r → decode c.code i = r := fun h => hb hby h
  have N0 := Fr.nil n0
  refine gy (St s₁ m 1 #[vr a1] [(.ref a1)]) (fun _ k => XS.aloadN X0.here hx rfl (dk d7_0) rfl rfl k) ?_
  obtain ⟨T658, X658, e658, st658⟩ := getF X0 hx hZ hown (host := "") (Or.inl (wd hw 29 rfl)) Via.refl e0 pr4 (g := (mkF m 1 #[vr a1] [(.ref a1)])) rfl rfl (dk d7_1)
  refine gy (St T658 m 4 #[vr a1] [(.ref t1)]) st658 ?_
  obtain ⟨cl659, Ar659, q659, S659, N_659, Hs659, G659⟩ := id pr6
  refine gy (St T658 m 5 #[vr a1] [(.int 3)]) (fun _ k => X658.arraylength hx (by rw [e658]; exact Ar659.1) (State.isArrayOf_alike hZ.alike Ar659.2.1) (g := (mkF m 4 #[vr a1] [(.ref t1)])) rfl rfl (dk d7_4) _ (by rw [len_of S659 N_659]; exact k)) ?_
  refine gy (St T658 m 6 #[vr a1] [(.ref a1), (.int 3)]) (fun _ k => XS.aloadN X658.here hx rfl (dk d7_5) rfl rfl k) ?_
  obtain ⟨cq660, kq660, q660a, q660b, q660c⟩ := isOf hZ e658 pr3
  obtain ⟨_, _, ⟨T660, L660, k660, n660⟩, -, X660, ⟨Lc660, hQ660, l660, y660, z660⟩, st660⟩ := X658.virtualBack hx (y := Y9) (z := Y9) hown (mvT hZ (wd hw 40 rfl)) (mvT hZ (wd hw 41 rfl)) (notFace_of_selects (args := #[]) (mvT hZ (wd hw 43 rfl))) (mvT hZ (wd hw 43 rfl)) (mvT hZ (wd hw 42 rfl)) (by decide) (backOf (W := 1) (rm_coder0 l Z a0 hw [] a1 cs h0 n0 Z0 pr0 pr1 hcs pr5) hZ (wd hw 44 rfl) (wd hw 11 rfl) (by decide) (by decide)) q660a q660c (g := (mkF m 6 #[vr a1] [(.ref a1), (.int 3)])) rfl (by rw [hml]; rfl) (Steps.refl _) (argsL := []) (rest := [(.int 3)]) (lenOf pd_9 rfl) rfl (by show 2 * 0 + _ ≤ _; exact Nat.le_of_eq rfl) (dk d7_6) (fun _ _ => ⟨rfl, e658, Nat.le_of_ble_eq_true rfl, Nat.le_of_ble_eq_true rfl⟩)
  dsimp only [Pt.U, Pt.locs, Pt.cells, Pt.slots] at X660 l660 y660 z660 st660 hQ660
  subst l660 y660 z660
  obtain ⟨rfl, Nq660, hh660⟩ := hQ660
  have N660 := Fr.app N0 Nq660
  refine gy (St T660 m 9 #[vr a1] [(.int 0), (.int 3)]) (fun _ k => st660.trans k) ?_
  refine gy (St T660 m 10 #[vr a1] [(.int 3)]) (fun _ k => XS.ishr X660.here hx rfl (dk d7_9) rfl k) ?_
  refine Go.ret X660 hx hlk (t := .int) hret rfl (Or.inl ⟨rfl, by simp, _, rfl⟩) (dk d7_10) (by decide) (by decide) ?_
  rw [hh660]
  exact ⟨rfl, N660, rfl⟩
theorem ef_rm_isY_3_0 (m : MethodId) (x0 : Addr) : entryFrame m #[(.ref x0)] 1 = mkF m 0 #[vr x0] [] := by first | (simp [entryFrame, mkF, argsToLocals, Value.category]; done) | rfl
def Q_rm_isY_3_0 (Z : State) (a1 : Addr) (t1 : Addr) (k1 : ClassId) (cs : Int32) (vs : List Value) (h0 : Heap) (n0 : Nat) (vv : Option Value) (h : Heap) (L : List Loc) : Prop := vv = some (.int 0) ∧ Fr n0 L ∧ h = h0
set_option maxRecDepth 65536 in
set_option maxHeartbeats 40000000 in
theorem rm_isY_3_0 (l : Launch) (Z : State) (a0 : Array Value) (hw : HW a0 Z) (ws : List Jvm.Cond) (a1 : Addr) (t1 : Addr) (k1 : ClassId) (cs : Int32) (vs : List Value) (h0 : Heap) (n0 : Nat) (Z0 : n0 ≤ h0.size) (pr0 : Old Z n0 h0) (pr1 : Sta Z Z.heap "java/lang/String" "COMPACT_STRINGS" "Z" (.int cs)) (hcs : ¬ (cs = (0 : Int32))) (pr3 : Exa Z h0 a1 "java/lang/String") (pr4 : Fld Z h0 a1 "java/lang/String" "value" "[B" (.ref t1)) (pr5 : Fld Z h0 a1 "java/lang/String" "coder" "B" (.int 0)) (pr6 : Arv Z h0 t1 k1 .byte (3 : Int32) vs (.int 0)) :
    Met l Z Y1 prog_16_method_2_code 1 (some .boolean) ws ({ frames := 2, cells := 0, slots := 0, locals := 25 } : Room) #[(.ref a1)] h0 (Q_rm_isY_3_0 Z a1 t1 k1 cs vs h0 n0) := by
  refine Met.enter (f0 := fun m => mkF m 0 #[vr a1] []) (plainFor_of_name pn_com_example_vestwright_vestwright_Formats) (fun m => ef_rm_isY_3_0 m a1) ?_
  intro p e s m below meth c s₁ hx hby hml hown hnm hret hlk hZ X0 e0
  have hown : s.vm.findClass "com/example/vestwright/vestwright/Formats" = some m.cls := hown
  have hnm : meth.name = "isYear" := hnm
  have hml : c.maxLocals = 1 := hml
  have dk : ∀ {i : Nat} {r : Except DecodeError (Instr × Nat)}, decode prog_16_method_2_code i = r → decode c.code i = r := fun h => hb hby h
  have N0 := Fr.nil n0
  refine gy (St s₁ m 1 #[vr a1] [(.ref a1)]) (fun _ k => XS.aloadN X0.here hx rfl (dk d6_0) rfl rfl k) ?_
  obtain ⟨cq661, kq661, q661a, q661b, q661c⟩ := isOf hZ e0 pr3
  obtain ⟨_, _, ⟨T661, L661, k661, n661⟩, -, X661, ⟨Lc661, hQ661, l661, y661, z661⟩, st661⟩ := X0.virtualBack hx (y := Y11) (z := Y11) hown (mvT hZ (wd hw 35 rfl)) (mvT hZ (wd hw 36 rfl)) (notFace_of_selects (args := #[]) (mvT hZ (wd hw 38 rfl))) (mvT hZ (wd hw 38 rfl)) (mvT hZ (wd hw 37 rfl)) (by decide) (backOf (W := 0) (rm_len_3_0 l Z a0 hw [] a1 t1 k1 cs vs h0 n0 Z0 pr0 pr1 hcs pr3 pr4 pr5 pr6) hZ (wd hw 39 rfl) (wd hw 11 rfl) (by decide) (by decide)) q661a q661c (g := (mkF m 1 #[vr a1] [(.ref a1)])) rfl (by rw [hml]; rfl) (Steps.refl _) (argsL := []) (rest := []) (lenOf pd_10 rfl) rfl (by show 2 * 0 + _ ≤ _; exact Nat.le_of_eq rfl) (dk d6_1) (fun _ _ => ⟨rfl, e0, Nat.le_of_ble_eq_true rfl, Nat.le_of_ble_eq_true rfl⟩)
  dsimp only [Pt.U, Pt.locs, Pt.cells, Pt.slots] at X661 l661 y661 z661 st661 hQ661
  subst l661 y661 z661
  obtain ⟨rfl, Nq661, hh661⟩ := hQ661
  have N661 := Fr.app N0 Nq661
  refine gy (St T661 m 4 #[vr a1] [(.int 3)]) (fun _ k => st661.trans k) ?_
  refine gy (St T661 m 22 #[vr a1] [(.int 0)]) (fun _ k => XS.iconst X661.here hx rfl (dk d6_4) (XS.icmpYes X661.here hx rfl (pc0 := 5) (pc' := 21) rfl (dk d6_5) rfl (feq (by decide : ¬ ((3 : Int32) = (4 : Int32)))).2 (by decide) (by decide) (XS.iconst X661.here hx rfl (dk d6_21) k))) ?_
  refine Go.ret X661 hx hlk (t := .boolean) hret rfl (Or.inl ⟨rfl, by simp, _, rfl⟩) (dk d6_22) (by decide) (by decide) ?_
  rw [hh661]
  exact ⟨rfl, N661, rfl⟩
theorem ef_rm_len_3_1 (m : MethodId) (x0 : Addr) : entryFrame m #[(.ref x0)] 1 = mkF m 0 #[vr x0] [] := by first | (simp [entryFrame, mkF, argsToLocals, Value.category]; done) | rfl
def Q_rm_len_3_1 (Z : State) (a1 : Addr) (t1 : Addr) (k1 : ClassId) (cs : Int32) (vs : List Value) (h0 : Heap) (n0 : Nat) (vv : Option Value) (h : Heap) (L : List Loc) : Prop := vv = some (.int 3) ∧ Fr n0 L ∧ h = h0
set_option maxRecDepth 65536 in
set_option maxHeartbeats 40000000 in
theorem rm_len_3_1 (l : Launch) (Z : State) (a0 : Array Value) (hw : HW a0 Z) (ws : List Jvm.Cond) (a1 : Addr) (t1 : Addr) (k1 : ClassId) (cs : Int32) (vs : List Value) (h0 : Heap) (n0 : Nat) (Z0 : n0 ≤ h0.size) (pr0 : Old Z n0 h0) (pr1 : Sta Z Z.heap "java/lang/String" "COMPACT_STRINGS" "Z" (.int cs)) (hcs : ¬ (cs = (0 : Int32))) (pr3 : Exa Z h0 a1 "java/lang/String") (pr4 : Fld Z h0 a1 "java/lang/String" "value" "[B" (.ref t1)) (pr5 : Fld Z h0 a1 "java/lang/String" "coder" "B" (.int 1)) (pr6 : Arv Z h0 t1 k1 .byte (6 : Int32) vs (.int 0)) :
    Met l Z Y11 jdk_42_method_54_code 1 (some .int) ws ({ frames := 1, cells := 0, slots := 0, locals := 13 } : Room) #[(.ref a1)] h0 (Q_rm_len_3_1 Z a1 t1 k1 cs vs h0 n0) := by
  refine Met.enter (f0 := fun m => mkF m 0 #[vr a1] []) (plainFor_of_name pn_java_lang_String) (fun m => ef_rm_len_3_1 m a1) ?_
  intro p e s m below meth c s₁ hx hby hml hown hnm hret hlk hZ X0 e0
  have hown : s.vm.findClass "java/lang/String" = some m.cls := hown
  have hnm : meth.name = "length" := hnm
  have hml : c.maxLocals = 1 := hml
  have dk : ∀ {i : Nat} {r : Except DecodeError (Instr × Nat)}, decode jdk_42_method_54_code i = r → decode c.code i = r := fun h => hb hby h
  have N0 := Fr.nil n0
  refine gy (St s₁ m 1 #[vr a1] [(.ref a1)]) (fun _ k => XS.aloadN X0.here hx rfl (dk d7_0) rfl rfl k) ?_
  obtain ⟨T662, X662, e662, st662⟩ := getF X0 hx hZ hown (host := "") (Or.inl (wd hw 29 rfl)) Via.refl e0 pr4 (g := (mkF m 1 #[vr a1] [(.ref a1)])) rfl rfl (dk d7_1)
  refine gy (St T662 m 4 #[vr a1] [(.ref t1)]) st662 ?_
  obtain ⟨cl663, Ar663, q663, S663, N_663, Hs663, G663⟩ := id pr6
  refine gy (St T662 m 5 #[vr a1] [(.int 6)]) (fun _ k => X662.arraylength hx (by rw [e662]; exact Ar663.1) (State.isArrayOf_alike hZ.alike Ar663.2.1) (g := (mkF m 4 #[vr a1] [(.ref t1)])) rfl rfl (dk d7_4) _ (by rw [len_of S663 N_663]; exact k)) ?_
  refine gy (St T662 m 6 #[vr a1] [(.ref a1), (.int 6)]) (fun _ k => XS.aloadN X662.here hx rfl (dk d7_5) rfl rfl k) ?_
  obtain ⟨cq664, kq664, q664a, q664b, q664c⟩ := isOf hZ e662 pr3
  obtain ⟨_, _, ⟨T664, L664, k664, n664⟩, -, X664, ⟨Lc664, hQ664, l664, y664, z664⟩, st664⟩ := X662.virtualBack hx (y := Y9) (z := Y9) hown (mvT hZ (wd hw 40 rfl)) (mvT hZ (wd hw 41 rfl)) (notFace_of_selects (args := #[]) (mvT hZ (wd hw 43 rfl))) (mvT hZ (wd hw 43 rfl)) (mvT hZ (wd hw 42 rfl)) (by decide) (backOf (W := 1) (rm_coder1 l Z a0 hw [] a1 cs h0 n0 Z0 pr0 pr1 hcs pr5) hZ (wd hw 44 rfl) (wd hw 11 rfl) (by decide) (by decide)) q664a q664c (g := (mkF m 6 #[vr a1] [(.ref a1), (.int 6)])) rfl (by rw [hml]; rfl) (Steps.refl _) (argsL := []) (rest := [(.int 6)]) (lenOf pd_9 rfl) rfl (by show 2 * 0 + _ ≤ _; exact Nat.le_of_eq rfl) (dk d7_6) (fun _ _ => ⟨rfl, e662, Nat.le_of_ble_eq_true rfl, Nat.le_of_ble_eq_true rfl⟩)
  dsimp only [Pt.U, Pt.locs, Pt.cells, Pt.slots] at X664 l664 y664 z664 st664 hQ664
  subst l664 y664 z664
  obtain ⟨rfl, Nq664, hh664⟩ := hQ664
  have N664 := Fr.app N0 Nq664
  refine gy (St T664 m 9 #[vr a1] [(.int 1), (.int 6)]) (fun _ k => st664.trans k) ?_
  refine gy (St T664 m 10 #[vr a1] [(.int 3)]) (fun _ k => XS.ishr X664.here hx rfl (dk d7_9) rfl k) ?_
  refine Go.ret X664 hx hlk (t := .int) hret rfl (Or.inl ⟨rfl, by simp, _, rfl⟩) (dk d7_10) (by decide) (by decide) ?_
  rw [hh664]
  exact ⟨rfl, N664, rfl⟩
theorem ef_rm_isY_3_1 (m : MethodId) (x0 : Addr) : entryFrame m #[(.ref x0)] 1 = mkF m 0 #[vr x0] [] := by first | (simp [entryFrame, mkF, argsToLocals, Value.category]; done) | rfl
def Q_rm_isY_3_1 (Z : State) (a1 : Addr) (t1 : Addr) (k1 : ClassId) (cs : Int32) (vs : List Value) (h0 : Heap) (n0 : Nat) (vv : Option Value) (h : Heap) (L : List Loc) : Prop := vv = some (.int 0) ∧ Fr n0 L ∧ h = h0
set_option maxRecDepth 65536 in
set_option maxHeartbeats 40000000 in
theorem rm_isY_3_1 (l : Launch) (Z : State) (a0 : Array Value) (hw : HW a0 Z) (ws : List Jvm.Cond) (a1 : Addr) (t1 : Addr) (k1 : ClassId) (cs : Int32) (vs : List Value) (h0 : Heap) (n0 : Nat) (Z0 : n0 ≤ h0.size) (pr0 : Old Z n0 h0) (pr1 : Sta Z Z.heap "java/lang/String" "COMPACT_STRINGS" "Z" (.int cs)) (hcs : ¬ (cs = (0 : Int32))) (pr3 : Exa Z h0 a1 "java/lang/String") (pr4 : Fld Z h0 a1 "java/lang/String" "value" "[B" (.ref t1)) (pr5 : Fld Z h0 a1 "java/lang/String" "coder" "B" (.int 1)) (pr6 : Arv Z h0 t1 k1 .byte (6 : Int32) vs (.int 0)) :
    Met l Z Y1 prog_16_method_2_code 1 (some .boolean) ws ({ frames := 2, cells := 0, slots := 0, locals := 25 } : Room) #[(.ref a1)] h0 (Q_rm_isY_3_1 Z a1 t1 k1 cs vs h0 n0) := by
  refine Met.enter (f0 := fun m => mkF m 0 #[vr a1] []) (plainFor_of_name pn_com_example_vestwright_vestwright_Formats) (fun m => ef_rm_isY_3_1 m a1) ?_
  intro p e s m below meth c s₁ hx hby hml hown hnm hret hlk hZ X0 e0
  have hown : s.vm.findClass "com/example/vestwright/vestwright/Formats" = some m.cls := hown
  have hnm : meth.name = "isYear" := hnm
  have hml : c.maxLocals = 1 := hml
  have dk : ∀ {i : Nat} {r : Except DecodeError (Instr × Nat)}, decode prog_16_method_2_code i = r → decode c.code i = r := fun h => hb hby h
  have N0 := Fr.nil n0
  refine gy (St s₁ m 1 #[vr a1] [(.ref a1)]) (fun _ k => XS.aloadN X0.here hx rfl (dk d6_0) rfl rfl k) ?_
  obtain ⟨cq665, kq665, q665a, q665b, q665c⟩ := isOf hZ e0 pr3
  obtain ⟨_, _, ⟨T665, L665, k665, n665⟩, -, X665, ⟨Lc665, hQ665, l665, y665, z665⟩, st665⟩ := X0.virtualBack hx (y := Y11) (z := Y11) hown (mvT hZ (wd hw 35 rfl)) (mvT hZ (wd hw 36 rfl)) (notFace_of_selects (args := #[]) (mvT hZ (wd hw 38 rfl))) (mvT hZ (wd hw 38 rfl)) (mvT hZ (wd hw 37 rfl)) (by decide) (backOf (W := 0) (rm_len_3_1 l Z a0 hw [] a1 t1 k1 cs vs h0 n0 Z0 pr0 pr1 hcs pr3 pr4 pr5 pr6) hZ (wd hw 39 rfl) (wd hw 11 rfl) (by decide) (by decide)) q665a q665c (g := (mkF m 1 #[vr a1] [(.ref a1)])) rfl (by rw [hml]; rfl) (Steps.refl _) (argsL := []) (rest := []) (lenOf pd_10 rfl) rfl (by show 2 * 0 + _ ≤ _; exact Nat.le_of_eq rfl) (dk d6_1) (fun _ _ => ⟨rfl, e0, Nat.le_of_ble_eq_true rfl, Nat.le_of_ble_eq_true rfl⟩)
  dsimp only [Pt.U, Pt.locs, Pt.cells, Pt.slots] at X665 l665 y665 z665 st665 hQ665
  subst l665 y665 z665
  obtain ⟨rfl, Nq665, hh665⟩ := hQ665
  have N665 := Fr.app N0 Nq665
  refine gy (St T665 m 4 #[vr a1] [(.int 3)]) (fun _ k => st665.trans k) ?_
  refine gy (St T665 m 22 #[vr a1] [(.int 0)]) (fun _ k => XS.iconst X665.here hx rfl (dk d6_4) (XS.icmpYes X665.here hx rfl (pc0 := 5) (pc' := 21) rfl (dk d6_5) rfl (feq (by decide : ¬ ((3 : Int32) = (4 : Int32)))).2 (by decide) (by decide) (XS.iconst X665.here hx rfl (dk d6_21) k))) ?_
  refine Go.ret X665 hx hlk (t := .boolean) hret rfl (Or.inl ⟨rfl, by simp, _, rfl⟩) (dk d6_22) (by decide) (by decide) ?_
  rw [hh665]
  exact ⟨rfl, N665, rfl⟩
theorem ef_rm_len_4_0 (m : MethodId) (x0 : Addr) : entryFrame m #[(.ref x0)] 1 = mkF m 0 #[vr x0] [] := by first | (simp [entryFrame, mkF, argsToLocals, Value.category]; done) | rfl
def Q_rm_len_4_0 (Z : State) (a1 : Addr) (t1 : Addr) (k1 : ClassId) (cs : Int32) (vs : List Value) (h0 : Heap) (n0 : Nat) (vv : Option Value) (h : Heap) (L : List Loc) : Prop := vv = some (.int 4) ∧ Fr n0 L ∧ h = h0
set_option maxRecDepth 65536 in
set_option maxHeartbeats 40000000 in
theorem rm_len_4_0 (l : Launch) (Z : State) (a0 : Array Value) (hw : HW a0 Z) (ws : List Jvm.Cond) (a1 : Addr) (t1 : Addr) (k1 : ClassId) (cs : Int32) (vs : List Value) (h0 : Heap) (n0 : Nat) (Z0 : n0 ≤ h0.size) (pr0 : Old Z n0 h0) (pr1 : Sta Z Z.heap "java/lang/String" "COMPACT_STRINGS" "Z" (.int cs)) (hcs : ¬ (cs = (0 : Int32))) (pr3 : Exa Z h0 a1 "java/lang/String") (pr4 : Fld Z h0 a1 "java/lang/String" "value" "[B" (.ref t1)) (pr5 : Fld Z h0 a1 "java/lang/String" "coder" "B" (.int 0)) (pr6 : Arv Z h0 t1 k1 .byte (4 : Int32) vs (.int 0)) :
    Met l Z Y11 jdk_42_method_54_code 1 (some .int) ws ({ frames := 1, cells := 0, slots := 0, locals := 13 } : Room) #[(.ref a1)] h0 (Q_rm_len_4_0 Z a1 t1 k1 cs vs h0 n0) := by
  refine Met.enter (f0 := fun m => mkF m 0 #[vr a1] []) (plainFor_of_name pn_java_lang_String) (fun m => ef_rm_len_4_0 m a1) ?_
  intro p e s m below meth c s₁ hx hby hml hown hnm hret hlk hZ X0 e0
  have hown : s.vm.findClass "java/lang/String" = some m.cls := hown
  have hnm : meth.name = "length" := hnm
  have hml : c.maxLocals = 1 := hml
  have dk : ∀ {i : Nat} {r : Except DecodeError (Instr × Nat)}, decode jdk_42_method_54_code i = r → decode c.code i = r := fun h => hb hby h
  have N0 := Fr.nil n0
  refine gy (St s₁ m 1 #[vr a1] [(.ref a1)]) (fun _ k => XS.aloadN X0.here hx rfl (dk d7_0) rfl rfl k) ?_
  obtain ⟨T666, X666, e666, st666⟩ := getF X0 hx hZ hown (host := "") (Or.inl (wd hw 29 rfl)) Via.refl e0 pr4 (g := (mkF m 1 #[vr a1] [(.ref a1)])) rfl rfl (dk d7_1)
  refine gy (St T666 m 4 #[vr a1] [(.ref t1)]) st666 ?_
  obtain ⟨cl667, Ar667, q667, S667, N_667, Hs667, G667⟩ := id pr6
  refine gy (St T666 m 5 #[vr a1] [(.int 4)]) (fun _ k => X666.arraylength hx (by rw [e666]; exact Ar667.1) (State.isArrayOf_alike hZ.alike Ar667.2.1) (g := (mkF m 4 #[vr a1] [(.ref t1)])) rfl rfl (dk d7_4) _ (by rw [len_of S667 N_667]; exact k)) ?_
  refine gy (St T666 m 6 #[vr a1] [(.ref a1), (.int 4)]) (fun _ k => XS.aloadN X666.here hx rfl (dk d7_5) rfl rfl k) ?_
  obtain ⟨cq668, kq668, q668a, q668b, q668c⟩ := isOf hZ e666 pr3
  obtain ⟨_, _, ⟨T668, L668, k668, n668⟩, -, X668, ⟨Lc668, hQ668, l668, y668, z668⟩, st668⟩ := X666.virtualBack hx (y := Y9) (z := Y9) hown (mvT hZ (wd hw 40 rfl)) (mvT hZ (wd hw 41 rfl)) (notFace_of_selects (args := #[]) (mvT hZ (wd hw 43 rfl))) (mvT hZ (wd hw 43 rfl)) (mvT hZ (wd hw 42 rfl)) (by decide) (backOf (W := 1) (rm_coder0 l Z a0 hw [] a1 cs h0 n0 Z0 pr0 pr1 hcs pr5) hZ (wd hw 44 rfl) (wd hw 11 rfl) (by decide) (by decide)) q668a q668c (g := (mkF m 6 #[vr a1] [(.ref a1), (.int 4)])) rfl (by rw [hml]; rfl) (Steps.refl _) (argsL := []) (rest := [(.int 4)]) (lenOf pd_9 rfl) rfl (by show 2 * 0 + _ ≤ _; exact Nat.le_of_eq rfl) (dk d7_6) (fun _ _ => ⟨rfl, e666, Nat.le_of_ble_eq_true rfl, Nat.le_of_ble_eq_true rfl⟩)
  dsimp only [Pt.U, Pt.locs, Pt.cells, Pt.slots] at X668 l668 y668 z668 st668 hQ668
  subst l668 y668 z668
  obtain ⟨rfl, Nq668, hh668⟩ := hQ668
  have N668 := Fr.app N0 Nq668
  refine gy (St T668 m 9 #[vr a1] [(.int 0), (.int 4)]) (fun _ k => st668.trans k) ?_
  refine gy (St T668 m 10 #[vr a1] [(.int 4)]) (fun _ k => XS.ishr X668.here hx rfl (dk d7_9) rfl k) ?_
  refine Go.ret X668 hx hlk (t := .int) hret rfl (Or.inl ⟨rfl, by simp, _, rfl⟩) (dk d7_10) (by decide) (by decide) ?_
  rw [hh668]
  exact ⟨rfl, N668, rfl⟩
theorem ef_rm_len_4_1 (m : MethodId) (x0 : Addr) : entryFrame m #[(.ref x0)] 1 = mkF m 0 #[vr x0] [] := by first | (simp [entryFrame, mkF, argsToLocals, Value.category]; done) | rfl
def Q_rm_len_4_1 (Z : State) (a1 : Addr) (t1 : Addr) (k1 : ClassId) (cs : Int32) (vs : List Value) (h0 : Heap) (n0 : Nat) (vv : Option Value) (h : Heap) (L : List Loc) : Prop := vv = some (.int 4) ∧ Fr n0 L ∧ h = h0
set_option maxRecDepth 65536 in
set_option maxHeartbeats 40000000 in
theorem rm_len_4_1 (l : Launch) (Z : State) (a0 : Array Value) (hw : HW a0 Z) (ws : List Jvm.Cond) (a1 : Addr) (t1 : Addr) (k1 : ClassId) (cs : Int32) (vs : List Value) (h0 : Heap) (n0 : Nat) (Z0 : n0 ≤ h0.size) (pr0 : Old Z n0 h0) (pr1 : Sta Z Z.heap "java/lang/String" "COMPACT_STRINGS" "Z" (.int cs)) (hcs : ¬ (cs = (0 : Int32))) (pr3 : Exa Z h0 a1 "java/lang/String") (pr4 : Fld Z h0 a1 "java/lang/String" "value" "[B" (.ref t1)) (pr5 : Fld Z h0 a1 "java/lang/String" "coder" "B" (.int 1)) (pr6 : Arv Z h0 t1 k1 .byte (8 : Int32) vs (.int 0)) :
    Met l Z Y11 jdk_42_method_54_code 1 (some .int) ws ({ frames := 1, cells := 0, slots := 0, locals := 13 } : Room) #[(.ref a1)] h0 (Q_rm_len_4_1 Z a1 t1 k1 cs vs h0 n0) := by
  refine Met.enter (f0 := fun m => mkF m 0 #[vr a1] []) (plainFor_of_name pn_java_lang_String) (fun m => ef_rm_len_4_1 m a1) ?_
  intro p e s m below meth c s₁ hx hby hml hown hnm hret hlk hZ X0 e0
  have hown : s.vm.findClass "java/lang/String" = some m.cls := hown
  have hnm : meth.name = "length" := hnm
  have hml : c.maxLocals = 1 := hml
  have dk : ∀ {i : Nat} {r : Except DecodeError (Instr × Nat)}, decode jdk_42_method_54_code i = r → decode c.code i = r := fun h => hb hby h
  have N0 := Fr.nil n0
  refine gy (St s₁ m 1 #[vr a1] [(.ref a1)]) (fun _ k => XS.aloadN X0.here hx rfl (dk d7_0) rfl rfl k) ?_
  obtain ⟨T669, X669, e669, st669⟩ := getF X0 hx hZ hown (host := "") (Or.inl (wd hw 29 rfl)) Via.refl e0 pr4 (g := (mkF m 1 #[vr a1] [(.ref a1)])) rfl rfl (dk d7_1)
  refine gy (St T669 m 4 #[vr a1] [(.ref t1)]) st669 ?_
  obtain ⟨cl670, Ar670, q670, S670, N_670, Hs670, G670⟩ := id pr6
  refine gy (St T669 m 5 #[vr a1] [(.int 8)]) (fun _ k => X669.arraylength hx (by rw [e669]; exact Ar670.1) (State.isArrayOf_alike hZ.alike Ar670.2.1) (g := (mkF m 4 #[vr a1] [(.ref t1)])) rfl rfl (dk d7_4) _ (by rw [len_of S670 N_670]; exact k)) ?_
  refine gy (St T669 m 6 #[vr a1] [(.ref a1), (.int 8)]) (fun _ k => XS.aloadN X669.here hx rfl (dk d7_5) rfl rfl k) ?_
  obtain ⟨cq671, kq671, q671a, q671b, q671c⟩ := isOf hZ e669 pr3
  obtain ⟨_, _, ⟨T671, L671, k671, n671⟩, -, X671, ⟨Lc671, hQ671, l671, y671, z671⟩, st671⟩ := X669.virtualBack hx (y := Y9) (z := Y9) hown (mvT hZ (wd hw 40 rfl)) (mvT hZ (wd hw 41 rfl)) (notFace_of_selects (args := #[]) (mvT hZ (wd hw 43 rfl))) (mvT hZ (wd hw 43 rfl)) (mvT hZ (wd hw 42 rfl)) (by decide) (backOf (W := 1) (rm_coder1 l Z a0 hw [] a1 cs h0 n0 Z0 pr0 pr1 hcs pr5) hZ (wd hw 44 rfl) (wd hw 11 rfl) (by decide) (by decide)) q671a q671c (g := (mkF m 6 #[vr a1] [(.ref a1), (.int 8)])) rfl (by rw [hml]; rfl) (Steps.refl _) (argsL := []) (rest := [(.int 8)]) (lenOf pd_9 rfl) rfl (by show 2 * 0 + _ ≤ _; exact Nat.le_of_eq rfl) (dk d7_6) (fun _ _ => ⟨rfl, e669, Nat.le_of_ble_eq_true rfl, Nat.le_of_ble_eq_true rfl⟩)
  dsimp only [Pt.U, Pt.locs, Pt.cells, Pt.slots] at X671 l671 y671 z671 st671 hQ671
  subst l671 y671 z671
  obtain ⟨rfl, Nq671, hh671⟩ := hQ671
  have N671 := Fr.app N0 Nq671
  refine gy (St T671 m 9 #[vr a1] [(.int 1), (.int 8)]) (fun _ k => st671.trans k) ?_
  refine gy (St T671 m 10 #[vr a1] [(.int 4)]) (fun _ k => XS.ishr X671.here hx rfl (dk d7_9) rfl k) ?_
  refine Go.ret X671 hx hlk (t := .int) hret rfl (Or.inl ⟨rfl, by simp, _, rfl⟩) (dk d7_10) (by decide) (by decide) ?_
  rw [hh671]
  exact ⟨rfl, N671, rfl⟩
theorem ef_rm_len_5_0 (m : MethodId) (x0 : Addr) : entryFrame m #[(.ref x0)] 1 = mkF m 0 #[vr x0] [] := by first | (simp [entryFrame, mkF, argsToLocals, Value.category]; done) | rfl
def Q_rm_len_5_0 (Z : State) (a1 : Addr) (t1 : Addr) (k1 : ClassId) (cs : Int32) (vs : List Value) (h0 : Heap) (n0 : Nat) (vv : Option Value) (h : Heap) (L : List Loc) : Prop := vv = some (.int 5) ∧ Fr n0 L ∧ h = h0
set_option maxRecDepth 65536 in
set_option maxHeartbeats 40000000 in
theorem rm_len_5_0 (l : Launch) (Z : State) (a0 : Array Value) (hw : HW a0 Z) (ws : List Jvm.Cond) (a1 : Addr) (t1 : Addr) (k1 : ClassId) (cs : Int32) (vs : List Value) (h0 : Heap) (n0 : Nat) (Z0 : n0 ≤ h0.size) (pr0 : Old Z n0 h0) (pr1 : Sta Z Z.heap "java/lang/String" "COMPACT_STRINGS" "Z" (.int cs)) (hcs : ¬ (cs = (0 : Int32))) (pr3 : Exa Z h0 a1 "java/lang/String") (pr4 : Fld Z h0 a1 "java/lang/String" "value" "[B" (.ref t1)) (pr5 : Fld Z h0 a1 "java/lang/String" "coder" "B" (.int 0)) (pr6 : Arv Z h0 t1 k1 .byte (5 : Int32) vs (.int 0)) :
    Met l Z Y11 jdk_42_method_54_code 1 (some .int) ws ({ frames := 1, cells := 0, slots := 0, locals := 13 } : Room) #[(.ref a1)] h0 (Q_rm_len_5_0 Z a1 t1 k1 cs vs h0 n0) := by
  refine Met.enter (f0 := fun m => mkF m 0 #[vr a1] []) (plainFor_of_name pn_java_lang_String) (fun m => ef_rm_len_5_0 m a1) ?_
  intro p e s m below meth c s₁ hx hby hml hown hnm hret hlk hZ X0 e0
  have hown : s.vm.findClass "java/lang/String" = some m.cls := hown
  have hnm : meth.name = "length" := hnm
  have hml : c.maxLocals = 1 := hml
  have dk : ∀ {i : Nat} {r : Except DecodeError (Instr × Nat)}, decode jdk_42_method_54_code i = r → decode c.code i = r := fun h => hb hby h
  have N0 := Fr.nil n0
  refine gy (St s₁ m 1 #[vr a1] [(.ref a1)]) (fun _ k => XS.aloadN X0.here hx rfl (dk d7_0) rfl rfl k) ?_
  obtain ⟨T672, X672, e672, st672⟩ := getF X0 hx hZ hown (host := "") (Or.inl (wd hw 29 rfl)) Via.refl e0 pr4 (g := (mkF m 1 #[vr a1] [(.ref a1)])) rfl rfl (dk d7_1)
  refine gy (St T672 m 4 #[vr a1] [(.ref t1)]) st672 ?_
  obtain ⟨cl673, Ar673, q673, S673, N_673, Hs673, G673⟩ := id pr6
  refine gy (St T672 m 5 #[vr a1] [(.int 5)]) (fun _ k => X672.arraylength hx (by rw [e672]; exact Ar673.1) (State.isArrayOf_alike hZ.alike Ar673.2.1) (g := (mkF m 4 #[vr a1] [(.ref t1)])) rfl rfl (dk d7_4) _ (by rw [len_of S673 N_673]; exact k)) ?_
  refine gy (St T672 m 6 #[vr a1] [(.ref a1), (.int 5)]) (fun _ k => XS.aloadN X672.here hx rfl (dk d7_5) rfl rfl k) ?_
  obtain ⟨cq674, kq674, q674a, q674b, q674c⟩ := isOf hZ e672 pr3
  obtain ⟨_, _, ⟨T674, L674, k674, n674⟩, -, X674, ⟨Lc674, hQ674, l674, y674, z674⟩, st674⟩ := X672.virtualBack hx (y := Y9) (z := Y9) hown (mvT hZ (wd hw 40 rfl)) (mvT hZ (wd hw 41 rfl)) (notFace_of_selects (args := #[]) (mvT hZ (wd hw 43 rfl))) (mvT hZ (wd hw 43 rfl)) (mvT hZ (wd hw 42 rfl)) (by decide) (backOf (W := 1) (rm_coder0 l Z a0 hw [] a1 cs h0 n0 Z0 pr0 pr1 hcs pr5) hZ (wd hw 44 rfl) (wd hw 11 rfl) (by decide) (by decide)) q674a q674c (g := (mkF m 6 #[vr a1] [(.ref a1), (.int 5)])) rfl (by rw [hml]; rfl) (Steps.refl _) (argsL := []) (rest := [(.int 5)]) (lenOf pd_9 rfl) rfl (by show 2 * 0 + _ ≤ _; exact Nat.le_of_eq rfl) (dk d7_6) (fun _ _ => ⟨rfl, e672, Nat.le_of_ble_eq_true rfl, Nat.le_of_ble_eq_true rfl⟩)
  dsimp only [Pt.U, Pt.locs, Pt.cells, Pt.slots] at X674 l674 y674 z674 st674 hQ674
  subst l674 y674 z674
  obtain ⟨rfl, Nq674, hh674⟩ := hQ674
  have N674 := Fr.app N0 Nq674
  refine gy (St T674 m 9 #[vr a1] [(.int 0), (.int 5)]) (fun _ k => st674.trans k) ?_
  refine gy (St T674 m 10 #[vr a1] [(.int 5)]) (fun _ k => XS.ishr X674.here hx rfl (dk d7_9) rfl k) ?_
  refine Go.ret X674 hx hlk (t := .int) hret rfl (Or.inl ⟨rfl, by simp, _, rfl⟩) (dk d7_10) (by decide) (by decide) ?_
  rw [hh674]
  exact ⟨rfl, N674, rfl⟩
theorem ef_rm_isY_5_0 (m : MethodId) (x0 : Addr) : entryFrame m #[(.ref x0)] 1 = mkF m 0 #[vr x0] [] := by first | (simp [entryFrame, mkF, argsToLocals, Value.category]; done) | rfl
def Q_rm_isY_5_0 (Z : State) (a1 : Addr) (t1 : Addr) (k1 : ClassId) (cs : Int32) (vs : List Value) (h0 : Heap) (n0 : Nat) (vv : Option Value) (h : Heap) (L : List Loc) : Prop := vv = some (.int 0) ∧ Fr n0 L ∧ h = h0
set_option maxRecDepth 65536 in
set_option maxHeartbeats 40000000 in
theorem rm_isY_5_0 (l : Launch) (Z : State) (a0 : Array Value) (hw : HW a0 Z) (ws : List Jvm.Cond) (a1 : Addr) (t1 : Addr) (k1 : ClassId) (cs : Int32) (vs : List Value) (h0 : Heap) (n0 : Nat) (Z0 : n0 ≤ h0.size) (pr0 : Old Z n0 h0) (pr1 : Sta Z Z.heap "java/lang/String" "COMPACT_STRINGS" "Z" (.int cs)) (hcs : ¬ (cs = (0 : Int32))) (pr3 : Exa Z h0 a1 "java/lang/String") (pr4 : Fld Z h0 a1 "java/lang/String" "value" "[B" (.ref t1)) (pr5 : Fld Z h0 a1 "java/lang/String" "coder" "B" (.int 0)) (pr6 : Arv Z h0 t1 k1 .byte (5 : Int32) vs (.int 0)) :
    Met l Z Y1 prog_16_method_2_code 1 (some .boolean) ws ({ frames := 2, cells := 0, slots := 0, locals := 25 } : Room) #[(.ref a1)] h0 (Q_rm_isY_5_0 Z a1 t1 k1 cs vs h0 n0) := by
  refine Met.enter (f0 := fun m => mkF m 0 #[vr a1] []) (plainFor_of_name pn_com_example_vestwright_vestwright_Formats) (fun m => ef_rm_isY_5_0 m a1) ?_
  intro p e s m below meth c s₁ hx hby hml hown hnm hret hlk hZ X0 e0
  have hown : s.vm.findClass "com/example/vestwright/vestwright/Formats" = some m.cls := hown
  have hnm : meth.name = "isYear" := hnm
  have hml : c.maxLocals = 1 := hml
  have dk : ∀ {i : Nat} {r : Except DecodeError (Instr × Nat)}, decode prog_16_method_2_code i = r → decode c.code i = r := fun h => hb hby h
  have N0 := Fr.nil n0
  refine gy (St s₁ m 1 #[vr a1] [(.ref a1)]) (fun _ k => XS.aloadN X0.here hx rfl (dk d6_0) rfl rfl k) ?_
  obtain ⟨cq675, kq675, q675a, q675b, q675c⟩ := isOf hZ e0 pr3
  obtain ⟨_, _, ⟨T675, L675, k675, n675⟩, -, X675, ⟨Lc675, hQ675, l675, y675, z675⟩, st675⟩ := X0.virtualBack hx (y := Y11) (z := Y11) hown (mvT hZ (wd hw 35 rfl)) (mvT hZ (wd hw 36 rfl)) (notFace_of_selects (args := #[]) (mvT hZ (wd hw 38 rfl))) (mvT hZ (wd hw 38 rfl)) (mvT hZ (wd hw 37 rfl)) (by decide) (backOf (W := 0) (rm_len_5_0 l Z a0 hw [] a1 t1 k1 cs vs h0 n0 Z0 pr0 pr1 hcs pr3 pr4 pr5 pr6) hZ (wd hw 39 rfl) (wd hw 11 rfl) (by decide) (by decide)) q675a q675c (g := (mkF m 1 #[vr a1] [(.ref a1)])) rfl (by rw [hml]; rfl) (Steps.refl _) (argsL := []) (rest := []) (lenOf pd_10 rfl) rfl (by show 2 * 0 + _ ≤ _; exact Nat.le_of_eq rfl) (dk d6_1) (fun _ _ => ⟨rfl, e0, Nat.le_of_ble_eq_true rfl, Nat.le_of_ble_eq_true rfl⟩)
  dsimp only [Pt.U, Pt.locs, Pt.cells, Pt.slots] at X675 l675 y675 z675 st675 hQ675
  subst l675 y675 z675
  obtain ⟨rfl, Nq675, hh675⟩ := hQ675
  have N675 := Fr.app N0 Nq675
  refine gy (St T675 m 4 #[vr a1] [(.int 5)]) (fun _ k => st675.trans k) ?_
  refine gy (St T675 m 22 #[vr a1] [(.int 0)]) (fun _ k => XS.iconst X675.here hx rfl (dk d6_4) (XS.icmpYes X675.here hx rfl (pc0 := 5) (pc' := 21) rfl (dk d6_5) rfl (feq (by decide : ¬ ((5 : Int32) = (4 : Int32)))).2 (by decide) (by decide) (XS.iconst X675.here hx rfl (dk d6_21) k))) ?_
  refine Go.ret X675 hx hlk (t := .boolean) hret rfl (Or.inl ⟨rfl, by simp, _, rfl⟩) (dk d6_22) (by decide) (by decide) ?_
  rw [hh675]
  exact ⟨rfl, N675, rfl⟩
theorem ef_rm_len_5_1 (m : MethodId) (x0 : Addr) : entryFrame m #[(.ref x0)] 1 = mkF m 0 #[vr x0] [] := by first | (simp [entryFrame, mkF, argsToLocals, Value.category]; done) | rfl
def Q_rm_len_5_1 (Z : State) (a1 : Addr) (t1 : Addr) (k1 : ClassId) (cs : Int32) (vs : List Value) (h0 : Heap) (n0 : Nat) (vv : Option Value) (h : Heap) (L : List Loc) : Prop := vv = some (.int 5) ∧ Fr n0 L ∧ h = h0
set_option maxRecDepth 65536 in
set_option maxHeartbeats 40000000 in
theorem rm_len_5_1 (l : Launch) (Z : State) (a0 : Array Value) (hw : HW a0 Z) (ws : List Jvm.Cond) (a1 : Addr) (t1 : Addr) (k1 : ClassId) (cs : Int32) (vs : List Value) (h0 : Heap) (n0 : Nat) (Z0 : n0 ≤ h0.size) (pr0 : Old Z n0 h0) (pr1 : Sta Z Z.heap "java/lang/String" "COMPACT_STRINGS" "Z" (.int cs)) (hcs : ¬ (cs = (0 : Int32))) (pr3 : Exa Z h0 a1 "java/lang/String") (pr4 : Fld Z h0 a1 "java/lang/String" "value" "[B" (.ref t1)) (pr5 : Fld Z h0 a1 "java/lang/String" "coder" "B" (.int 1)) (pr6 : Arv Z h0 t1 k1 .byte (10 : Int32) vs (.int 0)) :
    Met l Z Y11 jdk_42_method_54_code 1 (some .int) ws ({ frames := 1, cells := 0, slots := 0, locals := 13 } : Room) #[(.ref a1)] h0 (Q_rm_len_5_1 Z a1 t1 k1 cs vs h0 n0) := by
  refine Met.enter (f0 := fun m => mkF m 0 #[vr a1] []) (plainFor_of_name pn_java_lang_String) (fun m => ef_rm_len_5_1 m a1) ?_
  intro p e s m below meth c s₁ hx hby hml hown hnm hret hlk hZ X0 e0
  have hown : s.vm.findClass "java/lang/String" = some m.cls := hown
  have hnm : meth.name = "length" := hnm
  have hml : c.maxLocals = 1 := hml
  have dk : ∀ {i : Nat} {r : Except DecodeError (Instr × Nat)}, decode jdk_42_method_54_code i = r → decode c.code i = r := fun h => hb hby h
  have N0 := Fr.nil n0
  refine gy (St s₁ m 1 #[vr a1] [(.ref a1)]) (fun _ k => XS.aloadN X0.here hx rfl (dk d7_0) rfl rfl k) ?_
  obtain ⟨T676, X676, e676, st676⟩ := getF X0 hx hZ hown (host := "") (Or.inl (wd hw 29 rfl)) Via.refl e0 pr4 (g := (mkF m 1 #[vr a1] [(.ref a1)])) rfl rfl (dk d7_1)
  refine gy (St T676 m 4 #[vr a1] [(.ref t1)]) st676 ?_
  obtain ⟨cl677, Ar677, q677, S677, N_677, Hs677, G677⟩ := id pr6
  refine gy (St T676 m 5 #[vr a1] [(.int 10)]) (fun _ k => X676.arraylength hx (by rw [e676]; exact Ar677.1) (State.isArrayOf_alike hZ.alike Ar677.2.1) (g := (mkF m 4 #[vr a1] [(.ref t1)])) rfl rfl (dk d7_4) _ (by rw [len_of S677 N_677]; exact k)) ?_
  refine gy (St T676 m 6 #[vr a1] [(.ref a1), (.int 10)]) (fun _ k => XS.aloadN X676.here hx rfl (dk d7_5) rfl rfl k) ?_
  obtain ⟨cq678, kq678, q678a, q678b, q678c⟩ := isOf hZ e676 pr3
  obtain ⟨_, _, ⟨T678, L678, k678, n678⟩, -, X678, ⟨Lc678, hQ678, l678, y678, z678⟩, st678⟩ := X676.virtualBack hx (y := Y9) (z := Y9) hown (mvT hZ (wd hw 40 rfl)) (mvT hZ (wd hw 41 rfl)) (notFace_of_selects (args := #[]) (mvT hZ (wd hw 43 rfl))) (mvT hZ (wd hw 43 rfl)) (mvT hZ (wd hw 42 rfl)) (by decide) (backOf (W := 1) (rm_coder1 l Z a0 hw [] a1 cs h0 n0 Z0 pr0 pr1 hcs pr5) hZ (wd hw 44 rfl) (wd hw 11 rfl) (by decide) (by decide)) q678a q678c (g := (mkF m 6 #[vr a1] [(.ref a1), (.int 10)])) rfl (by rw [hml]; rfl) (Steps.refl _) (argsL := []) (rest := [(.int 10)]) (lenOf pd_9 rfl) rfl (by show 2 * 0 + _ ≤ _; exact Nat.le_of_eq rfl) (dk d7_6) (fun _ _ => ⟨rfl, e676, Nat.le_of_ble_eq_true rfl, Nat.le_of_ble_eq_true rfl⟩)
  dsimp only [Pt.U, Pt.locs, Pt.cells, Pt.slots] at X678 l678 y678 z678 st678 hQ678
  subst l678 y678 z678
  obtain ⟨rfl, Nq678, hh678⟩ := hQ678
  have N678 := Fr.app N0 Nq678
  refine gy (St T678 m 9 #[vr a1] [(.int 1), (.int 10)]) (fun _ k => st678.trans k) ?_
  refine gy (St T678 m 10 #[vr a1] [(.int 5)]) (fun _ k => XS.ishr X678.here hx rfl (dk d7_9) rfl k) ?_
  refine Go.ret X678 hx hlk (t := .int) hret rfl (Or.inl ⟨rfl, by simp, _, rfl⟩) (dk d7_10) (by decide) (by decide) ?_
  rw [hh678]
  exact ⟨rfl, N678, rfl⟩
theorem ef_rm_isY_5_1 (m : MethodId) (x0 : Addr) : entryFrame m #[(.ref x0)] 1 = mkF m 0 #[vr x0] [] := by first | (simp [entryFrame, mkF, argsToLocals, Value.category]; done) | rfl
def Q_rm_isY_5_1 (Z : State) (a1 : Addr) (t1 : Addr) (k1 : ClassId) (cs : Int32) (vs : List Value) (h0 : Heap) (n0 : Nat) (vv : Option Value) (h : Heap) (L : List Loc) : Prop := vv = some (.int 0) ∧ Fr n0 L ∧ h = h0
set_option maxRecDepth 65536 in
set_option maxHeartbeats 40000000 in
theorem rm_isY_5_1 (l : Launch) (Z : State) (a0 : Array Value) (hw : HW a0 Z) (ws : List Jvm.Cond) (a1 : Addr) (t1 : Addr) (k1 : ClassId) (cs : Int32) (vs : List Value) (h0 : Heap) (n0 : Nat) (Z0 : n0 ≤ h0.size) (pr0 : Old Z n0 h0) (pr1 : Sta Z Z.heap "java/lang/String" "COMPACT_STRINGS" "Z" (.int cs)) (hcs : ¬ (cs = (0 : Int32))) (pr3 : Exa Z h0 a1 "java/lang/String") (pr4 : Fld Z h0 a1 "java/lang/String" "value" "[B" (.ref t1)) (pr5 : Fld Z h0 a1 "java/lang/String" "coder" "B" (.int 1)) (pr6 : Arv Z h0 t1 k1 .byte (10 : Int32) vs (.int 0)) :
    Met l Z Y1 prog_16_method_2_code 1 (some .boolean) ws ({ frames := 2, cells := 0, slots := 0, locals := 25 } : Room) #[(.ref a1)] h0 (Q_rm_isY_5_1 Z a1 t1 k1 cs vs h0 n0) := by
  refine Met.enter (f0 := fun m => mkF m 0 #[vr a1] []) (plainFor_of_name pn_com_example_vestwright_vestwright_Formats) (fun m => ef_rm_isY_5_1 m a1) ?_
  intro p e s m below meth c s₁ hx hby hml hown hnm hret hlk hZ X0 e0
  have hown : s.vm.findClass "com/example/vestwright/vestwright/Formats" = some m.cls := hown
  have hnm : meth.name = "isYear" := hnm
  have hml : c.maxLocals = 1 := hml
  have dk : ∀ {i : Nat} {r : Except DecodeError (Instr × Nat)}, decode prog_16_method_2_code i = r → decode c.code i = r := fun h => hb hby h
  have N0 := Fr.nil n0
  refine gy (St s₁ m 1 #[vr a1] [(.ref a1)]) (fun _ k => XS.aloadN X0.here hx rfl (dk d6_0) rfl rfl k) ?_
  obtain ⟨cq679, kq679, q679a, q679b, q679c⟩ := isOf hZ e0 pr3
  obtain ⟨_, _, ⟨T679, L679, k679, n679⟩, -, X679, ⟨Lc679, hQ679, l679, y679, z679⟩, st679⟩ := X0.virtualBack hx (y := Y11) (z := Y11) hown (mvT hZ (wd hw 35 rfl)) (mvT hZ (wd hw 36 rfl)) (notFace_of_selects (args := #[]) (mvT hZ (wd hw 38 rfl))) (mvT hZ (wd hw 38 rfl)) (mvT hZ (wd hw 37 rfl)) (by decide) (backOf (W := 0) (rm_len_5_1 l Z a0 hw [] a1 t1 k1 cs vs h0 n0 Z0 pr0 pr1 hcs pr3 pr4 pr5 pr6) hZ (wd hw 39 rfl) (wd hw 11 rfl) (by decide) (by decide)) q679a q679c (g := (mkF m 1 #[vr a1] [(.ref a1)])) rfl (by rw [hml]; rfl) (Steps.refl _) (argsL := []) (rest := []) (lenOf pd_10 rfl) rfl (by show 2 * 0 + _ ≤ _; exact Nat.le_of_eq rfl) (dk d6_1) (fun _ _ => ⟨rfl, e0, Nat.le_of_ble_eq_true rfl, Nat.le_of_ble_eq_true rfl⟩)
  dsimp only [Pt.U, Pt.locs, Pt.cells, Pt.slots] at X679 l679 y679 z679 st679 hQ679
  subst l679 y679 z679
  obtain ⟨rfl, Nq679, hh679⟩ := hQ679
  have N679 := Fr.app N0 Nq679
  refine gy (St T679 m 4 #[vr a1] [(.int 5)]) (fun _ k => st679.trans k) ?_
  refine gy (St T679 m 22 #[vr a1] [(.int 0)]) (fun _ k => XS.iconst X679.here hx rfl (dk d6_4) (XS.icmpYes X679.here hx rfl (pc0 := 5) (pc' := 21) rfl (dk d6_5) rfl (feq (by decide : ¬ ((5 : Int32) = (4 : Int32)))).2 (by decide) (by decide) (XS.iconst X679.here hx rfl (dk d6_21) k))) ?_
  refine Go.ret X679 hx hlk (t := .boolean) hret rfl (Or.inl ⟨rfl, by simp, _, rfl⟩) (dk d6_22) (by decide) (by decide) ?_
  rw [hh679]
  exact ⟨rfl, N679, rfl⟩
theorem ef_rm_pci (m : MethodId) (x0 : Int32) (x1 : Int32) (x2 : Value) (hx2 : x2.category = 1) : entryFrame m #[(.int x0), (.int x1), x2] 3 = mkF m 0 #[vi x0, vi x1, .val x2] [] := own_ent m (xs := [(.int x0), (.int x1), x2]) (k := 0) (own_a rfl (own_a rfl (own_a hx2 (fun _ q => nomatch q)))) rfl
theorem d18_0 : decode jdk_41_method_11_code 0 = .ok (.iload_n 0, 1) := by decide +kernel
theorem d18_1 : decode jdk_41_method_11_code 1 = .ok (.ifCond .lt 8, 3) := by decide +kernel
theorem d18_4 : decode jdk_41_method_11_code 4 = .ok (.iload_n 0, 1) := by decide +kernel
theorem d18_5 : decode jdk_41_method_11_code 5 = .ok (.iload_n 1, 1) := by decide +kernel
theorem d18_6 : decode jdk_41_method_11_code 6 = .ok (.if_icmp .lt 10, 3) := by decide +kernel
theorem d18_16 : decode jdk_41_method_11_code 16 = .ok (.iload_n 0, 1) := by decide +kernel
theorem d18_17 : decode jdk_41_method_11_code 17 = .ok (.ireturn, 1) := by decide +kernel
theorem pn_jdk_internal_util_Preconditions : plainName "jdk/internal/util/Preconditions" = true := by first | (simp [plainName, overriddenIn]; done) | decide +kernel
def Q_rm_pci (Z : State) (p1 : Int32) (p2 : Int32) (fm : Value) (h0 : Heap) (n0 : Nat) (vv : Option Value) (h : Heap) (L : List Loc) : Prop := vv = some (.int p1) ∧ Fr n0 L ∧ h = h0
set_option maxRecDepth 65536 in
set_option maxHeartbeats 40000000 in
theorem rm_pci (l : Launch) (Z : State) (a0 : Array Value) (hw : HW a0 Z) (ws : List Jvm.Cond) (p1 : Int32) (p2 : Int32) (fm : Value) (h0 : Heap) (n0 : Nat) (Z0 : n0 ≤ h0.size) (hr_fm : fm.isRef = true) (q0 : ¬ (p1 < (0 : Int32))) (q1 : p1 < p2) :
    Met l Z Y24 jdk_41_method_11_code 3 (some .int) ws ({ frames := 0, cells := 0, slots := 0, locals := 0 } : Room) #[(.int p1), (.int p2), fm] h0 (Q_rm_pci Z p1 p2 fm h0 n0) := by
  refine Met.enter (f0 := fun m => mkF m 0 #[vi p1, vi p2, .val fm] []) (plainFor_of_name pn_jdk_internal_util_Preconditions) (fun m => ef_rm_pci m p1 p2 fm (own_cat hr_fm)) ?_
  intro p e s m below meth c s₁ hx hby hml hown hnm hret hlk hZ X0 e0
  have hown : s.vm.findClass "jdk/internal/util/Preconditions" = some m.cls := hown
  have hnm : meth.name = "checkIndex" := hnm
  have hml : c.maxLocals = 3 := hml
  have dk : ∀ {i : Nat} {r : Except DecodeError (Instr × Nat)}, decode jdk_41_method_11_code i = r → decode c.code i = r := fun h => hb hby h
  have N0 := Fr.nil n0
  refine gy (St s₁ m 17 #[vi p1, vi p2, .val fm] [(.int p1)]) (fun _ k => XS.iloadN X0.here hx rfl (dk d18_0) rfl (XS.ifNo X0.here hx rfl (dk d18_1) rfl ((if0 _ _).trans (flt q0).1) (XS.iloadN X0.here hx rfl (dk d18_4) rfl (XS.iloadN X0.here hx rfl (dk d18_5) rfl (XS.icmpYes X0.here hx rfl (pc0 := 6) (pc' := 16) rfl (dk d18_6) rfl (tlt q1).1 (by decide) (by decide) (XS.iloadN X0.here hx rfl (dk d18_16) rfl k)))))) ?_
  refine Go.ret X0 hx hlk (t := .int) hret rfl (Or.inl ⟨rfl, by simp, _, rfl⟩) (dk d18_17) (by decide) (by decide) ?_
  rw [e0]
  exact ⟨rfl, N0, rfl⟩
theorem ef_rm_sci (m : MethodId) (x0 : Int32) (x1 : Int32) : entryFrame m #[(.int x0), (.int x1)] 2 = mkF m 0 #[vi x0, vi x1] [] := by first | (simp [entryFrame, mkF, argsToLocals, Value.category]; done) | rfl
theorem d17_0 : decode jdk_42_method_155_code 0 = .ok (.iload_n 0, 1) := by decide +kernel
theorem d17_1 : decode jdk_42_method_155_code 1 = .ok (.iload_n 1, 1) := by decide +kernel
theorem d17_2 : decode jdk_42_method_155_code 2 = .ok (.getstatic 1053, 3) := by decide +kernel
theorem d17_5 : decode jdk_42_method_155_code 5 = .ok (.invokestatic 1059, 3) := by decide +kernel
theorem pd_11 : parseMethodDescriptor "(IILjava/util/function/BiFunction;)I" = some ⟨[.int, .int, (.object "java/util/function/BiFunction")], some .int⟩ := by decide +kernel
theorem d17_8 : decode jdk_42_method_155_code 8 = .ok (.pop, 1) := by decide +kernel
theorem d17_9 : decode jdk_42_method_155_code 9 = .ok (.return_, 1) := by decide +kernel
def Q_rm_sci (Z : State) (p1 : Int32) (p2 : Int32) (fm : Value) (h0 : Heap) (n0 : Nat) (vv : Option Value) (h : Heap) (L : List Loc) : Prop := vv = none ∧ Fr n0 L ∧ h = h0
set_option maxRecDepth 65536 in
set_option maxHeartbeats 40000000 in
theorem rm_sci (l : Launch) (Z : State) (a0 : Array Value) (hw : HW a0 Z) (ws : List Jvm.Cond) (p1 : Int32) (p2 : Int32) (fm : Value) (h0 : Heap) (n0 : Nat) (Z0 : n0 ≤ h0.size) (pr0 : Old Z n0 h0) (pr1 : Sta Z Z.heap "jdk/internal/util/Preconditions" "SIOOBE_FORMATTER" "Ljava/util/function/BiFunction;" fm) (hr_fm : fm.isRef = true) (q0 : ¬ (p1 < (0 : Int32))) (q1 : p1 < p2) :
    Met l Z Y8 jdk_42_method_155_code 2 none ws ({ frames := 1, cells := 0, slots := 0, locals := 14 } : Room) #[(.int p1), (.int p2)] h0 (Q_rm_sci Z p1 p2 fm h0 n0) := by
  refine Met.enter (f0 := fun m => mkF m 0 #[vi p1, vi p2] []) (plainFor_of_name pn_java_lang_String) (fun m => ef_rm_sci m p1 p2) ?_
  intro p e s m below meth c s₁ hx hby hml hown hnm hret hlk hZ X0 e0
  have hown : s.vm.findClass "java/lang/String" = some m.cls := hown
  have hnm : meth.name = "checkIndex" := hnm
  have hml : c.maxLocals = 2 := hml
  have dk : ∀ {i : Nat} {r : Except DecodeError (Instr × Nat)}, decode jdk_42_method_155_code i = r → decode c.code i = r := fun h => hb hby h
  have N0 := Fr.nil n0
  refine gy (St s₁ m 2 #[vi p1, vi p2] [(.int p2), (.int p1)]) (fun _ k => XS.iloadN X0.here hx rfl (dk d17_0) rfl (XS.iloadN X0.here hx rfl (dk d17_1) rfl k)) ?_
  obtain ⟨T680, X680, e680, st680⟩ := getS2 X0 hx hZ hown (host := "") (Or.inl (wd hw 79 rfl)) Via.refl e0 (pr1.ext pr0.2) (g := (mkF m 2 #[vi p1, vi p2] [(.int p2), (.int p1)])) rfl (dk d17_2)
  refine gy (St T680 m 5 #[vi p1, vi p2] [fm, (.int p2), (.int p1)]) st680 ?_
  obtain ⟨_, _, ⟨T681, L681, k681, n681⟩, -, X681, ⟨Lc681, hQ681, l681, y681, z681⟩, st681⟩ := Jvm.LawKit.callS X680 hx (y := Y24) hown (mvT hZ (wd hw 81 rfl)) (mvT hZ (wd hw 82 rfl)) (mvT hZ (wd hw 80 rfl)) (mvT hZ (wd hw 83 rfl)) (by decide) (backOf (W := 0) (rm_pci l Z a0 hw [] p1 p2 fm h0 n0 Z0 hr_fm q0 q1) hZ (wd hw 83 rfl) (wd hw 80 rfl) (by decide) (by decide)) (g := (mkF m 5 #[vi p1, vi p2] [fm, (.int p2), (.int p1)])) rfl (by rw [hml]; rfl) (argsL := [(.int p1), (.int p2), fm]) (rest := []) (lenOf pd_11 rfl) rfl (by show 2 * 0 + _ ≤ _; exact Nat.le_of_eq rfl) (dk d17_5) (fun _ _ => ⟨rfl, e680, Nat.le_of_ble_eq_true rfl, Nat.le_of_ble_eq_true rfl⟩)
  dsimp only [Pt.U, Pt.locs, Pt.cells, Pt.slots] at X681 l681 y681 z681 st681 hQ681
  subst l681 y681 z681
  obtain ⟨rfl, Nq681, hh681⟩ := hQ681
  have N681 := Fr.app N0 Nq681
  refine gy (St T681 m 8 #[vi p1, vi p2] [(.int p1)]) (fun _ k => st681 _ k) ?_
  refine gy (St T681 m 9 #[vi p1, vi p2] []) (fun _ k => XS.pop X681.here hx rfl (dk d17_8) rfl rfl k) ?_
  refine Go.retV X681 hx hlk hret (dk d17_9) (by decide) (by decide) ?_
  rw [hh681]
  exact ⟨rfl, N681, rfl⟩
theorem ef_rm_ulen (m : MethodId) (x0 : Addr) : entryFrame m #[(.ref x0)] 1 = mkF m 0 #[vr x0] [] := by first | (simp [entryFrame, mkF, argsToLocals, Value.category]; done) | rfl
theorem d26_0 : decode jdk_52_method_6_code 0 = .ok (.aload_n 0, 1) := by decide +kernel
theorem d26_1 : decode jdk_52_method_6_code 1 = .ok (.arraylength, 1) := by decide +kernel
theorem d26_2 : decode jdk_52_method_6_code 2 = .ok (.iconst 1, 1) := by decide +kernel
theorem d26_3 : decode jdk_52_method_6_code 3 = .ok (.ishr, 1) := by decide +kernel
theorem d26_4 : decode jdk_52_method_6_code 4 = .ok (.ireturn, 1) := by decide +kernel
def Q_rm_ulen (Z : State) (b1 : Addr) (kb : ClassId) (c0 : Int32) (c1 : Int32) (c2 : Int32) (c3 : Int32) (h0 : Heap) (n0 : Nat) (vv : Option Value) (h : Heap) (L : List Loc) : Prop := vv = some (.int 4) ∧ Fr n0 L ∧ h = h0
set_option maxRecDepth 65536 in
set_option maxHeartbeats 40000000 in
theorem rm_ulen (l : Launch) (Z : State) (a0 : Array Value) (hw : HW a0 Z) (ws : List Jvm.Cond) (b1 : Addr) (kb : ClassId) (c0 : Int32) (c1 : Int32) (c2 : Int32) (c3 : Int32) (h0 : Heap) (n0 : Nat) (Z0 : n0 ≤ h0.size) (pr0 : Arv Z h0 b1 kb .byte (8 : Int32) [(.int (own_b0 c0)), (.int (own_b1 c0)), (.int (own_b0 c1)), (.int (own_b1 c1)), (.int (own_b0 c2)), (.int (own_b1 c2)), (.int (own_b0 c3)), (.int (own_b1 c3))] (.int 0)) :
    Met l Z Y19 jdk_52_method_6_code 1 (some .int) ws ({ frames := 0, cells := 0, slots := 0, locals := 0 } : Room) #[(.ref b1)] h0 (Q_rm_ulen Z b1 kb c0 c1 c2 c3 h0 n0) := by
  refine Met.enter (f0 := fun m => mkF m 0 #[vr b1] []) (plainFor_of_name pn_java_lang_StringUTF16) (fun m => ef_rm_ulen m b1) ?_
  intro p e s m below meth c s₁ hx hby hml hown hnm hret hlk hZ X0 e0
  have hown : s.vm.findClass "java/lang/StringUTF16" = some m.cls := hown
  have hnm : meth.name = "length" := hnm
  have hml : c.maxLocals = 1 := hml
  have dk : ∀ {i : Nat} {r : Except DecodeError (Instr × Nat)}, decode jdk_52_method_6_code i = r → decode c.code i = r := fun h => hb hby h
  have N0 := Fr.nil n0
  refine gy (St s₁ m 1 #[vr b1] [(.ref b1)]) (fun _ k => XS.aloadN X0.here hx rfl (dk d26_0) rfl rfl k) ?_
  obtain ⟨cl682, Ar682, q682, S682, N_682, Hs682, G682⟩ := id pr0
  refine gy (St s₁ m 2 #[vr b1] [(.int 8)]) (fun _ k => X0.arraylength hx (by rw [e0]; exact Ar682.1) (State.isArrayOf_alike hZ.alike Ar682.2.1) (g := (mkF m 1 #[vr b1] [(.ref b1)])) rfl rfl (dk d26_1) _ (by rw [len_of S682 N_682]; exact k)) ?_
  refine gy (St s₁ m 4 #[vr b1] [(.int 4)]) (fun _ k => XS.iconst X0.here hx rfl (dk d26_2) (XS.ishr X0.here hx rfl (dk d26_3) rfl k)) ?_
  refine Go.ret X0 hx hlk (t := .int) hret rfl (Or.inl ⟨rfl, by simp, _, rfl⟩) (dk d26_4) (by decide) (by decide) ?_
  rw [e0]
  exact ⟨rfl, N0, rfl⟩
theorem ef_rm_lca0 (m : MethodId) (x0 : Addr) : entryFrame m #[(.ref x0), (.int 0)] 2 = mkF m 0 #[vr x0, vi 0] [] := by first | (simp [entryFrame, mkF, argsToLocals, Value.category]; done) | rfl
theorem d16_0 : decode jdk_43_method_2_code 0 = .ok (.iload_n 1, 1) := by decide +kernel
theorem d16_1 : decode jdk_43_method_2_code 1 = .ok (.aload_n 0, 1) := by decide +kernel
theorem d16_2 : decode jdk_43_method_2_code 2 = .ok (.arraylength, 1) := by decide +kernel
theorem d16_3 : decode jdk_43_method_2_code 3 = .ok (.invokestatic 9, 3) := by decide +kernel
theorem pd_12 : parseMethodDescriptor "(II)V" = some ⟨[.int, .int], none⟩ := by decide +kernel
theorem d16_6 : decode jdk_43_method_2_code 6 = .ok (.aload_n 0, 1) := by decide +kernel
theorem d16_7 : decode jdk_43_method_2_code 7 = .ok (.iload_n 1, 1) := by decide +kernel
theorem d16_8 : decode jdk_43_method_2_code 8 = .ok (.baload, 1) := by decide +kernel
theorem d16_9 : decode jdk_43_method_2_code 9 = .ok (.sipush 255, 3) := by decide +kernel
theorem d16_12 : decode jdk_43_method_2_code 12 = .ok (.iand, 1) := by decide +kernel
theorem d16_13 : decode jdk_43_method_2_code 13 = .ok (.i2c, 1) := by decide +kernel
theorem d16_14 : decode jdk_43_method_2_code 14 = .ok (.ireturn, 1) := by decide +kernel
theorem pn_java_lang_StringLatin1 : plainName "java/lang/StringLatin1" = true := by first | (simp [plainName, overriddenIn]; done) | decide +kernel
def Q_rm_lca0 (Z : State) (b1 : Addr) (kb : ClassId) (fm : Value) (c0 : Int32) (c1 : Int32) (c2 : Int32) (c3 : Int32) (h0 : Heap) (n0 : Nat) (vv : Option Value) (h : Heap) (L : List Loc) : Prop := vv = some (.int c0) ∧ Fr n0 L ∧ h = h0
set_option maxRecDepth 65536 in
set_option maxHeartbeats 40000000 in
theorem rm_lca0 (l : Launch) (Z : State) (a0 : Array Value) (hw : HW a0 Z) (ws : List Jvm.Cond) (b1 : Addr) (kb : ClassId) (fm : Value) (c0 : Int32) (c1 : Int32) (c2 : Int32) (c3 : Int32) (h0 : Heap) (n0 : Nat) (Z0 : n0 ≤ h0.size) (pr0 : Old Z n0 h0) (pr1 : Sta Z Z.heap "jdk/internal/util/Preconditions" "SIOOBE_FORMATTER" "Ljava/util/function/BiFunction;" fm) (hr_fm : fm.isRef = true) (pr3 : Arv Z h0 b1 kb .byte (4 : Int32) [(.int (nar .byte (c0.toInt8.toInt32))), (.int (nar .byte (c1.toInt8.toInt32))), (.int (nar .byte (c2.toInt8.toInt32))), (.int (nar .byte (c3.toInt8.toInt32)))] (.int 0)) (hr0 : own_rng c0) (hn0 : ¬ ((255 : Int32) < c0)) :
    Met l Z Y12 jdk_43_method_2_code 2 (some .char) ws ({ frames := 2, cells := 0, slots := 0, locals := 27 } : Room) #[(.ref b1), (.int 0)] h0 (Q_rm_lca0 Z b1 kb fm c0 c1 c2 c3 h0 n0) := by
  refine Met.enter (f0 := fun m => mkF m 0 #[vr b1, vi 0] []) (plainFor_of_name pn_java_lang_StringLatin1) (fun m => ef_rm_lca0 m b1) ?_
  intro p e s m below meth c s₁ hx hby hml hown hnm hret hlk hZ X0 e0
  have hown : s.vm.findClass "java/lang/StringLatin1" = some m.cls := hown
  have hnm : meth.name = "charAt" := hnm
  have hml : c.maxLocals = 2 := hml
  have dk : ∀ {i : Nat} {r : Except DecodeError (Instr × Nat)}, decode jdk_43_method_2_code i = r → decode c.code i = r := fun h => hb hby h
  have N0 := Fr.nil n0
  refine gy (St s₁ m 2 #[vr b1, vi 0] [(.ref b1), (.int 0)]) (fun _ k => XS.iloadN X0.here hx rfl (dk d16_0) rfl (XS.aloadN X0.here hx rfl (dk d16_1) rfl rfl k)) ?_
  obtain ⟨cl683, Ar683, q683, S683, N_683, Hs683, G683⟩ := id pr3
  refine gy (St s₁ m 3 #[vr b1, vi 0] [(.int 4), (.int 0)]) (fun _ k => X0.arraylength hx (by rw [e0]; exact Ar683.1) (State.isArrayOf_alike hZ.alike Ar683.2.1) (g := (mkF m 2 #[vr b1, vi 0] [(.ref b1), (.int 0)])) rfl rfl (dk d16_2) _ (by rw [len_of S683 N_683]; exact k)) ?_
  obtain ⟨_, _, ⟨T684, L684, k684, n684⟩, -, X684, ⟨Lc684, hQ684, l684, y684, z684⟩, st684⟩ := Jvm.LawKit.callS X0 hx (y := Y8) hown (mvT hZ (wd hw 76 rfl)) (mvT hZ (wd hw 77 rfl)) (mvT hZ (wd hw 11 rfl)) (mvT hZ (wd hw 78 rfl)) (by decide) (backOf (W := 0) (rm_sci l Z a0 hw [] (0 : Int32) (4 : Int32) fm h0 n0 Z0 pr0 pr1 hr_fm (by decide) (by decide)) hZ (wd hw 78 rfl) (wd hw 11 rfl) (by decide) (by decide)) (g := (mkF m 3 #[vr b1, vi 0] [(.int 4), (.int 0)])) rfl (by rw [hml]; rfl) (argsL := [(.int 0), (.int 4)]) (rest := []) (lenOf pd_12 rfl) rfl (by show 2 * 0 + _ ≤ _; exact Nat.le_of_eq rfl) (dk d16_3) (fun _ _ => ⟨rfl, e0, Nat.le_of_ble_eq_true rfl, Nat.le_of_ble_eq_true rfl⟩)
  dsimp only [Pt.U, Pt.locs, Pt.cells, Pt.slots] at X684 l684 y684 z684 st684 hQ684
  subst l684 y684 z684
  obtain ⟨rfl, Nq684, hh684⟩ := hQ684
  have N684 := Fr.app N0 Nq684
  refine gy (St T684 m 6 #[vr b1, vi 0] []) (fun _ k => st684 _ k) ?_
  refine gy (St T684 m 8 #[vr b1, vi 0] [(.int 0), (.ref b1)]) (fun _ k => XS.aloadN X684.here hx rfl (dk d16_6) rfl rfl (XS.iloadN X684.here hx rfl (dk d16_7) rfl k)) ?_
  obtain ⟨cl685, Ar685, q685, S685, N_685, Hs685, G685⟩ := id pr3
  have hin686 : ¬ ((0 : Int32) < 0 ∨ cl685.slots.size ≤ ((0 : Int32)).toNatClampNeg) := inb_of S685 ⟨by decide, by decide⟩
  have hat686 : cl685.slots[((0 : Int32)).toNatClampNeg]? = some (.int (nar .byte (c0.toInt8.toInt32))) := Hs685.at hin686 rfl
  refine gy (St T684 m 9 #[vr b1, vi 0] [(.int (nar .byte (c0.toInt8.toInt32)))]) (fun _ k => X684.baloadBytes hx (j := (0 : Int32)) (v := (.int (nar .byte (c0.toInt8.toInt32)))) (by rw [hh684]; exact Ar685.1) (State.isArrayOf_alike hZ.alike Ar685.2.1) Ar685.2.2 hin686 hat686 (g := (mkF m 8 #[vr b1, vi 0] [(.int 0), (.ref b1)])) rfl rfl (dk d16_8) _ k) ?_
  refine gy (St T684 m 14 #[vr b1, vi 0] [(.int (((nar .byte (c0.toInt8.toInt32)) &&& (255 : Int32)).toUInt32.toUInt16.toUInt32.toInt32))]) (fun _ k => XS.sipush X684.here hx rfl (dk d16_9) (XS.iand X684.here hx rfl (dk d16_12) rfl (XS.i2c X684.here hx rfl (dk d16_13) rfl k))) ?_
  refine Go.retZ X684 hx hlk (t := .char) hret (by simp) (dk d16_14) (by decide) (by decide) ?_
  rw [hh684]
  exact ⟨(congrArg (fun q => some (Value.int q)) (own_lc hr0 hn0)), N684, rfl⟩
theorem ef_rm_uci0 (m : MethodId) (x1 : Addr) : entryFrame m #[(.int 0), (.ref x1)] 2 = mkF m 0 #[vi 0, vr x1] [] := by first | (simp [entryFrame, mkF, argsToLocals, Value.category]; done) | rfl
theorem d25_0 : decode jdk_52_method_91_code 0 = .ok (.iload_n 0, 1) := by decide +kernel
theorem d25_1 : decode jdk_52_method_91_code 1 = .ok (.aload_n 1, 1) := by decide +kernel
theorem d25_2 : decode jdk_52_method_91_code 2 = .ok (.invokestatic 48, 3) := by decide +kernel
theorem pd_13 : parseMethodDescriptor "([B)I" = some ⟨[(.array .byte)], some .int⟩ := by decide +kernel
theorem d25_5 : decode jdk_52_method_91_code 5 = .ok (.invokestatic 414, 3) := by decide +kernel
theorem d25_8 : decode jdk_52_method_91_code 8 = .ok (.return_, 1) := by decide +kernel
def Q_rm_uci0 (Z : State) (b1 : Addr) (kb : ClassId) (fm : Value) (c0 : Int32) (c1 : Int32) (c2 : Int32) (c3 : Int32) (h0 : Heap) (n0 : Nat) (vv : Option Value) (h : Heap) (L : List Loc) : Prop := vv = none ∧ Fr n0 L ∧ h = h0
set_option maxRecDepth 65536 in
set_option maxHeartbeats 40000000 in
theorem rm_uci0 (l : Launch) (Z : State) (a0 : Array Value) (hw : HW a0 Z) (ws : List Jvm.Cond) (b1 : Addr) (kb : ClassId) (fm : Value) (c0 : Int32) (c1 : Int32) (c2 : Int32) (c3 : Int32) (h0 : Heap) (n0 : Nat) (Z0 : n0 ≤ h0.size) (pr0 : Old Z n0 h0) (pr1 : Sta Z Z.heap "jdk/internal/util/Preconditions" "SIOOBE_FORMATTER" "Ljava/util/function/BiFunction;" fm) (hr_fm : fm.isRef = true) (pr3 : Arv Z h0 b1 kb .byte (8 : Int32) [(.int (own_b0 c0)), (.int (own_b1 c0)), (.int (own_b0 c1)), (.int (own_b1 c1)), (.int (own_b0 c2)), (.int (own_b1 c2)), (.int (own_b0 c3)), (.int (own_b1 c3))] (.int 0)) :
    Met l Z Y14 jdk_52_method_91_code 2 none ws ({ frames := 2, cells := 0, slots := 0, locals := 27 } : Room) #[(.int 0), (.ref b1)] h0 (Q_rm_uci0 Z b1 kb fm c0 c1 c2 c3 h0 n0) := by
  refine Met.enter (f0 := fun m => mkF m 0 #[vi 0, vr b1] []) (plainFor_of_name pn_java_lang_StringUTF16) (fun m => ef_rm_uci0 m b1) ?_
  intro p e s m below meth c s₁ hx hby hml hown hnm hret hlk hZ X0 e0
  have hown : s.vm.findClass "java/lang/StringUTF16" = some m.cls := hown
  have hnm : meth.name = "checkIndex" := hnm
  have hml : c.maxLocals = 2 := hml
  have dk : ∀ {i : Nat} {r : Except DecodeError (Instr × Nat)}, decode jdk_52_method_91_code i = r → decode c.code i = r := fun h => hb hby h
  have N0 := Fr.nil n0
  refine gy (St s₁ m 2 #[vi 0, vr b1] [(.ref b1), (.int 0)]) (fun _ k => XS.iloadN X0.here hx rfl (dk d25_0) rfl (XS.aloadN X0.here hx rfl (dk d25_1) rfl rfl k)) ?_
  obtain ⟨_, _, ⟨T687, L687, k687, n687⟩, -, X687, ⟨Lc687, hQ687, l687, y687, z687⟩, st687⟩ := Jvm.LawKit.callS X0 hx (y := Y19) hown (mvT hZ (wd hw 109 rfl)) (mvT hZ (wd hw 110 rfl)) (mvT hZ (wd hw 48 rfl)) (mvT hZ (wd hw 111 rfl)) (by decide) (backOf (W := 1) (rm_ulen l Z a0 hw [] b1 kb c0 c1 c2 c3 h0 n0 Z0 pr3) hZ (wd hw 111 rfl) (wd hw 48 rfl) (by decide) (by decide)) (g := (mkF m 2 #[vi 0, vr b1] [(.ref b1), (.int 0)])) rfl (by rw [hml]; rfl) (argsL := [(.ref b1)]) (rest := [(.int 0)]) (lenOf pd_13 rfl) rfl (by show 2 * 0 + _ ≤ _; exact Nat.le_of_eq rfl) (dk d25_2) (fun _ _ => ⟨rfl, e0, Nat.le_of_ble_eq_true rfl, Nat.le_of_ble_eq_true rfl⟩)
  dsimp only [Pt.U, Pt.locs, Pt.cells, Pt.slots] at X687 l687 y687 z687 st687 hQ687
  subst l687 y687 z687
  obtain ⟨rfl, Nq687, hh687⟩ := hQ687
  have N687 := Fr.app N0 Nq687
  refine gy (St T687 m 5 #[vi 0, vr b1] [(.int 4), (.int 0)]) (fun _ k => st687 _ k) ?_
  obtain ⟨_, _, ⟨T688, L688, k688, n688⟩, -, X688, ⟨Lc688, hQ688, l688, y688, z688⟩, st688⟩ := Jvm.LawKit.callS X687 hx (y := Y8) hown (mvT hZ (wd hw 112 rfl)) (mvT hZ (wd hw 77 rfl)) (mvT hZ (wd hw 11 rfl)) (mvT hZ (wd hw 78 rfl)) (by decide) (backOf (W := 0) (rm_sci l Z a0 hw [] (0 : Int32) (4 : Int32) fm h0 n0 Z0 pr0 pr1 hr_fm (by decide) (by decide)) hZ (wd hw 78 rfl) (wd hw 11 rfl) (by decide) (by decide)) (g := (mkF m 5 #[vi 0, vr b1] [(.int 4), (.int 0)])) rfl (by rw [hml]; rfl) (argsL := [(.int 0), (.int 4)]) (rest := []) (lenOf pd_12 rfl) rfl (by show 2 * 0 + _ ≤ _; exact Nat.le_of_eq rfl) (dk d25_5) (fun _ _ => ⟨rfl, hh687, Nat.le_of_ble_eq_true rfl, Nat.le_of_ble_eq_true rfl⟩)
  dsimp only [Pt.U, Pt.locs, Pt.cells, Pt.slots] at X688 l688 y688 z688 st688 hQ688
  subst l688 y688 z688
  obtain ⟨rfl, Nq688, hh688⟩ := hQ688
  have N688 := Fr.app N687 Nq688
  refine gy (St T688 m 8 #[vi 0, vr b1] []) (fun _ k => st688 _ k) ?_
  refine Go.retV X688 hx hlk hret (dk d25_8) (by decide) (by decide) ?_
  rw [hh688]
  exact ⟨rfl, N688, rfl⟩
theorem ef_rm_uca0 (m : MethodId) (x0 : Addr) : entryFrame m #[(.ref x0), (.int 0)] 2 = mkF m 0 #[vr x0, vi 0] [] := by first | (simp [entryFrame, mkF, argsToLocals, Value.category]; done) | rfl
theorem d24_0 : decode jdk_52_method_83_code 0 = .ok (.iload_n 1, 1) := by decide +kernel
theorem d24_1 : decode jdk_52_method_83_code 1 = .ok (.aload_n 0, 1) := by decide +kernel
theorem d24_2 : decode jdk_52_method_83_code 2 = .ok (.invokestatic 67, 3) := by decide +kernel
theorem pd_14 : parseMethodDescriptor "(I[B)V" = some ⟨[.int, (.array .byte)], none⟩ := by decide +kernel
theorem d24_5 : decode jdk_52_method_83_code 5 = .ok (.aload_n 0, 1) := by decide +kernel
theorem d24_6 : decode jdk_52_method_83_code 6 = .ok (.iload_n 1, 1) := by decide +kernel
theorem d24_7 : decode jdk_52_method_83_code 7 = .ok (.invokestatic 71, 3) := by decide +kernel
theorem d24_10 : decode jdk_52_method_83_code 10 = .ok (.ireturn, 1) := by decide +kernel
def Q_rm_uca0 (Z : State) (b1 : Addr) (kb : ClassId) (fm : Value) (c0 : Int32) (c1 : Int32) (c2 : Int32) (c3 : Int32) (h0 : Heap) (n0 : Nat) (vv : Option Value) (h : Heap) (L : List Loc) : Prop := vv = some (.int c0) ∧ Fr n0 L ∧ h = h0
set_option maxRecDepth 65536 in
set_option maxHeartbeats 40000000 in
theorem rm_uca0 (l : Launch) (Z : State) (a0 : Array Value) (hw : HW a0 Z) (ws : List Jvm.Cond) (b1 : Addr) (kb : ClassId) (fm : Value) (c0 : Int32) (c1 : Int32) (c2 : Int32) (c3 : Int32) (h0 : Heap) (n0 : Nat) (Z0 : n0 ≤ h0.size) (pr0 : Old Z n0 h0) (pr1 : Sta Z Z.heap "jdk/internal/util/Preconditions" "SIOOBE_FORMATTER" "Ljava/util/function/BiFunction;" fm) (hr_fm : fm.isRef = true) (pr3 : Sta Z Z.heap "java/lang/StringUTF16" "$assertionsDisabled" "Z" (.int 1)) (pr4 : Sta Z Z.heap "java/lang/StringUTF16" "HI_BYTE_SHIFT" "I" (.int 0)) (pr5 : Sta Z Z.heap "java/lang/StringUTF16" "LO_BYTE_SHIFT" "I" (.int 8)) (pr6 : Arv Z h0 b1 kb .byte (8 : Int32) [(.int (own_b0 c0)), (.int (own_b1 c0)), (.int (own_b0 c1)), (.int (own_b1 c1)), (.int (own_b0 c2)), (.int (own_b1 c2)), (.int (own_b0 c3)), (.int (own_b1 c3))] (.int 0)) (hr0 : own_rng c0) :
    Met l Z Y13 jdk_52_method_83_code 2 (some .char) ws ({ frames := 3, cells := 0, slots := 0, locals := 40 } : Room) #[(.ref b1), (.int 0)] h0 (Q_rm_uca0 Z b1 kb fm c0 c1 c2 c3 h0 n0) := by
  refine Met.enter (f0 := fun m => mkF m 0 #[vr b1, vi 0] []) (plainFor_of_name pn_java_lang_StringUTF16) (fun m => ef_rm_uca0 m b1) ?_
  intro p e s m below meth c s₁ hx hby hml hown hnm hret hlk hZ X0 e0
  have hown : s.vm.findClass "java/lang/StringUTF16" = some m.cls := hown
  have hnm : meth.name = "charAt" := hnm
  have hml : c.maxLocals = 2 := hml
  have dk : ∀ {i : Nat} {r : Except DecodeError (Instr × Nat)}, decode jdk_52_method_83_code i = r → decode c.code i = r := fun h => hb hby h
  have N0 := Fr.nil n0
  refine gy (St s₁ m 2 #[vr b1, vi 0] [(.ref b1), (.int 0)]) (fun _ k => XS.iloadN X0.here hx rfl (dk d24_0) rfl (XS.aloadN X0.here hx rfl (dk d24_1) rfl rfl k)) ?_
  obtain ⟨_, _, ⟨T689, L689, k689, n689⟩, -, X689, ⟨Lc689, hQ689, l689, y689, z689⟩, st689⟩ := Jvm.LawKit.callS X0 hx (y := Y14) hown (mvT hZ (wd hw 106 rfl)) (mvT hZ (wd hw 107 rfl)) (mvT hZ (wd hw 48 rfl)) (mvT hZ (wd hw 108 rfl)) (by decide) (backOf (W := 0) (rm_uci0 l Z a0 hw [] b1 kb fm c0 c1 c2 c3 h0 n0 Z0 pr0 pr1 hr_fm pr6) hZ (wd hw 108 rfl) (wd hw 48 rfl) (by decide) (by decide)) (g := (mkF m 2 #[vr b1, vi 0] [(.ref b1), (.int 0)])) rfl (by rw [hml]; rfl) (argsL := [(.int 0), (.ref b1)]) (rest := []) (lenOf pd_14 rfl) rfl (by show 2 * 0 + _ ≤ _; exact Nat.le_of_eq rfl) (dk d24_2) (fun _ _ => ⟨rfl, e0, Nat.le_of_ble_eq_true rfl, Nat.le_of_ble_eq_true rfl⟩)
  dsimp only [Pt.U, Pt.locs, Pt.cells, Pt.slots] at X689 l689 y689 z689 st689 hQ689
  subst l689 y689 z689
  obtain ⟨rfl, Nq689, hh689⟩ := hQ689
  have N689 := Fr.app N0 Nq689
  refine gy (St T689 m 5 #[vr b1, vi 0] []) (fun _ k => st689 _ k) ?_
  refine gy (St T689 m 7 #[vr b1, vi 0] [(.int 0), (.ref b1)]) (fun _ k => XS.aloadN X689.here hx rfl (dk d24_5) rfl rfl (XS.iloadN X689.here hx rfl (dk d24_6) rfl k)) ?_
  obtain ⟨_, _, ⟨T690, L690, k690, n690⟩, -, X690, ⟨Lc690, hQ690, l690, y690, z690⟩, st690⟩ := Jvm.LawKit.callS X689 hx (y := Y18) hown (mvT hZ (wd hw 100 rfl)) (mvT hZ (wd hw 101 rfl)) (mvT hZ (wd hw 48 rfl)) (mvT hZ (wd hw 102 rfl)) (by decide) (backOf (W := 0) (rm_get_0 l Z a0 hw [] b1 kb c0 (8 : Int32) [(.int (own_b0 c0)), (.int (own_b1 c0)), (.int (own_b0 c1)), (.int (own_b1 c1)), (.int (own_b0 c2)), (.int (own_b1 c2)), (.int (own_b0 c3)), (.int (own_b1 c3))] h0 n0 Z0 pr0 pr3 pr4 pr5 pr6 (by decide) (by decide) rfl rfl hr0) hZ (wd hw 102 rfl) (wd hw 48 rfl) (by decide) (by decide)) (g := (mkF m 7 #[vr b1, vi 0] [(.int 0), (.ref b1)])) rfl (by rw [hml]; rfl) (argsL := [(.ref b1), (.int 0)]) (rest := []) (lenOf pd_5 rfl) rfl (by show 2 * 0 + _ ≤ _; exact Nat.le_of_eq rfl) (dk d24_7) (fun _ _ => ⟨rfl, hh689, Nat.le_of_ble_eq_true rfl, Nat.le_of_ble_eq_true rfl⟩)
  dsimp only [Pt.U, Pt.locs, Pt.cells, Pt.slots] at X690 l690 y690 z690 st690 hQ690
  subst l690 y690 z690
  obtain ⟨rfl, Nq690, hh690⟩ := hQ690
  have N690 := Fr.app N689 Nq690
  refine gy (St T690 m 10 #[vr b1, vi 0] [(.int c0)]) (fun _ k => st690 _ k) ?_
  refine Go.retZ X690 hx hlk (t := .char) hret (by simp) (dk d24_10) (by decide) (by decide) ?_
  rw [hh690]
  exact ⟨(congrArg (fun q => some (Value.int q)) (own_nc hr0)), N690, rfl⟩
theorem ef_rm_ca0_0 (m : MethodId) (x0 : Addr) : entryFrame m #[(.ref x0), (.int 0)] 2 = mkF m 0 #[vr x0, vi 0] [] := by first | (simp [entryFrame, mkF, argsToLocals, Value.category]; done) | rfl
theorem d14_0 : decode jdk_42_method_56_code 0 = .ok (.aload_n 0, 1) := by decide +kernel
theorem d14_1 : decode jdk_42_method_56_code 1 = .ok (.invokevirtual 492, 3) := by decide +kernel
theorem pd_15 : parseMethodDescriptor "()Z" = some ⟨[], some .boolean⟩ := by decide +kernel
theorem d14_4 : decode jdk_42_method_56_code 4 = .ok (.ifCond .eq 12, 3) := by decide +kernel
theorem d14_7 : decode jdk_42_method_56_code 7 = .ok (.aload_n 0, 1) := by decide +kernel
theorem d14_8 : decode jdk_42_method_56_code 8 = .ok (.getfield 9, 3) := by decide +kernel
theorem d14_11 : decode jdk_42_method_56_code 11 = .ok (.iload_n 1, 1) := by decide +kernel
theorem d14_12 : decode jdk_42_method_56_code 12 = .ok (.invokestatic 495, 3) := by decide +kernel
theorem d14_15 : decode jdk_42_method_56_code 15 = .ok (.ireturn, 1) := by decide +kernel
def Q_rm_ca0_0 (Z : State) (a1 : Addr) (t1 : Addr) (k1 : ClassId) (cs : Int32) (fm : Value) (c0 : Int32) (c1 : Int32) (c2 : Int32) (c3 : Int32) (h0 : Heap) (n0 : Nat) (vv : Option Value) (h : Heap) (L : List Loc) : Prop := vv = some (.int c0) ∧ Fr n0 L ∧ h = h0
set_option maxRecDepth 65536 in
set_option maxHeartbeats 40000000 in
theorem rm_ca0_0 (l : Launch) (Z : State) (a0 : Array Value) (hw : HW a0 Z) (ws : List Jvm.Cond) (a1 : Addr) (t1 : Addr) (k1 : ClassId) (cs : Int32) (fm : Value) (c0 : Int32) (c1 : Int32) (c2 : Int32) (c3 : Int32) (h0 : Heap) (n0 : Nat) (Z0 : n0 ≤ h0.size) (pr0 : Old Z n0 h0) (pr1 : Sta Z Z.heap "java/lang/String" "COMPACT_STRINGS" "Z" (.int cs)) (hcs : ¬ (cs = (0 : Int32))) (pr3 : Sta Z Z.heap "jdk/internal/util/Preconditions" "SIOOBE_FORMATTER" "Ljava/util/function/BiFunction;" fm) (hr_fm : fm.isRef = true) (pr5 : Exa Z h0 a1 "java/lang/String") (pr6 : Fld Z h0 a1 "java/lang/String" "value" "[B" (.ref t1)) (pr7 : Fld Z h0 a1 "java/lang/String" "coder" "B" (.int 0)) (pr8 : Arv Z h0 t1 k1 .byte (4 : Int32) [(.int (nar .byte (c0.toInt8.toInt32))), (.int (nar .byte (c1.toInt8.toInt32))), (.int (nar .byte (c2.toInt8.toInt32))), (.int (nar .byte (c3.toInt8.toInt32)))] (.int 0)) (hr0 : own_rng c0) (hn0 : ¬ ((255 : Int32) < c0)) :
    Met l Z Y7 jdk_42_method_56_code 2 (some .char) ws ({ frames := 3, cells := 0, slots := 0, locals := 40 } : Room) #[(.ref a1), (.int 0)] h0 (Q_rm_ca0_0 Z a1 t1 k1 cs fm c0 c1 c2 c3 h0 n0) := by
  refine Met.enter (f0 := fun m => mkF m 0 #[vr a1, vi 0] []) (plainFor_of_name pn_java_lang_String) (fun m => ef_rm_ca0_0 m a1) ?_
  intro p e s m below meth c s₁ hx hby hml hown hnm hret hlk hZ X0 e0
  have hown : s.vm.findClass "java/lang/String" = some m.cls := hown
  have hnm : meth.name = "charAt" := hnm
  have hml : c.maxLocals = 2 := hml
  have dk : ∀ {i : Nat} {r : Except DecodeError (Instr × Nat)}, decode jdk_42_method_56_code i = r → decode c.code i = r := fun h => hb hby h
  have N0 := Fr.nil n0
  refine gy (St s₁ m 1 #[vr a1, vi 0] [(.ref a1)]) (fun _ k => XS.aloadN X0.here hx rfl (dk d14_0) rfl rfl k) ?_
  obtain ⟨cq691, kq691, q691a, q691b, q691c⟩ := isOf hZ e0 pr5
  obtain ⟨_, _, ⟨T691, L691, k691, n691⟩, -, X691, ⟨Lc691, hQ691, l691, y691, z691⟩, st691⟩ := X0.virtualBack hx (y := Y10) (z := Y10) hown (mvT hZ (wd hw 67 rfl)) (mvT hZ (wd hw 68 rfl)) (notFace_of_selects (args := #[]) (mvT hZ (wd hw 70 rfl))) (mvT hZ (wd hw 70 rfl)) (mvT hZ (wd hw 69 rfl)) (by decide) (backOf (W := 0) (rm_isL0 l Z a0 hw [] a1 cs h0 n0 Z0 pr0 pr1 hcs pr7) hZ (wd hw 71 rfl) (wd hw 11 rfl) (by decide) (by decide)) q691a q691c (g := (mkF m 1 #[vr a1, vi 0] [(.ref a1)])) rfl (by rw [hml]; rfl) (Steps.refl _) (argsL := []) (rest := []) (lenOf pd_15 rfl) rfl (by show 2 * 0 + _ ≤ _; exact Nat.le_of_eq rfl) (dk d14_1) (fun _ _ => ⟨rfl, e0, Nat.le_of_ble_eq_true rfl, Nat.le_of_ble_eq_true rfl⟩)
  dsimp only [Pt.U, Pt.locs, Pt.cells, Pt.slots] at X691 l691 y691 z691 st691 hQ691
  subst l691 y691 z691
  obtain ⟨rfl, Nq691, hh691⟩ := hQ691
  have N691 := Fr.app N0 Nq691
  refine gy (St T691 m 4 #[vr a1, vi 0] [(.int 1)]) (fun _ k => st691.trans k) ?_
  refine gy (St T691 m 8 #[vr a1, vi 0] [(.ref a1)]) (fun _ k => XS.ifNo X691.here hx rfl (dk d14_4) rfl ((if0 _ _).trans (feq (by decide : ¬ ((1 : Int32) = (0 : Int32)))).1) (XS.aloadN X691.here hx rfl (dk d14_7) rfl rfl k)) ?_
  obtain ⟨T692, X692, e692, st692⟩ := getF X691 hx hZ hown (host := "") (Or.inl (wd hw 29 rfl)) Via.refl hh691 pr6 (g := (mkF m 8 #[vr a1, vi 0] [(.ref a1)])) rfl rfl (dk d14_8)
  refine gy (St T692 m 11 #[vr a1, vi 0] [(.ref t1)]) st692 ?_
  refine gy (St T692 m 12 #[vr a1, vi 0] [(.int 0), (.ref t1)]) (fun _ k => XS.iloadN X692.here hx rfl (dk d14_11) rfl k) ?_
  obtain ⟨_, _, ⟨T693, L693, k693, n693⟩, -, X693, ⟨Lc693, hQ693, l693, y693, z693⟩, st693⟩ := Jvm.LawKit.callS X692 hx (y := Y12) hown (mvT hZ (wd hw 72 rfl)) (mvT hZ (wd hw 73 rfl)) (mvT hZ (wd hw 74 rfl)) (mvT hZ (wd hw 75 rfl)) (by decide) (backOf (W := 0) (rm_lca0 l Z a0 hw [] t1 k1 fm c0 c1 c2 c3 h0 n0 Z0 pr0 pr3 hr_fm pr8 hr0 hn0) hZ (wd hw 75 rfl) (wd hw 74 rfl) (by decide) (by decide)) (g := (mkF m 12 #[vr a1, vi 0] [(.int 0), (.ref t1)])) rfl (by rw [hml]; rfl) (argsL := [(.ref t1), (.int 0)]) (rest := []) (lenOf pd_5 rfl) rfl (by show 2 * 0 + _ ≤ _; exact Nat.le_of_eq rfl) (dk d14_12) (fun _ _ => ⟨rfl, e692, Nat.le_of_ble_eq_true rfl, Nat.le_of_ble_eq_true rfl⟩)
  dsimp only [Pt.U, Pt.locs, Pt.cells, Pt.slots] at X693 l693 y693 z693 st693 hQ693
  subst l693 y693 z693
  obtain ⟨rfl, Nq693, hh693⟩ := hQ693
  have N693 := Fr.app N691 Nq693
  refine gy (St T693 m 15 #[vr a1, vi 0] [(.int c0)]) (fun _ k => st693 _ k) ?_
  refine Go.retZ X693 hx hlk (t := .char) hret (by simp) (dk d14_15) (by decide) (by decide) ?_
  rw [hh693]
  exact ⟨(congrArg (fun q => some (Value.int q)) (own_nc hr0)), N693, rfl⟩
theorem ef_rm_ca0_1 (m : MethodId) (x0 : Addr) : entryFrame m #[(.ref x0), (.int 0)] 2 = mkF m 0 #[vr x0, vi 0] [] := by first | (simp [entryFrame, mkF, argsToLocals, Value.category]; done) | rfl
theorem d14_16 : decode jdk_42_method_56_code 16 = .ok (.aload_n 0, 1) := by decide +kernel
theorem d14_17 : decode jdk_42_method_56_code 17 = .ok (.getfield 9, 3) := by decide +kernel
theorem d14_20 : decode jdk_42_method_56_code 20 = .ok (.iload_n 1, 1) := by decide +kernel
theorem d14_21 : decode jdk_42_method_56_code 21 = .ok (.invokestatic 498, 3) := by decide +kernel
theorem d14_24 : decode jdk_42_method_56_code 24 = .ok (.ireturn, 1) := by decide +kernel
def Q_rm_ca0_1 (Z : State) (a1 : Addr) (t1 : Addr) (k1 : ClassId) (cs : Int32) (fm : Value) (c0 : Int32) (c1 : Int32) (c2 : Int32) (c3 : Int32) (h0 : Heap) (n0 : Nat) (vv : Option Value) (h : Heap) (L : List Loc) : Prop := vv = some (.int c0) ∧ Fr n0 L ∧ h = h0
set_option maxRecDepth 65536 in
set_option maxHeartbeats 40000000 in
theorem rm_ca0_1 (l : Launch) (Z : State) (a0 : Array Value) (hw : HW a0 Z) (ws : List Jvm.Cond) (a1 : Addr) (t1 : Addr) (k1 : ClassId) (cs : Int32) (fm : Value) (c0 : Int32) (c1 : Int32) (c2 : Int32) (c3 : Int32) (h0 : Heap) (n0 : Nat) (Z0 : n0 ≤ h0.size) (pr0 : Old Z n0 h0) (pr1 : Sta Z Z.heap "java/lang/String" "COMPACT_STRINGS" "Z" (.int cs)) (hcs : ¬ (cs = (0 : Int32))) (pr3 : Sta Z Z.heap "jdk/internal/util/Preconditions" "SIOOBE_FORMATTER" "Ljava/util/function/BiFunction;" fm) (hr_fm : fm.isRef = true) (pr5 : Sta Z Z.heap "java/lang/StringUTF16" "$assertionsDisabled" "Z" (.int 1)) (pr6 : Sta Z Z.heap "java/lang/StringUTF16" "HI_BYTE_SHIFT" "I" (.int 0)) (pr7 : Sta Z Z.heap "java/lang/StringUTF16" "LO_BYTE_SHIFT" "I" (.int 8)) (pr8 : Exa Z h0 a1 "java/lang/String") (pr9 : Fld Z h0 a1 "java/lang/String" "value" "[B" (.ref t1)) (pr10 : Fld Z h0 a1 "java/lang/String" "coder" "B" (.int 1)) (pr11 : Arv Z h0 t1 k1 .byte (8 : Int32) [(.int (own_b0 c0)), (.int (own_b1 c0)), (.int (own_b0 c1)), (.int (own_b1 c1)), (.int (own_b0 c2)), (.int (own_b1 c2)), (.int (own_b0 c3)), (.int (own_b1 c3))] (.int 0)) (hr0 : own_rng c0) :
    Met l Z Y7 jdk_42_method_56_code 2 (some .char) ws ({ frames := 4, cells := 0, slots := 0, locals := 53 } : Room) #[(.ref a1), (.int 0)] h0 (Q_rm_ca0_1 Z a1 t1 k1 cs fm c0 c1 c2 c3 h0 n0) := by
  refine Met.enter (f0 := fun m => mkF m 0 #[vr a1, vi 0] []) (plainFor_of_name pn_java_lang_String) (fun m => ef_rm_ca0_1 m a1) ?_
  intro p e s m below meth c s₁ hx hby hml hown hnm hret hlk hZ X0 e0
  have hown : s.vm.findClass "java/lang/String" = some m.cls := hown
  have hnm : meth.name = "charAt" := hnm
  have hml : c.maxLocals = 2 := hml
  have dk : ∀ {i : Nat} {r : Except DecodeError (Instr × Nat)}, decode jdk_42_method_56_code i = r → decode c.code i = r := fun h => hb hby h
  have N0 := Fr.nil n0
  refine gy (St s₁ m 1 #[vr a1, vi 0] [(.ref a1)]) (fun _ k => XS.aloadN X0.here hx rfl (dk d14_0) rfl rfl k) ?_
  obtain ⟨cq694, kq694, q694a, q694b, q694c⟩ := isOf hZ e0 pr8
  obtain ⟨_, _, ⟨T694, L694, k694, n694⟩, -, X694, ⟨Lc694, hQ694, l694, y694, z694⟩, st694⟩ := X0.virtualBack hx (y := Y10) (z := Y10) hown (mvT hZ (wd hw 67 rfl)) (mvT hZ (wd hw 68 rfl)) (notFace_of_selects (args := #[]) (mvT hZ (wd hw 70 rfl))) (mvT hZ (wd hw 70 rfl)) (mvT hZ (wd hw 69 rfl)) (by decide) (backOf (W := 0) (rm_isL1 l Z a0 hw [] a1 cs h0 n0 Z0 pr0 pr1 hcs pr10) hZ (wd hw 71 rfl) (wd hw 11 rfl) (by decide) (by decide)) q694a q694c (g := (mkF m 1 #[vr a1, vi 0] [(.ref a1)])) rfl (by rw [hml]; rfl) (Steps.refl _) (argsL := []) (rest := []) (lenOf pd_15 rfl) rfl (by show 2 * 0 + _ ≤ _; exact Nat.le_of_eq rfl) (dk d14_1) (fun _ _ => ⟨rfl, e0, Nat.le_of_ble_eq_true rfl, Nat.le_of_ble_eq_true rfl⟩)
  dsimp only [Pt.U, Pt.locs, Pt.cells, Pt.slots] at X694 l694 y694 z694 st694 hQ694
  subst l694 y694 z694
  obtain ⟨rfl, Nq694, hh694⟩ := hQ694
  have N694 := Fr.app N0 Nq694
  refine gy (St T694 m 4 #[vr a1, vi 0] [(.int 0)]) (fun _ k => st694.trans k) ?_
  refine gy (St T694 m 17 #[vr a1, vi 0] [(.ref a1)]) (fun _ k => XS.ifYes X694.here hx rfl (pc0 := 4) (pc' := 16) rfl (dk d14_4) rfl ((if0 _ _).trans (teq (by decide : (0 : Int32) = (0 : Int32))).1) (by decide) (by decide) (XS.aloadN X694.here hx rfl (dk d14_16) rfl rfl k)) ?_
  obtain ⟨T695, X695, e695, st695⟩ := getF X694 hx hZ hown (host := "") (Or.inl (wd hw 29 rfl)) Via.refl hh694 pr9 (g := (mkF m 17 #[vr a1, vi 0] [(.ref a1)])) rfl rfl (dk d14_17)
  refine gy (St T695 m 20 #[vr a1, vi 0] [(.ref t1)]) st695 ?_
  refine gy (St T695 m 21 #[vr a1, vi 0] [(.int 0), (.ref t1)]) (fun _ k => XS.iloadN X695.here hx rfl (dk d14_20) rfl k) ?_
  obtain ⟨_, _, ⟨T696, L696, k696, n696⟩, -, X696, ⟨Lc696, hQ696, l696, y696, z696⟩, st696⟩ := Jvm.LawKit.callS X695 hx (y := Y13) hown (mvT hZ (wd hw 103 rfl)) (mvT hZ (wd hw 104 rfl)) (mvT hZ (wd hw 48 rfl)) (mvT hZ (wd hw 105 rfl)) (by decide) (backOf (W := 0) (rm_uca0 l Z a0 hw [] t1 k1 fm c0 c1 c2 c3 h0 n0 Z0 pr0 pr3 hr_fm pr5 pr6 pr7 pr11 hr0) hZ (wd hw 105 rfl) (wd hw 48 rfl) (by decide) (by decide)) (g := (mkF m 21 #[vr a1, vi 0] [(.int 0), (.ref t1)])) rfl (by rw [hml]; rfl) (argsL := [(.ref t1), (.int 0)]) (rest := []) (lenOf pd_5 rfl) rfl (by show 2 * 0 + _ ≤ _; exact Nat.le_of_eq rfl) (dk d14_21) (fun _ _ => ⟨rfl, e695, Nat.le_of_ble_eq_true rfl, Nat.le_of_ble_eq_true rfl⟩)
  dsimp only [Pt.U, Pt.locs, Pt.cells, Pt.slots] at X696 l696 y696 z696 st696 hQ696
  subst l696 y696 z696
  obtain ⟨rfl, Nq696, hh696⟩ := hQ696
  have N696 := Fr.app N694 Nq696
  refine gy (St T696 m 24 #[vr a1, vi 0] [(.int c0)]) (fun _ k => st696 _ k) ?_
  refine Go.retZ X696 hx hlk (t := .char) hret (by simp) (dk d14_24) (by decide) (by decide) ?_
  rw [hh696]
  exact ⟨(congrArg (fun q => some (Value.int q)) (own_nc hr0)), N696, rfl⟩
theorem ef_rm_lca1 (m : MethodId) (x0 : Addr) : entryFrame m #[(.ref x0), (.int 1)] 2 = mkF m 0 #[vr x0, vi 1] [] := by first | (simp [entryFrame, mkF, argsToLocals, Value.category]; done) | rfl
def Q_rm_lca1 (Z : State) (b1 : Addr) (kb : ClassId) (fm : Value) (c0 : Int32) (c1 : Int32) (c2 : Int32) (c3 : Int32) (h0 : Heap) (n0 : Nat) (vv : Option Value) (h : Heap) (L : List Loc) : Prop := vv = some (.int c1) ∧ Fr n0 L ∧ h = h0
set_option maxRecDepth 65536 in
set_option maxHeartbeats 40000000 in
theorem rm_lca1 (l : Launch) (Z : State) (a0 : Array Value) (hw : HW a0 Z) (ws : List Jvm.Cond) (b1 : Addr) (kb : ClassId) (fm : Value) (c0 : Int32) (c1 : Int32) (c2 : Int32) (c3 : Int32) (h0 : Heap) (n0 : Nat) (Z0 : n0 ≤ h0.size) (pr0 : Old Z n0 h0) (pr1 : Sta Z Z.heap "jdk/internal/util/Preconditions" "SIOOBE_FORMATTER" "Ljava/util/function/BiFunction;" fm) (hr_fm : fm.isRef = true) (pr3 : Arv Z h0 b1 kb .byte (4 : Int32) [(.int (nar .byte (c0.toInt8.toInt32))), (.int (nar .byte (c1.toInt8.toInt32))), (.int (nar .byte (c2.toInt8.toInt32))), (.int (nar .byte (c3.toInt8.toInt32)))] (.int 0)) (hr1 : own_rng c1) (hn1 : ¬ ((255 : Int32) < c1)) :
    Met l Z Y12 jdk_43_method_2_code 2 (some .char) ws ({ frames := 2, cells := 0, slots := 0, locals := 27 } : Room) #[(.ref b1), (.int 1)] h0 (Q_rm_lca1 Z b1 kb fm c0 c1 c2 c3 h0 n0) := by
  refine Met.enter (f0 := fun m => mkF m 0 #[vr b1, vi 1] []) (plainFor_of_name pn_java_lang_StringLatin1) (fun m => ef_rm_lca1 m b1) ?_
  intro p e s m below meth c s₁ hx hby hml hown hnm hret hlk hZ X0 e0
  have hown : s.vm.findClass "java/lang/StringLatin1" = some m.cls := hown
  have hnm : meth.name = "charAt" := hnm
  have hml : c.maxLocals = 2 := hml
  have dk : ∀ {i : Nat} {r : Except DecodeError (Instr × Nat)}, decode jdk_43_method_2_code i = r → decode c.code i = r := fun h => hb hby h
  have N0 := Fr.nil n0
  refine gy (St s₁ m 2 #[vr b1, vi 1] [(.ref b1), (.int 1)]) (fun _ k => XS.iloadN X0.here hx rfl (dk d16_0) rfl (XS.aloadN X0.here hx rfl (dk d16_1) rfl rfl k)) ?_
  obtain ⟨cl697, Ar697, q697, S697, N_697, Hs697, G697⟩ := id pr3
  refine gy (St s₁ m 3 #[vr b1, vi 1] [(.int 4), (.int 1)]) (fun _ k => X0.arraylength hx (by rw [e0]; exact Ar697.1) (State.isArrayOf_alike hZ.alike Ar697.2.1) (g := (mkF m 2 #[vr b1, vi 1] [(.ref b1), (.int 1)])) rfl rfl (dk d16_2) _ (by rw [len_of S697 N_697]; exact k)) ?_
  obtain ⟨_, _, ⟨T698, L698, k698, n698⟩, -, X698, ⟨Lc698, hQ698, l698, y698, z698⟩, st698⟩ := Jvm.LawKit.callS X0 hx (y := Y8) hown (mvT hZ (wd hw 76 rfl)) (mvT hZ (wd hw 77 rfl)) (mvT hZ (wd hw 11 rfl)) (mvT hZ (wd hw 78 rfl)) (by decide) (backOf (W := 0) (rm_sci l Z a0 hw [] (1 : Int32) (4 : Int32) fm h0 n0 Z0 pr0 pr1 hr_fm (by decide) (by decide)) hZ (wd hw 78 rfl) (wd hw 11 rfl) (by decide) (by decide)) (g := (mkF m 3 #[vr b1, vi 1] [(.int 4), (.int 1)])) rfl (by rw [hml]; rfl) (argsL := [(.int 1), (.int 4)]) (rest := []) (lenOf pd_12 rfl) rfl (by show 2 * 0 + _ ≤ _; exact Nat.le_of_eq rfl) (dk d16_3) (fun _ _ => ⟨rfl, e0, Nat.le_of_ble_eq_true rfl, Nat.le_of_ble_eq_true rfl⟩)
  dsimp only [Pt.U, Pt.locs, Pt.cells, Pt.slots] at X698 l698 y698 z698 st698 hQ698
  subst l698 y698 z698
  obtain ⟨rfl, Nq698, hh698⟩ := hQ698
  have N698 := Fr.app N0 Nq698
  refine gy (St T698 m 6 #[vr b1, vi 1] []) (fun _ k => st698 _ k) ?_
  refine gy (St T698 m 8 #[vr b1, vi 1] [(.int 1), (.ref b1)]) (fun _ k => XS.aloadN X698.here hx rfl (dk d16_6) rfl rfl (XS.iloadN X698.here hx rfl (dk d16_7) rfl k)) ?_
  obtain ⟨cl699, Ar699, q699, S699, N_699, Hs699, G699⟩ := id pr3
  have hin700 : ¬ ((1 : Int32) < 0 ∨ cl699.slots.size ≤ ((1 : Int32)).toNatClampNeg) := inb_of S699 ⟨by decide, by decide⟩
  have hat700 : cl699.slots[((1 : Int32)).toNatClampNeg]? = some (.int (nar .byte (c1.toInt8.toInt32))) := Hs699.at hin700 rfl
  refine gy (St T698 m 9 #[vr b1, vi 1] [(.int (nar .byte (c1.toInt8.toInt32)))]) (fun _ k => X698.baloadBytes hx (j := (1 : Int32)) (v := (.int (nar .byte (c1.toInt8.toInt32)))) (by rw [hh698]; exact Ar699.1) (State.isArrayOf_alike hZ.alike Ar699.2.1) Ar699.2.2 hin700 hat700 (g := (mkF m 8 #[vr b1, vi 1] [(.int 1), (.ref b1)])) rfl rfl (dk d16_8) _ k) ?_
  refine gy (St T698 m 14 #[vr b1, vi 1] [(.int (((nar .byte (c1.toInt8.toInt32)) &&& (255 : Int32)).toUInt32.toUInt16.toUInt32.toInt32))]) (fun _ k => XS.sipush X698.here hx rfl (dk d16_9) (XS.iand X698.here hx rfl (dk d16_12) rfl (XS.i2c X698.here hx rfl (dk d16_13) rfl k))) ?_
  refine Go.retZ X698 hx hlk (t := .char) hret (by simp) (dk d16_14) (by decide) (by decide) ?_
  rw [hh698]
  exact ⟨(congrArg (fun q => some (Value.int q)) (own_lc hr1 hn1)), N698, rfl⟩
theorem ef_rm_uci1 (m : MethodId) (x1 : Addr) : entryFrame m #[(.int 1), (.ref x1)] 2 = mkF m 0 #[vi 1, vr x1] [] := by first | (simp [entryFrame, mkF, argsToLocals, Value.category]; done) | rfl
def Q_rm_uci1 (Z : State) (b1 : Addr) (kb : ClassId) (fm : Value) (c0 : Int32) (c1 : Int32) (c2 : Int32) (c3 : Int32) (h0 : Heap) (n0 : Nat) (vv : Option Value) (h : Heap) (L : List Loc) : Prop := vv = none ∧ Fr n0 L ∧ h = h0
set_option maxRecDepth 65536 in
set_option maxHeartbeats 40000000 in
theorem rm_uci1 (l : Launch) (Z : State) (a0 : Array Value) (hw : HW a0 Z) (ws : List Jvm.Cond) (b1 : Addr) (kb : ClassId) (fm : Value) (c0 : Int32) (c1 : Int32) (c2 : Int32) (c3 : Int32) (h0 : Heap) (n0 : Nat) (Z0 : n0 ≤ h0.size) (pr0 : Old Z n0 h0) (pr1 : Sta Z Z.heap "jdk/internal/util/Preconditions" "SIOOBE_FORMATTER" "Ljava/util/function/BiFunction;" fm) (hr_fm : fm.isRef = true) (pr3 : Arv Z h0 b1 kb .byte (8 : Int32) [(.int (own_b0 c0)), (.int (own_b1 c0)), (.int (own_b0 c1)), (.int (own_b1 c1)), (.int (own_b0 c2)), (.int (own_b1 c2)), (.int (own_b0 c3)), (.int (own_b1 c3))] (.int 0)) :
    Met l Z Y14 jdk_52_method_91_code 2 none ws ({ frames := 2, cells := 0, slots := 0, locals := 27 } : Room) #[(.int 1), (.ref b1)] h0 (Q_rm_uci1 Z b1 kb fm c0 c1 c2 c3 h0 n0) := by
  refine Met.enter (f0 := fun m => mkF m 0 #[vi 1, vr b1] []) (plainFor_of_name pn_java_lang_StringUTF16) (fun m => ef_rm_uci1 m b1) ?_
  intro p e s m below meth c s₁ hx hby hml hown hnm hret hlk hZ X0 e0
  have hown : s.vm.findClass "java/lang/StringUTF16" = some m.cls := hown
  have hnm : meth.name = "checkIndex" := hnm
  have hml : c.maxLocals = 2 := hml
  have dk : ∀ {i : Nat} {r : Except DecodeError (Instr × Nat)}, decode jdk_52_method_91_code i = r → decode c.code i = r := fun h => hb hby h
  have N0 := Fr.nil n0
  refine gy (St s₁ m 2 #[vi 1, vr b1] [(.ref b1), (.int 1)]) (fun _ k => XS.iloadN X0.here hx rfl (dk d25_0) rfl (XS.aloadN X0.here hx rfl (dk d25_1) rfl rfl k)) ?_
  obtain ⟨_, _, ⟨T701, L701, k701, n701⟩, -, X701, ⟨Lc701, hQ701, l701, y701, z701⟩, st701⟩ := Jvm.LawKit.callS X0 hx (y := Y19) hown (mvT hZ (wd hw 109 rfl)) (mvT hZ (wd hw 110 rfl)) (mvT hZ (wd hw 48 rfl)) (mvT hZ (wd hw 111 rfl)) (by decide) (backOf (W := 1) (rm_ulen l Z a0 hw [] b1 kb c0 c1 c2 c3 h0 n0 Z0 pr3) hZ (wd hw 111 rfl) (wd hw 48 rfl) (by decide) (by decide)) (g := (mkF m 2 #[vi 1, vr b1] [(.ref b1), (.int 1)])) rfl (by rw [hml]; rfl) (argsL := [(.ref b1)]) (rest := [(.int 1)]) (lenOf pd_13 rfl) rfl (by show 2 * 0 + _ ≤ _; exact Nat.le_of_eq rfl) (dk d25_2) (fun _ _ => ⟨rfl, e0, Nat.le_of_ble_eq_true rfl, Nat.le_of_ble_eq_true rfl⟩)
  dsimp only [Pt.U, Pt.locs, Pt.cells, Pt.slots] at X701 l701 y701 z701 st701 hQ701
  subst l701 y701 z701
  obtain ⟨rfl, Nq701, hh701⟩ := hQ701
  have N701 := Fr.app N0 Nq701
  refine gy (St T701 m 5 #[vi 1, vr b1] [(.int 4), (.int 1)]) (fun _ k => st701 _ k) ?_
  obtain ⟨_, _, ⟨T702, L702, k702, n702⟩, -, X702, ⟨Lc702, hQ702, l702, y702, z702⟩, st702⟩ := Jvm.LawKit.callS X701 hx (y := Y8) hown (mvT hZ (wd hw 112 rfl)) (mvT hZ (wd hw 77 rfl)) (mvT hZ (wd hw 11 rfl)) (mvT hZ (wd hw 78 rfl)) (by decide) (backOf (W := 0) (rm_sci l Z a0 hw [] (1 : Int32) (4 : Int32) fm h0 n0 Z0 pr0 pr1 hr_fm (by decide) (by decide)) hZ (wd hw 78 rfl) (wd hw 11 rfl) (by decide) (by decide)) (g := (mkF m 5 #[vi 1, vr b1] [(.int 4), (.int 1)])) rfl (by rw [hml]; rfl) (argsL := [(.int 1), (.int 4)]) (rest := []) (lenOf pd_12 rfl) rfl (by show 2 * 0 + _ ≤ _; exact Nat.le_of_eq rfl) (dk d25_5) (fun _ _ => ⟨rfl, hh701, Nat.le_of_ble_eq_true rfl, Nat.le_of_ble_eq_true rfl⟩)
  dsimp only [Pt.U, Pt.locs, Pt.cells, Pt.slots] at X702 l702 y702 z702 st702 hQ702
  subst l702 y702 z702
  obtain ⟨rfl, Nq702, hh702⟩ := hQ702
  have N702 := Fr.app N701 Nq702
  refine gy (St T702 m 8 #[vi 1, vr b1] []) (fun _ k => st702 _ k) ?_
  refine Go.retV X702 hx hlk hret (dk d25_8) (by decide) (by decide) ?_
  rw [hh702]
  exact ⟨rfl, N702, rfl⟩
theorem ef_rm_uca1 (m : MethodId) (x0 : Addr) : entryFrame m #[(.ref x0), (.int 1)] 2 = mkF m 0 #[vr x0, vi 1] [] := by first | (simp [entryFrame, mkF, argsToLocals, Value.category]; done) | rfl
def Q_rm_uca1 (Z : State) (b1 : Addr) (kb : ClassId) (fm : Value) (c0 : Int32) (c1 : Int32) (c2 : Int32) (c3 : Int32) (h0 : Heap) (n0 : Nat) (vv : Option Value) (h : Heap) (L : List Loc) : Prop := vv = some (.int c1) ∧ Fr n0 L ∧ h = h0
set_option maxRecDepth 65536 in
set_option maxHeartbeats 40000000 in
theorem rm_uca1 (l : Launch) (Z : State) (a0 : Array Value) (hw : HW a0 Z) (ws : List Jvm.Cond) (b1 : Addr) (kb : ClassId) (fm : Value) (c0 : Int32) (c1 : Int32) (c2 : Int32) (c3 : Int32) (h0 : Heap) (n0 : Nat) (Z0 : n0 ≤ h0.size) (pr0 : Old Z n0 h0) (pr1 : Sta Z Z.heap "jdk/internal/util/Preconditions" "SIOOBE_FORMATTER" "Ljava/util/function/BiFunction;" fm) (hr_fm : fm.isRef = true) (pr3 : Sta Z Z.heap "java/lang/StringUTF16" "$assertionsDisabled" "Z" (.int 1)) (pr4 : Sta Z Z.heap "java/lang/StringUTF16" "HI_BYTE_SHIFT" "I" (.int 0)) (pr5 : Sta Z Z.heap "java/lang/StringUTF16" "LO_BYTE_SHIFT" "I" (.int 8)) (pr6 : Arv Z h0 b1 kb .byte (8 : Int32) [(.int (own_b0 c0)), (.int (own_b1 c0)), (.int (own_b0 c1)), (.int (own_b1 c1)), (.int (own_b0 c2)), (.int (own_b1 c2)), (.int (own_b0 c3)), (.int (own_b1 c3))] (.int 0)) (hr1 : own_rng c1) :
    Met l Z Y13 jdk_52_method_83_code 2 (some .char) ws ({ frames := 3, cells := 0, slots := 0, locals := 40 } : Room) #[(.ref b1), (.int 1)] h0 (Q_rm_uca1 Z b1 kb fm c0 c1 c2 c3 h0 n0) := by
  refine Met.enter (f0 := fun m => mkF m 0 #[vr b1, vi 1] []) (plainFor_of_name pn_java_lang_StringUTF16) (fun m => ef_rm_uca1 m b1) ?_
  intro p e s m below meth c s₁ hx hby hml hown hnm hret hlk hZ X0 e0
  have hown : s.vm.findClass "java/lang/StringUTF16" = some m.cls := hown
  have hnm : meth.name = "charAt" := hnm
  have hml : c.maxLocals = 2 := hml
  have dk : ∀ {i : Nat} {r : Except DecodeError (Instr × Nat)}, decode jdk_52_method_83_code i = r → decode c.code i = r := fun h => hb hby h
  have N0 := Fr.nil n0
  refine gy (St s₁ m 2 #[vr b1, vi 1] [(.ref b1), (.int 1)]) (fun _ k => XS.iloadN X0.here hx rfl (dk d24_0) rfl (XS.aloadN X0.here hx rfl (dk d24_1) rfl rfl k)) ?_
  obtain ⟨_, _, ⟨T703, L703, k703, n703⟩, -, X703, ⟨Lc703, hQ703, l703, y703, z703⟩, st703⟩ := Jvm.LawKit.callS X0 hx (y := Y14) hown (mvT hZ (wd hw 106 rfl)) (mvT hZ (wd hw 107 rfl)) (mvT hZ (wd hw 48 rfl)) (mvT hZ (wd hw 108 rfl)) (by decide) (backOf (W := 0) (rm_uci1 l Z a0 hw [] b1 kb fm c0 c1 c2 c3 h0 n0 Z0 pr0 pr1 hr_fm pr6) hZ (wd hw 108 rfl) (wd hw 48 rfl) (by decide) (by decide)) (g := (mkF m 2 #[vr b1, vi 1] [(.ref b1), (.int 1)])) rfl (by rw [hml]; rfl) (argsL := [(.int 1), (.ref b1)]) (rest := []) (lenOf pd_14 rfl) rfl (by show 2 * 0 + _ ≤ _; exact Nat.le_of_eq rfl) (dk d24_2) (fun _ _ => ⟨rfl, e0, Nat.le_of_ble_eq_true rfl, Nat.le_of_ble_eq_true rfl⟩)
  dsimp only [Pt.U, Pt.locs, Pt.cells, Pt.slots] at X703 l703 y703 z703 st703 hQ703
  subst l703 y703 z703
  obtain ⟨rfl, Nq703, hh703⟩ := hQ703
  have N703 := Fr.app N0 Nq703
  refine gy (St T703 m 5 #[vr b1, vi 1] []) (fun _ k => st703 _ k) ?_
  refine gy (St T703 m 7 #[vr b1, vi 1] [(.int 1), (.ref b1)]) (fun _ k => XS.aloadN X703.here hx rfl (dk d24_5) rfl rfl (XS.iloadN X703.here hx rfl (dk d24_6) rfl k)) ?_
  obtain ⟨_, _, ⟨T704, L704, k704, n704⟩, -, X704, ⟨Lc704, hQ704, l704, y704, z704⟩, st704⟩ := Jvm.LawKit.callS X703 hx (y := Y18) hown (mvT hZ (wd hw 100 rfl)) (mvT hZ (wd hw 101 rfl)) (mvT hZ (wd hw 48 rfl)) (mvT hZ (wd hw 102 rfl)) (by decide) (backOf (W := 0) (rm_get_1 l Z a0 hw [] b1 kb c1 (8 : Int32) [(.int (own_b0 c0)), (.int (own_b1 c0)), (.int (own_b0 c1)), (.int (own_b1 c1)), (.int (own_b0 c2)), (.int (own_b1 c2)), (.int (own_b0 c3)), (.int (own_b1 c3))] h0 n0 Z0 pr0 pr3 pr4 pr5 pr6 (by decide) (by decide) rfl rfl hr1) hZ (wd hw 102 rfl) (wd hw 48 rfl) (by decide) (by decide)) (g := (mkF m 7 #[vr b1, vi 1] [(.int 1), (.ref b1)])) rfl (by rw [hml]; rfl) (argsL := [(.ref b1), (.int 1)]) (rest := []) (lenOf pd_5 rfl) rfl (by show 2 * 0 + _ ≤ _; exact Nat.le_of_eq rfl) (dk d24_7) (fun _ _ => ⟨rfl, hh703, Nat.le_of_ble_eq_true rfl, Nat.le_of_ble_eq_true rfl⟩)
  dsimp only [Pt.U, Pt.locs, Pt.cells, Pt.slots] at X704 l704 y704 z704 st704 hQ704
  subst l704 y704 z704
  obtain ⟨rfl, Nq704, hh704⟩ := hQ704
  have N704 := Fr.app N703 Nq704
  refine gy (St T704 m 10 #[vr b1, vi 1] [(.int c1)]) (fun _ k => st704 _ k) ?_
  refine Go.retZ X704 hx hlk (t := .char) hret (by simp) (dk d24_10) (by decide) (by decide) ?_
  rw [hh704]
  exact ⟨(congrArg (fun q => some (Value.int q)) (own_nc hr1)), N704, rfl⟩
theorem ef_rm_ca1_0 (m : MethodId) (x0 : Addr) : entryFrame m #[(.ref x0), (.int 1)] 2 = mkF m 0 #[vr x0, vi 1] [] := by first | (simp [entryFrame, mkF, argsToLocals, Value.category]; done) | rfl
def Q_rm_ca1_0 (Z : State) (a1 : Addr) (t1 : Addr) (k1 : ClassId) (cs : Int32) (fm : Value) (c0 : Int32) (c1 : Int32) (c2 : Int32) (c3 : Int32) (h0 : Heap) (n0 : Nat) (vv : Option Value) (h : Heap) (L : List Loc) : Prop := vv = some (.int c1) ∧ Fr n0 L ∧ h = h0
set_option maxRecDepth 65536 in
set_option maxHeartbeats 40000000 in
theorem rm_ca1_0 (l : Launch) (Z : State) (a0 : Array Value) (hw : HW a0 Z) (ws : List Jvm.Cond) (a1 : Addr) (t1 : Addr) (k1 : ClassId) (cs : Int32) (fm : Value) (c0 : Int32) (c1 : Int32) (c2 : Int32) (c3 : Int32) (h0 : Heap) (n0 : Nat) (Z0 : n0 ≤ h0.size) (pr0 : Old Z n0 h0) (pr1 : Sta Z Z.heap "java/lang/String" "COMPACT_STRINGS" "Z" (.int cs)) (hcs : ¬ (cs = (0 : Int32))) (pr3 : Sta Z Z.heap "jdk/internal/util/Preconditions" "SIOOBE_FORMATTER" "Ljava/util/function/BiFunction;" fm) (hr_fm : fm.isRef = true) (pr5 : Exa Z h0 a1 "java/lang/String") (pr6 : Fld Z h0 a1 "java/lang/String" "value" "[B" (.ref t1)) (pr7 : Fld Z h0 a1 "java/lang/String" "coder" "B" (.int 0)) (pr8 : Arv Z h0 t1 k1 .byte (4 : Int32) [(.int (nar .byte (c0.toInt8.toInt32))), (.int (nar .byte (c1.toInt8.toInt32))), (.int (nar .byte (c2.toInt8.toInt32))), (.int (nar .byte (c3.toInt8.toInt32)))] (.int 0)) (hr1 : own_rng c1) (hn1 : ¬ ((255 : Int32) < c1)) :
    Met l Z Y7 jdk_42_method_56_code 2 (some .char) ws ({ frames := 3, cells := 0, slots := 0, locals := 40 } : Room) #[(.ref a1), (.int 1)] h0 (Q_rm_ca1_0 Z a1 t1 k1 cs fm c0 c1 c2 c3 h0 n0) := by
  refine Met.enter (f0 := fun m => mkF m 0 #[vr a1, vi 1] []) (plainFor_of_name pn_java_lang_String) (fun m => ef_rm_ca1_0 m a1) ?_
  intro p e s m below meth c s₁ hx hby hml hown hnm hret hlk hZ X0 e0
  have hown : s.vm.findClass "java/lang/String" = some m.cls := hown
  have hnm : meth.name = "charAt" := hnm
  have hml : c.maxLocals = 2 := hml
  have dk : ∀ {i : Nat} {r : Except DecodeError (Instr × Nat)}, decode jdk_42_method_56_code i = r → decode c.code i = r := fun h => hb hby h
  have N0 := Fr.nil n0
  refine gy (St s₁ m 1 #[vr a1, vi 1] [(.ref a1)]) (fun _ k => XS.aloadN X0.here hx rfl (dk d14_0) rfl rfl k) ?_
  obtain ⟨cq705, kq705, q705a, q705b, q705c⟩ := isOf hZ e0 pr5
  obtain ⟨_, _, ⟨T705, L705, k705, n705⟩, -, X705, ⟨Lc705, hQ705, l705, y705, z705⟩, st705⟩ := X0.virtualBack hx (y := Y10) (z := Y10) hown (mvT hZ (wd hw 67 rfl)) (mvT hZ (wd hw 68 rfl)) (notFace_of_selects (args := #[]) (mvT hZ (wd hw 70 rfl))) (mvT hZ (wd hw 70 rfl)) (mvT hZ (wd hw 69 rfl)) (by decide) (backOf (W := 0) (rm_isL0 l Z a0 hw [] a1 cs h0 n0 Z0 pr0 pr1 hcs pr7) hZ (wd hw 71 rfl) (wd hw 11 rfl) (by decide) (by decide)) q705a q705c (g := (mkF m 1 #[vr a1, vi 1] [(.ref a1)])) rfl (by rw [hml]; rfl) (Steps.refl _) (argsL := []) (rest := []) (lenOf pd_15 rfl) rfl (by show 2 * 0 + _ ≤ _; exact Nat.le_of_eq rfl) (dk d14_1) (fun _ _ => ⟨rfl, e0, Nat.le_of_ble_eq_true rfl, Nat.le_of_ble_eq_true rfl⟩)
  dsimp only [Pt.U, Pt.locs, Pt.cells, Pt.slots] at X705 l705 y705 z705 st705 hQ705
  subst l705 y705 z705
  obtain ⟨rfl, Nq705, hh705⟩ := hQ705
  have N705 := Fr.app N0 Nq705
  refine gy (St T705 m 4 #[vr a1, vi 1] [(.int 1)]) (fun _ k => st705.trans k) ?_
  refine gy (St T705 m 8 #[vr a1, vi 1] [(.ref a1)]) (fun _ k => XS.ifNo X705.here hx rfl (dk d14_4) rfl ((if0 _ _).trans (feq (by decide : ¬ ((1 : Int32) = (0 : Int32)))).1) (XS.aloadN X705.here hx rfl (dk d14_7) rfl rfl k)) ?_
  obtain ⟨T706, X706, e706, st706⟩ := getF X705 hx hZ hown (host := "") (Or.inl (wd hw 29 rfl)) Via.refl hh705 pr6 (g := (mkF m 8 #[vr a1, vi 1] [(.ref a1)])) rfl rfl (dk d14_8)
  refine gy (St T706 m 11 #[vr a1, vi 1] [(.ref t1)]) st706 ?_
  refine gy (St T706 m 12 #[vr a1, vi 1] [(.int 1), (.ref t1)]) (fun _ k => XS.iloadN X706.here hx rfl (dk d14_11) rfl k) ?_
  obtain ⟨_, _, ⟨T707, L707, k707, n707⟩, -, X707, ⟨Lc707, hQ707, l707, y707, z707⟩, st707⟩ := Jvm.LawKit.callS X706 hx (y := Y12) hown (mvT hZ (wd hw 72 rfl)) (mvT hZ (wd hw 73 rfl)) (mvT hZ (wd hw 74 rfl)) (mvT hZ (wd hw 75 rfl)) (by decide) (backOf (W := 0) (rm_lca1 l Z a0 hw [] t1 k1 fm c0 c1 c2 c3 h0 n0 Z0 pr0 pr3 hr_fm pr8 hr1 hn1) hZ (wd hw 75 rfl) (wd hw 74 rfl) (by decide) (by decide)) (g := (mkF m 12 #[vr a1, vi 1] [(.int 1), (.ref t1)])) rfl (by rw [hml]; rfl) (argsL := [(.ref t1), (.int 1)]) (rest := []) (lenOf pd_5 rfl) rfl (by show 2 * 0 + _ ≤ _; exact Nat.le_of_eq rfl) (dk d14_12) (fun _ _ => ⟨rfl, e706, Nat.le_of_ble_eq_true rfl, Nat.le_of_ble_eq_true rfl⟩)
  dsimp only [Pt.U, Pt.locs, Pt.cells, Pt.slots] at X707 l707 y707 z707 st707 hQ707
  subst l707 y707 z707
  obtain ⟨rfl, Nq707, hh707⟩ := hQ707
  have N707 := Fr.app N705 Nq707
  refine gy (St T707 m 15 #[vr a1, vi 1] [(.int c1)]) (fun _ k => st707 _ k) ?_
  refine Go.retZ X707 hx hlk (t := .char) hret (by simp) (dk d14_15) (by decide) (by decide) ?_
  rw [hh707]
  exact ⟨(congrArg (fun q => some (Value.int q)) (own_nc hr1)), N707, rfl⟩
theorem ef_rm_ca1_1 (m : MethodId) (x0 : Addr) : entryFrame m #[(.ref x0), (.int 1)] 2 = mkF m 0 #[vr x0, vi 1] [] := by first | (simp [entryFrame, mkF, argsToLocals, Value.category]; done) | rfl
def Q_rm_ca1_1 (Z : State) (a1 : Addr) (t1 : Addr) (k1 : ClassId) (cs : Int32) (fm : Value) (c0 : Int32) (c1 : Int32) (c2 : Int32) (c3 : Int32) (h0 : Heap) (n0 : Nat) (vv : Option Value) (h : Heap) (L : List Loc) : Prop := vv = some (.int c1) ∧ Fr n0 L ∧ h = h0
set_option maxRecDepth 65536 in
set_option maxHeartbeats 40000000 in
theorem rm_ca1_1 (l : Launch) (Z : State) (a0 : Array Value) (hw : HW a0 Z) (ws : List Jvm.Cond) (a1 : Addr) (t1 : Addr) (k1 : ClassId) (cs : Int32) (fm : Value) (c0 : Int32) (c1 : Int32) (c2 : Int32) (c3 : Int32) (h0 : Heap) (n0 : Nat) (Z0 : n0 ≤ h0.size) (pr0 : Old Z n0 h0) (pr1 : Sta Z Z.heap "java/lang/String" "COMPACT_STRINGS" "Z" (.int cs)) (hcs : ¬ (cs = (0 : Int32))) (pr3 : Sta Z Z.heap "jdk/internal/util/Preconditions" "SIOOBE_FORMATTER" "Ljava/util/function/BiFunction;" fm) (hr_fm : fm.isRef = true) (pr5 : Sta Z Z.heap "java/lang/StringUTF16" "$assertionsDisabled" "Z" (.int 1)) (pr6 : Sta Z Z.heap "java/lang/StringUTF16" "HI_BYTE_SHIFT" "I" (.int 0)) (pr7 : Sta Z Z.heap "java/lang/StringUTF16" "LO_BYTE_SHIFT" "I" (.int 8)) (pr8 : Exa Z h0 a1 "java/lang/String") (pr9 : Fld Z h0 a1 "java/lang/String" "value" "[B" (.ref t1)) (pr10 : Fld Z h0 a1 "java/lang/String" "coder" "B" (.int 1)) (pr11 : Arv Z h0 t1 k1 .byte (8 : Int32) [(.int (own_b0 c0)), (.int (own_b1 c0)), (.int (own_b0 c1)), (.int (own_b1 c1)), (.int (own_b0 c2)), (.int (own_b1 c2)), (.int (own_b0 c3)), (.int (own_b1 c3))] (.int 0)) (hr1 : own_rng c1) :
    Met l Z Y7 jdk_42_method_56_code 2 (some .char) ws ({ frames := 4, cells := 0, slots := 0, locals := 53 } : Room) #[(.ref a1), (.int 1)] h0 (Q_rm_ca1_1 Z a1 t1 k1 cs fm c0 c1 c2 c3 h0 n0) := by
  refine Met.enter (f0 := fun m => mkF m 0 #[vr a1, vi 1] []) (plainFor_of_name pn_java_lang_String) (fun m => ef_rm_ca1_1 m a1) ?_
  intro p e s m below meth c s₁ hx hby hml hown hnm hret hlk hZ X0 e0
  have hown : s.vm.findClass "java/lang/String" = some m.cls := hown
  have hnm : meth.name = "charAt" := hnm
  have hml : c.maxLocals = 2 := hml
  have dk : ∀ {i : Nat} {r : Except DecodeError (Instr × Nat)}, decode jdk_42_method_56_code i = r → decode c.code i = r := fun h => hb hby h
  have N0 := Fr.nil n0
  refine gy (St s₁ m 1 #[vr a1, vi 1] [(.ref a1)]) (fun _ k => XS.aloadN X0.here hx rfl (dk d14_0) rfl rfl k) ?_
  obtain ⟨cq708, kq708, q708a, q708b, q708c⟩ := isOf hZ e0 pr8
  obtain ⟨_, _, ⟨T708, L708, k708, n708⟩, -, X708, ⟨Lc708, hQ708, l708, y708, z708⟩, st708⟩ := X0.virtualBack hx (y := Y10) (z := Y10) hown (mvT hZ (wd hw 67 rfl)) (mvT hZ (wd hw 68 rfl)) (notFace_of_selects (args := #[]) (mvT hZ (wd hw 70 rfl))) (mvT hZ (wd hw 70 rfl)) (mvT hZ (wd hw 69 rfl)) (by decide) (backOf (W := 0) (rm_isL1 l Z a0 hw [] a1 cs h0 n0 Z0 pr0 pr1 hcs pr10) hZ (wd hw 71 rfl) (wd hw 11 rfl) (by decide) (by decide)) q708a q708c (g := (mkF m 1 #[vr a1, vi 1] [(.ref a1)])) rfl (by rw [hml]; rfl) (Steps.refl _) (argsL := []) (rest := []) (lenOf pd_15 rfl) rfl (by show 2 * 0 + _ ≤ _; exact Nat.le_of_eq rfl) (dk d14_1) (fun _ _ => ⟨rfl, e0, Nat.le_of_ble_eq_true rfl, Nat.le_of_ble_eq_true rfl⟩)
  dsimp only [Pt.U, Pt.locs, Pt.cells, Pt.slots] at X708 l708 y708 z708 st708 hQ708
  subst l708 y708 z708
  obtain ⟨rfl, Nq708, hh708⟩ := hQ708
  have N708 := Fr.app N0 Nq708
  refine gy (St T708 m 4 #[vr a1, vi 1] [(.int 0)]) (fun _ k => st708.trans k) ?_
  refine gy (St T708 m 17 #[vr a1, vi 1] [(.ref a1)]) (fun _ k => XS.ifYes X708.here hx rfl (pc0 := 4) (pc' := 16) rfl (dk d14_4) rfl ((if0 _ _).trans (teq (by decide : (0 : Int32) = (0 : Int32))).1) (by decide) (by decide) (XS.aloadN X708.here hx rfl (dk d14_16) rfl rfl k)) ?_
  obtain ⟨T709, X709, e709, st709⟩ := getF X708 hx hZ hown (host := "") (Or.inl (wd hw 29 rfl)) Via.refl hh708 pr9 (g := (mkF m 17 #[vr a1, vi 1] [(.ref a1)])) rfl rfl (dk d14_17)
  refine gy (St T709 m 20 #[vr a1, vi 1] [(.ref t1)]) st709 ?_
  refine gy (St T709 m 21 #[vr a1, vi 1] [(.int 1), (.ref t1)]) (fun _ k => XS.iloadN X709.here hx rfl (dk d14_20) rfl k) ?_
  obtain ⟨_, _, ⟨T710, L710, k710, n710⟩, -, X710, ⟨Lc710, hQ710, l710, y710, z710⟩, st710⟩ := Jvm.LawKit.callS X709 hx (y := Y13) hown (mvT hZ (wd hw 103 rfl)) (mvT hZ (wd hw 104 rfl)) (mvT hZ (wd hw 48 rfl)) (mvT hZ (wd hw 105 rfl)) (by decide) (backOf (W := 0) (rm_uca1 l Z a0 hw [] t1 k1 fm c0 c1 c2 c3 h0 n0 Z0 pr0 pr3 hr_fm pr5 pr6 pr7 pr11 hr1) hZ (wd hw 105 rfl) (wd hw 48 rfl) (by decide) (by decide)) (g := (mkF m 21 #[vr a1, vi 1] [(.int 1), (.ref t1)])) rfl (by rw [hml]; rfl) (argsL := [(.ref t1), (.int 1)]) (rest := []) (lenOf pd_5 rfl) rfl (by show 2 * 0 + _ ≤ _; exact Nat.le_of_eq rfl) (dk d14_21) (fun _ _ => ⟨rfl, e709, Nat.le_of_ble_eq_true rfl, Nat.le_of_ble_eq_true rfl⟩)
  dsimp only [Pt.U, Pt.locs, Pt.cells, Pt.slots] at X710 l710 y710 z710 st710 hQ710
  subst l710 y710 z710
  obtain ⟨rfl, Nq710, hh710⟩ := hQ710
  have N710 := Fr.app N708 Nq710
  refine gy (St T710 m 24 #[vr a1, vi 1] [(.int c1)]) (fun _ k => st710 _ k) ?_
  refine Go.retZ X710 hx hlk (t := .char) hret (by simp) (dk d14_24) (by decide) (by decide) ?_
  rw [hh710]
  exact ⟨(congrArg (fun q => some (Value.int q)) (own_nc hr1)), N710, rfl⟩
theorem ef_rm_lca2 (m : MethodId) (x0 : Addr) : entryFrame m #[(.ref x0), (.int 2)] 2 = mkF m 0 #[vr x0, vi 2] [] := by first | (simp [entryFrame, mkF, argsToLocals, Value.category]; done) | rfl
def Q_rm_lca2 (Z : State) (b1 : Addr) (kb : ClassId) (fm : Value) (c0 : Int32) (c1 : Int32) (c2 : Int32) (c3 : Int32) (h0 : Heap) (n0 : Nat) (vv : Option Value) (h : Heap) (L : List Loc) : Prop := vv = some (.int c2) ∧ Fr n0 L ∧ h = h0
set_option maxRecDepth 65536 in
set_option maxHeartbeats 40000000 in
theorem rm_lca2 (l : Launch) (Z : State) (a0 : Array Value) (hw : HW a0 Z) (ws : List Jvm.Cond) (b1 : Addr) (kb : ClassId) (fm : Value) (c0 : Int32) (c1 : Int32) (c2 : Int32) (c3 : Int32) (h0 : Heap) (n0 : Nat) (Z0 : n0 ≤ h0.size) (pr0 : Old Z n0 h0) (pr1 : Sta Z Z.heap "jdk/internal/util/Preconditions" "SIOOBE_FORMATTER" "Ljava/util/function/BiFunction;" fm) (hr_fm : fm.isRef = true) (pr3 : Arv Z h0 b1 kb .byte (4 : Int32) [(.int (nar .byte (c0.toInt8.toInt32))), (.int (nar .byte (c1.toInt8.toInt32))), (.int (nar .byte (c2.toInt8.toInt32))), (.int (nar .byte (c3.toInt8.toInt32)))] (.int 0)) (hr2 : own_rng c2) (hn2 : ¬ ((255 : Int32) < c2)) :
    Met l Z Y12 jdk_43_method_2_code 2 (some .char) ws ({ frames := 2, cells := 0, slots := 0, locals := 27 } : Room) #[(.ref b1), (.int 2)] h0 (Q_rm_lca2 Z b1 kb fm c0 c1 c2 c3 h0 n0) := by
  refine Met.enter (f0 := fun m => mkF m 0 #[vr b1, vi 2] []) (plainFor_of_name pn_java_lang_StringLatin1) (fun m => ef_rm_lca2 m b1) ?_
  intro p e s m below meth c s₁ hx hby hml hown hnm hret hlk hZ X0 e0
  have hown : s.vm.findClass "java/lang/StringLatin1" = some m.cls := hown
  have hnm : meth.name = "charAt" := hnm
  have hml : c.maxLocals = 2 := hml
  have dk : ∀ {i : Nat} {r : Except DecodeError (Instr × Nat)}, decode jdk_43_method_2_code i = r → decode c.code i = r := fun h => hb hby h
  have N0 := Fr.nil n0
  refine gy (St s₁ m 2 #[vr b1, vi 2] [(.ref b1), (.int 2)]) (fun _ k => XS.iloadN X0.here hx rfl (dk d16_0) rfl (XS.aloadN X0.here hx rfl (dk d16_1) rfl rfl k)) ?_
  obtain ⟨cl711, Ar711, q711, S711, N_711, Hs711, G711⟩ := id pr3
  refine gy (St s₁ m 3 #[vr b1, vi 2] [(.int 4), (.int 2)]) (fun _ k => X0.arraylength hx (by rw [e0]; exact Ar711.1) (State.isArrayOf_alike hZ.alike Ar711.2.1) (g := (mkF m 2 #[vr b1, vi 2] [(.ref b1), (.int 2)])) rfl rfl (dk d16_2) _ (by rw [len_of S711 N_711]; exact k)) ?_
  obtain ⟨_, _, ⟨T712, L712, k712, n712⟩, -, X712, ⟨Lc712, hQ712, l712, y712, z712⟩, st712⟩ := Jvm.LawKit.callS X0 hx (y := Y8) hown (mvT hZ (wd hw 76 rfl)) (mvT hZ (wd hw 77 rfl)) (mvT hZ (wd hw 11 rfl)) (mvT hZ (wd hw 78 rfl)) (by decide) (backOf (W := 0) (rm_sci l Z a0 hw [] (2 : Int32) (4 : Int32) fm h0 n0 Z0 pr0 pr1 hr_fm (by decide) (by decide)) hZ (wd hw 78 rfl) (wd hw 11 rfl) (by decide) (by decide)) (g := (mkF m 3 #[vr b1, vi 2] [(.int 4), (.int 2)])) rfl (by rw [hml]; rfl) (argsL := [(.int 2), (.int 4)]) (rest := []) (lenOf pd_12 rfl) rfl (by show 2 * 0 + _ ≤ _; exact Nat.le_of_eq rfl) (dk d16_3) (fun _ _ => ⟨rfl, e0, Nat.le_of_ble_eq_true rfl, Nat.le_of_ble_eq_true rfl⟩)
  dsimp only [Pt.U, Pt.locs, Pt.cells, Pt.slots] at X712 l712 y712 z712 st712 hQ712
  subst l712 y712 z712
  obtain ⟨rfl, Nq712, hh712⟩ := hQ712
  have N712 := Fr.app N0 Nq712
  refine gy (St T712 m 6 #[vr b1, vi 2] []) (fun _ k => st712 _ k) ?_
  refine gy (St T712 m 8 #[vr b1, vi 2] [(.int 2), (.ref b1)]) (fun _ k => XS.aloadN X712.here hx rfl (dk d16_6) rfl rfl (XS.iloadN X712.here hx rfl (dk d16_7) rfl k)) ?_
  obtain ⟨cl713, Ar713, q713, S713, N_713, Hs713, G713⟩ := id pr3
  have hin714 : ¬ ((2 : Int32) < 0 ∨ cl713.slots.size ≤ ((2 : Int32)).toNatClampNeg) := inb_of S713 ⟨by decide, by decide⟩
  have hat714 : cl713.slots[((2 : Int32)).toNatClampNeg]? = some (.int (nar .byte (c2.toInt8.toInt32))) := Hs713.at hin714 rfl
  refine gy (St T712 m 9 #[vr b1, vi 2] [(.int (nar .byte (c2.toInt8.toInt32)))]) (fun _ k => X712.baloadBytes hx (j := (2 : Int32)) (v := (.int (nar .byte (c2.toInt8.toInt32)))) (by rw [hh712]; exact Ar713.1) (State.isArrayOf_alike hZ.alike Ar713.2.1) Ar713.2.2 hin714 hat714 (g := (mkF m 8 #[vr b1, vi 2] [(.int 2), (.ref b1)])) rfl rfl (dk d16_8) _ k) ?_
  refine gy (St T712 m 14 #[vr b1, vi 2] [(.int (((nar .byte (c2.toInt8.toInt32)) &&& (255 : Int32)).toUInt32.toUInt16.toUInt32.toInt32))]) (fun _ k => XS.sipush X712.here hx rfl (dk d16_9) (XS.iand X712.here hx rfl (dk d16_12) rfl (XS.i2c X712.here hx rfl (dk d16_13) rfl k))) ?_
  refine Go.retZ X712 hx hlk (t := .char) hret (by simp) (dk d16_14) (by decide) (by decide) ?_
  rw [hh712]
  exact ⟨(congrArg (fun q => some (Value.int q)) (own_lc hr2 hn2)), N712, rfl⟩
theorem ef_rm_uci2 (m : MethodId) (x1 : Addr) : entryFrame m #[(.int 2), (.ref x1)] 2 = mkF m 0 #[vi 2, vr x1] [] := by first | (simp [entryFrame, mkF, argsToLocals, Value.category]; done) | rfl
def Q_rm_uci2 (Z : State) (b1 : Addr) (kb : ClassId) (fm : Value) (c0 : Int32) (c1 : Int32) (c2 : Int32) (c3 : Int32) (h0 : Heap) (n0 : Nat) (vv : Option Value) (h : Heap) (L : List Loc) : Prop := vv = none ∧ Fr n0 L ∧ h = h0
set_option maxRecDepth 65536 in
set_option maxHeartbeats 40000000 in
theorem rm_uci2 (l : Launch) (Z : State) (a0 : Array Value) (hw : HW a0 Z) (ws : List Jvm.Cond) (b1 : Addr) (kb : ClassId) (fm : Value) (c0 : Int32) (c1 : Int32) (c2 : Int32) (c3 : Int32) (h0 : Heap) (n0 : Nat) (Z0 : n0 ≤ h0.size) (pr0 : Old Z n0 h0) (pr1 : Sta Z Z.heap "jdk/internal/util/Preconditions" "SIOOBE_FORMATTER" "Ljava/util/function/BiFunction;" fm) (hr_fm : fm.isRef = true) (pr3 : Arv Z h0 b1 kb .byte (8 : Int32) [(.int (own_b0 c0)), (.int (own_b1 c0)), (.int (own_b0 c1)), (.int (own_b1 c1)), (.int (own_b0 c2)), (.int (own_b1 c2)), (.int (own_b0 c3)), (.int (own_b1 c3))] (.int 0)) :
    Met l Z Y14 jdk_52_method_91_code 2 none ws ({ frames := 2, cells := 0, slots := 0, locals := 27 } : Room) #[(.int 2), (.ref b1)] h0 (Q_rm_uci2 Z b1 kb fm c0 c1 c2 c3 h0 n0) := by
  refine Met.enter (f0 := fun m => mkF m 0 #[vi 2, vr b1] []) (plainFor_of_name pn_java_lang_StringUTF16) (fun m => ef_rm_uci2 m b1) ?_
  intro p e s m below meth c s₁ hx hby hml hown hnm hret hlk hZ X0 e0
  have hown : s.vm.findClass "java/lang/StringUTF16" = some m.cls := hown
  have hnm : meth.name = "checkIndex" := hnm
  have hml : c.maxLocals = 2 := hml
  have dk : ∀ {i : Nat} {r : Except DecodeError (Instr × Nat)}, decode jdk_52_method_91_code i = r → decode c.code i = r := fun h => hb hby h
  have N0 := Fr.nil n0
  refine gy (St s₁ m 2 #[vi 2, vr b1] [(.ref b1), (.int 2)]) (fun _ k => XS.iloadN X0.here hx rfl (dk d25_0) rfl (XS.aloadN X0.here hx rfl (dk d25_1) rfl rfl k)) ?_
  obtain ⟨_, _, ⟨T715, L715, k715, n715⟩, -, X715, ⟨Lc715, hQ715, l715, y715, z715⟩, st715⟩ := Jvm.LawKit.callS X0 hx (y := Y19) hown (mvT hZ (wd hw 109 rfl)) (mvT hZ (wd hw 110 rfl)) (mvT hZ (wd hw 48 rfl)) (mvT hZ (wd hw 111 rfl)) (by decide) (backOf (W := 1) (rm_ulen l Z a0 hw [] b1 kb c0 c1 c2 c3 h0 n0 Z0 pr3) hZ (wd hw 111 rfl) (wd hw 48 rfl) (by decide) (by decide)) (g := (mkF m 2 #[vi 2, vr b1] [(.ref b1), (.int 2)])) rfl (by rw [hml]; rfl) (argsL := [(.ref b1)]) (rest := [(.int 2)]) (lenOf pd_13 rfl) rfl (by show 2 * 0 + _ ≤ _; exact Nat.le_of_eq rfl) (dk d25_2) (fun _ _ => ⟨rfl, e0, Nat.le_of_ble_eq_true rfl, Nat.le_of_ble_eq_true rfl⟩)
  dsimp only [Pt.U, Pt.locs, Pt.cells, Pt.slots] at X715 l715 y715 z715 st715 hQ715
  subst l715 y715 z715
  obtain ⟨rfl, Nq715, hh715⟩ := hQ715
  have N715 := Fr.app N0 Nq715
  refine gy (St T715 m 5 #[vi 2, vr b1] [(.int 4), (.int 2)]) (fun _ k => st715 _ k) ?_
  obtain ⟨_, _, ⟨T716, L716, k716, n716⟩, -, X716, ⟨Lc716, hQ716, l716, y716, z716⟩, st716⟩ := Jvm.LawKit.callS X715 hx (y := Y8) hown (mvT hZ (wd hw 112 rfl)) (mvT hZ (wd hw 77 rfl)) (mvT hZ (wd hw 11 rfl)) (mvT hZ (wd hw 78 rfl)) (by decide) (backOf (W := 0) (rm_sci l Z a0 hw [] (2 : Int32) (4 : Int32) fm h0 n0 Z0 pr0 pr1 hr_fm (by decide) (by decide)) hZ (wd hw 78 rfl) (wd hw 11 rfl) (by decide) (by decide)) (g := (mkF m 5 #[vi 2, vr b1] [(.int 4), (.int 2)])) rfl (by rw [hml]; rfl) (argsL := [(.int 2), (.int 4)]) (rest := []) (lenOf pd_12 rfl) rfl (by show 2 * 0 + _ ≤ _; exact Nat.le_of_eq rfl) (dk d25_5) (fun _ _ => ⟨rfl, hh715, Nat.le_of_ble_eq_true rfl, Nat.le_of_ble_eq_true rfl⟩)
  dsimp only [Pt.U, Pt.locs, Pt.cells, Pt.slots] at X716 l716 y716 z716 st716 hQ716
  subst l716 y716 z716
  obtain ⟨rfl, Nq716, hh716⟩ := hQ716
  have N716 := Fr.app N715 Nq716
  refine gy (St T716 m 8 #[vi 2, vr b1] []) (fun _ k => st716 _ k) ?_
  refine Go.retV X716 hx hlk hret (dk d25_8) (by decide) (by decide) ?_
  rw [hh716]
  exact ⟨rfl, N716, rfl⟩
theorem ef_rm_uca2 (m : MethodId) (x0 : Addr) : entryFrame m #[(.ref x0), (.int 2)] 2 = mkF m 0 #[vr x0, vi 2] [] := by first | (simp [entryFrame, mkF, argsToLocals, Value.category]; done) | rfl
def Q_rm_uca2 (Z : State) (b1 : Addr) (kb : ClassId) (fm : Value) (c0 : Int32) (c1 : Int32) (c2 : Int32) (c3 : Int32) (h0 : Heap) (n0 : Nat) (vv : Option Value) (h : Heap) (L : List Loc) : Prop := vv = some (.int c2) ∧ Fr n0 L ∧ h = h0
set_option maxRecDepth 65536 in
set_option maxHeartbeats 40000000 in
theorem rm_uca2 (l : Launch) (Z : State) (a0 : Array Value) (hw : HW a0 Z) (ws : List Jvm.Cond) (b1 : Addr) (kb : ClassId) (fm : Value) (c0 : Int32) (c1 : Int32) (c2 : Int32) (c3 : Int32) (h0 : Heap) (n0 : Nat) (Z0 : n0 ≤ h0.size) (pr0 : Old Z n0 h0) (pr1 : Sta Z Z.heap "jdk/internal/util/Preconditions" "SIOOBE_FORMATTER" "Ljava/util/function/BiFunction;" fm) (hr_fm : fm.isRef = true) (pr3 : Sta Z Z.heap "java/lang/StringUTF16" "$assertionsDisabled" "Z" (.int 1)) (pr4 : Sta Z Z.heap "java/lang/StringUTF16" "HI_BYTE_SHIFT" "I" (.int 0)) (pr5 : Sta Z Z.heap "java/lang/StringUTF16" "LO_BYTE_SHIFT" "I" (.int 8)) (pr6 : Arv Z h0 b1 kb .byte (8 : Int32) [(.int (own_b0 c0)), (.int (own_b1 c0)), (.int (own_b0 c1)), (.int (own_b1 c1)), (.int (own_b0 c2)), (.int (own_b1 c2)), (.int (own_b0 c3)), (.int (own_b1 c3))] (.int 0)) (hr2 : own_rng c2) :
    Met l Z Y13 jdk_52_method_83_code 2 (some .char) ws ({ frames := 3, cells := 0, slots := 0, locals := 40 } : Room) #[(.ref b1), (.int 2)] h0 (Q_rm_uca2 Z b1 kb fm c0 c1 c2 c3 h0 n0) := by
  refine Met.enter (f0 := fun m => mkF m 0 #[vr b1, vi 2] []) (plainFor_of_name pn_java_lang_StringUTF16) (fun m => ef_rm_uca2 m b1) ?_
  intro p e s m below meth c s₁ hx hby hml hown hnm hret hlk hZ X0 e0
  have hown : s.vm.findClass "java/lang/StringUTF16" = some m.cls := hown
  have hnm : meth.name = "charAt" := hnm
  have hml : c.maxLocals = 2 := hml
  have dk : ∀ {i : Nat} {r : Except DecodeError (Instr × Nat)}, decode jdk_52_method_83_code i = r → decode c.code i = r := fun h => hb hby h
  have N0 := Fr.nil n0
  refine gy (St s₁ m 2 #[vr b1, vi 2] [(.ref b1), (.int 2)]) (fun _ k => XS.iloadN X0.here hx rfl (dk d24_0) rfl (XS.aloadN X0.here hx rfl (dk d24_1) rfl rfl k)) ?_
  obtain ⟨_, _, ⟨T717, L717, k717, n717⟩, -, X717, ⟨Lc717, hQ717, l717, y717, z717⟩, st717⟩ := Jvm.LawKit.callS X0 hx (y := Y14) hown (mvT hZ (wd hw 106 rfl)) (mvT hZ (wd hw 107 rfl)) (mvT hZ (wd hw 48 rfl)) (mvT hZ (wd hw 108 rfl)) (by decide) (backOf (W := 0) (rm_uci2 l Z a0 hw [] b1 kb fm c0 c1 c2 c3 h0 n0 Z0 pr0 pr1 hr_fm pr6) hZ (wd hw 108 rfl) (wd hw 48 rfl) (by decide) (by decide)) (g := (mkF m 2 #[vr b1, vi 2] [(.ref b1), (.int 2)])) rfl (by rw [hml]; rfl) (argsL := [(.int 2), (.ref b1)]) (rest := []) (lenOf pd_14 rfl) rfl (by show 2 * 0 + _ ≤ _; exact Nat.le_of_eq rfl) (dk d24_2) (fun _ _ => ⟨rfl, e0, Nat.le_of_ble_eq_true rfl, Nat.le_of_ble_eq_true rfl⟩)
  dsimp only [Pt.U, Pt.locs, Pt.cells, Pt.slots] at X717 l717 y717 z717 st717 hQ717
  subst l717 y717 z717
  obtain ⟨rfl, Nq717, hh717⟩ := hQ717
  have N717 := Fr.app N0 Nq717
  refine gy (St T717 m 5 #[vr b1, vi 2] []) (fun _ k => st717 _ k) ?_
  refine gy (St T717 m 7 #[vr b1, vi 2] [(.int 2), (.ref b1)]) (fun _ k => XS.aloadN X717.here hx rfl (dk d24_5) rfl rfl (XS.iloadN X717.here hx rfl (dk d24_6) rfl k)) ?_
  obtain ⟨_, _, ⟨T718, L718, k718, n718⟩, -, X718, ⟨Lc718, hQ718, l718, y718, z718⟩, st718⟩ := Jvm.LawKit.callS X717 hx (y := Y18) hown (mvT hZ (wd hw 100 rfl)) (mvT hZ (wd hw 101 rfl)) (mvT hZ (wd hw 48 rfl)) (mvT hZ (wd hw 102 rfl)) (by decide) (backOf (W := 0) (rm_get_2 l Z a0 hw [] b1 kb c2 (8 : Int32) [(.int (own_b0 c0)), (.int (own_b1 c0)), (.int (own_b0 c1)), (.int (own_b1 c1)), (.int (own_b0 c2)), (.int (own_b1 c2)), (.int (own_b0 c3)), (.int (own_b1 c3))] h0 n0 Z0 pr0 pr3 pr4 pr5 pr6 (by decide) (by decide) rfl rfl hr2) hZ (wd hw 102 rfl) (wd hw 48 rfl) (by decide) (by decide)) (g := (mkF m 7 #[vr b1, vi 2] [(.int 2), (.ref b1)])) rfl (by rw [hml]; rfl) (argsL := [(.ref b1), (.int 2)]) (rest := []) (lenOf pd_5 rfl) rfl (by show 2 * 0 + _ ≤ _; exact Nat.le_of_eq rfl) (dk d24_7) (fun _ _ => ⟨rfl, hh717, Nat.le_of_ble_eq_true rfl, Nat.le_of_ble_eq_true rfl⟩)
  dsimp only [Pt.U, Pt.locs, Pt.cells, Pt.slots] at X718 l718 y718 z718 st718 hQ718
  subst l718 y718 z718
  obtain ⟨rfl, Nq718, hh718⟩ := hQ718
  have N718 := Fr.app N717 Nq718
  refine gy (St T718 m 10 #[vr b1, vi 2] [(.int c2)]) (fun _ k => st718 _ k) ?_
  refine Go.retZ X718 hx hlk (t := .char) hret (by simp) (dk d24_10) (by decide) (by decide) ?_
  rw [hh718]
  exact ⟨(congrArg (fun q => some (Value.int q)) (own_nc hr2)), N718, rfl⟩
theorem ef_rm_ca2_0 (m : MethodId) (x0 : Addr) : entryFrame m #[(.ref x0), (.int 2)] 2 = mkF m 0 #[vr x0, vi 2] [] := by first | (simp [entryFrame, mkF, argsToLocals, Value.category]; done) | rfl
def Q_rm_ca2_0 (Z : State) (a1 : Addr) (t1 : Addr) (k1 : ClassId) (cs : Int32) (fm : Value) (c0 : Int32) (c1 : Int32) (c2 : Int32) (c3 : Int32) (h0 : Heap) (n0 : Nat) (vv : Option Value) (h : Heap) (L : List Loc) : Prop := vv = some (.int c2) ∧ Fr n0 L ∧ h = h0
set_option maxRecDepth 65536 in
set_option maxHeartbeats 40000000 in
theorem rm_ca2_0 (l : Launch) (Z : State) (a0 : Array Value) (hw : HW a0 Z) (ws : List Jvm.Cond) (a1 : Addr) (t1 : Addr) (k1 : ClassId) (cs : Int32) (fm : Value) (c0 : Int32) (c1 : Int32) (c2 : Int32) (c3 : Int32) (h0 : Heap) (n0 : Nat) (Z0 : n0 ≤ h0.size) (pr0 : Old Z n0 h0) (pr1 : Sta Z Z.heap "java/lang/String" "COMPACT_STRINGS" "Z" (.int cs)) (hcs : ¬ (cs = (0 : Int32))) (pr3 : Sta Z Z.heap "jdk/internal/util/Preconditions" "SIOOBE_FORMATTER" "Ljava/util/function/BiFunction;" fm) (hr_fm : fm.isRef = true) (pr5 : Exa Z h0 a1 "java/lang/String") (pr6 : Fld Z h0 a1 "java/lang/String" "value" "[B" (.ref t1)) (pr7 : Fld Z h0 a1 "java/lang/String" "coder" "B" (.int 0)) (pr8 : Arv Z h0 t1 k1 .byte (4 : Int32) [(.int (nar .byte (c0.toInt8.toInt32))), (.int (nar .byte (c1.toInt8.toInt32))), (.int (nar .byte (c2.toInt8.toInt32))), (.int (nar .byte (c3.toInt8.toInt32)))] (.int 0)) (hr2 : own_rng c2) (hn2 : ¬ ((255 : Int32) < c2)) :
    Met l Z Y7 jdk_42_method_56_code 2 (some .char) ws ({ frames := 3, cells := 0, slots := 0, locals := 40 } : Room) #[(.ref a1), (.int 2)] h0 (Q_rm_ca2_0 Z a1 t1 k1 cs fm c0 c1 c2 c3 h0 n0) := by
  refine Met.enter (f0 := fun m => mkF m 0 #[vr a1, vi 2] []) (plainFor_of_name pn_java_lang_String) (fun m => ef_rm_ca2_0 m a1) ?_
  intro p e s m below meth c s₁ hx hby hml hown hnm hret hlk hZ X0 e0
  have hown : s.vm.findClass "java/lang/String" = some m.cls := hown
  have hnm : meth.name = "charAt" := hnm
  have hml : c.maxLocals = 2 := hml
  have dk : ∀ {i : Nat} {r : Except DecodeError (Instr × Nat)}, decode jdk_42_method_56_code i = r → decode c.code i = r := fun h => hb hby h
  have N0 := Fr.nil n0
  refine gy (St s₁ m 1 #[vr a1, vi 2] [(.ref a1)]) (fun _ k => XS.aloadN X0.here hx rfl (dk d14_0) rfl rfl k) ?_
  obtain ⟨cq719, kq719, q719a, q719b, q719c⟩ := isOf hZ e0 pr5
  obtain ⟨_, _, ⟨T719, L719, k719, n719⟩, -, X719, ⟨Lc719, hQ719, l719, y719, z719⟩, st719⟩ := X0.virtualBack hx (y := Y10) (z := Y10) hown (mvT hZ (wd hw 67 rfl)) (mvT hZ (wd hw 68 rfl)) (notFace_of_selects (args := #[]) (mvT hZ (wd hw 70 rfl))) (mvT hZ (wd hw 70 rfl)) (mvT hZ (wd hw 69 rfl)) (by decide) (backOf (W := 0) (rm_isL0 l Z a0 hw [] a1 cs h0 n0 Z0 pr0 pr1 hcs pr7) hZ (wd hw 71 rfl) (wd hw 11 rfl) (by decide) (by decide)) q719a q719c (g := (mkF m 1 #[vr a1, vi 2] [(.ref a1)])) rfl (by rw [hml]; rfl) (Steps.refl _) (argsL := []) (rest := []) (lenOf pd_15 rfl) rfl (by show 2 * 0 + _ ≤ _; exact Nat.le_of_eq rfl) (dk d14_1) (fun _ _ => ⟨rfl, e0, Nat.le_of_ble_eq_true rfl, Nat.le_of_ble_eq_true rfl⟩)
  dsimp only [Pt.U, Pt.locs, Pt.cells, Pt.slots] at X719 l719 y719 z719 st719 hQ719
  subst l719 y719 z719
  obtain ⟨rfl, Nq719, hh719⟩ := hQ719
  have N719 := Fr.app N0 Nq719
  refine gy (St T719 m 4 #[vr a1, vi 2] [(.int 1)]) (fun _ k => st719.trans k) ?_
  refine gy (St T719 m 8 #[vr a1, vi 2] [(.ref a1)]) (fun _ k => XS.ifNo X719.here hx rfl (dk d14_4) rfl ((if0 _ _).trans (feq (by decide : ¬ ((1 : Int32) = (0 : Int32)))).1) (XS.aloadN X719.here hx rfl (dk d14_7) rfl rfl k)) ?_
  obtain ⟨T720, X720, e720, st720⟩ := getF X719 hx hZ hown (host := "") (Or.inl (wd hw 29 rfl)) Via.refl hh719 pr6 (g := (mkF m 8 #[vr a1, vi 2] [(.ref a1)])) rfl rfl (dk d14_8)
  refine gy (St T720 m 11 #[vr a1, vi 2] [(.ref t1)]) st720 ?_
  refine gy (St T720 m 12 #[vr a1, vi 2] [(.int 2), (.ref t1)]) (fun _ k => XS.iloadN X720.here hx rfl (dk d14_11) rfl k) ?_
  obtain ⟨_, _, ⟨T721, L721, k721, n721⟩, -, X721, ⟨Lc721, hQ721, l721, y721, z721⟩, st721⟩ := Jvm.LawKit.callS X720 hx (y := Y12) hown (mvT hZ (wd hw 72 rfl)) (mvT hZ (wd hw 73 rfl)) (mvT hZ (wd hw 74 rfl)) (mvT hZ (wd hw 75 rfl)) (by decide) (backOf (W := 0) (rm_lca2 l Z a0 hw [] t1 k1 fm c0 c1 c2 c3 h0 n0 Z0 pr0 pr3 hr_fm pr8 hr2 hn2) hZ (wd hw 75 rfl) (wd hw 74 rfl) (by decide) (by decide)) (g := (mkF m 12 #[vr a1, vi 2] [(.int 2), (.ref t1)])) rfl (by rw [hml]; rfl) (argsL := [(.ref t1), (.int 2)]) (rest := []) (lenOf pd_5 rfl) rfl (by show 2 * 0 + _ ≤ _; exact Nat.le_of_eq rfl) (dk d14_12) (fun _ _ => ⟨rfl, e720, Nat.le_of_ble_eq_true rfl, Nat.le_of_ble_eq_true rfl⟩)
  dsimp only [Pt.U, Pt.locs, Pt.cells, Pt.slots] at X721 l721 y721 z721 st721 hQ721
  subst l721 y721 z721
  obtain ⟨rfl, Nq721, hh721⟩ := hQ721
  have N721 := Fr.app N719 Nq721
  refine gy (St T721 m 15 #[vr a1, vi 2] [(.int c2)]) (fun _ k => st721 _ k) ?_
  refine Go.retZ X721 hx hlk (t := .char) hret (by simp) (dk d14_15) (by decide) (by decide) ?_
  rw [hh721]
  exact ⟨(congrArg (fun q => some (Value.int q)) (own_nc hr2)), N721, rfl⟩
theorem ef_rm_ca2_1 (m : MethodId) (x0 : Addr) : entryFrame m #[(.ref x0), (.int 2)] 2 = mkF m 0 #[vr x0, vi 2] [] := by first | (simp [entryFrame, mkF, argsToLocals, Value.category]; done) | rfl
def Q_rm_ca2_1 (Z : State) (a1 : Addr) (t1 : Addr) (k1 : ClassId) (cs : Int32) (fm : Value) (c0 : Int32) (c1 : Int32) (c2 : Int32) (c3 : Int32) (h0 : Heap) (n0 : Nat) (vv : Option Value) (h : Heap) (L : List Loc) : Prop := vv = some (.int c2) ∧ Fr n0 L ∧ h = h0
set_option maxRecDepth 65536 in
set_option maxHeartbeats 40000000 in
theorem rm_ca2_1 (l : Launch) (Z : State) (a0 : Array Value) (hw : HW a0 Z) (ws : List Jvm.Cond) (a1 : Addr) (t1 : Addr) (k1 : ClassId) (cs : Int32) (fm : Value) (c0 : Int32) (c1 : Int32) (c2 : Int32) (c3 : Int32) (h0 : Heap) (n0 : Nat) (Z0 : n0 ≤ h0.size) (pr0 : Old Z n0 h0) (pr1 : Sta Z Z.heap "java/lang/String" "COMPACT_STRINGS" "Z" (.int cs)) (hcs : ¬ (cs = (0 : Int32))) (pr3 : Sta Z Z.heap "jdk/internal/util/Preconditions" "SIOOBE_FORMATTER" "Ljava/util/function/BiFunction;" fm) (hr_fm : fm.isRef = true) (pr5 : Sta Z Z.heap "java/lang/StringUTF16" "$assertionsDisabled" "Z" (.int 1)) (pr6 : Sta Z Z.heap "java/lang/StringUTF16" "HI_BYTE_SHIFT" "I" (.int 0)) (pr7 : Sta Z Z.heap "java/lang/StringUTF16" "LO_BYTE_SHIFT" "I" (.int 8)) (pr8 : Exa Z h0 a1 "java/lang/String") (pr9 : Fld Z h0 a1 "java/lang/String" "value" "[B" (.ref t1)) (pr10 : Fld Z h0 a1 "java/lang/String" "coder" "B" (.int 1)) (pr11 : Arv Z h0 t1 k1 .byte (8 : Int32) [(.int (own_b0 c0)), (.int (own_b1 c0)), (.int (own_b0 c1)), (.int (own_b1 c1)), (.int (own_b0 c2)), (.int (own_b1 c2)), (.int (own_b0 c3)), (.int (own_b1 c3))] (.int 0)) (hr2 : own_rng c2) :
    Met l Z Y7 jdk_42_method_56_code 2 (some .char) ws ({ frames := 4, cells := 0, slots := 0, locals := 53 } : Room) #[(.ref a1), (.int 2)] h0 (Q_rm_ca2_1 Z a1 t1 k1 cs fm c0 c1 c2 c3 h0 n0) := by
  refine Met.enter (f0 := fun m => mkF m 0 #[vr a1, vi 2] []) (plainFor_of_name pn_java_lang_String) (fun m => ef_rm_ca2_1 m a1) ?_
  intro p e s m below meth c s₁ hx hby hml hown hnm hret hlk hZ X0 e0
  have hown : s.vm.findClass "java/lang/String" = some m.cls := hown
  have hnm : meth.name = "charAt" := hnm
  have hml : c.maxLocals = 2 := hml
  have dk : ∀ {i : Nat} {r : Except DecodeError (Instr × Nat)}, decode jdk_42_method_56_code i = r → decode c.code i = r := fun h => hb hby h
  have N0 := Fr.nil n0
  refine gy (St s₁ m 1 #[vr a1, vi 2] [(.ref a1)]) (fun _ k => XS.aloadN X0.here hx rfl (dk d14_0) rfl rfl k) ?_
  obtain ⟨cq722, kq722, q722a, q722b, q722c⟩ := isOf hZ e0 pr8
  obtain ⟨_, _, ⟨T722, L722, k722, n722⟩, -, X722, ⟨Lc722, hQ722, l722, y722, z722⟩, st722⟩ := X0.virtualBack hx (y := Y10) (z := Y10) hown (mvT hZ (wd hw 67 rfl)) (mvT hZ (wd hw 68 rfl)) (notFace_of_selects (args := #[]) (mvT hZ (wd hw 70 rfl))) (mvT hZ (wd hw 70 rfl)) (mvT hZ (wd hw 69 rfl)) (by decide) (backOf (W := 0) (rm_isL1 l Z a0 hw [] a1 cs h0 n0 Z0 pr0 pr1 hcs pr10) hZ (wd hw 71 rfl) (wd hw 11 rfl) (by decide) (by decide)) q722a q722c (g := (mkF m 1 #[vr a1, vi 2] [(.ref a1)])) rfl (by rw [hml]; rfl) (Steps.refl _) (argsL := []) (rest := []) (lenOf pd_15 rfl) rfl (by show 2 * 0 + _ ≤ _; exact Nat.le_of_eq rfl) (dk d14_1) (fun _ _ => ⟨rfl, e0, Nat.le_of_ble_eq_true rfl, Nat.le_of_ble_eq_true rfl⟩)
  dsimp only [Pt.U, Pt.locs, Pt.cells, Pt.slots] at X722 l722 y722 z722 st722 hQ722
  subst l722 y722 z722
  obtain ⟨rfl, Nq722, hh722⟩ := hQ722
  have N722 := Fr.app N0 Nq722
  refine gy (St T722 m 4 #[vr a1, vi 2] [(.int 0)]) (fun _ k => st722.trans k) ?_
  refine gy (St T722 m 17 #[vr a1, vi 2] [(.ref a1)]) (fun _ k => XS.ifYes X722.here hx rfl (pc0 := 4) (pc' := 16) rfl (dk d14_4) rfl ((if0 _ _).trans (teq (by decide : (0 : Int32) = (0 : Int32))).1) (by decide) (by decide) (XS.aloadN X722.here hx rfl (dk d14_16) rfl rfl k)) ?_
  obtain ⟨T723, X723, e723, st723⟩ := getF X722 hx hZ hown (host := "") (Or.inl (wd hw 29 rfl)) Via.refl hh722 pr9 (g := (mkF m 17 #[vr a1, vi 2] [(.ref a1)])) rfl rfl (dk d14_17)
  refine gy (St T723 m 20 #[vr a1, vi 2] [(.ref t1)]) st723 ?_
  refine gy (St T723 m 21 #[vr a1, vi 2] [(.int 2), (.ref t1)]) (fun _ k => XS.iloadN X723.here hx rfl (dk d14_20) rfl k) ?_
  obtain ⟨_, _, ⟨T724, L724, k724, n724⟩, -, X724, ⟨Lc724, hQ724, l724, y724, z724⟩, st724⟩ := Jvm.LawKit.callS X723 hx (y := Y13) hown (mvT hZ (wd hw 103 rfl)) (mvT hZ (wd hw 104 rfl)) (mvT hZ (wd hw 48 rfl)) (mvT hZ (wd hw 105 rfl)) (by decide) (backOf (W := 0) (rm_uca2 l Z a0 hw [] t1 k1 fm c0 c1 c2 c3 h0 n0 Z0 pr0 pr3 hr_fm pr5 pr6 pr7 pr11 hr2) hZ (wd hw 105 rfl) (wd hw 48 rfl) (by decide) (by decide)) (g := (mkF m 21 #[vr a1, vi 2] [(.int 2), (.ref t1)])) rfl (by rw [hml]; rfl) (argsL := [(.ref t1), (.int 2)]) (rest := []) (lenOf pd_5 rfl) rfl (by show 2 * 0 + _ ≤ _; exact Nat.le_of_eq rfl) (dk d14_21) (fun _ _ => ⟨rfl, e723, Nat.le_of_ble_eq_true rfl, Nat.le_of_ble_eq_true rfl⟩)
  dsimp only [Pt.U, Pt.locs, Pt.cells, Pt.slots] at X724 l724 y724 z724 st724 hQ724
  subst l724 y724 z724
  obtain ⟨rfl, Nq724, hh724⟩ := hQ724
  have N724 := Fr.app N722 Nq724
  refine gy (St T724 m 24 #[vr a1, vi 2] [(.int c2)]) (fun _ k => st724 _ k) ?_
  refine Go.retZ X724 hx hlk (t := .char) hret (by simp) (dk d14_24) (by decide) (by decide) ?_
  rw [hh724]
  exact ⟨(congrArg (fun q => some (Value.int q)) (own_nc hr2)), N724, rfl⟩
theorem ef_rm_lca3 (m : MethodId) (x0 : Addr) : entryFrame m #[(.ref x0), (.int 3)] 2 = mkF m 0 #[vr x0, vi 3] [] := by first | (simp [entryFrame, mkF, argsToLocals, Value.category]; done) | rfl
def Q_rm_lca3 (Z : State) (b1 : Addr) (kb : ClassId) (fm : Value) (c0 : Int32) (c1 : Int32) (c2 : Int32) (c3 : Int32) (h0 : Heap) (n0 : Nat) (vv : Option Value) (h : Heap) (L : List Loc) : Prop := vv = some (.int c3) ∧ Fr n0 L ∧ h = h0
set_option maxRecDepth 65536 in
set_option maxHeartbeats 40000000 in
theorem rm_lca3 (l : Launch) (Z : State) (a0 : Array Value) (hw : HW a0 Z) (ws : List Jvm.Cond) (b1 : Addr) (kb : ClassId) (fm : Value) (c0 : Int32) (c1 : Int32) (c2 : Int32) (c3 : Int32) (h0 : Heap) (n0 : Nat) (Z0 : n0 ≤ h0.size) (pr0 : Old Z n0 h0) (pr1 : Sta Z Z.heap "jdk/internal/util/Preconditions" "SIOOBE_FORMATTER" "Ljava/util/function/BiFunction;" fm) (hr_fm : fm.isRef = true) (pr3 : Arv Z h0 b1 kb .byte (4 : Int32) [(.int (nar .byte (c0.toInt8.toInt32))), (.int (nar .byte (c1.toInt8.toInt32))), (.int (nar .byte (c2.toInt8.toInt32))), (.int (nar .byte (c3.toInt8.toInt32)))] (.int 0)) (hr3 : own_rng c3) (hn3 : ¬ ((255 : Int32) < c3)) :
    Met l Z Y12 jdk_43_method_2_code 2 (some .char) ws ({ frames := 2, cells := 0, slots := 0, locals := 27 } : Room) #[(.ref b1), (.int 3)] h0 (Q_rm_lca3 Z b1 kb fm c0 c1 c2 c3 h0 n0) := by
  refine Met.enter (f0 := fun m => mkF m 0 #[vr b1, vi 3] []) (plainFor_of_name pn_java_lang_StringLatin1) (fun m => ef_rm_lca3 m b1) ?_
  intro p e s m below meth c s₁ hx hby hml hown hnm hret hlk hZ X0 e0
  have hown : s.vm.findClass "java/lang/StringLatin1" = some m.cls := hown
  have hnm : meth.name = "charAt" := hnm
  have hml : c.maxLocals = 2 := hml
  have dk : ∀ {i : Nat} {r : Except DecodeError (Instr × Nat)}, decode jdk_43_method_2_code i = r → decode c.code i = r := fun h => hb hby h
  have N0 := Fr.nil n0
  refine gy (St s₁ m 2 #[vr b1, vi 3] [(.ref b1), (.int 3)]) (fun _ k => XS.iloadN X0.here hx rfl (dk d16_0) rfl (XS.aloadN X0.here hx rfl (dk d16_1) rfl rfl k)) ?_
  obtain ⟨cl725, Ar725, q725, S725, N_725, Hs725, G725⟩ := id pr3
  refine gy (St s₁ m 3 #[vr b1, vi 3] [(.int 4), (.int 3)]) (fun _ k => X0.arraylength hx (by rw [e0]; exact Ar725.1) (State.isArrayOf_alike hZ.alike Ar725.2.1) (g := (mkF m 2 #[vr b1, vi 3] [(.ref b1), (.int 3)])) rfl rfl (dk d16_2) _ (by rw [len_of S725 N_725]; exact k)) ?_
  obtain ⟨_, _, ⟨T726, L726, k726, n726⟩, -, X726, ⟨Lc726, hQ726, l726, y726, z726⟩, st726⟩ := Jvm.LawKit.callS X0 hx (y := Y8) hown (mvT hZ (wd hw 76 rfl)) (mvT hZ (wd hw 77 rfl)) (mvT hZ (wd hw 11 rfl)) (mvT hZ (wd hw 78 rfl)) (by decide) (backOf (W := 0) (rm_sci l Z a0 hw [] (3 : Int32) (4 : Int32) fm h0 n0 Z0 pr0 pr1 hr_fm (by decide) (by decide)) hZ (wd hw 78 rfl) (wd hw 11 rfl) (by decide) (by decide)) (g := (mkF m 3 #[vr b1, vi 3] [(.int 4), (.int 3)])) rfl (by rw [hml]; rfl) (argsL := [(.int 3), (.int 4)]) (rest := []) (lenOf pd_12 rfl) rfl (by show 2 * 0 + _ ≤ _; exact Nat.le_of_eq rfl) (dk d16_3) (fun _ _ => ⟨rfl, e0, Nat.le_of_ble_eq_true rfl, Nat.le_of_ble_eq_true rfl⟩)
  dsimp only [Pt.U, Pt.locs, Pt.cells, Pt.slots] at X726 l726 y726 z726 st726 hQ726
  subst l726 y726 z726
  obtain ⟨rfl, Nq726, hh726⟩ := hQ726
  have N726 := Fr.app N0 Nq726
  refine gy (St T726 m 6 #[vr b1, vi 3] []) (fun _ k => st726 _ k) ?_
  refine gy (St T726 m 8 #[vr b1, vi 3] [(.int 3), (.ref b1)]) (fun _ k => XS.aloadN X726.here hx rfl (dk d16_6) rfl rfl (XS.iloadN X726.here hx rfl (dk d16_7) rfl k)) ?_
  obtain ⟨cl727, Ar727, q727, S727, N_727, Hs727, G727⟩ := id pr3
  have hin728 : ¬ ((3 : Int32) < 0 ∨ cl727.slots.size ≤ ((3 : Int32)).toNatClampNeg) := inb_of S727 ⟨by decide, by decide⟩
  have hat728 : cl727.slots[((3 : Int32)).toNatClampNeg]? = some (.int (nar .byte (c3.toInt8.toInt32))) := Hs727.at hin728 rfl
  refine gy (St T726 m 9 #[vr b1, vi 3] [(.int (nar .byte (c3.toInt8.toInt32)))]) (fun _ k => X726.baloadBytes hx (j := (3 : Int32)) (v := (.int (nar .byte (c3.toInt8.toInt32)))) (by rw [hh726]; exact Ar727.1) (State.isArrayOf_alike hZ.alike Ar727.2.1) Ar727.2.2 hin728 hat728 (g := (mkF m 8 #[vr b1, vi 3] [(.int 3), (.ref b1)])) rfl rfl (dk d16_8) _ k) ?_
  refine gy (St T726 m 14 #[vr b1, vi 3] [(.int (((nar .byte (c3.toInt8.toInt32)) &&& (255 : Int32)).toUInt32.toUInt16.toUInt32.toInt32))]) (fun _ k => XS.sipush X726.here hx rfl (dk d16_9) (XS.iand X726.here hx rfl (dk d16_12) rfl (XS.i2c X726.here hx rfl (dk d16_13) rfl k))) ?_
  refine Go.retZ X726 hx hlk (t := .char) hret (by simp) (dk d16_14) (by decide) (by decide) ?_
  rw [hh726]
  exact ⟨(congrArg (fun q => some (Value.int q)) (own_lc hr3 hn3)), N726, rfl⟩
theorem ef_rm_uci3 (m : MethodId) (x1 : Addr) : entryFrame m #[(.int 3), (.ref x1)] 2 = mkF m 0 #[vi 3, vr x1] [] := by first | (simp [entryFrame, mkF, argsToLocals, Value.category]; done) | rfl
def Q_rm_uci3 (Z : State) (b1 : Addr) (kb : ClassId) (fm : Value) (c0 : Int32) (c1 : Int32) (c2 : Int32) (c3 : Int32) (h0 : Heap) (n0 : Nat) (vv : Option Value) (h : Heap) (L : List Loc) : Prop := vv = none ∧ Fr n0 L ∧ h = h0
set_option maxRecDepth 65536 in
set_option maxHeartbeats 40000000 in
theorem rm_uci3 (l : Launch) (Z : State) (a0 : Array Value) (hw : HW a0 Z) (ws : List Jvm.Cond) (b1 : Addr) (kb : ClassId) (fm : Value) (c0 : Int32) (c1 : Int32) (c2 : Int32) (c3 : Int32) (h0 : Heap) (n0 : Nat) (Z0 : n0 ≤ h0.size) (pr0 : Old Z n0 h0) (pr1 : Sta Z Z.heap "jdk/internal/util/Preconditions" "SIOOBE_FORMATTER" "Ljava/util/function/BiFunction;" fm) (hr_fm : fm.isRef = true) (pr3 : Arv Z h0 b1 kb .byte (8 : Int32) [(.int (own_b0 c0)), (.int (own_b1 c0)), (.int (own_b0 c1)), (.int (own_b1 c1)), (.int (own_b0 c2)), (.int (own_b1 c2)), (.int (own_b0 c3)), (.int (own_b1 c3))] (.int 0)) :
    Met l Z Y14 jdk_52_method_91_code 2 none ws ({ frames := 2, cells := 0, slots := 0, locals := 27 } : Room) #[(.int 3), (.ref b1)] h0 (Q_rm_uci3 Z b1 kb fm c0 c1 c2 c3 h0 n0) := by
  refine Met.enter (f0 := fun m => mkF m 0 #[vi 3, vr b1] []) (plainFor_of_name pn_java_lang_StringUTF16) (fun m => ef_rm_uci3 m b1) ?_
  intro p e s m below meth c s₁ hx hby hml hown hnm hret hlk hZ X0 e0
  have hown : s.vm.findClass "java/lang/StringUTF16" = some m.cls := hown
  have hnm : meth.name = "checkIndex" := hnm
  have hml : c.maxLocals = 2 := hml
  have dk : ∀ {i : Nat} {r : Except DecodeError (Instr × Nat)}, decode jdk_52_method_91_code i = r → decode c.code i = r := fun h => hb hby h
  have N0 := Fr.nil n0
  refine gy (St s₁ m 2 #[vi 3, vr b1] [(.ref b1), (.int 3)]) (fun _ k => XS.iloadN X0.here hx rfl (dk d25_0) rfl (XS.aloadN X0.here hx rfl (dk d25_1) rfl rfl k)) ?_
  obtain ⟨_, _, ⟨T729, L729, k729, n729⟩, -, X729, ⟨Lc729, hQ729, l729, y729, z729⟩, st729⟩ := Jvm.LawKit.callS X0 hx (y := Y19) hown (mvT hZ (wd hw 109 rfl)) (mvT hZ (wd hw 110 rfl)) (mvT hZ (wd hw 48 rfl)) (mvT hZ (wd hw 111 rfl)) (by decide) (backOf (W := 1) (rm_ulen l Z a0 hw [] b1 kb c0 c1 c2 c3 h0 n0 Z0 pr3) hZ (wd hw 111 rfl) (wd hw 48 rfl) (by decide) (by decide)) (g := (mkF m 2 #[vi 3, vr b1] [(.ref b1), (.int 3)])) rfl (by rw [hml]; rfl) (argsL := [(.ref b1)]) (rest := [(.int 3)]) (lenOf pd_13 rfl) rfl (by show 2 * 0 + _ ≤ _; exact Nat.le_of_eq rfl) (dk d25_2) (fun _ _ => ⟨rfl, e0, Nat.le_of_ble_eq_true rfl, Nat.le_of_ble_eq_true rfl⟩)
  dsimp only [Pt.U, Pt.locs, Pt.cells, Pt.slots] at X729 l729 y729 z729 st729 hQ729
  subst l729 y729 z729
  obtain ⟨rfl, Nq729, hh729⟩ := hQ729
  have N729 := Fr.app N0 Nq729
  refine gy (St T729 m 5 #[vi 3, vr b1] [(.int 4), (.int 3)]) (fun _ k => st729 _ k) ?_
  obtain ⟨_, _, ⟨T730, L730, k730, n730⟩, -, X730, ⟨Lc730, hQ730, l730, y730, z730⟩, st730⟩ := Jvm.LawKit.callS X729 hx (y := Y8) hown (mvT hZ (wd hw 112 rfl)) (mvT hZ (wd hw 77 rfl)) (mvT hZ (wd hw 11 rfl)) (mvT hZ (wd hw 78 rfl)) (by decide) (backOf (W := 0) (rm_sci l Z a0 hw [] (3 : Int32) (4 : Int32) fm h0 n0 Z0 pr0 pr1 hr_fm (by decide) (by decide)) hZ (wd hw 78 rfl) (wd hw 11 rfl) (by decide) (by decide)) (g := (mkF m 5 #[vi 3, vr b1] [(.int 4), (.int 3)])) rfl (by rw [hml]; rfl) (argsL := [(.int 3), (.int 4)]) (rest := []) (lenOf pd_12 rfl) rfl (by show 2 * 0 + _ ≤ _; exact Nat.le_of_eq rfl) (dk d25_5) (fun _ _ => ⟨rfl, hh729, Nat.le_of_ble_eq_true rfl, Nat.le_of_ble_eq_true rfl⟩)
  dsimp only [Pt.U, Pt.locs, Pt.cells, Pt.slots] at X730 l730 y730 z730 st730 hQ730
  subst l730 y730 z730
  obtain ⟨rfl, Nq730, hh730⟩ := hQ730
  have N730 := Fr.app N729 Nq730
  refine gy (St T730 m 8 #[vi 3, vr b1] []) (fun _ k => st730 _ k) ?_
  refine Go.retV X730 hx hlk hret (dk d25_8) (by decide) (by decide) ?_
  rw [hh730]
  exact ⟨rfl, N730, rfl⟩
theorem ef_rm_uca3 (m : MethodId) (x0 : Addr) : entryFrame m #[(.ref x0), (.int 3)] 2 = mkF m 0 #[vr x0, vi 3] [] := by first | (simp [entryFrame, mkF, argsToLocals, Value.category]; done) | rfl
def Q_rm_uca3 (Z : State) (b1 : Addr) (kb : ClassId) (fm : Value) (c0 : Int32) (c1 : Int32) (c2 : Int32) (c3 : Int32) (h0 : Heap) (n0 : Nat) (vv : Option Value) (h : Heap) (L : List Loc) : Prop := vv = some (.int c3) ∧ Fr n0 L ∧ h = h0
set_option maxRecDepth 65536 in
set_option maxHeartbeats 40000000 in
theorem rm_uca3 (l : Launch) (Z : State) (a0 : Array Value) (hw : HW a0 Z) (ws : List Jvm.Cond) (b1 : Addr) (kb : ClassId) (fm : Value) (c0 : Int32) (c1 : Int32) (c2 : Int32) (c3 : Int32) (h0 : Heap) (n0 : Nat) (Z0 : n0 ≤ h0.size) (pr0 : Old Z n0 h0) (pr1 : Sta Z Z.heap "jdk/internal/util/Preconditions" "SIOOBE_FORMATTER" "Ljava/util/function/BiFunction;" fm) (hr_fm : fm.isRef = true) (pr3 : Sta Z Z.heap "java/lang/StringUTF16" "$assertionsDisabled" "Z" (.int 1)) (pr4 : Sta Z Z.heap "java/lang/StringUTF16" "HI_BYTE_SHIFT" "I" (.int 0)) (pr5 : Sta Z Z.heap "java/lang/StringUTF16" "LO_BYTE_SHIFT" "I" (.int 8)) (pr6 : Arv Z h0 b1 kb .byte (8 : Int32) [(.int (own_b0 c0)), (.int (own_b1 c0)), (.int (own_b0 c1)), (.int (own_b1 c1)), (.int (own_b0 c2)), (.int (own_b1 c2)), (.int (own_b0 c3)), (.int (own_b1 c3))] (.int 0)) (hr3 : own_rng c3) :
    Met l Z Y13 jdk_52_method_83_code 2 (some .char) ws ({ frames := 3, cells := 0, slots := 0, locals := 40 } : Room) #[(.ref b1), (.int 3)] h0 (Q_rm_uca3 Z b1 kb fm c0 c1 c2 c3 h0 n0) := by
  refine Met.enter (f0 := fun m => mkF m 0 #[vr b1, vi 3] []) (plainFor_of_name pn_java_lang_StringUTF16) (fun m => ef_rm_uca3 m b1) ?_
  intro p e s m below meth c s₁ hx hby hml hown hnm hret hlk hZ X0 e0
  have hown : s.vm.findClass "java/lang/StringUTF16" = some m.cls := hown
  have hnm : meth.name = "charAt" := hnm
  have hml : c.maxLocals = 2 := hml
  have dk : ∀ {i : Nat} {r : Except DecodeError (Instr × Nat)}, decode jdk_52_method_83_code i = r → decode c.code i = r := fun h => hb hby h
  have N0 := Fr.nil n0
  refine gy (St s₁ m 2 #[vr b1, vi 3] [(.ref b1), (.int 3)]) (fun _ k => XS.iloadN X0.here hx rfl (dk d24_0) rfl (XS.aloadN X0.here hx rfl (dk d24_1) rfl rfl k)) ?_
  obtain ⟨_, _, ⟨T731, L731, k731, n731⟩, -, X731, ⟨Lc731, hQ731, l731, y731, z731⟩, st731⟩ := Jvm.LawKit.callS X0 hx (y := Y14) hown (mvT hZ (wd hw 106 rfl)) (mvT hZ (wd hw 107 rfl)) (mvT hZ (wd hw 48 rfl)) (mvT hZ (wd hw 108 rfl)) (by decide) (backOf (W := 0) (rm_uci3 l Z a0 hw [] b1 kb fm c0 c1 c2 c3 h0 n0 Z0 pr0 pr1 hr_fm pr6) hZ (wd hw 108 rfl) (wd hw 48 rfl) (by decide) (by decide)) (g := (mkF m 2 #[vr b1, vi 3] [(.ref b1), (.int 3)])) rfl (by rw [hml]; rfl) (argsL := [(.int 3), (.ref b1)]) (rest := []) (lenOf pd_14 rfl) rfl (by show 2 * 0 + _ ≤ _; exact Nat.le_of_eq rfl) (dk d24_2) (fun _ _ => ⟨rfl, e0, Nat.le_of_ble_eq_true rfl, Nat.le_of_ble_eq_true rfl⟩)
  dsimp only [Pt.U, Pt.locs, Pt.cells, Pt.slots] at X731 l731 y731 z731 st731 hQ731
  subst l731 y731 z731
  obtain ⟨rfl, Nq731, hh731⟩ := hQ731
  have N731 := Fr.app N0 Nq731
  refine gy (St T731 m 5 #[vr b1, vi 3] []) (fun _ k => st731 _ k) ?_
  refine gy (St T731 m 7 #[vr b1, vi 3] [(.int 3), (.ref b1)]) (fun _ k => XS.aloadN X731.here hx rfl (dk d24_5) rfl rfl (XS.iloadN X731.here hx rfl (dk d24_6) rfl k)) ?_
  obtain ⟨_, _, ⟨T732, L732, k732, n732⟩, -, X732, ⟨Lc732, hQ732, l732, y732, z732⟩, st732⟩ := Jvm.LawKit.callS X731 hx (y := Y18) hown (mvT hZ (wd hw 100 rfl)) (mvT hZ (wd hw 101 rfl)) (mvT hZ (wd hw 48 rfl)) (mvT hZ (wd hw 102 rfl)) (by decide) (backOf (W := 0) (rm_get_3 l Z a0 hw [] b1 kb c3 (8 : Int32) [(.int (own_b0 c0)), (.int (own_b1 c0)), (.int (own_b0 c1)), (.int (own_b1 c1)), (.int (own_b0 c2)), (.int (own_b1 c2)), (.int (own_b0 c3)), (.int (own_b1 c3))] h0 n0 Z0 pr0 pr3 pr4 pr5 pr6 (by decide) (by decide) rfl rfl hr3) hZ (wd hw 102 rfl) (wd hw 48 rfl) (by decide) (by decide)) (g := (mkF m 7 #[vr b1, vi 3] [(.int 3), (.ref b1)])) rfl (by rw [hml]; rfl) (argsL := [(.ref b1), (.int 3)]) (rest := []) (lenOf pd_5 rfl) rfl (by show 2 * 0 + _ ≤ _; exact Nat.le_of_eq rfl) (dk d24_7) (fun _ _ => ⟨rfl, hh731, Nat.le_of_ble_eq_true rfl, Nat.le_of_ble_eq_true rfl⟩)
  dsimp only [Pt.U, Pt.locs, Pt.cells, Pt.slots] at X732 l732 y732 z732 st732 hQ732
  subst l732 y732 z732
  obtain ⟨rfl, Nq732, hh732⟩ := hQ732
  have N732 := Fr.app N731 Nq732
  refine gy (St T732 m 10 #[vr b1, vi 3] [(.int c3)]) (fun _ k => st732 _ k) ?_
  refine Go.retZ X732 hx hlk (t := .char) hret (by simp) (dk d24_10) (by decide) (by decide) ?_
  rw [hh732]
  exact ⟨(congrArg (fun q => some (Value.int q)) (own_nc hr3)), N732, rfl⟩
theorem ef_rm_ca3_0 (m : MethodId) (x0 : Addr) : entryFrame m #[(.ref x0), (.int 3)] 2 = mkF m 0 #[vr x0, vi 3] [] := by first | (simp [entryFrame, mkF, argsToLocals, Value.category]; done) | rfl
def Q_rm_ca3_0 (Z : State) (a1 : Addr) (t1 : Addr) (k1 : ClassId) (cs : Int32) (fm : Value) (c0 : Int32) (c1 : Int32) (c2 : Int32) (c3 : Int32) (h0 : Heap) (n0 : Nat) (vv : Option Value) (h : Heap) (L : List Loc) : Prop := vv = some (.int c3) ∧ Fr n0 L ∧ h = h0
set_option maxRecDepth 65536 in
set_option maxHeartbeats 40000000 in
theorem rm_ca3_0 (l : Launch) (Z : State) (a0 : Array Value) (hw : HW a0 Z) (ws : List Jvm.Cond) (a1 : Addr) (t1 : Addr) (k1 : ClassId) (cs : Int32) (fm : Value) (c0 : Int32) (c1 : Int32) (c2 : Int32) (c3 : Int32) (h0 : Heap) (n0 : Nat) (Z0 : n0 ≤ h0.size) (pr0 : Old Z n0 h0) (pr1 : Sta Z Z.heap "java/lang/String" "COMPACT_STRINGS" "Z" (.int cs)) (hcs : ¬ (cs = (0 : Int32))) (pr3 : Sta Z Z.heap "jdk/internal/util/Preconditions" "SIOOBE_FORMATTER" "Ljava/util/function/BiFunction;" fm) (hr_fm : fm.isRef = true) (pr5 : Exa Z h0 a1 "java/lang/String") (pr6 : Fld Z h0 a1 "java/lang/String" "value" "[B" (.ref t1)) (pr7 : Fld Z h0 a1 "java/lang/String" "coder" "B" (.int 0)) (pr8 : Arv Z h0 t1 k1 .byte (4 : Int32) [(.int (nar .byte (c0.toInt8.toInt32))), (.int (nar .byte (c1.toInt8.toInt32))), (.int (nar .byte (c2.toInt8.toInt32))), (.int (nar .byte (c3.toInt8.toInt32)))] (.int 0)) (hr3 : own_rng c3) (hn3 : ¬ ((255 : Int32) < c3)) :
    Met l Z Y7 jdk_42_method_56_code 2 (some .char) ws ({ frames := 3, cells := 0, slots := 0, locals := 40 } : Room) #[(.ref a1), (.int 3)] h0 (Q_rm_ca3_0 Z a1 t1 k1 cs fm c0 c1 c2 c3 h0 n0) := by
  refine Met.enter (f0 := fun m => mkF m 0 #[vr a1, vi 3] []) (plainFor_of_name pn_java_lang_String) (fun m => ef_rm_ca3_0 m a1) ?_
  intro p e s m below meth c s₁ hx hby hml hown hnm hret hlk hZ X0 e0
  have hown : s.vm.findClass "java/lang/String" = some m.cls := hown
  have hnm : meth.name = "charAt" := hnm
  have hml : c.maxLocals = 2 := hml
  have dk : ∀ {i : Nat} {r : Except DecodeError (Instr × Nat)}, decode jdk_42_method_56_code i = r → decode c.code i = r := fun h => hb hby h
  have N0 := Fr.nil n0
  refine gy (St s₁ m 1 #[vr a1, vi 3] [(.ref a1)]) (fun _ k => XS.aloadN X0.here hx rfl (dk d14_0) rfl rfl k) ?_
  obtain ⟨cq733, kq733, q733a, q733b, q733c⟩ := isOf hZ e0 pr5
  obtain ⟨_, _, ⟨T733, L733, k733, n733⟩, -, X733, ⟨Lc733, hQ733, l733, y733, z733⟩, st733⟩ := X0.virtualBack hx (y := Y10) (z := Y10) hown (mvT hZ (wd hw 67 rfl)) (mvT hZ (wd hw 68 rfl)) (notFace_of_selects (args := #[]) (mvT hZ (wd hw 70 rfl))) (mvT hZ (wd hw 70 rfl)) (mvT hZ (wd hw 69 rfl)) (by decide) (backOf (W := 0) (rm_isL0 l Z a0 hw [] a1 cs h0 n0 Z0 pr0 pr1 hcs pr7) hZ (wd hw 71 rfl) (wd hw 11 rfl) (by decide) (by decide)) q733a q733c (g := (mkF m 1 #[vr a1, vi 3] [(.ref a1)])) rfl (by rw [hml]; rfl) (Steps.refl _) (argsL := []) (rest := []) (lenOf pd_15 rfl) rfl (by show 2 * 0 + _ ≤ _; exact Nat.le_of_eq rfl) (dk d14_1) (fun _ _ => ⟨rfl, e0, Nat.le_of_ble_eq_true rfl, Nat.le_of_ble_eq_true rfl⟩)
  dsimp only [Pt.U, Pt.locs, Pt.cells, Pt.slots] at X733 l733 y733 z733 st733 hQ733
  subst l733 y733 z733
  obtain ⟨rfl, Nq733, hh733⟩ := hQ733
  have N733 := Fr.app N0 Nq733
  refine gy (St T733 m 4 #[vr a1, vi 3] [(.int 1)]) (fun _ k => st733.trans k) ?_
  refine gy (St T733 m 8 #[vr a1, vi 3] [(.ref a1)]) (fun _ k => XS.ifNo X733.here hx rfl (dk d14_4) rfl ((if0 _ _).trans (feq (by decide : ¬ ((1 : Int32) = (0 : Int32)))).1) (XS.aloadN X733.here hx rfl (dk d14_7) rfl rfl k)) ?_
  obtain ⟨T734, X734, e734, st734⟩ := getF X733 hx hZ hown (host := "") (Or.inl (wd hw 29 rfl)) Via.refl hh733 pr6 (g := (mkF m 8 #[vr a1, vi 3] [(.ref a1)])) rfl rfl (dk d14_8)
  refine gy (St T734 m 11 #[vr a1, vi 3] [(.ref t1)]) st734 ?_
  refine gy (St T734 m 12 #[vr a1, vi 3] [(.int 3), (.ref t1)]) (fun _ k => XS.iloadN X734.here hx rfl (dk d14_11) rfl k) ?_
  obtain ⟨_, _, ⟨T735, L735, k735, n735⟩, -, X735, ⟨Lc735, hQ735, l735, y735, z735⟩, st735⟩ := Jvm.LawKit.callS X734 hx (y := Y12) hown (mvT hZ (wd hw 72 rfl)) (mvT hZ (wd hw 73 rfl)) (mvT hZ (wd hw 74 rfl)) (mvT hZ (wd hw 75 rfl)) (by decide) (backOf (W := 0) (rm_lca3 l Z a0 hw [] t1 k1 fm c0 c1 c2 c3 h0 n0 Z0 pr0 pr3 hr_fm pr8 hr3 hn3) hZ (wd hw 75 rfl) (wd hw 74 rfl) (by decide) (by decide)) (g := (mkF m 12 #[vr a1, vi 3] [(.int 3), (.ref t1)])) rfl (by rw [hml]; rfl) (argsL := [(.ref t1), (.int 3)]) (rest := []) (lenOf pd_5 rfl) rfl (by show 2 * 0 + _ ≤ _; exact Nat.le_of_eq rfl) (dk d14_12) (fun _ _ => ⟨rfl, e734, Nat.le_of_ble_eq_true rfl, Nat.le_of_ble_eq_true rfl⟩)
  dsimp only [Pt.U, Pt.locs, Pt.cells, Pt.slots] at X735 l735 y735 z735 st735 hQ735
  subst l735 y735 z735
  obtain ⟨rfl, Nq735, hh735⟩ := hQ735
  have N735 := Fr.app N733 Nq735
  refine gy (St T735 m 15 #[vr a1, vi 3] [(.int c3)]) (fun _ k => st735 _ k) ?_
  refine Go.retZ X735 hx hlk (t := .char) hret (by simp) (dk d14_15) (by decide) (by decide) ?_
  rw [hh735]
  exact ⟨(congrArg (fun q => some (Value.int q)) (own_nc hr3)), N735, rfl⟩
theorem ef_rm_ca3_1 (m : MethodId) (x0 : Addr) : entryFrame m #[(.ref x0), (.int 3)] 2 = mkF m 0 #[vr x0, vi 3] [] := by first | (simp [entryFrame, mkF, argsToLocals, Value.category]; done) | rfl
def Q_rm_ca3_1 (Z : State) (a1 : Addr) (t1 : Addr) (k1 : ClassId) (cs : Int32) (fm : Value) (c0 : Int32) (c1 : Int32) (c2 : Int32) (c3 : Int32) (h0 : Heap) (n0 : Nat) (vv : Option Value) (h : Heap) (L : List Loc) : Prop := vv = some (.int c3) ∧ Fr n0 L ∧ h = h0
set_option maxRecDepth 65536 in
set_option maxHeartbeats 40000000 in
theorem rm_ca3_1 (l : Launch) (Z : State) (a0 : Array Value) (hw : HW a0 Z) (ws : List Jvm.Cond) (a1 : Addr) (t1 : Addr) (k1 : ClassId) (cs : Int32) (fm : Value) (c0 : Int32) (c1 : Int32) (c2 : Int32) (c3 : Int32) (h0 : Heap) (n0 : Nat) (Z0 : n0 ≤ h0.size) (pr0 : Old Z n0 h0) (pr1 : Sta Z Z.heap "java/lang/String" "COMPACT_STRINGS" "Z" (.int cs)) (hcs : ¬ (cs = (0 : Int32))) (pr3 : Sta Z Z.heap "jdk/internal/util/Preconditions" "SIOOBE_FORMATTER" "Ljava/util/function/BiFunction;" fm) (hr_fm : fm.isRef = true) (pr5 : Sta Z Z.heap "java/lang/StringUTF16" "$assertionsDisabled" "Z" (.int 1)) (pr6 : Sta Z Z.heap "java/lang/StringUTF16" "HI_BYTE_SHIFT" "I" (.int 0)) (pr7 : Sta Z Z.heap "java/lang/StringUTF16" "LO_BYTE_SHIFT" "I" (.int 8)) (pr8 : Exa Z h0 a1 "java/lang/String") (pr9 : Fld Z h0 a1 "java/lang/String" "value" "[B" (.ref t1)) (pr10 : Fld Z h0 a1 "java/lang/String" "coder" "B" (.int 1)) (pr11 : Arv Z h0 t1 k1 .byte (8 : Int32) [(.int (own_b0 c0)), (.int (own_b1 c0)), (.int (own_b0 c1)), (.int (own_b1 c1)), (.int (own_b0 c2)), (.int (own_b1 c2)), (.int (own_b0 c3)), (.int (own_b1 c3))] (.int 0)) (hr3 : own_rng c3) :
    Met l Z Y7 jdk_42_method_56_code 2 (some .char) ws ({ frames := 4, cells := 0, slots := 0, locals := 53 } : Room) #[(.ref a1), (.int 3)] h0 (Q_rm_ca3_1 Z a1 t1 k1 cs fm c0 c1 c2 c3 h0 n0) := by
  refine Met.enter (f0 := fun m => mkF m 0 #[vr a1, vi 3] []) (plainFor_of_name pn_java_lang_String) (fun m => ef_rm_ca3_1 m a1) ?_
  intro p e s m below meth c s₁ hx hby hml hown hnm hret hlk hZ X0 e0
  have hown : s.vm.findClass "java/lang/String" = some m.cls := hown
  have hnm : meth.name = "charAt" := hnm
  have hml : c.maxLocals = 2 := hml
  have dk : ∀ {i : Nat} {r : Except DecodeError (Instr × Nat)}, decode jdk_42_method_56_code i = r → decode c.code i = r := fun h => hb hby h
  have N0 := Fr.nil n0
  refine gy (St s₁ m 1 #[vr a1, vi 3] [(.ref a1)]) (fun _ k => XS.aloadN X0.here hx rfl (dk d14_0) rfl rfl k) ?_
  obtain ⟨cq736, kq736, q736a, q736b, q736c⟩ := isOf hZ e0 pr8
  obtain ⟨_, _, ⟨T736, L736, k736, n736⟩, -, X736, ⟨Lc736, hQ736, l736, y736, z736⟩, st736⟩ := X0.virtualBack hx (y := Y10) (z := Y10) hown (mvT hZ (wd hw 67 rfl)) (mvT hZ (wd hw 68 rfl)) (notFace_of_selects (args := #[]) (mvT hZ (wd hw 70 rfl))) (mvT hZ (wd hw 70 rfl)) (mvT hZ (wd hw 69 rfl)) (by decide) (backOf (W := 0) (rm_isL1 l Z a0 hw [] a1 cs h0 n0 Z0 pr0 pr1 hcs pr10) hZ (wd hw 71 rfl) (wd hw 11 rfl) (by decide) (by decide)) q736a q736c (g := (mkF m 1 #[vr a1, vi 3] [(.ref a1)])) rfl (by rw [hml]; rfl) (Steps.refl _) (argsL := []) (rest := []) (lenOf pd_15 rfl) rfl (by show 2 * 0 + _ ≤ _; exact Nat.le_of_eq rfl) (dk d14_1) (fun _ _ => ⟨rfl, e0, Nat.le_of_ble_eq_true rfl, Nat.le_of_ble_eq_true rfl⟩)
  dsimp only [Pt.U, Pt.locs, Pt.cells, Pt.slots] at X736 l736 y736 z736 st736 hQ736
  subst l736 y736 z736
  obtain ⟨rfl, Nq736, hh736⟩ := hQ736
  have N736 := Fr.app N0 Nq736
  refine gy (St T736 m 4 #[vr a1, vi 3] [(.int 0)]) (fun _ k => st736.trans k) ?_
  refine gy (St T736 m 17 #[vr a1, vi 3] [(.ref a1)]) (fun _ k => XS.ifYes X736.here hx rfl (pc0 := 4) (pc' := 16) rfl (dk d14_4) rfl ((if0 _ _).trans (teq (by decide : (0 : Int32) = (0 : Int32))).1) (by decide) (by decide) (XS.aloadN X736.here hx rfl (dk d14_16) rfl rfl k)) ?_
  obtain ⟨T737, X737, e737, st737⟩ := getF X736 hx hZ hown (host := "") (Or.inl (wd hw 29 rfl)) Via.refl hh736 pr9 (g := (mkF m 17 #[vr a1, vi 3] [(.ref a1)])) rfl rfl (dk d14_17)
  refine gy (St T737 m 20 #[vr a1, vi 3] [(.ref t1)]) st737 ?_
  refine gy (St T737 m 21 #[vr a1, vi 3] [(.int 3), (.ref t1)]) (fun _ k => XS.iloadN X737.here hx rfl (dk d14_20) rfl k) ?_
  obtain ⟨_, _, ⟨T738, L738, k738, n738⟩, -, X738, ⟨Lc738, hQ738, l738, y738, z738⟩, st738⟩ := Jvm.LawKit.callS X737 hx (y := Y13) hown (mvT hZ (wd hw 103 rfl)) (mvT hZ (wd hw 104 rfl)) (mvT hZ (wd hw 48 rfl)) (mvT hZ (wd hw 105 rfl)) (by decide) (backOf (W := 0) (rm_uca3 l Z a0 hw [] t1 k1 fm c0 c1 c2 c3 h0 n0 Z0 pr0 pr3 hr_fm pr5 pr6 pr7 pr11 hr3) hZ (wd hw 105 rfl) (wd hw 48 rfl) (by decide) (by decide)) (g := (mkF m 21 #[vr a1, vi 3] [(.int 3), (.ref t1)])) rfl (by rw [hml]; rfl) (argsL := [(.ref t1), (.int 3)]) (rest := []) (lenOf pd_5 rfl) rfl (by show 2 * 0 + _ ≤ _; exact Nat.le_of_eq rfl) (dk d14_21) (fun _ _ => ⟨rfl, e737, Nat.le_of_ble_eq_true rfl, Nat.le_of_ble_eq_true rfl⟩)
  dsimp only [Pt.U, Pt.locs, Pt.cells, Pt.slots] at X738 l738 y738 z738 st738 hQ738
  subst l738 y738 z738
  obtain ⟨rfl, Nq738, hh738⟩ := hQ738
  have N738 := Fr.app N736 Nq738
  refine gy (St T738 m 24 #[vr a1, vi 3] [(.int c3)]) (fun _ k => st738 _ k) ?_
  refine Go.retZ X738 hx hlk (t := .char) hret (by simp) (dk d14_24) (by decide) (by decide) ?_
  rw [hh738]
  exact ⟨(congrArg (fun q => some (Value.int q)) (own_nc hr3)), N738, rfl⟩
theorem ef_rm_digits0 (m : MethodId) (x0 : Addr) : entryFrame m #[(.ref x0), (.int 0), (.int 4)] 5 = mkF m 0 #[vr x0, vi 0, vi 4, .unset, .unset] [] := by first | (simp [entryFrame, mkF, argsToLocals, Value.category]; done) | rfl
theorem d13_0 : decode prog_16_method_14_code 0 = .ok (.iload_n 1, 1) := by decide +kernel
theorem d13_1 : decode prog_16_method_14_code 1 = .ok (.istore_n 3, 1) := by decide +kernel
theorem d13_2 : decode prog_16_method_14_code 2 = .ok (.iload_n 3, 1) := by decide +kernel
theorem d13_3 : decode prog_16_method_14_code 3 = .ok (.iload_n 2, 1) := by decide +kernel
theorem d13_4 : decode prog_16_method_14_code 4 = .ok (.if_icmp .ge 32, 3) := by decide +kernel
theorem d13_7 : decode prog_16_method_14_code 7 = .ok (.aload_n 0, 1) := by decide +kernel
theorem d13_8 : decode prog_16_method_14_code 8 = .ok (.iload_n 3, 1) := by decide +kernel
theorem d13_9 : decode prog_16_method_14_code 9 = .ok (.invokevirtual 27, 3) := by decide +kernel
theorem pd_16 : parseMethodDescriptor "(I)C" = some ⟨[.int], some .char⟩ := by decide +kernel
theorem d13_12 : decode prog_16_method_14_code 12 = .ok (.istore 4, 2) := by decide +kernel
theorem d13_14 : decode prog_16_method_14_code 14 = .ok (.iload 4, 2) := by decide +kernel
theorem d13_16 : decode prog_16_method_14_code 16 = .ok (.bipush 48, 2) := by decide +kernel
theorem d13_18 : decode prog_16_method_14_code 18 = .ok (.if_icmp .lt 10, 3) := by decide +kernel
theorem d13_28 : decode prog_16_method_14_code 28 = .ok (.iconst 0, 1) := by decide +kernel
theorem d13_29 : decode prog_16_method_14_code 29 = .ok (.ireturn, 1) := by decide +kernel
theorem d13_21 : decode prog_16_method_14_code 21 = .ok (.iload 4, 2) := by decide +kernel
theorem d13_23 : decode prog_16_method_14_code 23 = .ok (.bipush 57, 2) := by decide +kernel
theorem d13_25 : decode prog_16_method_14_code 25 = .ok (.if_icmp .le 5, 3) := by decide +kernel
theorem d13_30 : decode prog_16_method_14_code 30 = .ok (.iinc 3 1, 3) := by decide +kernel
theorem d13_33 : decode prog_16_method_14_code 33 = .ok (.goto (-31), 3) := by decide +kernel
theorem d13_36 : decode prog_16_method_14_code 36 = .ok (.iconst 1, 1) := by decide +kernel
theorem d13_37 : decode prog_16_method_14_code 37 = .ok (.ireturn, 1) := by decide +kernel
def Q_rm_digits0 (Z : State) (a1 : Addr) (t1 : Addr) (k1 : ClassId) (cs : Int32) (fm : Value) (c0 : Int32) (c1 : Int32) (c2 : Int32) (c3 : Int32) (h0 : Heap) (n0 : Nat) (vv : Option Value) (h : Heap) (L : List Loc) : Prop := ∃ v : Int32, vv = some (.int v) ∧ Fr n0 L ∧ h = h0 ∧ ((v = 1 ∧ (own_dig c0 ∧ own_dig c1 ∧ own_dig c2 ∧ own_dig c3)) ∨ (v = 0 ∧ ¬ (own_dig c0 ∧ own_dig c1 ∧ own_dig c2 ∧ own_dig c3)))
set_option maxRecDepth 65536 in
set_option maxHeartbeats 40000000 in
theorem rm_digits0 (l : Launch) (Z : State) (a0 : Array Value) (hw : HW a0 Z) (ws : List Jvm.Cond) (a1 : Addr) (t1 : Addr) (k1 : ClassId) (cs : Int32) (fm : Value) (c0 : Int32) (c1 : Int32) (c2 : Int32) (c3 : Int32) (h0 : Heap) (n0 : Nat) (Z0 : n0 ≤ h0.size) (pr0 : Old Z n0 h0) (pr1 : Sta Z Z.heap "java/lang/String" "COMPACT_STRINGS" "Z" (.int cs)) (hcs : ¬ (cs = (0 : Int32))) (pr3 : Sta Z Z.heap "jdk/internal/util/Preconditions" "SIOOBE_FORMATTER" "Ljava/util/function/BiFunction;" fm) (hr_fm : fm.isRef = true) (pr5 : Exa Z h0 a1 "java/lang/String") (pr6 : Fld Z h0 a1 "java/lang/String" "value" "[B" (.ref t1)) (pr7 : Fld Z h0 a1 "java/lang/String" "coder" "B" (.int 0)) (pr8 : Arv Z h0 t1 k1 .byte (4 : Int32) [(.int (nar .byte (c0.toInt8.toInt32))), (.int (nar .byte (c1.toInt8.toInt32))), (.int (nar .byte (c2.toInt8.toInt32))), (.int (nar .byte (c3.toInt8.toInt32)))] (.int 0)) (hr0 : own_rng c0) (hr1 : own_rng c1) (hr2 : own_rng c2) (hr3 : own_rng c3) (hn0 : ¬ ((255 : Int32) < c0)) (hn1 : ¬ ((255 : Int32) < c1)) (hn2 : ¬ ((255 : Int32) < c2)) (hn3 : ¬ ((255 : Int32) < c3)) :
    Met l Z Y0 prog_16_method_14_code 5 (some .boolean) ws ({ frames := 4, cells := 0, slots := 0, locals := 53 } : Room) #[(.ref a1), (.int 0), (.int 4)] h0 (Q_rm_digits0 Z a1 t1 k1 cs fm c0 c1 c2 c3 h0 n0) := by
  refine Met.enter (f0 := fun m => mkF m 0 #[vr a1, vi 0, vi 4, .unset, .unset] []) (plainFor_of_name pn_com_example_vestwright_vestwright_Formats) (fun m => ef_rm_digits0 m a1) ?_
  intro p e s m below meth c s₁ hx hby hml hown hnm hret hlk hZ X0 e0
  have hown : s.vm.findClass "com/example/vestwright/vestwright/Formats" = some m.cls := hown
  have hnm : meth.name = "digits" := hnm
  have hml : c.maxLocals = 5 := hml
  have dk : ∀ {i : Nat} {r : Except DecodeError (Instr × Nat)}, decode prog_16_method_14_code i = r → decode c.code i = r := fun h => hb hby h
  have N0 := Fr.nil n0
  refine gy (St s₁ m 9 #[vr a1, vi 0, vi 4, vi 0, .unset] [(.int 0), (.ref a1)]) (fun _ k => XS.iloadN X0.here hx rfl (dk d13_0) rfl (XS.istoreN X0.here hx rfl (dk d13_1) rfl (l' := #[vr a1, vi 0, vi 4, vi 0, .unset]) rfl (XS.iloadN X0.here hx rfl (dk d13_2) rfl (XS.iloadN X0.here hx rfl (dk d13_3) rfl (XS.icmpNo X0.here hx rfl (dk d13_4) rfl (tlt (by decide : (0 : Int32) < (4 : Int32))).2.1 (XS.aloadN X0.here hx rfl (dk d13_7) rfl rfl (XS.iloadN X0.here hx rfl (dk d13_8) rfl k))))))) ?_
  obtain ⟨cq739, kq739, q739a, q739b, q739c⟩ := isOf hZ e0 pr5
  obtain ⟨_, _, ⟨T739, L739, k739, n739⟩, -, X739, ⟨Lc739, hQ739, l739, y739, z739⟩, st739⟩ := X0.virtualBack hx (y := Y7) (z := Y7) hown (mvT hZ (wd hw 62 rfl)) (mvT hZ (wd hw 63 rfl)) (notFace_of_selects (args := #[]) (mvT hZ (wd hw 65 rfl))) (mvT hZ (wd hw 65 rfl)) (mvT hZ (wd hw 64 rfl)) (by decide) (backOf (W := 0) (rm_ca0_0 l Z a0 hw [] a1 t1 k1 cs fm c0 c1 c2 c3 h0 n0 Z0 pr0 pr1 hcs pr3 hr_fm pr5 pr6 pr7 pr8 hr0 hn0) hZ (wd hw 66 rfl) (wd hw 11 rfl) (by decide) (by decide)) q739a q739c (g := (mkF m 9 #[vr a1, vi 0, vi 4, vi 0, .unset] [(.int 0), (.ref a1)])) rfl (by rw [hml]; rfl) (Steps.refl _) (argsL := [(.int 0)]) (rest := []) (lenOf pd_16 rfl) rfl (by show 2 * 0 + _ ≤ _; exact Nat.le_of_eq rfl) (dk d13_9) (fun _ _ => ⟨rfl, e0, Nat.le_of_ble_eq_true rfl, Nat.le_of_ble_eq_true rfl⟩)
  dsimp only [Pt.U, Pt.locs, Pt.cells, Pt.slots] at X739 l739 y739 z739 st739 hQ739
  subst l739 y739 z739
  obtain ⟨rfl, Nq739, hh739⟩ := hQ739
  have N739 := Fr.app N0 Nq739
  refine gy (St T739 m 12 #[vr a1, vi 0, vi 4, vi 0, .unset] [(.int c0)]) (fun _ k => st739.trans k) ?_
  refine gy (St T739 m 18 #[vr a1, vi 0, vi 4, vi 0, vi c0] [(.int 48), (.int c0)]) (fun _ k => XS.istore X739.here hx rfl (dk d13_12) rfl (l' := #[vr a1, vi 0, vi 4, vi 0, vi c0]) rfl (XS.iload X739.here hx rfl (dk d13_14) rfl (XS.bipush X739.here hx rfl (dk d13_16) k))) ?_
  by_cases c740 : c0 < (48 : Int32)
  · skip
    refine gy (St T739 m 29 #[vr a1, vi 0, vi 4, vi 0, vi c0] [(.int 0)]) (fun _ k => XS.icmpYes X739.here hx rfl (pc0 := 18) (pc' := 28) rfl (dk d13_18) rfl (tlt c740).1 (by decide) (by decide) (XS.iconst X739.here hx rfl (dk d13_28) k)) ?_
    refine Go.ret X739 hx hlk (t := .boolean) hret rfl (Or.inl ⟨rfl, by simp, _, rfl⟩) (dk d13_29) (by decide) (by decide) ?_
    rw [hh739]
    exact ⟨(0 : Int32), rfl, N739, rfl, (Or.inr ⟨rfl, fun q => q.1.1 c740⟩)⟩
  · skip
    refine gy (St T739 m 25 #[vr a1, vi 0, vi 4, vi 0, vi c0] [(.int 57), (.int c0)]) (fun _ k => XS.icmpNo X739.here hx rfl (dk d13_18) rfl (flt c740).1 (XS.iload X739.here hx rfl (dk d13_21) rfl (XS.bipush X739.here hx rfl (dk d13_23) k))) ?_
    by_cases c741 : (57 : Int32) < c0
    · skip
      refine gy (St T739 m 29 #[vr a1, vi 0, vi 4, vi 0, vi c0] [(.int 0)]) (fun _ k => XS.icmpNo X739.here hx rfl (dk d13_25) rfl (tlt c741).2.2.2 (XS.iconst X739.here hx rfl (dk d13_28) k)) ?_
      refine Go.ret X739 hx hlk (t := .boolean) hret rfl (Or.inl ⟨rfl, by simp, _, rfl⟩) (dk d13_29) (by decide) (by decide) ?_
      rw [hh739]
      exact ⟨(0 : Int32), rfl, N739, rfl, (Or.inr ⟨rfl, fun q => q.1.2 c741⟩)⟩
    · skip
      refine gy (St T739 m 9 #[vr a1, vi 0, vi 4, vi 1, vi c0] [(.int 1), (.ref a1)]) (fun _ k => XS.icmpYes X739.here hx rfl (pc0 := 25) (pc' := 30) rfl (dk d13_25) rfl (flt c741).2.2.2 (by decide) (by decide) (XS.iinc X739.here hx rfl (dk d13_30) rfl (l' := #[vr a1, vi 0, vi 4, vi 1, vi c0]) rfl (XS.goto X739.here hx rfl (pc0 := 33) (pc' := 2) rfl (dk d13_33) (by decide) (by decide) (XS.iloadN X739.here hx rfl (dk d13_2) rfl (XS.iloadN X739.here hx rfl (dk d13_3) rfl (XS.icmpNo X739.here hx rfl (dk d13_4) rfl (tlt (by decide : (1 : Int32) < (4 : Int32))).2.1 (XS.aloadN X739.here hx rfl (dk d13_7) rfl rfl (XS.iloadN X739.here hx rfl (dk d13_8) rfl k)))))))) ?_
      obtain ⟨cq742, kq742, q742a, q742b, q742c⟩ := isOf hZ hh739 pr5
      obtain ⟨_, _, ⟨T742, L742, k742, n742⟩, -, X742, ⟨Lc742, hQ742, l742, y742, z742⟩, st742⟩ := X739.virtualBack hx (y := Y7) (z := Y7) hown (mvT hZ (wd hw 62 rfl)) (mvT hZ (wd hw 63 rfl)) (notFace_of_selects (args := #[]) (mvT hZ (wd hw 65 rfl))) (mvT hZ (wd hw 65 rfl)) (mvT hZ (wd hw 64 rfl)) (by decide) (backOf (W := 0) (rm_ca1_0 l Z a0 hw [] a1 t1 k1 cs fm c0 c1 c2 c3 h0 n0 Z0 pr0 pr1 hcs pr3 hr_fm pr5 pr6 pr7 pr8 hr1 hn1) hZ (wd hw 66 rfl) (wd hw 11 rfl) (by decide) (by decide)) q742a q742c (g := (mkF m 9 #[vr a1, vi 0, vi 4, vi 1, vi c0] [(.int 1), (.ref a1)])) rfl (by rw [hml]; rfl) (Steps.refl _) (argsL := [(.int 1)]) (rest := []) (lenOf pd_16 rfl) rfl (by show 2 * 0 + _ ≤ _; exact Nat.le_of_eq rfl) (dk d13_9) (fun _ _ => ⟨rfl, hh739, Nat.le_of_ble_eq_true rfl, Nat.le_of_ble_eq_true rfl⟩)
      dsimp only [Pt.U, Pt.locs, Pt.cells, Pt.slots] at X742 l742 y742 z742 st742 hQ742
      subst l742 y742 z742
      obtain ⟨rfl, Nq742, hh742⟩ := hQ742
      have N742 := Fr.app N739 Nq742
      refine gy (St T742 m 12 #[vr a1, vi 0, vi 4, vi 1, vi c0] [(.int c1)]) (fun _ k => st742.trans k) ?_
      refine gy (St T742 m 18 #[vr a1, vi 0, vi 4, vi 1, vi c1] [(.int 48), (.int c1)]) (fun _ k => XS.istore X742.here hx rfl (dk d13_12) rfl (l' := #[vr a1, vi 0, vi 4, vi 1, vi c1]) rfl (XS.iload X742.here hx rfl (dk d13_14) rfl (XS.bipush X742.here hx rfl (dk d13_16) k))) ?_
      by_cases c743 : c1 < (48 : Int32)
      · skip
        refine gy (St T742 m 29 #[vr a1, vi 0, vi 4, vi 1, vi c1] [(.int 0)]) (fun _ k => XS.icmpYes X742.here hx rfl (pc0 := 18) (pc' := 28) rfl (dk d13_18) rfl (tlt c743).1 (by decide) (by decide) (XS.iconst X742.here hx rfl (dk d13_28) k)) ?_
        refine Go.ret X742 hx hlk (t := .boolean) hret rfl (Or.inl ⟨rfl, by simp, _, rfl⟩) (dk d13_29) (by decide) (by decide) ?_
        rw [hh742]
        exact ⟨(0 : Int32), rfl, N742, rfl, (Or.inr ⟨rfl, fun q => q.2.1.1 c743⟩)⟩
      · skip
        refine gy (St T742 m 25 #[vr a1, vi 0, vi 4, vi 1, vi c1] [(.int 57), (.int c1)]) (fun _ k => XS.icmpNo X742.here hx rfl (dk d13_18) rfl (flt c743).1 (XS.iload X742.here hx rfl (dk d13_21) rfl (XS.bipush X742.here hx rfl (dk d13_23) k))) ?_
        by_cases c744 : (57 : Int32) < c1
        · skip
          refine gy (St T742 m 29 #[vr a1, vi 0, vi 4, vi 1, vi c1] [(.int 0)]) (fun _ k => XS.icmpNo X742.here hx rfl (dk d13_25) rfl (tlt c744).2.2.2 (XS.iconst X742.here hx rfl (dk d13_28) k)) ?_
          refine Go.ret X742 hx hlk (t := .boolean) hret rfl (Or.inl ⟨rfl, by simp, _, rfl⟩) (dk d13_29) (by decide) (by decide) ?_
          rw [hh742]
          exact ⟨(0 : Int32), rfl, N742, rfl, (Or.inr ⟨rfl, fun q => q.2.1.2 c744⟩)⟩
        · skip
          refine gy (St T742 m 9 #[vr a1, vi 0, vi 4, vi 2, vi c1] [(.int 2), (.ref a1)]) (fun _ k => XS.icmpYes X742.here hx rfl (pc0 := 25) (pc' := 30) rfl (dk d13_25) rfl (flt c744).2.2.2 (by decide) (by decide) (XS.iinc X742.here hx rfl (dk d13_30) rfl (l' := #[vr a1, vi 0, vi 4, vi 2, vi c1]) rfl (XS.goto X742.here hx rfl (pc0 := 33) (pc' := 2) rfl (dk d13_33) (by decide) (by decide) (XS.iloadN X742.here hx rfl (dk d13_2) rfl (XS.iloadN X742.here hx rfl (dk d13_3) rfl (XS.icmpNo X742.here hx rfl (dk d13_4) rfl (tlt (by decide : (2 : Int32) < (4 : Int32))).2.1 (XS.aloadN X742.here hx rfl (dk d13_7) rfl rfl (XS.iloadN X742.here hx rfl (dk d13_8) rfl k)))))))) ?_
          obtain ⟨cq745, kq745, q745a, q745b, q745c⟩ := isOf hZ hh742 pr5
          obtain ⟨_, _, ⟨T745, L745, k745, n745⟩, -, X745, ⟨Lc745, hQ745, l745, y745, z745⟩, st745⟩ := X742.virtualBack hx (y := Y7) (z := Y7) hown (mvT hZ (wd hw 62 rfl)) (mvT hZ (wd hw 63 rfl)) (notFace_of_selects (args := #[]) (mvT hZ (wd hw 65 rfl))) (mvT hZ (wd hw 65 rfl)) (mvT hZ (wd hw 64 rfl)) (by decide) (backOf (W := 0) (rm_ca2_0 l Z a0 hw [] a1 t1 k1 cs fm c0 c1 c2 c3 h0 n0 Z0 pr0 pr1 hcs pr3 hr_fm pr5 pr6 pr7 pr8 hr2 hn2) hZ (wd hw 66 rfl) (wd hw 11 rfl) (by decide) (by decide)) q745a q745c (g := (mkF m 9 #[vr a1, vi 0, vi 4, vi 2, vi c1] [(.int 2), (.ref a1)])) rfl (by rw [hml]; rfl) (Steps.refl _) (argsL := [(.int 2)]) (rest := []) (lenOf pd_16 rfl) rfl (by show 2 * 0 + _ ≤ _; exact Nat.le_of_eq rfl) (dk d13_9) (fun _ _ => ⟨rfl, hh742, Nat.le_of_ble_eq_true rfl, Nat.le_of_ble_eq_true rfl⟩)
          dsimp only [Pt.U, Pt.locs, Pt.cells, Pt.slots] at X745 l745 y745 z745 st745 hQ745
          subst l745 y745 z745
          obtain ⟨rfl, Nq745, hh745⟩ := hQ745
          have N745 := Fr.app N742 Nq745
          refine gy (St T745 m 12 #[vr a1, vi 0, vi 4, vi 2, vi c1] [(.int c2)]) (fun _ k => st745.trans k) ?_
          refine gy (St T745 m 18 #[vr a1, vi 0, vi 4, vi 2, vi c2] [(.int 48), (.int c2)]) (fun _ k => XS.istore X745.here hx rfl (dk d13_12) rfl (l' := #[vr a1, vi 0, vi 4, vi 2, vi c2]) rfl (XS.iload X745.here hx rfl (dk d13_14) rfl (XS.bipush X745.here hx rfl (dk d13_16) k))) ?_
          by_cases c746 : c2 < (48 : Int32)
          · skip
            refine gy (St T745 m 29 #[vr a1, vi 0, vi 4, vi 2, vi c2] [(.int 0)]) (fun _ k => XS.icmpYes X745.here hx rfl (pc0 := 18) (pc' := 28) rfl (dk d13_18) rfl (tlt c746).1 (by decide) (by decide) (XS.iconst X745.here hx rfl (dk d13_28) k)) ?_
            refine Go.ret X745 hx hlk (t := .boolean) hret rfl (Or.inl ⟨rfl, by simp, _, rfl⟩) (dk d13_29) (by decide) (by decide) ?_
            rw [hh745]
            exact ⟨(0 : Int32), rfl, N745, rfl, (Or.inr ⟨rfl, fun q => q.2.2.1.1 c746⟩)⟩
          · skip
            refine gy (St T745 m 25 #[vr a1, vi 0, vi 4, vi 2, vi c2] [(.int 57), (.int c2)]) (fun _ k => XS.icmpNo X745.here hx rfl (dk d13_18) rfl (flt c746).1 (XS.iload X745.here hx rfl (dk d13_21) rfl (XS.bipush X745.here hx rfl (dk d13_23) k))) ?_
            by_cases c747 : (57 : Int32) < c2
            · skip
              refine gy (St T745 m 29 #[vr a1, vi 0, vi 4, vi 2, vi c2] [(.int 0)]) (fun _ k => XS.icmpNo X745.here hx rfl (dk d13_25) rfl (tlt c747).2.2.2 (XS.iconst X745.here hx rfl (dk d13_28) k)) ?_
              refine Go.ret X745 hx hlk (t := .boolean) hret rfl (Or.inl ⟨rfl, by simp, _, rfl⟩) (dk d13_29) (by decide) (by decide) ?_
              rw [hh745]
              exact ⟨(0 : Int32), rfl, N745, rfl, (Or.inr ⟨rfl, fun q => q.2.2.1.2 c747⟩)⟩
            · skip
              refine gy (St T745 m 9 #[vr a1, vi 0, vi 4, vi 3, vi c2] [(.int 3), (.ref a1)]) (fun _ k => XS.icmpYes X745.here hx rfl (pc0 := 25) (pc' := 30) rfl (dk d13_25) rfl (flt c747).2.2.2 (by decide) (by decide) (XS.iinc X745.here hx rfl (dk d13_30) rfl (l' := #[vr a1, vi 0, vi 4, vi 3, vi c2]) rfl (XS.goto X745.here hx rfl (pc0 := 33) (pc' := 2) rfl (dk d13_33) (by decide) (by decide) (XS.iloadN X745.here hx rfl (dk d13_2) rfl (XS.iloadN X745.here hx rfl (dk d13_3) rfl (XS.icmpNo X745.here hx rfl (dk d13_4) rfl (tlt (by decide : (3 : Int32) < (4 : Int32))).2.1 (XS.aloadN X745.here hx rfl (dk d13_7) rfl rfl (XS.iloadN X745.here hx rfl (dk d13_8) rfl k)))))))) ?_
              obtain ⟨cq748, kq748, q748a, q748b, q748c⟩ := isOf hZ hh745 pr5
              obtain ⟨_, _, ⟨T748, L748, k748, n748⟩, -, X748, ⟨Lc748, hQ748, l748, y748, z748⟩, st748⟩ := X745.virtualBack hx (y := Y7) (z := Y7) hown (mvT hZ (wd hw 62 rfl)) (mvT hZ (wd hw 63 rfl)) (notFace_of_selects (args := #[]) (mvT hZ (wd hw 65 rfl))) (mvT hZ (wd hw 65 rfl)) (mvT hZ (wd hw 64 rfl)) (by decide) (backOf (W := 0) (rm_ca3_0 l Z a0 hw [] a1 t1 k1 cs fm c0 c1 c2 c3 h0 n0 Z0 pr0 pr1 hcs pr3 hr_fm pr5 pr6 pr7 pr8 hr3 hn3) hZ (wd hw 66 rfl) (wd hw 11 rfl) (by decide) (by decide)) q748a q748c (g := (mkF m 9 #[vr a1, vi 0, vi 4, vi 3, vi c2] [(.int 3), (.ref a1)])) rfl (by rw [hml]; rfl) (Steps.refl _) (argsL := [(.int 3)]) (rest := []) (lenOf pd_16 rfl) rfl (by show 2 * 0 + _ ≤ _; exact Nat.le_of_eq rfl) (dk d13_9) (fun _ _ => ⟨rfl, hh745, Nat.le_of_ble_eq_true rfl, Nat.le_of_ble_eq_true rfl⟩)
              dsimp only [Pt.U, Pt.locs, Pt.cells, Pt.slots] at X748 l748 y748 z748 st748 hQ748
              subst l748 y748 z748
              obtain ⟨rfl, Nq748, hh748⟩ := hQ748
              have N748 := Fr.app N745 Nq748
              refine gy (St T748 m 12 #[vr a1, vi 0, vi 4, vi 3, vi c2] [(.int c3)]) (fun _ k => st748.trans k) ?_
              refine gy (St T748 m 18 #[vr a1, vi 0, vi 4, vi 3, vi c3] [(.int 48), (.int c3)]) (fun _ k => XS.istore X748.here hx rfl (dk d13_12) rfl (l' := #[vr a1, vi 0, vi 4, vi 3, vi c3]) rfl (XS.iload X748.here hx rfl (dk d13_14) rfl (XS.bipush X748.here hx rfl (dk d13_16) k))) ?_
              by_cases c749 : c3 < (48 : Int32)
              · skip
                refine gy (St T748 m 29 #[vr a1, vi 0, vi 4, vi 3, vi c3] [(.int 0)]) (fun _ k => XS.icmpYes X748.here hx rfl (pc0 := 18) (pc' := 28) rfl (dk d13_18) rfl (tlt c749).1 (by decide) (by decide) (XS.iconst X748.here hx rfl (dk d13_28) k)) ?_
                refine Go.ret X748 hx hlk (t := .boolean) hret rfl (Or.inl ⟨rfl, by simp, _, rfl⟩) (dk d13_29) (by decide) (by decide) ?_
                rw [hh748]
                exact ⟨(0 : Int32), rfl, N748, rfl, (Or.inr ⟨rfl, fun q => q.2.2.2.1 c749⟩)⟩
              · skip
                refine gy (St T748 m 25 #[vr a1, vi 0, vi 4, vi 3, vi c3] [(.int 57), (.int c3)]) (fun _ k => XS.icmpNo X748.here hx rfl (dk d13_18) rfl (flt c749).1 (XS.iload X748.here hx rfl (dk d13_21) rfl (XS.bipush X748.here hx rfl (dk d13_23) k))) ?_
                by_cases c750 : (57 : Int32) < c3
                · skip
                  refine gy (St T748 m 29 #[vr a1, vi 0, vi 4, vi 3, vi c3] [(.int 0)]) (fun _ k => XS.icmpNo X748.here hx rfl (dk d13_25) rfl (tlt c750).2.2.2 (XS.iconst X748.here hx rfl (dk d13_28) k)) ?_
                  refine Go.ret X748 hx hlk (t := .boolean) hret rfl (Or.inl ⟨rfl, by simp, _, rfl⟩) (dk d13_29) (by decide) (by decide) ?_
                  rw [hh748]
                  exact ⟨(0 : Int32), rfl, N748, rfl, (Or.inr ⟨rfl, fun q => q.2.2.2.2 c750⟩)⟩
                · skip
                  refine gy (St T748 m 37 #[vr a1, vi 0, vi 4, vi 4, vi c3] [(.int 1)]) (fun _ k => XS.icmpYes X748.here hx rfl (pc0 := 25) (pc' := 30) rfl (dk d13_25) rfl (flt c750).2.2.2 (by decide) (by decide) (XS.iinc X748.here hx rfl (dk d13_30) rfl (l' := #[vr a1, vi 0, vi 4, vi 4, vi c3]) rfl (XS.goto X748.here hx rfl (pc0 := 33) (pc' := 2) rfl (dk d13_33) (by decide) (by decide) (XS.iloadN X748.here hx rfl (dk d13_2) rfl (XS.iloadN X748.here hx rfl (dk d13_3) rfl (XS.icmpYes X748.here hx rfl (pc0 := 4) (pc' := 36) rfl (dk d13_4) rfl (flt (by decide : ¬ ((4 : Int32) < (4 : Int32)))).2.1 (by decide) (by decide) (XS.iconst X748.here hx rfl (dk d13_36) k))))))) ?_
                  refine Go.ret X748 hx hlk (t := .boolean) hret rfl (Or.inl ⟨rfl, by simp, _, rfl⟩) (dk d13_37) (by decide) (by decide) ?_
                  rw [hh748]
                  exact ⟨(1 : Int32), rfl, N748, rfl, (Or.inl ⟨rfl, ⟨c740, c741⟩, ⟨c743, c744⟩, ⟨c746, c747⟩, ⟨c749, c750⟩⟩)⟩
theorem ef_rm_isY_4_0 (m : MethodId) (x0 : Addr) : entryFrame m #[(.ref x0)] 1 = mkF m 0 #[vr x0] [] := by first | (simp [entryFrame, mkF, argsToLocals, Value.category]; done) | rfl
theorem d6_8 : decode prog_16_method_2_code 8 = .ok (.aload_n 0, 1) := by decide +kernel
theorem d6_9 : decode prog_16_method_2_code 9 = .ok (.iconst 0, 1) := by decide +kernel
theorem d6_10 : decode prog_16_method_2_code 10 = .ok (.iconst 4, 1) := by decide +kernel
theorem d6_11 : decode prog_16_method_2_code 11 = .ok (.invokestatic 13, 3) := by decide +kernel
theorem pd_17 : parseMethodDescriptor "(Ljava/lang/String;II)Z" = some ⟨[(.object "java/lang/String"), .int, .int], some .boolean⟩ := by decide +kernel
theorem d6_14 : decode prog_16_method_2_code 14 = .ok (.ifCond .eq 7, 3) := by decide +kernel
theorem d6_17 : decode prog_16_method_2_code 17 = .ok (.iconst 1, 1) := by decide +kernel
theorem d6_18 : decode prog_16_method_2_code 18 = .ok (.goto 4, 3) := by decide +kernel
def Q_rm_isY_4_0 (Z : State) (a1 : Addr) (t1 : Addr) (k1 : ClassId) (cs : Int32) (fm : Value) (c0 : Int32) (c1 : Int32) (c2 : Int32) (c3 : Int32) (h0 : Heap) (n0 : Nat) (vv : Option Value) (h : Heap) (L : List Loc) : Prop := ∃ v : Int32, vv = some (.int v) ∧ Fr n0 L ∧ h = h0 ∧ ((v = 1 ∧ (own_dig c0 ∧ own_dig c1 ∧ own_dig c2 ∧ own_dig c3)) ∨ (v = 0 ∧ ¬ (own_dig c0 ∧ own_dig c1 ∧ own_dig c2 ∧ own_dig c3)))
set_option maxRecDepth 65536 in
set_option maxHeartbeats 40000000 in
theorem rm_isY_4_0 (l : Launch) (Z : State) (a0 : Array Value) (hw : HW a0 Z) (ws : List Jvm.Cond) (a1 : Addr) (t1 : Addr) (k1 : ClassId) (cs : Int32) (fm : Value) (c0 : Int32) (c1 : Int32) (c2 : Int32) (c3 : Int32) (h0 : Heap) (n0 : Nat) (Z0 : n0 ≤ h0.size) (pr0 : Old Z n0 h0) (pr1 : Sta Z Z.heap "java/lang/String" "COMPACT_STRINGS" "Z" (.int cs)) (hcs : ¬ (cs = (0 : Int32))) (pr3 : Sta Z Z.heap "jdk/internal/util/Preconditions" "SIOOBE_FORMATTER" "Ljava/util/function/BiFunction;" fm) (hr_fm : fm.isRef = true) (pr5 : Exa Z h0 a1 "java/lang/String") (pr6 : Fld Z h0 a1 "java/lang/String" "value" "[B" (.ref t1)) (pr7 : Fld Z h0 a1 "java/lang/String" "coder" "B" (.int 0)) (pr8 : Arv Z h0 t1 k1 .byte (4 : Int32) [(.int (nar .byte (c0.toInt8.toInt32))), (.int (nar .byte (c1.toInt8.toInt32))), (.int (nar .byte (c2.toInt8.toInt32))), (.int (nar .byte (c3.toInt8.toInt32)))] (.int 0)) (hr0 : own_rng c0) (hr1 : own_rng c1) (hr2 : own_rng c2) (hr3 : own_rng c3) (hn0 : ¬ ((255 : Int32) < c0)) (hn1 : ¬ ((255 : Int32) < c1)) (hn2 : ¬ ((255 : Int32) < c2)) (hn3 : ¬ ((255 : Int32) < c3)) :
    Met l Z Y1 prog_16_method_2_code 1 (some .boolean) ws ({ frames := 5, cells := 0, slots := 0, locals := 69 } : Room) #[(.ref a1)] h0 (Q_rm_isY_4_0 Z a1 t1 k1 cs fm c0 c1 c2 c3 h0 n0) := by
  refine Met.enter (f0 := fun m => mkF m 0 #[vr a1] []) (plainFor_of_name pn_com_example_vestwright_vestwright_Formats) (fun m => ef_rm_isY_4_0 m a1) ?_
  intro p e s m below meth c s₁ hx hby hml hown hnm hret hlk hZ X0 e0
  have hown : s.vm.findClass "com/example/vestwright/vestwright/Formats" = some m.cls := hown
  have hnm : meth.name = "isYear" := hnm
  have hml : c.maxLocals = 1 := hml
  have dk : ∀ {i : Nat} {r : Except DecodeError (Instr × Nat)}, decode prog_16_method_2_code i = r → decode c.code i = r := fun h => hb hby h
  have N0 := Fr.nil n0
  refine gy (St s₁ m 1 #[vr a1] [(.ref a1)]) (fun _ k => XS.aloadN X0.here hx rfl (dk d6_0) rfl rfl k) ?_
  obtain ⟨cq751, kq751, q751a, q751b, q751c⟩ := isOf hZ e0 pr5
  obtain ⟨_, _, ⟨T751, L751, k751, n751⟩, -, X751, ⟨Lc751, hQ751, l751, y751, z751⟩, st751⟩ := X0.virtualBack hx (y := Y11) (z := Y11) hown (mvT hZ (wd hw 35 rfl)) (mvT hZ (wd hw 36 rfl)) (notFace_of_selects (args := #[]) (mvT hZ (wd hw 38 rfl))) (mvT hZ (wd hw 38 rfl)) (mvT hZ (wd hw 37 rfl)) (by decide) (backOf (W := 0) (rm_len_4_0 l Z a0 hw [] a1 t1 k1 cs [(.int (nar .byte (c0.toInt8.toInt32))), (.int (nar .byte (c1.toInt8.toInt32))), (.int (nar .byte (c2.toInt8.toInt32))), (.int (nar .byte (c3.toInt8.toInt32)))] h0 n0 Z0 pr0 pr1 hcs pr5 pr6 pr7 pr8) hZ (wd hw 39 rfl) (wd hw 11 rfl) (by decide) (by decide)) q751a q751c (g := (mkF m 1 #[vr a1] [(.ref a1)])) rfl (by rw [hml]; rfl) (Steps.refl _) (argsL := []) (rest := []) (lenOf pd_10 rfl) rfl (by show 2 * 0 + _ ≤ _; exact Nat.le_of_eq rfl) (dk d6_1) (fun _ _ => ⟨rfl, e0, Nat.le_of_ble_eq_true rfl, Nat.le_of_ble_eq_true rfl⟩)
  dsimp only [Pt.U, Pt.locs, Pt.cells, Pt.slots] at X751 l751 y751 z751 st751 hQ751
  subst l751 y751 z751
  obtain ⟨rfl, Nq751, hh751⟩ := hQ751
  have N751 := Fr.app N0 Nq751
  refine gy (St T751 m 4 #[vr a1] [(.int 4)]) (fun _ k => st751.trans k) ?_
  refine gy (St T751 m 11 #[vr a1] [(.int 4), (.int 0), (.ref a1)]) (fun _ k => XS.iconst X751.here hx rfl (dk d6_4) (XS.icmpNo X751.here hx rfl (dk d6_5) rfl (teq (by decide : (4 : Int32) = (4 : Int32))).2 (XS.aloadN X751.here hx rfl (dk d6_8) rfl rfl (XS.iconst X751.here hx rfl (dk d6_9) (XS.iconst X751.here hx rfl (dk d6_10) k))))) ?_
  obtain ⟨_, _, ⟨T752, L752, k752, n752⟩, -, X752, ⟨Lc752, hQ752, l752, y752, z752⟩, st752⟩ := Jvm.LawKit.callS X751 hx (y := Y0) hown (mvT hZ (wd hw 59 rfl)) (mvT hZ (wd hw 60 rfl)) (mvT hZ (wd hw 33 rfl)) (mvT hZ (wd hw 61 rfl)) (by decide) (backOf (W := 0) (rm_digits0 l Z a0 hw [] a1 t1 k1 cs fm c0 c1 c2 c3 h0 n0 Z0 pr0 pr1 hcs pr3 hr_fm pr5 pr6 pr7 pr8 hr0 hr1 hr2 hr3 hn0 hn1 hn2 hn3) hZ (wd hw 61 rfl) (wd hw 33 rfl) (by decide) (by decide)) (g := (mkF m 11 #[vr a1] [(.int 4), (.int 0), (.ref a1)])) rfl (by rw [hml]; rfl) (argsL := [(.ref a1), (.int 0), (.int 4)]) (rest := []) (lenOf pd_17 rfl) rfl (by show 2 * 0 + _ ≤ _; exact Nat.le_of_eq rfl) (dk d6_11) (fun _ _ => ⟨rfl, hh751, Nat.le_of_ble_eq_true rfl, Nat.le_of_ble_eq_true rfl⟩)
  dsimp only [Pt.U, Pt.locs, Pt.cells, Pt.slots] at X752 l752 y752 z752 st752 hQ752
  subst l752 y752 z752
  obtain ⟨v752, rfl, Nq752, hh752, p752_0⟩ := hQ752
  have N752 := Fr.app N751 Nq752
  refine gy (St T752 m 14 #[vr a1] [(.int v752)]) (fun _ k => st752 _ k) ?_
  rcases p752_0 with ⟨rfl, e753⟩ | ⟨rfl, e753⟩
  · skip
    refine gy (St T752 m 22 #[vr a1] [(.int 1)]) (fun _ k => XS.ifNo X752.here hx rfl (dk d6_14) rfl ((if0 _ _).trans (feq (by decide : ¬ ((1 : Int32) = (0 : Int32)))).1) (XS.iconst X752.here hx rfl (dk d6_17) (XS.goto X752.here hx rfl (pc0 := 18) (pc' := 22) rfl (dk d6_18) (by decide) (by decide) k))) ?_
    refine Go.ret X752 hx hlk (t := .boolean) hret rfl (Or.inl ⟨rfl, by simp, _, rfl⟩) (dk d6_22) (by decide) (by decide) ?_
    rw [hh752]
    exact ⟨(1 : Int32), rfl, N752, rfl, (Or.inl ⟨rfl, e753⟩)⟩
  · skip
    refine gy (St T752 m 22 #[vr a1] [(.int 0)]) (fun _ k => XS.ifYes X752.here hx rfl (pc0 := 14) (pc' := 21) rfl (dk d6_14) rfl ((if0 _ _).trans (teq (by decide : (0 : Int32) = (0 : Int32))).1) (by decide) (by decide) (XS.iconst X752.here hx rfl (dk d6_21) k)) ?_
    refine Go.ret X752 hx hlk (t := .boolean) hret rfl (Or.inl ⟨rfl, by simp, _, rfl⟩) (dk d6_22) (by decide) (by decide) ?_
    rw [hh752]
    exact ⟨(0 : Int32), rfl, N752, rfl, (Or.inr ⟨rfl, e753⟩)⟩
theorem ef_rm_digits1 (m : MethodId) (x0 : Addr) : entryFrame m #[(.ref x0), (.int 0), (.int 4)] 5 = mkF m 0 #[vr x0, vi 0, vi 4, .unset, .unset] [] := by first | (simp [entryFrame, mkF, argsToLocals, Value.category]; done) | rfl
def Q_rm_digits1 (Z : State) (a1 : Addr) (t1 : Addr) (k1 : ClassId) (cs : Int32) (fm : Value) (c0 : Int32) (c1 : Int32) (c2 : Int32) (c3 : Int32) (h0 : Heap) (n0 : Nat) (vv : Option Value) (h : Heap) (L : List Loc) : Prop := ∃ v : Int32, vv = some (.int v) ∧ Fr n0 L ∧ h = h0 ∧ ((v = 1 ∧ (own_dig c0 ∧ own_dig c1 ∧ own_dig c2 ∧ own_dig c3)) ∨ (v = 0 ∧ ¬ (own_dig c0 ∧ own_dig c1 ∧ own_dig c2 ∧ own_dig c3)))
set_option maxRecDepth 65536 in
set_option maxHeartbeats 40000000 in
theorem rm_digits1 (l : Launch) (Z : State) (a0 : Array Value) (hw : HW a0 Z) (ws : List Jvm.Cond) (a1 : Addr) (t1 : Addr) (k1 : ClassId) (cs : Int32) (fm : Value) (c0 : Int32) (c1 : Int32) (c2 : Int32) (c3 : Int32) (h0 : Heap) (n0 : Nat) (Z0 : n0 ≤ h0.size) (pr0 : Old Z n0 h0) (pr1 : Sta Z Z.heap "java/lang/String" "COMPACT_STRINGS" "Z" (.int cs)) (hcs : ¬ (cs = (0 : Int32))) (pr3 : Sta Z Z.heap "jdk/internal/util/Preconditions" "SIOOBE_FORMATTER" "Ljava/util/function/BiFunction;" fm) (hr_fm : fm.isRef = true) (pr5 : Sta Z Z.heap "java/lang/StringUTF16" "$assertionsDisabled" "Z" (.int 1)) (pr6 : Sta Z Z.heap "java/lang/StringUTF16" "HI_BYTE_SHIFT" "I" (.int 0)) (pr7 : Sta Z Z.heap "java/lang/StringUTF16" "LO_BYTE_SHIFT" "I" (.int 8)) (pr8 : Exa Z h0 a1 "java/lang/String") (pr9 : Fld Z h0 a1 "java/lang/String" "value" "[B" (.ref t1)) (pr10 : Fld Z h0 a1 "java/lang/String" "coder" "B" (.int 1)) (pr11 : Arv Z h0 t1 k1 .byte (8 : Int32) [(.int (own_b0 c0)), (.int (own_b1 c0)), (.int (own_b0 c1)), (.int (own_b1 c1)), (.int (own_b0 c2)), (.int (own_b1 c2)), (.int (own_b0 c3)), (.int (own_b1 c3))] (.int 0)) (hr0 : own_rng c0) (hr1 : own_rng c1) (hr2 : own_rng c2) (hr3 : own_rng c3) :
    Met l Z Y0 prog_16_method_14_code 5 (some .boolean) ws ({ frames := 5, cells := 0, slots := 0, locals := 66 } : Room) #[(.ref a1), (.int 0), (.int 4)] h0 (Q_rm_digits1 Z a1 t1 k1 cs fm c0 c1 c2 c3 h0 n0) := by
  refine Met.enter (f0 := fun m => mkF m 0 #[vr a1, vi 0, vi 4, .unset, .unset] []) (plainFor_of_name pn_com_example_vestwright_vestwright_Formats) (fun m => ef_rm_digits1 m a1) ?_
  intro p e s m below meth c s₁ hx hby hml hown hnm hret hlk hZ X0 e0
  have hown : s.vm.findClass "com/example/vestwright/vestwright/Formats" = some m.cls := hown
  have hnm : meth.name = "digits" := hnm
  have hml : c.maxLocals = 5 := hml
  have dk : ∀ {i : Nat} {r : Except DecodeError (Instr × Nat)}, decode prog_16_method_14_code i = r → decode c.code i = r := fun h => hb hby h
  have N0 := Fr.nil n0
  refine gy (St s₁ m 9 #[vr a1, vi 0, vi 4, vi 0, .unset] [(.int 0), (.ref a1)]) (fun _ k => XS.iloadN X0.here hx rfl (dk d13_0) rfl (XS.istoreN X0.here hx rfl (dk d13_1) rfl (l' := #[vr a1, vi 0, vi 4, vi 0, .unset]) rfl (XS.iloadN X0.here hx rfl (dk d13_2) rfl (XS.iloadN X0.here hx rfl (dk d13_3) rfl (XS.icmpNo X0.here hx rfl (dk d13_4) rfl (tlt (by decide : (0 : Int32) < (4 : Int32))).2.1 (XS.aloadN X0.here hx rfl (dk d13_7) rfl rfl (XS.iloadN X0.here hx rfl (dk d13_8) rfl k))))))) ?_
  obtain ⟨cq754, kq754, q754a, q754b, q754c⟩ := isOf hZ e0 pr8
  obtain ⟨_, _, ⟨T754, L754, k754, n754⟩, -, X754, ⟨Lc754, hQ754, l754, y754, z754⟩, st754⟩ := X0.virtualBack hx (y := Y7) (z := Y7) hown (mvT hZ (wd hw 62 rfl)) (mvT hZ (wd hw 63 rfl)) (notFace_of_selects (args := #[]) (mvT hZ (wd hw 65 rfl))) (mvT hZ (wd hw 65 rfl)) (mvT hZ (wd hw 64 rfl)) (by decide) (backOf (W := 0) (rm_ca0_1 l Z a0 hw [] a1 t1 k1 cs fm c0 c1 c2 c3 h0 n0 Z0 pr0 pr1 hcs pr3 hr_fm pr5 pr6 pr7 pr8 pr9 pr10 pr11 hr0) hZ (wd hw 66 rfl) (wd hw 11 rfl) (by decide) (by decide)) q754a q754c (g := (mkF m 9 #[vr a1, vi 0, vi 4, vi 0, .unset] [(.int 0), (.ref a1)])) rfl (by rw [hml]; rfl) (Steps.refl _) (argsL := [(.int 0)]) (rest := []) (lenOf pd_16 rfl) rfl (by show 2 * 0 + _ ≤ _; exact Nat.le_of_eq rfl) (dk d13_9) (fun _ _ => ⟨rfl, e0, Nat.le_of_ble_eq_true rfl, Nat.le_of_ble_eq_true rfl⟩)
  dsimp only [Pt.U, Pt.locs, Pt.cells, Pt.slots] at X754 l754 y754 z754 st754 hQ754
  subst l754 y754 z754
  obtain ⟨rfl, Nq754, hh754⟩ := hQ754
  have N754 := Fr.app N0 Nq754
  refine gy (St T754 m 12 #[vr a1, vi 0, vi 4, vi 0, .unset] [(.int c0)]) (fun _ k => st754.trans k) ?_
  refine gy (St T754 m 18 #[vr a1, vi 0, vi 4, vi 0, vi c0] [(.int 48), (.int c0)]) (fun _ k => XS.istore X754.here hx rfl (dk d13_12) rfl (l' := #[vr a1, vi 0, vi 4, vi 0, vi c0]) rfl (XS.iload X754.here hx rfl (dk d13_14) rfl (XS.bipush X754.here hx rfl (dk d13_16) k))) ?_
  by_cases c755 : c0 < (48 : Int32)
  · skip
    refine gy (St T754 m 29 #[vr a1, vi 0, vi 4, vi 0, vi c0] [(.int 0)]) (fun _ k => XS.icmpYes X754.here hx rfl (pc0 := 18) (pc' := 28) rfl (dk d13_18) rfl (tlt c755).1 (by decide) (by decide) (XS.iconst X754.here hx rfl (dk d13_28) k)) ?_
    refine Go.ret X754 hx hlk (t := .boolean) hret rfl (Or.inl ⟨rfl, by simp, _, rfl⟩) (dk d13_29) (by decide) (by decide) ?_
    rw [hh754]
    exact ⟨(0 : Int32), rfl, N754, rfl, (Or.inr ⟨rfl, fun q => q.1.1 c755⟩)⟩
  · skip
    refine gy (St T754 m 25 #[vr a1, vi 0, vi 4, vi 0, vi c0] [(.int 57), (.int c0)]) (fun _ k => XS.icmpNo X754.here hx rfl (dk d13_18) rfl (flt c755).1 (XS.iload X754.here hx rfl (dk d13_21) rfl (XS.bipush X754.here hx rfl (dk d13_23) k))) ?_
    by_cases c756 : (57 : Int32) < c0
    · skip
      refine gy (St T754 m 29 #[vr a1, vi 0, vi 4, vi 0, vi c0] [(.int 0)]) (fun _ k => XS.icmpNo X754.here hx rfl (dk d13_25) rfl (tlt c756).2.2.2 (XS.iconst X754.here hx rfl (dk d13_28) k)) ?_
      refine Go.ret X754 hx hlk (t := .boolean) hret rfl (Or.inl ⟨rfl, by simp, _, rfl⟩) (dk d13_29) (by decide) (by decide) ?_
      rw [hh754]
      exact ⟨(0 : Int32), rfl, N754, rfl, (Or.inr ⟨rfl, fun q => q.1.2 c756⟩)⟩
    · skip
      refine gy (St T754 m 9 #[vr a1, vi 0, vi 4, vi 1, vi c0] [(.int 1), (.ref a1)]) (fun _ k => XS.icmpYes X754.here hx rfl (pc0 := 25) (pc' := 30) rfl (dk d13_25) rfl (flt c756).2.2.2 (by decide) (by decide) (XS.iinc X754.here hx rfl (dk d13_30) rfl (l' := #[vr a1, vi 0, vi 4, vi 1, vi c0]) rfl (XS.goto X754.here hx rfl (pc0 := 33) (pc' := 2) rfl (dk d13_33) (by decide) (by decide) (XS.iloadN X754.here hx rfl (dk d13_2) rfl (XS.iloadN X754.here hx rfl (dk d13_3) rfl (XS.icmpNo X754.here hx rfl (dk d13_4) rfl (tlt (by decide : (1 : Int32) < (4 : Int32))).2.1 (XS.aloadN X754.here hx rfl (dk d13_7) rfl rfl (XS.iloadN X754.here hx rfl (dk d13_8) rfl k)))))))) ?_
      obtain ⟨cq757, kq757, q757a, q757b, q757c⟩ := isOf hZ hh754 pr8
      obtain ⟨_, _, ⟨T757, L757, k757, n757⟩, -, X757, ⟨Lc757, hQ757, l757, y757, z757⟩, st757⟩ := X754.virtualBack hx (y := Y7) (z := Y7) hown (mvT hZ (wd hw 62 rfl)) (mvT hZ (wd hw 63 rfl)) (notFace_of_selects (args := #[]) (mvT hZ (wd hw 65 rfl))) (mvT hZ (wd hw 65 rfl)) (mvT hZ (wd hw 64 rfl)) (by decide) (backOf (W := 0) (rm_ca1_1 l Z a0 hw [] a1 t1 k1 cs fm c0 c1 c2 c3 h0 n0 Z0 pr0 pr1 hcs pr3 hr_fm pr5 pr6 pr7 pr8 pr9 pr10 pr11 hr1) hZ (wd hw 66 rfl) (wd hw 11 rfl) (by decide) (by decide)) q757a q757c (g := (mkF m 9 #[vr a1, vi 0, vi 4, vi 1, vi c0] [(.int 1), (.ref a1)])) rfl (by rw [hml]; rfl) (Steps.refl _) (argsL := [(.int 1)]) (rest := []) (lenOf pd_16 rfl) rfl (by show 2 * 0 + _ ≤ _; exact Nat.le_of_eq rfl) (dk d13_9) (fun _ _ => ⟨rfl, hh754, Nat.le_of_ble_eq_true rfl, Nat.le_of_ble_eq_true rfl⟩)
      dsimp only [Pt.U, Pt.locs, Pt.cells, Pt.slots] at X757 l757 y757 z757 st757 hQ757
      subst l757 y757 z757
      obtain ⟨rfl, Nq757, hh757⟩ := hQ757
      have N757 := Fr.app N754 Nq757
      refine gy (St T757 m 12 #[vr a1, vi 0, vi 4, vi 1, vi c0] [(.int c1)]) (fun _ k => st757.trans k) ?_
      refine gy (St T757 m 18 #[vr a1, vi 0, vi 4, vi 1, vi c1] [(.int 48), (.int c1)]) (fun _ k => XS.istore X757.here hx rfl (dk d13_12) rfl (l' := #[vr a1, vi 0, vi 4, vi 1, vi c1]) rfl (XS.iload X757.here hx rfl (dk d13_14) rfl (XS.bipush X757.here hx rfl (dk d13_16) k))) ?_
      by_cases c758 : c1 < (48 : Int32)
      · skip
        refine gy (St T757 m 29 #[vr a1, vi 0, vi 4, vi 1, vi c1] [(.int 0)]) (fun _ k => XS.icmpYes X757.here hx rfl (pc0 := 18) (pc' := 28) rfl (dk d13_18) rfl (tlt c758).1 (by decide) (by decide) (XS.iconst X757.here hx rfl (dk d13_28) k)) ?_
        refine Go.ret X757 hx hlk (t := .boolean) hret rfl (Or.inl ⟨rfl, by simp, _, rfl⟩) (dk d13_29) (by decide) (by decide) ?_
        rw [hh757]
        exact ⟨(0 : Int32), rfl, N757, rfl, (Or.inr ⟨rfl, fun q => q.2.1.1 c758⟩)⟩
      · skip
        refine gy (St T757 m 25 #[vr a1, vi 0, vi 4, vi 1, vi c1] [(.int 57), (.int c1)]) (fun _ k => XS.icmpNo X757.here hx rfl (dk d13_18) rfl (flt c758).1 (XS.iload X757.here hx rfl (dk d13_21) rfl (XS.bipush X757.here hx rfl (dk d13_23) k))) ?_
        by_cases c759 : (57 : Int32) < c1
        · skip
          refine gy (St T757 m 29 #[vr a1, vi 0, vi 4, vi 1, vi c1] [(.int 0)]) (fun _ k => XS.icmpNo X757.here hx rfl (dk d13_25) rfl (tlt c759).2.2.2 (XS.iconst X757.here hx rfl (dk d13_28) k)) ?_
          refine Go.ret X757 hx hlk (t := .boolean) hret rfl (Or.inl ⟨rfl, by simp, _, rfl⟩) (dk d13_29) (by decide) (by decide) ?_
          rw [hh757]
          exact ⟨(0 : Int32), rfl, N757, rfl, (Or.inr ⟨rfl, fun q => q.2.1.2 c759⟩)⟩
        · skip
          refine gy (St T757 m 9 #[vr a1, vi 0, vi 4, vi 2, vi c1] [(.int 2), (.ref a1)]) (fun _ k => XS.icmpYes X757.here hx rfl (pc0 := 25) (pc' := 30) rfl (dk d13_25) rfl (flt c759).2.2.2 (by decide) (by decide) (XS.iinc X757.here hx rfl (dk d13_30) rfl (l' := #[vr a1, vi 0, vi 4, vi 2, vi c1]) rfl (XS.goto X757.here hx rfl (pc0 := 33) (pc' := 2) rfl (dk d13_33) (by decide) (by decide) (XS.iloadN X757.here hx rfl (dk d13_2) rfl (XS.iloadN X757.here hx rfl (dk d13_3) rfl (XS.icmpNo X757.here hx rfl (dk d13_4) rfl (tlt (by decide : (2 : Int32) < (4 : Int32))).2.1 (XS.aloadN X757.here hx rfl (dk d13_7) rfl rfl (XS.iloadN X757.here hx rfl (dk d13_8) rfl k)))))))) ?_
          obtain ⟨cq760, kq760, q760a, q760b, q760c⟩ := isOf hZ hh757 pr8
          obtain ⟨_, _, ⟨T760, L760, k760, n760⟩, -, X760, ⟨Lc760, hQ760, l760, y760, z760⟩, st760⟩ := X757.virtualBack hx (y := Y7) (z := Y7) hown (mvT hZ (wd hw 62 rfl)) (mvT hZ (wd hw 63 rfl)) (notFace_of_selects (args := #[]) (mvT hZ (wd hw 65 rfl))) (mvT hZ (wd hw 65 rfl)) (mvT hZ (wd hw 64 rfl)) (by decide) (backOf (W := 0) (rm_ca2_1 l Z a0 hw [] a1 t1 k1 cs fm c0 c1 c2 c3 h0 n0 Z0 pr0 pr1 hcs pr3 hr_fm pr5 pr6 pr7 pr8 pr9 pr10 pr11 hr2) hZ (wd hw 66 rfl) (wd hw 11 rfl) (by decide) (by decide)) q760a q760c (g := (mkF m 9 #[vr a1, vi 0, vi 4, vi 2, vi c1] [(.int 2), (.ref a1)])) rfl (by rw [hml]; rfl) (Steps.refl _) (argsL := [(.int 2)]) (rest := []) (lenOf pd_16 rfl) rfl (by show 2 * 0 + _ ≤ _; exact Nat.le_of_eq rfl) (dk d13_9) (fun _ _ => ⟨rfl, hh757, Nat.le_of_ble_eq_true rfl, Nat.le_of_ble_eq_true rfl⟩)
          dsimp only [Pt.U, Pt.locs, Pt.cells, Pt.slots] at X760 l760 y760 z760 st760 hQ760
          subst l760 y760 z760
          obtain ⟨rfl, Nq760, hh760⟩ := hQ760
          have N760 := Fr.app N757 Nq760
          refine gy (St T760 m 12 #[vr a1, vi 0, vi 4, vi 2, vi c1] [(.int c2)]) (fun _ k => st760.trans k) ?_
          refine gy (St T760 m 18 #[vr a1, vi 0, vi 4, vi 2, vi c2] [(.int 48), (.int c2)]) (fun _ k => XS.istore X760.here hx rfl (dk d13_12) rfl (l' := #[vr a1, vi 0, vi 4, vi 2, vi c2]) rfl (XS.iload X760.here hx rfl (dk d13_14) rfl (XS.bipush X760.here hx rfl (dk d13_16) k))) ?_
          by_cases c761 : c2 < (48 : Int32)
          · skip
            refine gy (St T760 m 29 #[vr a1, vi 0, vi 4, vi 2, vi c2] [(.int 0)]) (fun _ k => XS.icmpYes X760.here hx rfl (pc0 := 18) (pc' := 28) rfl (dk d13_18) rfl (tlt c761).1 (by decide) (by decide) (XS.iconst X760.here hx rfl (dk d13_28) k)) ?_
            refine Go.ret X760 hx hlk (t := .boolean) hret rfl (Or.inl ⟨rfl, by simp, _, rfl⟩) (dk d13_29) (by decide) (by decide) ?_
            rw [hh760]
            exact ⟨(0 : Int32), rfl, N760, rfl, (Or.inr ⟨rfl, fun q => q.2.2.1.1 c761⟩)⟩
          · skip
            refine gy (St T760 m 25 #[vr a1, vi 0, vi 4, vi 2, vi c2] [(.int 57), (.int c2)]) (fun _ k => XS.icmpNo X760.here hx rfl (dk d13_18) rfl (flt c761).1 (XS.iload X760.here hx rfl (dk d13_21) rfl (XS.bipush X760.here hx rfl (dk d13_23) k))) ?_
            by_cases c762 : (57 : Int32) < c2
            · skip
              refine gy (St T760 m 29 #[vr a1, vi 0, vi 4, vi 2, vi c2] [(.int 0)]) (fun _ k => XS.icmpNo X760.here hx rfl (dk d13_25) rfl (tlt c762).2.2.2 (XS.iconst X760.here hx rfl (dk d13_28) k)) ?_
              refine Go.ret X760 hx hlk (t := .boolean) hret rfl (Or.inl ⟨rfl, by simp, _, rfl⟩) (dk d13_29) (by decide) (by decide) ?_
              rw [hh760]
              exact ⟨(0 : Int32), rfl, N760, rfl, (Or.inr ⟨rfl, fun q => q.2.2.1.2 c762⟩)⟩
            · skip
              refine gy (St T760 m 9 #[vr a1, vi 0, vi 4, vi 3, vi c2] [(.int 3), (.ref a1)]) (fun _ k => XS.icmpYes X760.here hx rfl (pc0 := 25) (pc' := 30) rfl (dk d13_25) rfl (flt c762).2.2.2 (by decide) (by decide) (XS.iinc X760.here hx rfl (dk d13_30) rfl (l' := #[vr a1, vi 0, vi 4, vi 3, vi c2]) rfl (XS.goto X760.here hx rfl (pc0 := 33) (pc' := 2) rfl (dk d13_33) (by decide) (by decide) (XS.iloadN X760.here hx rfl (dk d13_2) rfl (XS.iloadN X760.here hx rfl (dk d13_3) rfl (XS.icmpNo X760.here hx rfl (dk d13_4) rfl (tlt (by decide : (3 : Int32) < (4 : Int32))).2.1 (XS.aloadN X760.here hx rfl (dk d13_7) rfl rfl (XS.iloadN X760.here hx rfl (dk d13_8) rfl k)))))))) ?_
              obtain ⟨cq763, kq763, q763a, q763b, q763c⟩ := isOf hZ hh760 pr8
              obtain ⟨_, _, ⟨T763, L763, k763, n763⟩, -, X763, ⟨Lc763, hQ763, l763, y763, z763⟩, st763⟩ := X760.virtualBack hx (y := Y7) (z := Y7) hown (mvT hZ (wd hw 62 rfl)) (mvT hZ (wd hw 63 rfl)) (notFace_of_selects (args := #[]) (mvT hZ (wd hw 65 rfl))) (mvT hZ (wd hw 65 rfl)) (mvT hZ (wd hw 64 rfl)) (by decide) (backOf (W := 0) (rm_ca3_1 l Z a0 hw [] a1 t1 k1 cs fm c0 c1 c2 c3 h0 n0 Z0 pr0 pr1 hcs pr3 hr_fm pr5 pr6 pr7 pr8 pr9 pr10 pr11 hr3) hZ (wd hw 66 rfl) (wd hw 11 rfl) (by decide) (by decide)) q763a q763c (g := (mkF m 9 #[vr a1, vi 0, vi 4, vi 3, vi c2] [(.int 3), (.ref a1)])) rfl (by rw [hml]; rfl) (Steps.refl _) (argsL := [(.int 3)]) (rest := []) (lenOf pd_16 rfl) rfl (by show 2 * 0 + _ ≤ _; exact Nat.le_of_eq rfl) (dk d13_9) (fun _ _ => ⟨rfl, hh760, Nat.le_of_ble_eq_true rfl, Nat.le_of_ble_eq_true rfl⟩)
              dsimp only [Pt.U, Pt.locs, Pt.cells, Pt.slots] at X763 l763 y763 z763 st763 hQ763
              subst l763 y763 z763
              obtain ⟨rfl, Nq763, hh763⟩ := hQ763
              have N763 := Fr.app N760 Nq763
              refine gy (St T763 m 12 #[vr a1, vi 0, vi 4, vi 3, vi c2] [(.int c3)]) (fun _ k => st763.trans k) ?_
              refine gy (St T763 m 18 #[vr a1, vi 0, vi 4, vi 3, vi c3] [(.int 48), (.int c3)]) (fun _ k => XS.istore X763.here hx rfl (dk d13_12) rfl (l' := #[vr a1, vi 0, vi 4, vi 3, vi c3]) rfl (XS.iload X763.here hx rfl (dk d13_14) rfl (XS.bipush X763.here hx rfl (dk d13_16) k))) ?_
              by_cases c764 : c3 < (48 : Int32)
              · skip
                refine gy (St T763 m 29 #[vr a1, vi 0, vi 4, vi 3, vi c3] [(.int 0)]) (fun _ k => XS.icmpYes X763.here hx rfl (pc0 := 18) (pc' := 28) rfl (dk d13_18) rfl (tlt c764).1 (by decide) (by decide) (XS.iconst X763.here hx rfl (dk d13_28) k)) ?_
                refine Go.ret X763 hx hlk (t := .boolean) hret rfl (Or.inl ⟨rfl, by simp, _, rfl⟩) (dk d13_29) (by decide) (by decide) ?_
                rw [hh763]
                exact ⟨(0 : Int32), rfl, N763, rfl, (Or.inr ⟨rfl, fun q => q.2.2.2.1 c764⟩)⟩
              · skip
                refine gy (St T763 m 25 #[vr a1, vi 0, vi 4, vi 3, vi c3] [(.int 57), (.int c3)]) (fun _ k => XS.icmpNo X763.here hx rfl (dk d13_18) rfl (flt c764).1 (XS.iload X763.here hx rfl (dk d13_21) rfl (XS.bipush X763.here hx rfl (dk d13_23) k))) ?_
                by_cases c765 : (57 : Int32) < c3
                · skip
                  refine gy (St T763 m 29 #[vr a1, vi 0, vi 4, vi 3, vi c3] [(.int 0)]) (fun _ k => XS.icmpNo X763.here hx rfl (dk d13_25) rfl (tlt c765).2.2.2 (XS.iconst X763.here hx rfl (dk d13_28) k)) ?_
                  refine Go.ret X763 hx hlk (t := .boolean) hret rfl (Or.inl ⟨rfl, by simp, _, rfl⟩) (dk d13_29) (by decide) (by decide) ?_
                  rw [hh763]
                  exact ⟨(0 : Int32), rfl, N763, rfl, (Or.inr ⟨rfl, fun q => q.2.2.2.2 c765⟩)⟩
                · skip
                  refine gy (St T763 m 37 #[vr a1, vi 0, vi 4, vi 4, vi c3] [(.int 1)]) (fun _ k => XS.icmpYes X763.here hx rfl (pc0 := 25) (pc' := 30) rfl (dk d13_25) rfl (flt c765).2.2.2 (by decide) (by decide) (XS.iinc X763.here hx rfl (dk d13_30) rfl (l' := #[vr a1, vi 0, vi 4, vi 4, vi c3]) rfl (XS.goto X763.here hx rfl (pc0 := 33) (pc' := 2) rfl (dk d13_33) (by decide) (by decide) (XS.iloadN X763.here hx rfl (dk d13_2) rfl (XS.iloadN X763.here hx rfl (dk d13_3) rfl (XS.icmpYes X763.here hx rfl (pc0 := 4) (pc' := 36) rfl (dk d13_4) rfl (flt (by decide : ¬ ((4 : Int32) < (4 : Int32)))).2.1 (by decide) (by decide) (XS.iconst X763.here hx rfl (dk d13_36) k))))))) ?_
                  refine Go.ret X763 hx hlk (t := .boolean) hret rfl (Or.inl ⟨rfl, by simp, _, rfl⟩) (dk d13_37) (by decide) (by decide) ?_
                  rw [hh763]
                  exact ⟨(1 : Int32), rfl, N763, rfl, (Or.inl ⟨rfl, ⟨c755, c756⟩, ⟨c758, c759⟩, ⟨c761, c762⟩, ⟨c764, c765⟩⟩)⟩
theorem ef_rm_isY_4_1 (m : MethodId) (x0 : Addr) : entryFrame m #[(.ref x0)] 1 = mkF m 0 #[vr x0] [] := by first | (simp [entryFrame, mkF, argsToLocals, Value.category]; done) | rfl
def Q_rm_isY_4_1 (Z : State) (a1 : Addr) (t1 : Addr) (k1 : ClassId) (cs : Int32) (fm : Value) (c0 : Int32) (c1 : Int32) (c2 : Int32) (c3 : Int32) (h0 : Heap) (n0 : Nat) (vv : Option Value) (h : Heap) (L : List Loc) : Prop := ∃ v : Int32, vv = some (.int v) ∧ Fr n0 L ∧ h = h0 ∧ ((v = 1 ∧ (own_dig c0 ∧ own_dig c1 ∧ own_dig c2 ∧ own_dig c3)) ∨ (v = 0 ∧ ¬ (own_dig c0 ∧ own_dig c1 ∧ own_dig c2 ∧ own_dig c3)))
set_option maxRecDepth 65536 in
set_option maxHeartbeats 40000000 in
theorem rm_isY_4_1 (l : Launch) (Z : State) (a0 : Array Value) (hw : HW a0 Z) (ws : List Jvm.Cond) (a1 : Addr) (t1 : Addr) (k1 : ClassId) (cs : Int32) (fm : Value) (c0 : Int32) (c1 : Int32) (c2 : Int32) (c3 : Int32) (h0 : Heap) (n0 : Nat) (Z0 : n0 ≤ h0.size) (pr0 : Old Z n0 h0) (pr1 : Sta Z Z.heap "java/lang/String" "COMPACT_STRINGS" "Z" (.int cs)) (hcs : ¬ (cs = (0 : Int32))) (pr3 : Sta Z Z.heap "jdk/internal/util/Preconditions" "SIOOBE_FORMATTER" "Ljava/util/function/BiFunction;" fm) (hr_fm : fm.isRef = true) (pr5 : Sta Z Z.heap "java/lang/StringUTF16" "$assertionsDisabled" "Z" (.int 1)) (pr6 : Sta Z Z.heap "java/lang/StringUTF16" "HI_BYTE_SHIFT" "I" (.int 0)) (pr7 : Sta Z Z.heap "java/lang/StringUTF16" "LO_BYTE_SHIFT" "I" (.int 8)) (pr8 : Exa Z h0 a1 "java/lang/String") (pr9 : Fld Z h0 a1 "java/lang/String" "value" "[B" (.ref t1)) (pr10 : Fld Z h0 a1 "java/lang/String" "coder" "B" (.int 1)) (pr11 : Arv Z h0 t1 k1 .byte (8 : Int32) [(.int (own_b0 c0)), (.int (own_b1 c0)), (.int (own_b0 c1)), (.int (own_b1 c1)), (.int (own_b0 c2)), (.int (own_b1 c2)), (.int (own_b0 c3)), (.int (own_b1 c3))] (.int 0)) (hr0 : own_rng c0) (hr1 : own_rng c1) (hr2 : own_rng c2) (hr3 : own_rng c3) :
    Met l Z Y1 prog_16_method_2_code 1 (some .boolean) ws ({ frames := 6, cells := 0, slots := 0, locals := 82 } : Room) #[(.ref a1)] h0 (Q_rm_isY_4_1 Z a1 t1 k1 cs fm c0 c1 c2 c3 h0 n0) := by
  refine Met.enter (f0 := fun m => mkF m 0 #[vr a1] []) (plainFor_of_name pn_com_example_vestwright_vestwright_Formats) (fun m => ef_rm_isY_4_1 m a1) ?_
  intro p e s m below meth c s₁ hx hby hml hown hnm hret hlk hZ X0 e0
  have hown : s.vm.findClass "com/example/vestwright/vestwright/Formats" = some m.cls := hown
  have hnm : meth.name = "isYear" := hnm
  have hml : c.maxLocals = 1 := hml
  have dk : ∀ {i : Nat} {r : Except DecodeError (Instr × Nat)}, decode prog_16_method_2_code i = r → decode c.code i = r := fun h => hb hby h
  have N0 := Fr.nil n0
  refine gy (St s₁ m 1 #[vr a1] [(.ref a1)]) (fun _ k => XS.aloadN X0.here hx rfl (dk d6_0) rfl rfl k) ?_
  obtain ⟨cq766, kq766, q766a, q766b, q766c⟩ := isOf hZ e0 pr8
  obtain ⟨_, _, ⟨T766, L766, k766, n766⟩, -, X766, ⟨Lc766, hQ766, l766, y766, z766⟩, st766⟩ := X0.virtualBack hx (y := Y11) (z := Y11) hown (mvT hZ (wd hw 35 rfl)) (mvT hZ (wd hw 36 rfl)) (notFace_of_selects (args := #[]) (mvT hZ (wd hw 38 rfl))) (mvT hZ (wd hw 38 rfl)) (mvT hZ (wd hw 37 rfl)) (by decide) (backOf (W := 0) (rm_len_4_1 l Z a0 hw [] a1 t1 k1 cs [(.int (own_b0 c0)), (.int (own_b1 c0)), (.int (own_b0 c1)), (.int (own_b1 c1)), (.int (own_b0 c2)), (.int (own_b1 c2)), (.int (own_b0 c3)), (.int (own_b1 c3))] h0 n0 Z0 pr0 pr1 hcs pr8 pr9 pr10 pr11) hZ (wd hw 39 rfl) (wd hw 11 rfl) (by decide) (by decide)) q766a q766c (g := (mkF m 1 #[vr a1] [(.ref a1)])) rfl (by rw [hml]; rfl) (Steps.refl _) (argsL := []) (rest := []) (lenOf pd_10 rfl) rfl (by show 2 * 0 + _ ≤ _; exact Nat.le_of_eq rfl) (dk d6_1) (fun _ _ => ⟨rfl, e0, Nat.le_of_ble_eq_true rfl, Nat.le_of_ble_eq_true rfl⟩)
  dsimp only [Pt.U, Pt.locs, Pt.cells, Pt.slots] at X766 l766 y766 z766 st766 hQ766
  subst l766 y766 z766
  obtain ⟨rfl, Nq766, hh766⟩ := hQ766
  have N766 := Fr.app N0 Nq766
  refine gy (St T766 m 4 #[vr a1] [(.int 4)]) (fun _ k => st766.trans k) ?_
  refine gy (St T766 m 11 #[vr a1] [(.int 4), (.int 0), (.ref a1)]) (fun _ k => XS.iconst X766.here hx rfl (dk d6_4) (XS.icmpNo X766.here hx rfl (dk d6_5) rfl (teq (by decide : (4 : Int32) = (4 : Int32))).2 (XS.aloadN X766.here hx rfl (dk d6_8) rfl rfl (XS.iconst X766.here hx rfl (dk d6_9) (XS.iconst X766.here hx rfl (dk d6_10) k))))) ?_
  obtain ⟨_, _, ⟨T767, L767, k767, n767⟩, -, X767, ⟨Lc767, hQ767, l767, y767, z767⟩, st767⟩ := Jvm.LawKit.callS X766 hx (y := Y0) hown (mvT hZ (wd hw 59 rfl)) (mvT hZ (wd hw 60 rfl)) (mvT hZ (wd hw 33 rfl)) (mvT hZ (wd hw 61 rfl)) (by decide) (backOf (W := 0) (rm_digits1 l Z a0 hw [] a1 t1 k1 cs fm c0 c1 c2 c3 h0 n0 Z0 pr0 pr1 hcs pr3 hr_fm pr5 pr6 pr7 pr8 pr9 pr10 pr11 hr0 hr1 hr2 hr3) hZ (wd hw 61 rfl) (wd hw 33 rfl) (by decide) (by decide)) (g := (mkF m 11 #[vr a1] [(.int 4), (.int 0), (.ref a1)])) rfl (by rw [hml]; rfl) (argsL := [(.ref a1), (.int 0), (.int 4)]) (rest := []) (lenOf pd_17 rfl) rfl (by show 2 * 0 + _ ≤ _; exact Nat.le_of_eq rfl) (dk d6_11) (fun _ _ => ⟨rfl, hh766, Nat.le_of_ble_eq_true rfl, Nat.le_of_ble_eq_true rfl⟩)
  dsimp only [Pt.U, Pt.locs, Pt.cells, Pt.slots] at X767 l767 y767 z767 st767 hQ767
  subst l767 y767 z767
  obtain ⟨v767, rfl, Nq767, hh767, p767_0⟩ := hQ767
  have N767 := Fr.app N766 Nq767
  refine gy (St T767 m 14 #[vr a1] [(.int v767)]) (fun _ k => st767 _ k) ?_
  rcases p767_0 with ⟨rfl, e768⟩ | ⟨rfl, e768⟩
  · skip
    refine gy (St T767 m 22 #[vr a1] [(.int 1)]) (fun _ k => XS.ifNo X767.here hx rfl (dk d6_14) rfl ((if0 _ _).trans (feq (by decide : ¬ ((1 : Int32) = (0 : Int32)))).1) (XS.iconst X767.here hx rfl (dk d6_17) (XS.goto X767.here hx rfl (pc0 := 18) (pc' := 22) rfl (dk d6_18) (by decide) (by decide) k))) ?_
    refine Go.ret X767 hx hlk (t := .boolean) hret rfl (Or.inl ⟨rfl, by simp, _, rfl⟩) (dk d6_22) (by decide) (by decide) ?_
    rw [hh767]
    exact ⟨(1 : Int32), rfl, N767, rfl, (Or.inl ⟨rfl, e768⟩)⟩
  · skip
    refine gy (St T767 m 22 #[vr a1] [(.int 0)]) (fun _ k => XS.ifYes X767.here hx rfl (pc0 := 14) (pc' := 21) rfl (dk d6_14) rfl ((if0 _ _).trans (teq (by decide : (0 : Int32) = (0 : Int32))).1) (by decide) (by decide) (XS.iconst X767.here hx rfl (dk d6_21) k)) ?_
    refine Go.ret X767 hx hlk (t := .boolean) hret rfl (Or.inl ⟨rfl, by simp, _, rfl⟩) (dk d6_22) (by decide) (by decide) ?_
    rw [hh767]
    exact ⟨(0 : Int32), rfl, N767, rfl, (Or.inr ⟨rfl, e768⟩)⟩
theorem ef_rm0 (m : MethodId) (x0 : Int32) (x1 : Int32) (x2 : Int32) (x3 : Int32) (x4 : Int32) (x5 : Int32) : entryFrame m #[(.int x0), (.int x1), (.int x2), (.int x3), (.int x4), (.int x5)] maxLocals = mkF m 0 #[vi x0, vi x1, vi x2, vi x3, vi x4, vi x5, .unset, .unset, .unset, .unset, .unset, .unset, .unset, .unset] [] := by first | (simp [entryFrame, mkF, argsToLocals, Value.category, maxLocals]; done) | rfl
theorem pd_18 : parseMethodDescriptor "(ICCCCC)Ljava/lang/String;" = some ⟨[.int, .char, .char, .char, .char, .char], some (.object "java/lang/String")⟩ := by decide +kernel
theorem pd_19 : parseMethodDescriptor "(Ljava/lang/String;)Z" = some ⟨[(.object "java/lang/String")], some .boolean⟩ := by decide +kernel
theorem pd_20 : parseMethodDescriptor "(C)Z" = some ⟨[.char], some .boolean⟩ := by decide +kernel
def Q_rm0 (Z : State) (p1 : Int32) (p2 : Int32) (p3 : Int32) (p4 : Int32) (p5 : Int32) (p6 : Int32) (cs : Int32) (fm : Value) (h0 : Heap) (n0 : Nat) (vv : Option Value) (h : Heap) (L : List Loc) : Prop := vv = some (.int 1) ∧ Fr n0 L
set_option maxRecDepth 65536 in
set_option maxHeartbeats 40000000 in
theorem rm0 (l : Launch) (Z : State) (a0 : Array Value) (hw : HW a0 Z) (ws : List Jvm.Cond) (p1 : Int32) (p2 : Int32) (p3 : Int32) (p4 : Int32) (p5 : Int32) (p6 : Int32) (cs : Int32) (fm : Value) (h0 : Heap) (n0 : Nat) (Z0 : n0 ≤ h0.size) (pr0 : Old Z n0 h0) (pr1 : Sta Z Z.heap "java/lang/String" "COMPACT_STRINGS" "Z" (.int cs)) (hcs : ¬ (cs = (0 : Int32))) (pr3 : Sta Z Z.heap "java/lang/StringUTF16" "$assertionsDisabled" "Z" (.int 1)) (pr4 : Sta Z Z.heap "java/lang/StringUTF16" "HI_BYTE_SHIFT" "I" (.int 0)) (pr5 : Sta Z Z.heap "java/lang/StringUTF16" "LO_BYTE_SHIFT" "I" (.int 8)) (pr6 : Sta Z Z.heap "jdk/internal/util/Preconditions" "SIOOBE_FORMATTER" "Ljava/util/function/BiFunction;" fm) (hr_fm : fm.isRef = true) :
    MetS l Z own_EL x code maxLocals ret ws room_1 #[(.int p1), (.int p2), (.int p3), (.int p4), (.int p5), (.int p6)] h0 (Q_rm0 Z p1 p2 p3 p4 p5 p6 cs fm h0 n0) := by
  refine MetS.enter (f0 := fun m => mkF m 0 #[vi p1, vi p2, vi p3, vi p4, vi p5, vi p6, .unset, .unset, .unset, .unset, .unset, .unset, .unset, .unset] []) (plainFor_of_name pn_com_example_vestwright_vestwright_FormatsIsYearPinLaw) (fun m => ef_rm0 m p1 p2 p3 p4 p5 p6) ?_
  intro p e s m below meth c s₁ hx hby hml hown hnm hret hlk hZ X0 e0 hS C0
  have hown : s.vm.findClass "com/example/vestwright/vestwright/FormatsIsYearPinLaw" = some m.cls := hown
  have hnm : meth.name = "law" := hnm
  have hml : c.maxLocals = 14 := hml
  have dk : ∀ {i : Nat} {r : Except DecodeError (Instr × Nat)}, decode code i = r → decode c.code i = r := fun h => hb hby h
  have N0 := Fr.nil n0
  have hk : h0.size ≤ h0.size := Nat.le_refl _
  have hEL : EW Z a0 own_EL := own_hEL hw
  have wS : ∀ a ∈ Bundle.stringAtoms, a.before a0 Z = true := own_wS hw
  refine gy (St s₁ m 7 #[vi p1, vi p2, vi p3, vi p4, vi p5, vi p6, .unset, .unset, .unset, .unset, .unset, .unset, .unset, .unset] [(.int ((p1 &&& (2147483647 : Int32)) % (6 : Int32)))]) (fun _ k => XS.iloadN X0.here hx rfl (dk at_0) rfl (X0.ldcInt hx hown (mvT hZ (wd hw 0 rfl)) (g := (mkF m 1 #[vi p1, vi p2, vi p3, vi p4, vi p5, vi p6, .unset, .unset, .unset, .unset, .unset, .unset, .unset, .unset] [(.int p1)])) rfl (dk at_1) _ (XS.iand X0.here hx rfl (dk at_3) rfl (XS.bipush X0.here hx rfl (dk at_4) (iremM X0 hx (g := (mkF m 6 #[vi p1, vi p2, vi p3, vi p4, vi p5, vi p6, .unset, .unset, .unset, .unset, .unset, .unset, .unset, .unset] [(.int 6), (.int (p1 &&& (2147483647 : Int32)))])) rfl (dk at_6) rfl (by decide) k))))) ?_
  obtain ⟨v769, hv769⟩ : ∃ v, v = ((p1 &&& (2147483647 : Int32)) % (6 : Int32)) := ⟨_, rfl⟩
  refine gy (St s₁ m 10 #[vi p1, vi p2, vi p3, vi p4, vi p5, vi p6, vi v769, .unset, .unset, .unset, .unset, .unset, .unset, .unset] [(.int p2)]) (fun _ k => XS.istore (x := v769) (rest := []) X0.here hx rfl (dk at_7) (by rw [hv769]) (l' := #[vi p1, vi p2, vi p3, vi p4, vi p5, vi p6, vi v769, .unset, .unset, .unset, .unset, .unset, .unset, .unset]) rfl (XS.iloadN X0.here hx rfl (dk at_9) rfl k)) ?_
  obtain ⟨_, _, ⟨T770, L770, k770, n770⟩, -, X770, ⟨Lc770, hQ770, l770, y770, z770⟩, st770⟩ := Jvm.LawKit.callS X0 hx (y := Y3) hown (mvT hZ (wd hw 1 rfl)) (mvT hZ (wd hw 2 rfl)) (mvT hZ (wd hw 3 rfl)) (mvT hZ (wd hw 4 rfl)) (by decide) (backOf (W := 0) (rm_draw l Z a0 hw [] p2 h0 n0 Z0 ) hZ (wd hw 4 rfl) (wd hw 3 rfl) (by decide) (by decide)) (g := (mkF m 10 #[vi p1, vi p2, vi p3, vi p4, vi p5, vi p6, vi v769, .unset, .unset, .unset, .unset, .unset, .unset, .unset] [(.int p2)])) rfl (by rw [hml]; rfl) (argsL := [(.int p2)]) (rest := []) (lenOf pd_16 rfl) rfl (by show 2 * 0 + _ ≤ _; exact Nat.le_of_eq rfl) (dk at_10) (fun _ _ => ⟨rfl, e0, Nat.le_of_ble_eq_true rfl, Nat.le_of_ble_eq_true rfl⟩)
  dsimp only [Pt.U, Pt.locs, Pt.cells, Pt.slots] at X770 l770 y770 z770 st770 hQ770
  subst l770 y770 z770
  obtain ⟨v770, rfl, Nq770, hh770, p770_0⟩ := hQ770
  have N770 := Fr.app N0 Nq770
  refine gy (St T770 m 13 #[vi p1, vi p2, vi p3, vi p4, vi p5, vi p6, vi v769, .unset, .unset, .unset, .unset, .unset, .unset, .unset] [(.int v770)]) (fun _ k => st770 _ k) ?_
  refine gy (St T770 m 16 #[vi p1, vi p2, vi p3, vi p4, vi p5, vi p6, vi v769, vi v770, .unset, .unset, .unset, .unset, .unset, .unset] [(.int p3)]) (fun _ k => XS.istore X770.here hx rfl (dk at_13) rfl (l' := #[vi p1, vi p2, vi p3, vi p4, vi p5, vi p6, vi v769, vi v770, .unset, .unset, .unset, .unset, .unset, .unset]) rfl (XS.iloadN X770.here hx rfl (dk at_15) rfl k)) ?_
  obtain ⟨_, _, ⟨T771, L771, k771, n771⟩, -, X771, ⟨Lc771, hQ771, l771, y771, z771⟩, st771⟩ := Jvm.LawKit.callS X770 hx (y := Y3) hown (mvT hZ (wd hw 1 rfl)) (mvT hZ (wd hw 2 rfl)) (mvT hZ (wd hw 3 rfl)) (mvT hZ (wd hw 4 rfl)) (by decide) (backOf (W := 0) (rm_draw l Z a0 hw [] p3 h0 n0 Z0 ) hZ (wd hw 4 rfl) (wd hw 3 rfl) (by decide) (by decide)) (g := (mkF m 16 #[vi p1, vi p2, vi p3, vi p4, vi p5, vi p6, vi v769, vi v770, .unset, .unset, .unset, .unset, .unset, .unset] [(.int p3)])) rfl (by rw [hml]; rfl) (argsL := [(.int p3)]) (rest := []) (lenOf pd_16 rfl) rfl (by show 2 * 0 + _ ≤ _; exact Nat.le_of_eq rfl) (dk at_16) (fun _ _ => ⟨rfl, hh770, Nat.le_of_ble_eq_true rfl, Nat.le_of_ble_eq_true rfl⟩)
  dsimp only [Pt.U, Pt.locs, Pt.cells, Pt.slots] at X771 l771 y771 z771 st771 hQ771
  subst l771 y771 z771
  obtain ⟨v771, rfl, Nq771, hh771, p771_0⟩ := hQ771
  have N771 := Fr.app N770 Nq771
  refine gy (St T771 m 19 #[vi p1, vi p2, vi p3, vi p4, vi p5, vi p6, vi v769, vi v770, .unset, .unset, .unset, .unset, .unset, .unset] [(.int v771)]) (fun _ k => st771 _ k) ?_
  refine gy (St T771 m 22 #[vi p1, vi p2, vi p3, vi p4, vi p5, vi p6, vi v769, vi v770, vi v771, .unset, .unset, .unset, .unset, .unset] [(.int p4)]) (fun _ k => XS.istore X771.here hx rfl (dk at_19) rfl (l' := #[vi p1, vi p2, vi p3, vi p4, vi p5, vi p6, vi v769, vi v770, vi v771, .unset, .unset, .unset, .unset, .unset]) rfl (XS.iloadN X771.here hx rfl (dk at_21) rfl k)) ?_
  obtain ⟨_, _, ⟨T772, L772, k772, n772⟩, -, X772, ⟨Lc772, hQ772, l772, y772, z772⟩, st772⟩ := Jvm.LawKit.callS X771 hx (y := Y3) hown (mvT hZ (wd hw 1 rfl)) (mvT hZ (wd hw 2 rfl)) (mvT hZ (wd hw 3 rfl)) (mvT hZ (wd hw 4 rfl)) (by decide) (backOf (W := 0) (rm_draw l Z a0 hw [] p4 h0 n0 Z0 ) hZ (wd hw 4 rfl) (wd hw 3 rfl) (by decide) (by decide)) (g := (mkF m 22 #[vi p1, vi p2, vi p3, vi p4, vi p5, vi p6, vi v769, vi v770, vi v771, .unset, .unset, .unset, .unset, .unset] [(.int p4)])) rfl (by rw [hml]; rfl) (argsL := [(.int p4)]) (rest := []) (lenOf pd_16 rfl) rfl (by show 2 * 0 + _ ≤ _; exact Nat.le_of_eq rfl) (dk at_22) (fun _ _ => ⟨rfl, hh771, Nat.le_of_ble_eq_true rfl, Nat.le_of_ble_eq_true rfl⟩)
  dsimp only [Pt.U, Pt.locs, Pt.cells, Pt.slots] at X772 l772 y772 z772 st772 hQ772
  subst l772 y772 z772
  obtain ⟨v772, rfl, Nq772, hh772, p772_0⟩ := hQ772
  have N772 := Fr.app N771 Nq772
  refine gy (St T772 m 25 #[vi p1, vi p2, vi p3, vi p4, vi p5, vi p6, vi v769, vi v770, vi v771, .unset, .unset, .unset, .unset, .unset] [(.int v772)]) (fun _ k => st772 _ k) ?_
  refine gy (St T772 m 29 #[vi p1, vi p2, vi p3, vi p4, vi p5, vi p6, vi v769, vi v770, vi v771, vi v772, .unset, .unset, .unset, .unset] [(.int p5)]) (fun _ k => XS.istore X772.here hx rfl (dk at_25) rfl (l' := #[vi p1, vi p2, vi p3, vi p4, vi p5, vi p6, vi v769, vi v770, vi v771, vi v772, .unset, .unset, .unset, .unset]) rfl (XS.iload X772.here hx rfl (dk at_27) rfl k)) ?_
  obtain ⟨_, _, ⟨T773, L773, k773, n773⟩, -, X773, ⟨Lc773, hQ773, l773, y773, z773⟩, st773⟩ := Jvm.LawKit.callS X772 hx (y := Y3) hown (mvT hZ (wd hw 1 rfl)) (mvT hZ (wd hw 2 rfl)) (mvT hZ (wd hw 3 rfl)) (mvT hZ (wd hw 4 rfl)) (by decide) (backOf (W := 0) (rm_draw l Z a0 hw [] p5 h0 n0 Z0 ) hZ (wd hw 4 rfl) (wd hw 3 rfl) (by decide) (by decide)) (g := (mkF m 29 #[vi p1, vi p2, vi p3, vi p4, vi p5, vi p6, vi v769, vi v770, vi v771, vi v772, .unset, .unset, .unset, .unset] [(.int p5)])) rfl (by rw [hml]; rfl) (argsL := [(.int p5)]) (rest := []) (lenOf pd_16 rfl) rfl (by show 2 * 0 + _ ≤ _; exact Nat.le_of_eq rfl) (dk at_29) (fun _ _ => ⟨rfl, hh772, Nat.le_of_ble_eq_true rfl, Nat.le_of_ble_eq_true rfl⟩)
  dsimp only [Pt.U, Pt.locs, Pt.cells, Pt.slots] at X773 l773 y773 z773 st773 hQ773
  subst l773 y773 z773
  obtain ⟨v773, rfl, Nq773, hh773, p773_0⟩ := hQ773
  have N773 := Fr.app N772 Nq773
  refine gy (St T773 m 32 #[vi p1, vi p2, vi p3, vi p4, vi p5, vi p6, vi v769, vi v770, vi v771, vi v772, .unset, .unset, .unset, .unset] [(.int v773)]) (fun _ k => st773 _ k) ?_
  refine gy (St T773 m 36 #[vi p1, vi p2, vi p3, vi p4, vi p5, vi p6, vi v769, vi v770, vi v771, vi v772, vi v773, .unset, .unset, .unset] [(.int p6)]) (fun _ k => XS.istore X773.here hx rfl (dk at_32) rfl (l' := #[vi p1, vi p2, vi p3, vi p4, vi p5, vi p6, vi v769, vi v770, vi v771, vi v772, vi v773, .unset, .unset, .unset]) rfl (XS.iload X773.here hx rfl (dk at_34) rfl k)) ?_
  obtain ⟨_, _, ⟨T774, L774, k774, n774⟩, -, X774, ⟨Lc774, hQ774, l774, y774, z774⟩, st774⟩ := Jvm.LawKit.callS X773 hx (y := Y3) hown (mvT hZ (wd hw 1 rfl)) (mvT hZ (wd hw 2 rfl)) (mvT hZ (wd hw 3 rfl)) (mvT hZ (wd hw 4 rfl)) (by decide) (backOf (W := 0) (rm_draw l Z a0 hw [] p6 h0 n0 Z0 ) hZ (wd hw 4 rfl) (wd hw 3 rfl) (by decide) (by decide)) (g := (mkF m 36 #[vi p1, vi p2, vi p3, vi p4, vi p5, vi p6, vi v769, vi v770, vi v771, vi v772, vi v773, .unset, .unset, .unset] [(.int p6)])) rfl (by rw [hml]; rfl) (argsL := [(.int p6)]) (rest := []) (lenOf pd_16 rfl) rfl (by show 2 * 0 + _ ≤ _; exact Nat.le_of_eq rfl) (dk at_36) (fun _ _ => ⟨rfl, hh773, Nat.le_of_ble_eq_true rfl, Nat.le_of_ble_eq_true rfl⟩)
  dsimp only [Pt.U, Pt.locs, Pt.cells, Pt.slots] at X774 l774 y774 z774 st774 hQ774
  subst l774 y774 z774
  obtain ⟨v774, rfl, Nq774, hh774, p774_0⟩ := hQ774
  have N774 := Fr.app N773 Nq774
  refine gy (St T774 m 39 #[vi p1, vi p2, vi p3, vi p4, vi p5, vi p6, vi v769, vi v770, vi v771, vi v772, vi v773, .unset, .unset, .unset] [(.int v774)]) (fun _ k => st774 _ k) ?_
  refine gy (St T774 m 41 #[vi p1, vi p2, vi p3, vi p4, vi p5, vi p6, vi v769, vi v770, vi v771, vi v772, vi v773, vi v774, .unset, .unset] []) (fun _ k => XS.istore X774.here hx rfl (dk at_39) rfl (l' := #[vi p1, vi p2, vi p3, vi p4, vi p5, vi p6, vi v769, vi v770, vi v771, vi v772, vi v773, vi v774, .unset, .unset]) rfl k) ?_
  rcases own_mod6 hv769 with rfl | rfl | rfl | rfl | rfl | rfl
  · skip
    refine gy (St T774 m 53 #[vi p1, vi p2, vi p3, vi p4, vi p5, vi p6, vi 0, vi v770, vi v771, vi v772, vi v773, vi v774, .unset, .unset] [(.int v774), (.int v773), (.int v772), (.int v771), (.int v770), (.int 0)]) (fun _ k => XS.iload X774.here hx rfl (dk at_41) rfl (XS.iload X774.here hx rfl (dk at_43) rfl (XS.iload X774.here hx rfl (dk at_45) rfl (XS.iload X774.here hx rfl (dk at_47) rfl (XS.iload X774.here hx rfl (dk at_49) rfl (XS.iload X774.here hx rfl (dk at_51) rfl k)))))) ?_
    have hkT775 : _ ≤ T774.heap.size := (by rw [hh774]; exact hk)
    obtain ⟨_, _, ⟨T775, L775, k775, n775⟩, -, X775, hSn775, hgr775, ⟨Lc775, hQ775, l775, y775, z775, CS775⟩, st775⟩ := callSS X774 hx (y := Y4) hown (mvT hZ (wd hw 6 rfl)) (mvT hZ (wd hw 7 rfl)) (mvT hZ (wd hw 3 rfl)) (mvT hZ (wd hw 8 rfl)) (by decide) (backOfSH (W := 0) (rm_str_0 l Z a0 hw [] v770 v771 v772 v773 v774 h0 n0 Z0 pr0) hZ (wd hw 8 rfl) (wd hw 3 rfl) (by decide) (by decide) hEL C0.1) (g := (mkF m 53 #[vi p1, vi p2, vi p3, vi p4, vi p5, vi p6, vi 0, vi v770, vi v771, vi v772, vi v773, vi v774, .unset, .unset] [(.int v774), (.int v773), (.int v772), (.int v771), (.int v770), (.int 0)])) rfl (by rw [hml]; rfl) (argsL := [(.int 0), (.int v770), (.int v771), (.int v772), (.int v773), (.int v774)]) (rest := []) (lenOf pd_18 rfl) rfl (by show 2 * 0 + _ ≤ _; exact Nat.le_of_eq rfl) (dk at_53) (fun _ _ => ⟨rfl, hh774, Nat.le_of_ble_eq_true rfl, Nat.le_of_ble_eq_true rfl⟩)
    dsimp only [Pt.U, Pt.locs, Pt.cells, Pt.slots] at X775 l775 y775 z775 st775 hQ775 hSn775 hgr775 CS775
    subst l775 y775 z775
    obtain ⟨X775, hS, hZ, hown⟩ := rebS hS hkT775 X775 hSn775 hgr775 hZ hown
    have hk : T775.heap.size ≤ T775.heap.size := Nat.le_refl _
    obtain ⟨b775, t775, k775, rfl, Nq775, K775, p775_0, p775_1, p775_2, p775_3, p775_4⟩ := hQ775
    have N775 := Fr.app N774 Nq775
    have C776 := C0.trans CS775
    have O776 := pr0.keep K775 all0
    have Z776 : n0 ≤ T775.heap.size := Nat.le_trans Z0 K775.1
    have sz_b775 : h0.size ≤ b775 := p775_4
    refine gy (St T775 m 56 #[vi p1, vi p2, vi p3, vi p4, vi p5, vi p6, vi 0, vi v770, vi v771, vi v772, vi v773, vi v774, .unset, .unset] [(.ref b775)]) (fun _ k => st775.trans k) ?_
    refine gy (St T775 m 105 #[vi p1, vi p2, vi p3, vi p4, vi p5, vi p6, vi 0, vi v770, vi v771, vi v772, vi v773, vi v774, vr b775, vi 0] [(.ref b775)]) (fun _ k => XS.astore X775.here hx rfl (dk at_56) rfl rfl (l' := #[vi p1, vi p2, vi p3, vi p4, vi p5, vi p6, vi 0, vi v770, vi v771, vi v772, vi v773, vi v774, vr b775, .unset]) rfl (XS.iload X775.here hx rfl (dk at_58) rfl (XS.iconst X775.here hx rfl (dk at_60) (XS.icmpYes X775.here hx rfl (pc0 := 61) (pc' := 100) rfl (dk at_61) rfl (feq (by decide : ¬ ((0 : Int32) = (4 : Int32)))).2 (by decide) (by decide) (XS.iconst X775.here hx rfl (dk at_100) (XS.istore X775.here hx rfl (dk at_101) rfl (l' := #[vi p1, vi p2, vi p3, vi p4, vi p5, vi p6, vi 0, vi v770, vi v771, vi v772, vi v773, vi v774, vr b775, vi 0]) rfl (XS.aload X775.here hx rfl (dk at_103) rfl rfl k))))))) ?_
    obtain ⟨_, _, ⟨T777, L777, k777, n777⟩, -, X777, ⟨Lc777, hQ777, l777, y777, z777⟩, st777⟩ := Jvm.LawKit.callS X775 hx (y := Y1) hown (mvT hZ (wd hw 31 rfl)) (mvT hZ (wd hw 32 rfl)) (mvT hZ (wd hw 33 rfl)) (mvT hZ (wd hw 34 rfl)) (by decide) (backOf (W := 0) (rm_isY_0_0 l Z a0 hw [] b775 t775 k775 cs [] T775.heap n0 Z776 O776 pr1 hcs p775_0 p775_1 p775_2 p775_3) hZ (wd hw 34 rfl) (wd hw 33 rfl) (by decide) (by decide)) (g := (mkF m 105 #[vi p1, vi p2, vi p3, vi p4, vi p5, vi p6, vi 0, vi v770, vi v771, vi v772, vi v773, vi v774, vr b775, vi 0] [(.ref b775)])) rfl (by rw [hml]; rfl) (argsL := [(.ref b775)]) (rest := []) (lenOf pd_19 rfl) rfl (by show 2 * 0 + _ ≤ _; exact Nat.le_of_eq rfl) (dk at_105) (fun _ _ => ⟨rfl, rfl, Nat.le_of_ble_eq_true rfl, Nat.le_of_ble_eq_true rfl⟩)
    dsimp only [Pt.U, Pt.locs, Pt.cells, Pt.slots] at X777 l777 y777 z777 st777 hQ777
    subst l777 y777 z777
    obtain ⟨rfl, Nq777, hh777⟩ := hQ777
    have N777 := Fr.app N775 Nq777
    refine gy (St T777 m 108 #[vi p1, vi p2, vi p3, vi p4, vi p5, vi p6, vi 0, vi v770, vi v771, vi v772, vi v773, vi v774, vr b775, vi 0] [(.int 0)]) (fun _ k => st777 _ k) ?_
    refine gy (St T777 m 118 #[vi p1, vi p2, vi p3, vi p4, vi p5, vi p6, vi 0, vi v770, vi v771, vi v772, vi v773, vi v774, vr b775, vi 0] [(.int 1)]) (fun _ k => XS.iload X777.here hx rfl (dk at_108) rfl (XS.icmpNo X777.here hx rfl (dk at_110) rfl (teq (by decide : (0 : Int32) = (0 : Int32))).2 (XS.iconst X777.here hx rfl (dk at_113) (XS.goto X777.here hx rfl (pc0 := 114) (pc' := 118) rfl (dk at_114) (by decide) (by decide) k)))) ?_
    have hkE778 : _ ≤ T777.heap.size := (by rw [hh777]; exact hk)
    have CE778 : CHr Z own_EL s.vm s.heap T775.vm T777.heap := (by rw [hh777]; exact C776)
    refine Go.retS X777 hx hlk hS hkE778 hZ hEL CE778 (t := .boolean) hret rfl (Or.inl ⟨rfl, by simp, _, rfl⟩) (dk at_118) (by decide) (by decide) ?_
    exact ⟨rfl, N777⟩
  · skip
    refine gy (St T774 m 53 #[vi p1, vi p2, vi p3, vi p4, vi p5, vi p6, vi 1, vi v770, vi v771, vi v772, vi v773, vi v774, .unset, .unset] [(.int v774), (.int v773), (.int v772), (.int v771), (.int v770), (.int 1)]) (fun _ k => XS.iload X774.here hx rfl (dk at_41) rfl (XS.iload X774.here hx rfl (dk at_43) rfl (XS.iload X774.here hx rfl (dk at_45) rfl (XS.iload X774.here hx rfl (dk at_47) rfl (XS.iload X774.here hx rfl (dk at_49) rfl (XS.iload X774.here hx rfl (dk at_51) rfl k)))))) ?_
    obtain ⟨_, _, ⟨T779, L779, k779, n779⟩, -, X779, ⟨Lc779, hQ779, l779, y779, z779⟩, st779⟩ := Jvm.LawKit.callS X774 hx (y := Y4) hown (mvT hZ (wd hw 6 rfl)) (mvT hZ (wd hw 7 rfl)) (mvT hZ (wd hw 3 rfl)) (mvT hZ (wd hw 8 rfl)) (by decide) (backOf (W := 0) (rm_str_1 l Z a0 hw [] v770 v771 v772 v773 v774 cs h0 n0 Z0 pr0 pr1 hcs pr3 pr4 pr5 p770_0 p771_0 p772_0 p773_0 p774_0) hZ (wd hw 8 rfl) (wd hw 3 rfl) (by decide) (by decide)) (g := (mkF m 53 #[vi p1, vi p2, vi p3, vi p4, vi p5, vi p6, vi 1, vi v770, vi v771, vi v772, vi v773, vi v774, .unset, .unset] [(.int v774), (.int v773), (.int v772), (.int v771), (.int v770), (.int 1)])) rfl (by rw [hml]; rfl) (argsL := [(.int 1), (.int v770), (.int v771), (.int v772), (.int v773), (.int v774)]) (rest := []) (lenOf pd_18 rfl) rfl (by show 2 * 0 + _ ≤ _; exact Nat.le_of_eq rfl) (dk at_53) (fun _ _ => ⟨rfl, hh774, Nat.le_of_ble_eq_true rfl, Nat.le_of_ble_eq_true rfl⟩)
    dsimp only [Pt.U, Pt.locs, Pt.cells, Pt.slots] at X779 l779 y779 z779 st779 hQ779
    subst l779 y779 z779
    obtain ⟨b779, t779, k779, u779, rfl, Nq779, K779, p779_0, p779_1, p779_2, p779_3, p779_4, p779_5, p779_6, p779_7, p779_8⟩ := hQ779
    have N779 := Fr.app N774 Nq779
    have C780 := C0.trans (CHr.keep K779 sf0 C0.1)
    have O780 := pr0.keep K779 all0
    have Z780 : n0 ≤ T779.heap.size := Nat.le_trans Z0 K779.1
    have sz_t779 : h0.size ≤ t779 := p779_2
    have sz_b779 : h0.size ≤ b779 := p779_3
    refine gy (St T779 m 56 #[vi p1, vi p2, vi p3, vi p4, vi p5, vi p6, vi 1, vi v770, vi v771, vi v772, vi v773, vi v774, .unset, .unset] [(.ref b779)]) (fun _ k => st779 _ k) ?_
    rcases u779 with _ | _
    · skip
      have V781 := p779_5 rfl
      have F781 := p779_7 rfl
      have U781 := p779_4 rfl
      refine gy (St T779 m 105 #[vi p1, vi p2, vi p3, vi p4, vi p5, vi p6, vi 1, vi v770, vi v771, vi v772, vi v773, vi v774, vr b779, vi 0] [(.ref b779)]) (fun _ k => XS.astore X779.here hx rfl (dk at_56) rfl rfl (l' := #[vi p1, vi p2, vi p3, vi p4, vi p5, vi p6, vi 1, vi v770, vi v771, vi v772, vi v773, vi v774, vr b779, .unset]) rfl (XS.iload X779.here hx rfl (dk at_58) rfl (XS.iconst X779.here hx rfl (dk at_60) (XS.icmpYes X779.here hx rfl (pc0 := 61) (pc' := 100) rfl (dk at_61) rfl (feq (by decide : ¬ ((1 : Int32) = (4 : Int32)))).2 (by decide) (by decide) (XS.iconst X779.here hx rfl (dk at_100) (XS.istore X779.here hx rfl (dk at_101) rfl (l' := #[vi p1, vi p2, vi p3, vi p4, vi p5, vi p6, vi 1, vi v770, vi v771, vi v772, vi v773, vi v774, vr b779, vi 0]) rfl (XS.aload X779.here hx rfl (dk at_103) rfl rfl k))))))) ?_
      obtain ⟨_, _, ⟨T782, L782, k782, n782⟩, -, X782, ⟨Lc782, hQ782, l782, y782, z782⟩, st782⟩ := Jvm.LawKit.callS X779 hx (y := Y1) hown (mvT hZ (wd hw 31 rfl)) (mvT hZ (wd hw 32 rfl)) (mvT hZ (wd hw 33 rfl)) (mvT hZ (wd hw 34 rfl)) (by decide) (backOf (W := 0) (rm_isY_1_0 l Z a0 hw [] b779 t779 k779 cs [(.int (nar .byte (v770.toInt8.toInt32)))] T779.heap n0 Z780 O780 pr1 hcs p779_0 p779_1 F781 V781) hZ (wd hw 34 rfl) (wd hw 33 rfl) (by decide) (by decide)) (g := (mkF m 105 #[vi p1, vi p2, vi p3, vi p4, vi p5, vi p6, vi 1, vi v770, vi v771, vi v772, vi v773, vi v774, vr b779, vi 0] [(.ref b779)])) rfl (by rw [hml]; rfl) (argsL := [(.ref b779)]) (rest := []) (lenOf pd_19 rfl) rfl (by show 2 * 0 + _ ≤ _; exact Nat.le_of_eq rfl) (dk at_105) (fun _ _ => ⟨rfl, rfl, Nat.le_of_ble_eq_true rfl, Nat.le_of_ble_eq_true rfl⟩)
      dsimp only [Pt.U, Pt.locs, Pt.cells, Pt.slots] at X782 l782 y782 z782 st782 hQ782
      subst l782 y782 z782
      obtain ⟨rfl, Nq782, hh782⟩ := hQ782
      have N782 := Fr.app N779 Nq782
      refine gy (St T782 m 108 #[vi p1, vi p2, vi p3, vi p4, vi p5, vi p6, vi 1, vi v770, vi v771, vi v772, vi v773, vi v774, vr b779, vi 0] [(.int 0)]) (fun _ k => st782 _ k) ?_
      refine gy (St T782 m 118 #[vi p1, vi p2, vi p3, vi p4, vi p5, vi p6, vi 1, vi v770, vi v771, vi v772, vi v773, vi v774, vr b779, vi 0] [(.int 1)]) (fun _ k => XS.iload X782.here hx rfl (dk at_108) rfl (XS.icmpNo X782.here hx rfl (dk at_110) rfl (teq (by decide : (0 : Int32) = (0 : Int32))).2 (XS.iconst X782.here hx rfl (dk at_113) (XS.goto X782.here hx rfl (pc0 := 114) (pc' := 118) rfl (dk at_114) (by decide) (by decide) k)))) ?_
      have hkE783 : _ ≤ T782.heap.size := (by rw [hh782]; exact (Nat.le_trans hk K779.1))
      have CE783 : CHr Z own_EL s.vm s.heap s.vm T782.heap := (by rw [hh782]; exact C780)
      refine Go.retS X782 hx hlk hS hkE783 hZ hEL CE783 (t := .boolean) hret rfl (Or.inl ⟨rfl, by simp, _, rfl⟩) (dk at_118) (by decide) (by decide) ?_
      exact ⟨rfl, N782⟩
    · skip
      have V784 := p779_6 rfl
      have F784 := p779_8 rfl
      refine gy (St T779 m 105 #[vi p1, vi p2, vi p3, vi p4, vi p5, vi p6, vi 1, vi v770, vi v771, vi v772, vi v773, vi v774, vr b779, vi 0] [(.ref b779)]) (fun _ k => XS.astore X779.here hx rfl (dk at_56) rfl rfl (l' := #[vi p1, vi p2, vi p3, vi p4, vi p5, vi p6, vi 1, vi v770, vi v771, vi v772, vi v773, vi v774, vr b779, .unset]) rfl (XS.iload X779.here hx rfl (dk at_58) rfl (XS.iconst X779.here hx rfl (dk at_60) (XS.icmpYes X779.here hx rfl (pc0 := 61) (pc' := 100) rfl (dk at_61) rfl (feq (by decide : ¬ ((1 : Int32) = (4 : Int32)))).2 (by decide) (by decide) (XS.iconst X779.here hx rfl (dk at_100) (XS.istore X779.here hx rfl (dk at_101) rfl (l' := #[vi p1, vi p2, vi p3, vi p4, vi p5, vi p6, vi 1, vi v770, vi v771, vi v772, vi v773, vi v774, vr b779, vi 0]) rfl (XS.aload X779.here hx rfl (dk at_103) rfl rfl k))))))) ?_
      obtain ⟨_, _, ⟨T785, L785, k785, n785⟩, -, X785, ⟨Lc785, hQ785, l785, y785, z785⟩, st785⟩ := Jvm.LawKit.callS X779 hx (y := Y1) hown (mvT hZ (wd hw 31 rfl)) (mvT hZ (wd hw 32 rfl)) (mvT hZ (wd hw 33 rfl)) (mvT hZ (wd hw 34 rfl)) (by decide) (backOf (W := 0) (rm_isY_1_1 l Z a0 hw [] b779 t779 k779 cs [(.int (own_b0 v770)), (.int (own_b1 v770))] T779.heap n0 Z780 O780 pr1 hcs p779_0 p779_1 F784 V784) hZ (wd hw 34 rfl) (wd hw 33 rfl) (by decide) (by decide)) (g := (mkF m 105 #[vi p1, vi p2, vi p3, vi p4, vi p5, vi p6, vi 1, vi v770, vi v771, vi v772, vi v773, vi v774, vr b779, vi 0] [(.ref b779)])) rfl (by rw [hml]; rfl) (argsL := [(.ref b779)]) (rest := []) (lenOf pd_19 rfl) rfl (by show 2 * 0 + _ ≤ _; exact Nat.le_of_eq rfl) (dk at_105) (fun _ _ => ⟨rfl, rfl, Nat.le_of_ble_eq_true rfl, Nat.le_of_ble_eq_true rfl⟩)
      dsimp only [Pt.U, Pt.locs, Pt.cells, Pt.slots] at X785 l785 y785 z785 st785 hQ785
      subst l785 y785 z785
      obtain ⟨rfl, Nq785, hh785⟩ := hQ785
      have N785 := Fr.app N779 Nq785
      refine gy (St T785 m 108 #[vi p1, vi p2, vi p3, vi p4, vi p5, vi p6, vi 1, vi v770, vi v771, vi v772, vi v773, vi v774, vr b779, vi 0] [(.int 0)]) (fun _ k => st785 _ k) ?_
      refine gy (St T785 m 118 #[vi p1, vi p2, vi p3, vi p4, vi p5, vi p6, vi 1, vi v770, vi v771, vi v772, vi v773, vi v774, vr b779, vi 0] [(.int 1)]) (fun _ k => XS.iload X785.here hx rfl (dk at_108) rfl (XS.icmpNo X785.here hx rfl (dk at_110) rfl (teq (by decide : (0 : Int32) = (0 : Int32))).2 (XS.iconst X785.here hx rfl (dk at_113) (XS.goto X785.here hx rfl (pc0 := 114) (pc' := 118) rfl (dk at_114) (by decide) (by decide) k)))) ?_
      have hkE786 : _ ≤ T785.heap.size := (by rw [hh785]; exact (Nat.le_trans hk K779.1))
      have CE786 : CHr Z own_EL s.vm s.heap s.vm T785.heap := (by rw [hh785]; exact C780)
      refine Go.retS X785 hx hlk hS hkE786 hZ hEL CE786 (t := .boolean) hret rfl (Or.inl ⟨rfl, by simp, _, rfl⟩) (dk at_118) (by decide) (by decide) ?_
      exact ⟨rfl, N785⟩
  · skip
    refine gy (St T774 m 53 #[vi p1, vi p2, vi p3, vi p4, vi p5, vi p6, vi 2, vi v770, vi v771, vi v772, vi v773, vi v774, .unset, .unset] [(.int v774), (.int v773), (.int v772), (.int v771), (.int v770), (.int 2)]) (fun _ k => XS.iload X774.here hx rfl (dk at_41) rfl (XS.iload X774.here hx rfl (dk at_43) rfl (XS.iload X774.here hx rfl (dk at_45) rfl (XS.iload X774.here hx rfl (dk at_47) rfl (XS.iload X774.here hx rfl (dk at_49) rfl (XS.iload X774.here hx rfl (dk at_51) rfl k)))))) ?_
    obtain ⟨_, _, ⟨T787, L787, k787, n787⟩, -, X787, ⟨Lc787, hQ787, l787, y787, z787⟩, st787⟩ := Jvm.LawKit.callS X774 hx (y := Y4) hown (mvT hZ (wd hw 6 rfl)) (mvT hZ (wd hw 7 rfl)) (mvT hZ (wd hw 3 rfl)) (mvT hZ (wd hw 8 rfl)) (by decide) (backOf (W := 0) (rm_str_2 l Z a0 hw [] v770 v771 v772 v773 v774 cs h0 n0 Z0 pr0 pr1 hcs pr3 pr4 pr5 p770_0 p771_0 p772_0 p773_0 p774_0) hZ (wd hw 8 rfl) (wd hw 3 rfl) (by decide) (by decide)) (g := (mkF m 53 #[vi p1, vi p2, vi p3, vi p4, vi p5, vi p6, vi 2, vi v770, vi v771, vi v772, vi v773, vi v774, .unset, .unset] [(.int v774), (.int v773), (.int v772), (.int v771), (.int v770), (.int 2)])) rfl (by rw [hml]; rfl) (argsL := [(.int 2), (.int v770), (.int v771), (.int v772), (.int v773), (.int v774)]) (rest := []) (lenOf pd_18 rfl) rfl (by show 2 * 0 + _ ≤ _; exact Nat.le_of_eq rfl) (dk at_53) (fun _ _ => ⟨rfl, hh774, Nat.le_of_ble_eq_true rfl, Nat.le_of_ble_eq_true rfl⟩)
    dsimp only [Pt.U, Pt.locs, Pt.cells, Pt.slots] at X787 l787 y787 z787 st787 hQ787
    subst l787 y787 z787
    obtain ⟨b787, t787, k787, u787, rfl, Nq787, K787, p787_0, p787_1, p787_2, p787_3, p787_4, p787_5, p787_6, p787_7, p787_8⟩ := hQ787
    have N787 := Fr.app N774 Nq787
    have C788 := C0.trans (CHr.keep K787 sf0 C0.1)
    have O788 := pr0.keep K787 all0
    have Z788 : n0 ≤ T787.heap.size := Nat.le_trans Z0 K787.1
    have sz_t787 : h0.size ≤ t787 := p787_2
    have sz_b787 : h0.size ≤ b787 := p787_3
    refine gy (St T787 m 56 #[vi p1, vi p2, vi p3, vi p4, vi p5, vi p6, vi 2, vi v770, vi v771, vi v772, vi v773, vi v774, .unset, .unset] [(.ref b787)]) (fun _ k => st787 _ k) ?_
    rcases u787 with _ | _
    · skip
      have V789 := p787_5 rfl
      have F789 := p787_7 rfl
      have U789 := p787_4 rfl
      refine gy (St T787 m 105 #[vi p1, vi p2, vi p3, vi p4, vi p5, vi p6, vi 2, vi v770, vi v771, vi v772, vi v773, vi v774, vr b787, vi 0] [(.ref b787)]) (fun _ k => XS.astore X787.here hx rfl (dk at_56) rfl rfl (l' := #[vi p1, vi p2, vi p3, vi p4, vi p5, vi p6, vi 2, vi v770, vi v771, vi v772, vi v773, vi v774, vr b787, .unset]) rfl (XS.iload X787.here hx rfl (dk at_58) rfl (XS.iconst X787.here hx rfl (dk at_60) (XS.icmpYes X787.here hx rfl (pc0 := 61) (pc' := 100) rfl (dk at_61) rfl (feq (by decide : ¬ ((2 : Int32) = (4 : Int32)))).2 (by decide) (by decide) (XS.iconst X787.here hx rfl (dk at_100) (XS.istore X787.here hx rfl (dk at_101) rfl (l' := #[vi p1, vi p2, vi p3, vi p4, vi p5, vi p6, vi 2, vi v770, vi v771, vi v772, vi v773, vi v774, vr b787, vi 0]) rfl (XS.aload X787.here hx rfl (dk at_103) rfl rfl k))))))) ?_
      obtain ⟨_, _, ⟨T790, L790, k790, n790⟩, -, X790, ⟨Lc790, hQ790, l790, y790, z790⟩, st790⟩ := Jvm.LawKit.callS X787 hx (y := Y1) hown (mvT hZ (wd hw 31 rfl)) (mvT hZ (wd hw 32 rfl)) (mvT hZ (wd hw 33 rfl)) (mvT hZ (wd hw 34 rfl)) (by decide) (backOf (W := 0) (rm_isY_2_0 l Z a0 hw [] b787 t787 k787 cs [(.int (nar .byte (v770.toInt8.toInt32))), (.int (nar .byte (v771.toInt8.toInt32)))] T787.heap n0 Z788 O788 pr1 hcs p787_0 p787_1 F789 V789) hZ (wd hw 34 rfl) (wd hw 33 rfl) (by decide) (by decide)) (g := (mkF m 105 #[vi p1, vi p2, vi p3, vi p4, vi p5, vi p6, vi 2, vi v770, vi v771, vi v772, vi v773, vi v774, vr b787, vi 0] [(.ref b787)])) rfl (by rw [hml]; rfl) (argsL := [(.ref b787)]) (rest := []) (lenOf pd_19 rfl) rfl (by show 2 * 0 + _ ≤ _; exact Nat.le_of_eq rfl) (dk at_105) (fun _ _ => ⟨rfl, rfl, Nat.le_of_ble_eq_true rfl, Nat.le_of_ble_eq_true rfl⟩)
      dsimp only [Pt.U, Pt.locs, Pt.cells, Pt.slots] at X790 l790 y790 z790 st790 hQ790
      subst l790 y790 z790
      obtain ⟨rfl, Nq790, hh790⟩ := hQ790
      have N790 := Fr.app N787 Nq790
      refine gy (St T790 m 108 #[vi p1, vi p2, vi p3, vi p4, vi p5, vi p6, vi 2, vi v770, vi v771, vi v772, vi v773, vi v774, vr b787, vi 0] [(.int 0)]) (fun _ k => st790 _ k) ?_
      refine gy (St T790 m 118 #[vi p1, vi p2, vi p3, vi p4, vi p5, vi p6, vi 2, vi v770, vi v771, vi v772, vi v773, vi v774, vr b787, vi 0] [(.int 1)]) (fun _ k => XS.iload X790.here hx rfl (dk at_108) rfl (XS.icmpNo X790.here hx rfl (dk at_110) rfl (teq (by decide : (0 : Int32) = (0 : Int32))).2 (XS.iconst X790.here hx rfl (dk at_113) (XS.goto X790.here hx rfl (pc0 := 114) (pc' := 118) rfl (dk at_114) (by decide) (by decide) k)))) ?_
      have hkE791 : _ ≤ T790.heap.size := (by rw [hh790]; exact (Nat.le_trans hk K787.1))
      have CE791 : CHr Z own_EL s.vm s.heap s.vm T790.heap := (by rw [hh790]; exact C788)
      refine Go.retS X790 hx hlk hS hkE791 hZ hEL CE791 (t := .boolean) hret rfl (Or.inl ⟨rfl, by simp, _, rfl⟩) (dk at_118) (by decide) (by decide) ?_
      exact ⟨rfl, N790⟩
    · skip
      have V792 := p787_6 rfl
      have F792 := p787_8 rfl
      refine gy (St T787 m 105 #[vi p1, vi p2, vi p3, vi p4, vi p5, vi p6, vi 2, vi v770, vi v771, vi v772, vi v773, vi v774, vr b787, vi 0] [(.ref b787)]) (fun _ k => XS.astore X787.here hx rfl (dk at_56) rfl rfl (l' := #[vi p1, vi p2, vi p3, vi p4, vi p5, vi p6, vi 2, vi v770, vi v771, vi v772, vi v773, vi v774, vr b787, .unset]) rfl (XS.iload X787.here hx rfl (dk at_58) rfl (XS.iconst X787.here hx rfl (dk at_60) (XS.icmpYes X787.here hx rfl (pc0 := 61) (pc' := 100) rfl (dk at_61) rfl (feq (by decide : ¬ ((2 : Int32) = (4 : Int32)))).2 (by decide) (by decide) (XS.iconst X787.here hx rfl (dk at_100) (XS.istore X787.here hx rfl (dk at_101) rfl (l' := #[vi p1, vi p2, vi p3, vi p4, vi p5, vi p6, vi 2, vi v770, vi v771, vi v772, vi v773, vi v774, vr b787, vi 0]) rfl (XS.aload X787.here hx rfl (dk at_103) rfl rfl k))))))) ?_
      obtain ⟨_, _, ⟨T793, L793, k793, n793⟩, -, X793, ⟨Lc793, hQ793, l793, y793, z793⟩, st793⟩ := Jvm.LawKit.callS X787 hx (y := Y1) hown (mvT hZ (wd hw 31 rfl)) (mvT hZ (wd hw 32 rfl)) (mvT hZ (wd hw 33 rfl)) (mvT hZ (wd hw 34 rfl)) (by decide) (backOf (W := 0) (rm_isY_2_1 l Z a0 hw [] b787 t787 k787 cs [(.int (own_b0 v770)), (.int (own_b1 v770)), (.int (own_b0 v771)), (.int (own_b1 v771))] T787.heap n0 Z788 O788 pr1 hcs p787_0 p787_1 F792 V792) hZ (wd hw 34 rfl) (wd hw 33 rfl) (by decide) (by decide)) (g := (mkF m 105 #[vi p1, vi p2, vi p3, vi p4, vi p5, vi p6, vi 2, vi v770, vi v771, vi v772, vi v773, vi v774, vr b787, vi 0] [(.ref b787)])) rfl (by rw [hml]; rfl) (argsL := [(.ref b787)]) (rest := []) (lenOf pd_19 rfl) rfl (by show 2 * 0 + _ ≤ _; exact Nat.le_of_eq rfl) (dk at_105) (fun _ _ => ⟨rfl, rfl, Nat.le_of_ble_eq_true rfl, Nat.le_of_ble_eq_true rfl⟩)
      dsimp only [Pt.U, Pt.locs, Pt.cells, Pt.slots] at X793 l793 y793 z793 st793 hQ793
      subst l793 y793 z793
      obtain ⟨rfl, Nq793, hh793⟩ := hQ793
      have N793 := Fr.app N787 Nq793
      refine gy (St T793 m 108 #[vi p1, vi p2, vi p3, vi p4, vi p5, vi p6, vi 2, vi v770, vi v771, vi v772, vi v773, vi v774, vr b787, vi 0] [(.int 0)]) (fun _ k => st793 _ k) ?_
      refine gy (St T793 m 118 #[vi p1, vi p2, vi p3, vi p4, vi p5, vi p6, vi 2, vi v770, vi v771, vi v772, vi v773, vi v774, vr b787, vi 0] [(.int 1)]) (fun _ k => XS.iload X793.here hx rfl (dk at_108) rfl (XS.icmpNo X793.here hx rfl (dk at_110) rfl (teq (by decide : (0 : Int32) = (0 : Int32))).2 (XS.iconst X793.here hx rfl (dk at_113) (XS.goto X793.here hx rfl (pc0 := 114) (pc' := 118) rfl (dk at_114) (by decide) (by decide) k)))) ?_
      have hkE794 : _ ≤ T793.heap.size := (by rw [hh793]; exact (Nat.le_trans hk K787.1))
      have CE794 : CHr Z own_EL s.vm s.heap s.vm T793.heap := (by rw [hh793]; exact C788)
      refine Go.retS X793 hx hlk hS hkE794 hZ hEL CE794 (t := .boolean) hret rfl (Or.inl ⟨rfl, by simp, _, rfl⟩) (dk at_118) (by decide) (by decide) ?_
      exact ⟨rfl, N793⟩
  · skip
    refine gy (St T774 m 53 #[vi p1, vi p2, vi p3, vi p4, vi p5, vi p6, vi 3, vi v770, vi v771, vi v772, vi v773, vi v774, .unset, .unset] [(.int v774), (.int v773), (.int v772), (.int v771), (.int v770), (.int 3)]) (fun _ k => XS.iload X774.here hx rfl (dk at_41) rfl (XS.iload X774.here hx rfl (dk at_43) rfl (XS.iload X774.here hx rfl (dk at_45) rfl (XS.iload X774.here hx rfl (dk at_47) rfl (XS.iload X774.here hx rfl (dk at_49) rfl (XS.iload X774.here hx rfl (dk at_51) rfl k)))))) ?_
    obtain ⟨_, _, ⟨T795, L795, k795, n795⟩, -, X795, ⟨Lc795, hQ795, l795, y795, z795⟩, st795⟩ := Jvm.LawKit.callS X774 hx (y := Y4) hown (mvT hZ (wd hw 6 rfl)) (mvT hZ (wd hw 7 rfl)) (mvT hZ (wd hw 3 rfl)) (mvT hZ (wd hw 8 rfl)) (by decide) (backOf (W := 0) (rm_str_3 l Z a0 hw [] v770 v771 v772 v773 v774 cs h0 n0 Z0 pr0 pr1 hcs pr3 pr4 pr5 p770_0 p771_0 p772_0 p773_0 p774_0) hZ (wd hw 8 rfl) (wd hw 3 rfl) (by decide) (by decide)) (g := (mkF m 53 #[vi p1, vi p2, vi p3, vi p4, vi p5, vi p6, vi 3, vi v770, vi v771, vi v772, vi v773, vi v774, .unset, .unset] [(.int v774), (.int v773), (.int v772), (.int v771), (.int v770), (.int 3)])) rfl (by rw [hml]; rfl) (argsL := [(.int 3), (.int v770), (.int v771), (.int v772), (.int v773), (.int v774)]) (rest := []) (lenOf pd_18 rfl) rfl (by show 2 * 0 + _ ≤ _; exact Nat.le_of_eq rfl) (dk at_53) (fun _ _ => ⟨rfl, hh774, Nat.le_of_ble_eq_true rfl, Nat.le_of_ble_eq_true rfl⟩)
    dsimp only [Pt.U, Pt.locs, Pt.cells, Pt.slots] at X795 l795 y795 z795 st795 hQ795
    subst l795 y795 z795
    obtain ⟨b795, t795, k795, u795, rfl, Nq795, K795, p795_0, p795_1, p795_2, p795_3, p795_4, p795_5, p795_6, p795_7, p795_8⟩ := hQ795
    have N795 := Fr.app N774 Nq795
    have C796 := C0.trans (CHr.keep K795 sf0 C0.1)
    have O796 := pr0.keep K795 all0
    have Z796 : n0 ≤ T795.heap.size := Nat.le_trans Z0 K795.1
    have sz_t795 : h0.size ≤ t795 := p795_2
    have sz_b795 : h0.size ≤ b795 := p795_3
    refine gy (St T795 m 56 #[vi p1, vi p2, vi p3, vi p4, vi p5, vi p6, vi 3, vi v770, vi v771, vi v772, vi v773, vi v774, .unset, .unset] [(.ref b795)]) (fun _ k => st795 _ k) ?_
    rcases u795 with _ | _
    · skip
      have V797 := p795_5 rfl
      have F797 := p795_7 rfl
      have U797 := p795_4 rfl
      refine gy (St T795 m 105 #[vi p1, vi p2, vi p3, vi p4, vi p5, vi p6, vi 3, vi v770, vi v771, vi v772, vi v773, vi v774, vr b795, vi 0] [(.ref b795)]) (fun _ k => XS.astore X795.here hx rfl (dk at_56) rfl rfl (l' := #[vi p1, vi p2, vi p3, vi p4, vi p5, vi p6, vi 3, vi v770, vi v771, vi v772, vi v773, vi v774, vr b795, .unset]) rfl (XS.iload X795.here hx rfl (dk at_58) rfl (XS.iconst X795.here hx rfl (dk at_60) (XS.icmpYes X795.here hx rfl (pc0 := 61) (pc' := 100) rfl (dk at_61) rfl (feq (by decide : ¬ ((3 : Int32) = (4 : Int32)))).2 (by decide) (by decide) (XS.iconst X795.here hx rfl (dk at_100) (XS.istore X795.here hx rfl (dk at_101) rfl (l' := #[vi p1, vi p2, vi p3, vi p4, vi p5, vi p6, vi 3, vi v770, vi v771, vi v772, vi v773, vi v774, vr b795, vi 0]) rfl (XS.aload X795.here hx rfl (dk at_103) rfl rfl k))))))) ?_
      obtain ⟨_, _, ⟨T798, L798, k798, n798⟩, -, X798, ⟨Lc798, hQ798, l798, y798, z798⟩, st798⟩ := Jvm.LawKit.callS X795 hx (y := Y1) hown (mvT hZ (wd hw 31 rfl)) (mvT hZ (wd hw 32 rfl)) (mvT hZ (wd hw 33 rfl)) (mvT hZ (wd hw 34 rfl)) (by decide) (backOf (W := 0) (rm_isY_3_0 l Z a0 hw [] b795 t795 k795 cs [(.int (nar .byte (v770.toInt8.toInt32))), (.int (nar .byte (v771.toInt8.toInt32))), (.int (nar .byte (v772.toInt8.toInt32)))] T795.heap n0 Z796 O796 pr1 hcs p795_0 p795_1 F797 V797) hZ (wd hw 34 rfl) (wd hw 33 rfl) (by decide) (by decide)) (g := (mkF m 105 #[vi p1, vi p2, vi p3, vi p4, vi p5, vi p6, vi 3, vi v770, vi v771, vi v772, vi v773, vi v774, vr b795, vi 0] [(.ref b795)])) rfl (by rw [hml]; rfl) (argsL := [(.ref b795)]) (rest := []) (lenOf pd_19 rfl) rfl (by show 2 * 0 + _ ≤ _; exact Nat.le_of_eq rfl) (dk at_105) (fun _ _ => ⟨rfl, rfl, Nat.le_of_ble_eq_true rfl, Nat.le_of_ble_eq_true rfl⟩)
      dsimp only [Pt.U, Pt.locs, Pt.cells, Pt.slots] at X798 l798 y798 z798 st798 hQ798
      subst l798 y798 z798
      obtain ⟨rfl, Nq798, hh798⟩ := hQ798
      have N798 := Fr.app N795 Nq798
      refine gy (St T798 m 108 #[vi p1, vi p2, vi p3, vi p4, vi p5, vi p6, vi 3, vi v770, vi v771, vi v772, vi v773, vi v774, vr b795, vi 0] [(.int 0)]) (fun _ k => st798 _ k) ?_
      refine gy (St T798 m 118 #[vi p1, vi p2, vi p3, vi p4, vi p5, vi p6, vi 3, vi v770, vi v771, vi v772, vi v773, vi v774, vr b795, vi 0] [(.int 1)]) (fun _ k => XS.iload X798.here hx rfl (dk at_108) rfl (XS.icmpNo X798.here hx rfl (dk at_110) rfl (teq (by decide : (0 : Int32) = (0 : Int32))).2 (XS.iconst X798.here hx rfl (dk at_113) (XS.goto X798.here hx rfl (pc0 := 114) (pc' := 118) rfl (dk at_114) (by decide) (by decide) k)))) ?_
      have hkE799 : _ ≤ T798.heap.size := (by rw [hh798]; exact (Nat.le_trans hk K795.1))
      have CE799 : CHr Z own_EL s.vm s.heap s.vm T798.heap := (by rw [hh798]; exact C796)
      refine Go.retS X798 hx hlk hS hkE799 hZ hEL CE799 (t := .boolean) hret rfl (Or.inl ⟨rfl, by simp, _, rfl⟩) (dk at_118) (by decide) (by decide) ?_
      exact ⟨rfl, N798⟩
    · skip
      have V800 := p795_6 rfl
      have F800 := p795_8 rfl
      refine gy (St T795 m 105 #[vi p1, vi p2, vi p3, vi p4, vi p5, vi p6, vi 3, vi v770, vi v771, vi v772, vi v773, vi v774, vr b795, vi 0] [(.ref b795)]) (fun _ k => XS.astore X795.here hx rfl (dk at_56) rfl rfl (l' := #[vi p1, vi p2, vi p3, vi p4, vi p5, vi p6, vi 3, vi v770, vi v771, vi v772, vi v773, vi v774, vr b795, .unset]) rfl (XS.iload X795.here hx rfl (dk at_58) rfl (XS.iconst X795.here hx rfl (dk at_60) (XS.icmpYes X795.here hx rfl (pc0 := 61) (pc' := 100) rfl (dk at_61) rfl (feq (by decide : ¬ ((3 : Int32) = (4 : Int32)))).2 (by decide) (by decide) (XS.iconst X795.here hx rfl (dk at_100) (XS.istore X795.here hx rfl (dk at_101) rfl (l' := #[vi p1, vi p2, vi p3, vi p4, vi p5, vi p6, vi 3, vi v770, vi v771, vi v772, vi v773, vi v774, vr b795, vi 0]) rfl (XS.aload X795.here hx rfl (dk at_103) rfl rfl k))))))) ?_
      obtain ⟨_, _, ⟨T801, L801, k801, n801⟩, -, X801, ⟨Lc801, hQ801, l801, y801, z801⟩, st801⟩ := Jvm.LawKit.callS X795 hx (y := Y1) hown (mvT hZ (wd hw 31 rfl)) (mvT hZ (wd hw 32 rfl)) (mvT hZ (wd hw 33 rfl)) (mvT hZ (wd hw 34 rfl)) (by decide) (backOf (W := 0) (rm_isY_3_1 l Z a0 hw [] b795 t795 k795 cs [(.int (own_b0 v770)), (.int (own_b1 v770)), (.int (own_b0 v771)), (.int (own_b1 v771)), (.int (own_b0 v772)), (.int (own_b1 v772))] T795.heap n0 Z796 O796 pr1 hcs p795_0 p795_1 F800 V800) hZ (wd hw 34 rfl) (wd hw 33 rfl) (by decide) (by decide)) (g := (mkF m 105 #[vi p1, vi p2, vi p3, vi p4, vi p5, vi p6, vi 3, vi v770, vi v771, vi v772, vi v773, vi v774, vr b795, vi 0] [(.ref b795)])) rfl (by rw [hml]; rfl) (argsL := [(.ref b795)]) (rest := []) (lenOf pd_19 rfl) rfl (by show 2 * 0 + _ ≤ _; exact Nat.le_of_eq rfl) (dk at_105) (fun _ _ => ⟨rfl, rfl, Nat.le_of_ble_eq_true rfl, Nat.le_of_ble_eq_true rfl⟩)
      dsimp only [Pt.U, Pt.locs, Pt.cells, Pt.slots] at X801 l801 y801 z801 st801 hQ801
      subst l801 y801 z801
      obtain ⟨rfl, Nq801, hh801⟩ := hQ801
      have N801 := Fr.app N795 Nq801
      refine gy (St T801 m 108 #[vi p1, vi p2, vi p3, vi p4, vi p5, vi p6, vi 3, vi v770, vi v771, vi v772, vi v773, vi v774, vr b795, vi 0] [(.int 0)]) (fun _ k => st801 _ k) ?_
      refine gy (St T801 m 118 #[vi p1, vi p2, vi p3, vi p4, vi p5, vi p6, vi 3, vi v770, vi v771, vi v772, vi v773, vi v774, vr b795, vi 0] [(.int 1)]) (fun _ k => XS.iload X801.here hx rfl (dk at_108) rfl (XS.icmpNo X801.here hx rfl (dk at_110) rfl (teq (by decide : (0 : Int32) = (0 : Int32))).2 (XS.iconst X801.here hx rfl (dk at_113) (XS.goto X801.here hx rfl (pc0 := 114) (pc' := 118) rfl (dk at_114) (by decide) (by decide) k)))) ?_
      have hkE802 : _ ≤ T801.heap.size := (by rw [hh801]; exact (Nat.le_trans hk K795.1))
      have CE802 : CHr Z own_EL s.vm s.heap s.vm T801.heap := (by rw [hh801]; exact C796)
      refine Go.retS X801 hx hlk hS hkE802 hZ hEL CE802 (t := .boolean) hret rfl (Or.inl ⟨rfl, by simp, _, rfl⟩) (dk at_118) (by decide) (by decide) ?_
      exact ⟨rfl, N801⟩
  · skip
    refine gy (St T774 m 53 #[vi p1, vi p2, vi p3, vi p4, vi p5, vi p6, vi 4, vi v770, vi v771, vi v772, vi v773, vi v774, .unset, .unset] [(.int v774), (.int v773), (.int v772), (.int v771), (.int v770), (.int 4)]) (fun _ k => XS.iload X774.here hx rfl (dk at_41) rfl (XS.iload X774.here hx rfl (dk at_43) rfl (XS.iload X774.here hx rfl (dk at_45) rfl (XS.iload X774.here hx rfl (dk at_47) rfl (XS.iload X774.here hx rfl (dk at_49) rfl (XS.iload X774.here hx rfl (dk at_51) rfl k)))))) ?_
    obtain ⟨_, _, ⟨T803, L803, k803, n803⟩, -, X803, ⟨Lc803, hQ803, l803, y803, z803⟩, st803⟩ := Jvm.LawKit.callS X774 hx (y := Y4) hown (mvT hZ (wd hw 6 rfl)) (mvT hZ (wd hw 7 rfl)) (mvT hZ (wd hw 3 rfl)) (mvT hZ (wd hw 8 rfl)) (by decide) (backOf (W := 0) (rm_str_4 l Z a0 hw [] v770 v771 v772 v773 v774 cs h0 n0 Z0 pr0 pr1 hcs pr3 pr4 pr5 p770_0 p771_0 p772_0 p773_0 p774_0) hZ (wd hw 8 rfl) (wd hw 3 rfl) (by decide) (by decide)) (g := (mkF m 53 #[vi p1, vi p2, vi p3, vi p4, vi p5, vi p6, vi 4, vi v770, vi v771, vi v772, vi v773, vi v774, .unset, .unset] [(.int v774), (.int v773), (.int v772), (.int v771), (.int v770), (.int 4)])) rfl (by rw [hml]; rfl) (argsL := [(.int 4), (.int v770), (.int v771), (.int v772), (.int v773), (.int v774)]) (rest := []) (lenOf pd_18 rfl) rfl (by show 2 * 0 + _ ≤ _; exact Nat.le_of_eq rfl) (dk at_53) (fun _ _ => ⟨rfl, hh774, Nat.le_of_ble_eq_true rfl, Nat.le_of_ble_eq_true rfl⟩)
    dsimp only [Pt.U, Pt.locs, Pt.cells, Pt.slots] at X803 l803 y803 z803 st803 hQ803
    subst l803 y803 z803
    obtain ⟨b803, t803, k803, u803, rfl, Nq803, K803, p803_0, p803_1, p803_2, p803_3, p803_4, p803_5, p803_6, p803_7, p803_8⟩ := hQ803
    have N803 := Fr.app N774 Nq803
    have C804 := C0.trans (CHr.keep K803 sf0 C0.1)
    have O804 := pr0.keep K803 all0
    have Z804 : n0 ≤ T803.heap.size := Nat.le_trans Z0 K803.1
    have sz_t803 : h0.size ≤ t803 := p803_2
    have sz_b803 : h0.size ≤ b803 := p803_3
    refine gy (St T803 m 56 #[vi p1, vi p2, vi p3, vi p4, vi p5, vi p6, vi 4, vi v770, vi v771, vi v772, vi v773, vi v774, .unset, .unset] [(.ref b803)]) (fun _ k => st803 _ k) ?_
    rcases u803 with _ | _
    · skip
      have V805 := p803_5 rfl
      have F805 := p803_7 rfl
      have U805 := p803_4 rfl
      refine gy (St T803 m 66 #[vi p1, vi p2, vi p3, vi p4, vi p5, vi p6, vi 4, vi v770, vi v771, vi v772, vi v773, vi v774, vr b803, .unset] [(.int v770)]) (fun _ k => XS.astore X803.here hx rfl (dk at_56) rfl rfl (l' := #[vi p1, vi p2, vi p3, vi p4, vi p5, vi p6, vi 4, vi v770, vi v771, vi v772, vi v773, vi v774, vr b803, .unset]) rfl (XS.iload X803.here hx rfl (dk at_58) rfl (XS.iconst X803.here hx rfl (dk at_60) (XS.icmpNo X803.here hx rfl (dk at_61) rfl (teq (by decide : (4 : Int32) = (4 : Int32))).2 (XS.iload X803.here hx rfl (dk at_64) rfl k))))) ?_
      obtain ⟨_, _, ⟨T806, L806, k806, n806⟩, -, X806, ⟨Lc806, hQ806, l806, y806, z806⟩, st806⟩ := Jvm.LawKit.callS X803 hx (y := Y2) hown (mvT hZ (wd hw 56 rfl)) (mvT hZ (wd hw 57 rfl)) (mvT hZ (wd hw 3 rfl)) (mvT hZ (wd hw 58 rfl)) (by decide) (backOf (W := 0) (rm_dig l Z a0 hw [] v770 T803.heap n0 Z804 ) hZ (wd hw 58 rfl) (wd hw 3 rfl) (by decide) (by decide)) (g := (mkF m 66 #[vi p1, vi p2, vi p3, vi p4, vi p5, vi p6, vi 4, vi v770, vi v771, vi v772, vi v773, vi v774, vr b803, .unset] [(.int v770)])) rfl (by rw [hml]; rfl) (argsL := [(.int v770)]) (rest := []) (lenOf pd_20 rfl) rfl (by show 2 * 0 + _ ≤ _; exact Nat.le_of_eq rfl) (dk at_66) (fun _ _ => ⟨rfl, rfl, Nat.le_of_ble_eq_true rfl, Nat.le_of_ble_eq_true rfl⟩)
      dsimp only [Pt.U, Pt.locs, Pt.cells, Pt.slots] at X806 l806 y806 z806 st806 hQ806
      subst l806 y806 z806
      obtain ⟨v806, rfl, Nq806, hh806, p806_0⟩ := hQ806
      have N806 := Fr.app N803 Nq806
      refine gy (St T806 m 69 #[vi p1, vi p2, vi p3, vi p4, vi p5, vi p6, vi 4, vi v770, vi v771, vi v772, vi v773, vi v774, vr b803, .unset] [(.int v806)]) (fun _ k => st806 _ k) ?_
      rcases p806_0 with ⟨rfl, e807⟩ | ⟨rfl, e807⟩
      · skip
        refine gy (St T806 m 74 #[vi p1, vi p2, vi p3, vi p4, vi p5, vi p6, vi 4, vi v770, vi v771, vi v772, vi v773, vi v774, vr b803, .unset] [(.int v771)]) (fun _ k => XS.ifNo X806.here hx rfl (dk at_69) rfl ((if0 _ _).trans (feq (by decide : ¬ ((1 : Int32) = (0 : Int32)))).1) (XS.iload X806.here hx rfl (dk at_72) rfl k)) ?_
        obtain ⟨_, _, ⟨T808, L808, k808, n808⟩, -, X808, ⟨Lc808, hQ808, l808, y808, z808⟩, st808⟩ := Jvm.LawKit.callS X806 hx (y := Y2) hown (mvT hZ (wd hw 56 rfl)) (mvT hZ (wd hw 57 rfl)) (mvT hZ (wd hw 3 rfl)) (mvT hZ (wd hw 58 rfl)) (by decide) (backOf (W := 0) (rm_dig l Z a0 hw [] v771 T803.heap n0 Z804 ) hZ (wd hw 58 rfl) (wd hw 3 rfl) (by decide) (by decide)) (g := (mkF m 74 #[vi p1, vi p2, vi p3, vi p4, vi p5, vi p6, vi 4, vi v770, vi v771, vi v772, vi v773, vi v774, vr b803, .unset] [(.int v771)])) rfl (by rw [hml]; rfl) (argsL := [(.int v771)]) (rest := []) (lenOf pd_20 rfl) rfl (by show 2 * 0 + _ ≤ _; exact Nat.le_of_eq rfl) (dk at_74) (fun _ _ => ⟨rfl, hh806, Nat.le_of_ble_eq_true rfl, Nat.le_of_ble_eq_true rfl⟩)
        dsimp only [Pt.U, Pt.locs, Pt.cells, Pt.slots] at X808 l808 y808 z808 st808 hQ808
        subst l808 y808 z808
        obtain ⟨v808, rfl, Nq808, hh808, p808_0⟩ := hQ808
        have N808 := Fr.app N806 Nq808
        refine gy (St T808 m 77 #[vi p1, vi p2, vi p3, vi p4, vi p5, vi p6, vi 4, vi v770, vi v771, vi v772, vi v773, vi v774, vr b803, .unset] [(.int v808)]) (fun _ k => st808 _ k) ?_
        rcases p808_0 with ⟨rfl, e809⟩ | ⟨rfl, e809⟩
        · skip
          refine gy (St T808 m 82 #[vi p1, vi p2, vi p3, vi p4, vi p5, vi p6, vi 4, vi v770, vi v771, vi v772, vi v773, vi v774, vr b803, .unset] [(.int v772)]) (fun _ k => XS.ifNo X808.here hx rfl (dk at_77) rfl ((if0 _ _).trans (feq (by decide : ¬ ((1 : Int32) = (0 : Int32)))).1) (XS.iload X808.here hx rfl (dk at_80) rfl k)) ?_
          obtain ⟨_, _, ⟨T810, L810, k810, n810⟩, -, X810, ⟨Lc810, hQ810, l810, y810, z810⟩, st810⟩ := Jvm.LawKit.callS X808 hx (y := Y2) hown (mvT hZ (wd hw 56 rfl)) (mvT hZ (wd hw 57 rfl)) (mvT hZ (wd hw 3 rfl)) (mvT hZ (wd hw 58 rfl)) (by decide) (backOf (W := 0) (rm_dig l Z a0 hw [] v772 T803.heap n0 Z804 ) hZ (wd hw 58 rfl) (wd hw 3 rfl) (by decide) (by decide)) (g := (mkF m 82 #[vi p1, vi p2, vi p3, vi p4, vi p5, vi p6, vi 4, vi v770, vi v771, vi v772, vi v773, vi v774, vr b803, .unset] [(.int v772)])) rfl (by rw [hml]; rfl) (argsL := [(.int v772)]) (rest := []) (lenOf pd_20 rfl) rfl (by show 2 * 0 + _ ≤ _; exact Nat.le_of_eq rfl) (dk at_82) (fun _ _ => ⟨rfl, hh808, Nat.le_of_ble_eq_true rfl, Nat.le_of_ble_eq_true rfl⟩)
          dsimp only [Pt.U, Pt.locs, Pt.cells, Pt.slots] at X810 l810 y810 z810 st810 hQ810
          subst l810 y810 z810
          obtain ⟨v810, rfl, Nq810, hh810, p810_0⟩ := hQ810
          have N810 := Fr.app N808 Nq810
          refine gy (St T810 m 85 #[vi p1, vi p2, vi p3, vi p4, vi p5, vi p6, vi 4, vi v770, vi v771, vi v772, vi v773, vi v774, vr b803, .unset] [(.int v810)]) (fun _ k => st810 _ k) ?_
          rcases p810_0 with ⟨rfl, e811⟩ | ⟨rfl, e811⟩
          · skip
            refine gy (St T810 m 90 #[vi p1, vi p2, vi p3, vi p4, vi p5, vi p6, vi 4, vi v770, vi v771, vi v772, vi v773, vi v774, vr b803, .unset] [(.int v773)]) (fun _ k => XS.ifNo X810.here hx rfl (dk at_85) rfl ((if0 _ _).trans (feq (by decide : ¬ ((1 : Int32) = (0 : Int32)))).1) (XS.iload X810.here hx rfl (dk at_88) rfl k)) ?_
            obtain ⟨_, _, ⟨T812, L812, k812, n812⟩, -, X812, ⟨Lc812, hQ812, l812, y812, z812⟩, st812⟩ := Jvm.LawKit.callS X810 hx (y := Y2) hown (mvT hZ (wd hw 56 rfl)) (mvT hZ (wd hw 57 rfl)) (mvT hZ (wd hw 3 rfl)) (mvT hZ (wd hw 58 rfl)) (by decide) (backOf (W := 0) (rm_dig l Z a0 hw [] v773 T803.heap n0 Z804 ) hZ (wd hw 58 rfl) (wd hw 3 rfl) (by decide) (by decide)) (g := (mkF m 90 #[vi p1, vi p2, vi p3, vi p4, vi p5, vi p6, vi 4, vi v770, vi v771, vi v772, vi v773, vi v774, vr b803, .unset] [(.int v773)])) rfl (by rw [hml]; rfl) (argsL := [(.int v773)]) (rest := []) (lenOf pd_20 rfl) rfl (by show 2 * 0 + _ ≤ _; exact Nat.le_of_eq rfl) (dk at_90) (fun _ _ => ⟨rfl, hh810, Nat.le_of_ble_eq_true rfl, Nat.le_of_ble_eq_true rfl⟩)
            dsimp only [Pt.U, Pt.locs, Pt.cells, Pt.slots] at X812 l812 y812 z812 st812 hQ812
            subst l812 y812 z812
            obtain ⟨v812, rfl, Nq812, hh812, p812_0⟩ := hQ812
            have N812 := Fr.app N810 Nq812
            refine gy (St T812 m 93 #[vi p1, vi p2, vi p3, vi p4, vi p5, vi p6, vi 4, vi v770, vi v771, vi v772, vi v773, vi v774, vr b803, .unset] [(.int v812)]) (fun _ k => st812 _ k) ?_
            rcases p812_0 with ⟨rfl, e813⟩ | ⟨rfl, e813⟩
            · skip
              refine gy (St T812 m 105 #[vi p1, vi p2, vi p3, vi p4, vi p5, vi p6, vi 4, vi v770, vi v771, vi v772, vi v773, vi v774, vr b803, vi 1] [(.ref b803)]) (fun _ k => XS.ifNo X812.here hx rfl (dk at_93) rfl ((if0 _ _).trans (feq (by decide : ¬ ((1 : Int32) = (0 : Int32)))).1) (XS.iconst X812.here hx rfl (dk at_96) (XS.goto X812.here hx rfl (pc0 := 97) (pc' := 101) rfl (dk at_97) (by decide) (by decide) (XS.istore X812.here hx rfl (dk at_101) rfl (l' := #[vi p1, vi p2, vi p3, vi p4, vi p5, vi p6, vi 4, vi v770, vi v771, vi v772, vi v773, vi v774, vr b803, vi 1]) rfl (XS.aload X812.here hx rfl (dk at_103) rfl rfl k))))) ?_
              obtain ⟨_, _, ⟨T814, L814, k814, n814⟩, -, X814, ⟨Lc814, hQ814, l814, y814, z814⟩, st814⟩ := Jvm.LawKit.callS X812 hx (y := Y1) hown (mvT hZ (wd hw 31 rfl)) (mvT hZ (wd hw 32 rfl)) (mvT hZ (wd hw 33 rfl)) (mvT hZ (wd hw 34 rfl)) (by decide) (backOf (W := 0) (rm_isY_4_0 l Z a0 hw [] b803 t803 k803 cs fm v770 v771 v772 v773 T803.heap n0 Z804 O804 pr1 hcs pr6 hr_fm p803_0 p803_1 F805 V805 p770_0 p771_0 p772_0 p773_0 U805.1 U805.2.1 U805.2.2.1 U805.2.2.2) hZ (wd hw 34 rfl) (wd hw 33 rfl) (by decide) (by decide)) (g := (mkF m 105 #[vi p1, vi p2, vi p3, vi p4, vi p5, vi p6, vi 4, vi v770, vi v771, vi v772, vi v773, vi v774, vr b803, vi 1] [(.ref b803)])) rfl (by rw [hml]; rfl) (argsL := [(.ref b803)]) (rest := []) (lenOf pd_19 rfl) rfl (by show 2 * 0 + _ ≤ _; exact Nat.le_of_eq rfl) (dk at_105) (fun _ _ => ⟨rfl, hh812, Nat.le_of_ble_eq_true rfl, Nat.le_of_ble_eq_true rfl⟩)
              dsimp only [Pt.U, Pt.locs, Pt.cells, Pt.slots] at X814 l814 y814 z814 st814 hQ814
              subst l814 y814 z814
              obtain ⟨v814, rfl, Nq814, hh814, p814_0⟩ := hQ814
              have N814 := Fr.app N812 Nq814
              refine gy (St T814 m 108 #[vi p1, vi p2, vi p3, vi p4, vi p5, vi p6, vi 4, vi v770, vi v771, vi v772, vi v773, vi v774, vr b803, vi 1] [(.int v814)]) (fun _ k => st814 _ k) ?_
              rcases p814_0 with ⟨rfl, e815⟩ | ⟨rfl, e815⟩
              · skip
                refine gy (St T814 m 118 #[vi p1, vi p2, vi p3, vi p4, vi p5, vi p6, vi 4, vi v770, vi v771, vi v772, vi v773, vi v774, vr b803, vi 1] [(.int 1)]) (fun _ k => XS.iload X814.here hx rfl (dk at_108) rfl (XS.icmpNo X814.here hx rfl (dk at_110) rfl (teq (by decide : (1 : Int32) = (1 : Int32))).2 (XS.iconst X814.here hx rfl (dk at_113) (XS.goto X814.here hx rfl (pc0 := 114) (pc' := 118) rfl (dk at_114) (by decide) (by decide) k)))) ?_
                have hkE816 : _ ≤ T814.heap.size := (by rw [hh814]; exact (Nat.le_trans hk K803.1))
                have CE816 : CHr Z own_EL s.vm s.heap s.vm T814.heap := (by rw [hh814]; exact C804)
                refine Go.retS X814 hx hlk hS hkE816 hZ hEL CE816 (t := .boolean) hret rfl (Or.inl ⟨rfl, by simp, _, rfl⟩) (dk at_118) (by decide) (by decide) ?_
                exact ⟨rfl, N814⟩
              · skip
                exact absurd ⟨e807, e809, e811, e813⟩ e815
            · skip
              refine gy (St T812 m 105 #[vi p1, vi p2, vi p3, vi p4, vi p5, vi p6, vi 4, vi v770, vi v771, vi v772, vi v773, vi v774, vr b803, vi 0] [(.ref b803)]) (fun _ k => XS.ifYes X812.here hx rfl (pc0 := 93) (pc' := 100) rfl (dk at_93) rfl ((if0 _ _).trans (teq (by decide : (0 : Int32) = (0 : Int32))).1) (by decide) (by decide) (XS.iconst X812.here hx rfl (dk at_100) (XS.istore X812.here hx rfl (dk at_101) rfl (l' := #[vi p1, vi p2, vi p3, vi p4, vi p5, vi p6, vi 4, vi v770, vi v771, vi v772, vi v773, vi v774, vr b803, vi 0]) rfl (XS.aload X812.here hx rfl (dk at_103) rfl rfl k)))) ?_
              obtain ⟨_, _, ⟨T817, L817, k817, n817⟩, -, X817, ⟨Lc817, hQ817, l817, y817, z817⟩, st817⟩ := Jvm.LawKit.callS X812 hx (y := Y1) hown (mvT hZ (wd hw 31 rfl)) (mvT hZ (wd hw 32 rfl)) (mvT hZ (wd hw 33 rfl)) (mvT hZ (wd hw 34 rfl)) (by decide) (backOf (W := 0) (rm_isY_4_0 l Z a0 hw [] b803 t803 k803 cs fm v770 v771 v772 v773 T803.heap n0 Z804 O804 pr1 hcs pr6 hr_fm p803_0 p803_1 F805 V805 p770_0 p771_0 p772_0 p773_0 U805.1 U805.2.1 U805.2.2.1 U805.2.2.2) hZ (wd hw 34 rfl) (wd hw 33 rfl) (by decide) (by decide)) (g := (mkF m 105 #[vi p1, vi p2, vi p3, vi p4, vi p5, vi p6, vi 4, vi v770, vi v771, vi v772, vi v773, vi v774, vr b803, vi 0] [(.ref b803)])) rfl (by rw [hml]; rfl) (argsL := [(.ref b803)]) (rest := []) (lenOf pd_19 rfl) rfl (by show 2 * 0 + _ ≤ _; exact Nat.le_of_eq rfl) (dk at_105) (fun _ _ => ⟨rfl, hh812, Nat.le_of_ble_eq_true rfl, Nat.le_of_ble_eq_true rfl⟩)
              dsimp only [Pt.U, Pt.locs, Pt.cells, Pt.slots] at X817 l817 y817 z817 st817 hQ817
              subst l817 y817 z817
              obtain ⟨v817, rfl, Nq817, hh817, p817_0⟩ := hQ817
              have N817 := Fr.app N812 Nq817
              refine gy (St T817 m 108 #[vi p1, vi p2, vi p3, vi p4, vi p5, vi p6, vi 4, vi v770, vi v771, vi v772, vi v773, vi v774, vr b803, vi 0] [(.int v817)]) (fun _ k => st817 _ k) ?_
              rcases p817_0 with ⟨rfl, e818⟩ | ⟨rfl, e818⟩
              · skip
                exact absurd e818.2.2.2 e813
              · skip
                refine gy (St T817 m 118 #[vi p1, vi p2, vi p3, vi p4, vi p5, vi p6, vi 4, vi v770, vi v771, vi v772, vi v773, vi v774, vr b803, vi 0] [(.int 1)]) (fun _ k => XS.iload X817.here hx rfl (dk at_108) rfl (XS.icmpNo X817.here hx rfl (dk at_110) rfl (teq (by decide : (0 : Int32) = (0 : Int32))).2 (XS.iconst X817.here hx rfl (dk at_113) (XS.goto X817.here hx rfl (pc0 := 114) (pc' := 118) rfl (dk at_114) (by decide) (by decide) k)))) ?_
                have hkE819 : _ ≤ T817.heap.size := (by rw [hh817]; exact (Nat.le_trans hk K803.1))
                have CE819 : CHr Z own_EL s.vm s.heap s.vm T817.heap := (by rw [hh817]; exact C804)
                refine Go.retS X817 hx hlk hS hkE819 hZ hEL CE819 (t := .boolean) hret rfl (Or.inl ⟨rfl, by simp, _, rfl⟩) (dk at_118) (by decide) (by decide) ?_
                exact ⟨rfl, N817⟩
          · skip
            refine gy (St T810 m 105 #[vi p1, vi p2, vi p3, vi p4, vi p5, vi p6, vi 4, vi v770, vi v771, vi v772, vi v773, vi v774, vr b803, vi 0] [(.ref b803)]) (fun _ k => XS.ifYes X810.here hx rfl (pc0 := 85) (pc' := 100) rfl (dk at_85) rfl ((if0 _ _).trans (teq (by decide : (0 : Int32) = (0 : Int32))).1) (by decide) (by decide) (XS.iconst X810.here hx rfl (dk at_100) (XS.istore X810.here hx rfl (dk at_101) rfl (l' := #[vi p1, vi p2, vi p3, vi p4, vi p5, vi p6, vi 4, vi v770, vi v771, vi v772, vi v773, vi v774, vr b803, vi 0]) rfl (XS.aload X810.here hx rfl (dk at_103) rfl rfl k)))) ?_
            obtain ⟨_, _, ⟨T820, L820, k820, n820⟩, -, X820, ⟨Lc820, hQ820, l820, y820, z820⟩, st820⟩ := Jvm.LawKit.callS X810 hx (y := Y1) hown (mvT hZ (wd hw 31 rfl)) (mvT hZ (wd hw 32 rfl)) (mvT hZ (wd hw 33 rfl)) (mvT hZ (wd hw 34 rfl)) (by decide) (backOf (W := 0) (rm_isY_4_0 l Z a0 hw [] b803 t803 k803 cs fm v770 v771 v772 v773 T803.heap n0 Z804 O804 pr1 hcs pr6 hr_fm p803_0 p803_1 F805 V805 p770_0 p771_0 p772_0 p773_0 U805.1 U805.2.1 U805.2.2.1 U805.2.2.2) hZ (wd hw 34 rfl) (wd hw 33 rfl) (by decide) (by decide)) (g := (mkF m 105 #[vi p1, vi p2, vi p3, vi p4, vi p5, vi p6, vi 4, vi v770, vi v771, vi v772, vi v773, vi v774, vr b803, vi 0] [(.ref b803)])) rfl (by rw [hml]; rfl) (argsL := [(.ref b803)]) (rest := []) (lenOf pd_19 rfl) rfl (by show 2 * 0 + _ ≤ _; exact Nat.le_of_eq rfl) (dk at_105) (fun _ _ => ⟨rfl, hh810, Nat.le_of_ble_eq_true rfl, Nat.le_of_ble_eq_true rfl⟩)
            dsimp only [Pt.U, Pt.locs, Pt.cells, Pt.slots] at X820 l820 y820 z820 st820 hQ820
            subst l820 y820 z820
            obtain ⟨v820, rfl, Nq820, hh820, p820_0⟩ := hQ820
            have N820 := Fr.app N810 Nq820
            refine gy (St T820 m 108 #[vi p1, vi p2, vi p3, vi p4, vi p5, vi p6, vi 4, vi v770, vi v771, vi v772, vi v773, vi v774, vr b803, vi 0] [(.int v820)]) (fun _ k => st820 _ k) ?_
            rcases p820_0 with ⟨rfl, e821⟩ | ⟨rfl, e821⟩
            · skip
              exact absurd e821.2.2.1 e811
            · skip
              refine gy (St T820 m 118 #[vi p1, vi p2, vi p3, vi p4, vi p5, vi p6, vi 4, vi v770, vi v771, vi v772, vi v773, vi v774, vr b803, vi 0] [(.int 1)]) (fun _ k => XS.iload X820.here hx rfl (dk at_108) rfl (XS.icmpNo X820.here hx rfl (dk at_110) rfl (teq (by decide : (0 : Int32) = (0 : Int32))).2 (XS.iconst X820.here hx rfl (dk at_113) (XS.goto X820.here hx rfl (pc0 := 114) (pc' := 118) rfl (dk at_114) (by decide) (by decide) k)))) ?_
              have hkE822 : _ ≤ T820.heap.size := (by rw [hh820]; exact (Nat.le_trans hk K803.1))
              have CE822 : CHr Z own_EL s.vm s.heap s.vm T820.heap := (by rw [hh820]; exact C804)
              refine Go.retS X820 hx hlk hS hkE822 hZ hEL CE822 (t := .boolean) hret rfl (Or.inl ⟨rfl, by simp, _, rfl⟩) (dk at_118) (by decide) (by decide) ?_
              exact ⟨rfl, N820⟩
        · skip
          refine gy (St T808 m 105 #[vi p1, vi p2, vi p3, vi p4, vi p5, vi p6, vi 4, vi v770, vi v771, vi v772, vi v773, vi v774, vr b803, vi 0] [(.ref b803)]) (fun _ k => XS.ifYes X808.here hx rfl (pc0 := 77) (pc' := 100) rfl (dk at_77) rfl ((if0 _ _).trans (teq (by decide : (0 : Int32) = (0 : Int32))).1) (by decide) (by decide) (XS.iconst X808.here hx rfl (dk at_100) (XS.istore X808.here hx rfl (dk at_101) rfl (l' := #[vi p1, vi p2, vi p3, vi p4, vi p5, vi p6, vi 4, vi v770, vi v771, vi v772, vi v773, vi v774, vr b803, vi 0]) rfl (XS.aload X808.here hx rfl (dk at_103) rfl rfl k)))) ?_
          obtain ⟨_, _, ⟨T823, L823, k823, n823⟩, -, X823, ⟨Lc823, hQ823, l823, y823, z823⟩, st823⟩ := Jvm.LawKit.callS X808 hx (y := Y1) hown (mvT hZ (wd hw 31 rfl)) (mvT hZ (wd hw 32 rfl)) (mvT hZ (wd hw 33 rfl)) (mvT hZ (wd hw 34 rfl)) (by decide) (backOf (W := 0) (rm_isY_4_0 l Z a0 hw [] b803 t803 k803 cs fm v770 v771 v772 v773 T803.heap n0 Z804 O804 pr1 hcs pr6 hr_fm p803_0 p803_1 F805 V805 p770_0 p771_0 p772_0 p773_0 U805.1 U805.2.1 U805.2.2.1 U805.2.2.2) hZ (wd hw 34 rfl) (wd hw 33 rfl) (by decide) (by decide)) (g := (mkF m 105 #[vi p1, vi p2, vi p3, vi p4, vi p5, vi p6, vi 4, vi v770, vi v771, vi v772, vi v773, vi v774, vr b803, vi 0] [(.ref b803)])) rfl (by rw [hml]; rfl) (argsL := [(.ref b803)]) (rest := []) (lenOf pd_19 rfl) rfl (by show 2 * 0 + _ ≤ _; exact Nat.le_of_eq rfl) (dk at_105) (fun _ _ => ⟨rfl, hh808, Nat.le_of_ble_eq_true rfl, Nat.le_of_ble_eq_true rfl⟩)
          dsimp only [Pt.U, Pt.locs, Pt.cells, Pt.slots] at X823 l823 y823 z823 st823 hQ823
          subst l823 y823 z823
          obtain ⟨v823, rfl, Nq823, hh823, p823_0⟩ := hQ823
          have N823 := Fr.app N808 Nq823
          refine gy (St T823 m 108 #[vi p1, vi p2, vi p3, vi p4, vi p5, vi p6, vi 4, vi v770, vi v771, vi v772, vi v773, vi v774, vr b803, vi 0] [(.int v823)]) (fun _ k => st823 _ k) ?_
          rcases p823_0 with ⟨rfl, e824⟩ | ⟨rfl, e824⟩
          · skip
            exact absurd e824.2.1 e809
          · skip
            refine gy (St T823 m 118 #[vi p1, vi p2, vi p3, vi p4, vi p5, vi p6, vi 4, vi v770, vi v771, vi v772, vi v773, vi v774, vr b803, vi 0] [(.int 1)]) (fun _ k => XS.iload X823.here hx rfl (dk at_108) rfl (XS.icmpNo X823.here hx rfl (dk at_110) rfl (teq (by decide : (0 : Int32) = (0 : Int32))).2 (XS.iconst X823.here hx rfl (dk at_113) (XS.goto X823.here hx rfl (pc0 := 114) (pc' := 118) rfl (dk at_114) (by decide) (by decide) k)))) ?_
            have hkE825 : _ ≤ T823.heap.size := (by rw [hh823]; exact (Nat.le_trans hk K803.1))
            have CE825 : CHr Z own_EL s.vm s.heap s.vm T823.heap := (by rw [hh823]; exact C804)
            refine Go.retS X823 hx hlk hS hkE825 hZ hEL CE825 (t := .boolean) hret rfl (Or.inl ⟨rfl, by simp, _, rfl⟩) (dk at_118) (by decide) (by decide) ?_
            exact ⟨rfl, N823⟩
      · skip
        refine gy (St T806 m 105 #[vi p1, vi p2, vi p3, vi p4, vi p5, vi p6, vi 4, vi v770, vi v771, vi v772, vi v773, vi v774, vr b803, vi 0] [(.ref b803)]) (fun _ k => XS.ifYes X806.here hx rfl (pc0 := 69) (pc' := 100) rfl (dk at_69) rfl ((if0 _ _).trans (teq (by decide : (0 : Int32) = (0 : Int32))).1) (by decide) (by decide) (XS.iconst X806.here hx rfl (dk at_100) (XS.istore X806.here hx rfl (dk at_101) rfl (l' := #[vi p1, vi p2, vi p3, vi p4, vi p5, vi p6, vi 4, vi v770, vi v771, vi v772, vi v773, vi v774, vr b803, vi 0]) rfl (XS.aload X806.here hx rfl (dk at_103) rfl rfl k)))) ?_
        obtain ⟨_, _, ⟨T826, L826, k826, n826⟩, -, X826, ⟨Lc826, hQ826, l826, y826, z826⟩, st826⟩ := Jvm.LawKit.callS X806 hx (y := Y1) hown (mvT hZ (wd hw 31 rfl)) (mvT hZ (wd hw 32 rfl)) (mvT hZ (wd hw 33 rfl)) (mvT hZ (wd hw 34 rfl)) (by decide) (backOf (W := 0) (rm_isY_4_0 l Z a0 hw [] b803 t803 k803 cs fm v770 v771 v772 v773 T803.heap n0 Z804 O804 pr1 hcs pr6 hr_fm p803_0 p803_1 F805 V805 p770_0 p771_0 p772_0 p773_0 U805.1 U805.2.1 U805.2.2.1 U805.2.2.2) hZ (wd hw 34 rfl) (wd hw 33 rfl) (by decide) (by decide)) (g := (mkF m 105 #[vi p1, vi p2, vi p3, vi p4, vi p5, vi p6, vi 4, vi v770, vi v771, vi v772, vi v773, vi v774, vr b803, vi 0] [(.ref b803)])) rfl (by rw [hml]; rfl) (argsL := [(.ref b803)]) (rest := []) (lenOf pd_19 rfl) rfl (by show 2 * 0 + _ ≤ _; exact Nat.le_of_eq rfl) (dk at_105) (fun _ _ => ⟨rfl, hh806, Nat.le_of_ble_eq_true rfl, Nat.le_of_ble_eq_true rfl⟩)
        dsimp only [Pt.U, Pt.locs, Pt.cells, Pt.slots] at X826 l826 y826 z826 st826 hQ826
        subst l826 y826 z826
        obtain ⟨v826, rfl, Nq826, hh826, p826_0⟩ := hQ826
        have N826 := Fr.app N806 Nq826
        refine gy (St T826 m 108 #[vi p1, vi p2, vi p3, vi p4, vi p5, vi p6, vi 4, vi v770, vi v771, vi v772, vi v773, vi v774, vr b803, vi 0] [(.int v826)]) (fun _ k => st826 _ k) ?_
        rcases p826_0 with ⟨rfl, e827⟩ | ⟨rfl, e827⟩
        · skip
          exact absurd e827.1 e807
        · skip
          refine gy (St T826 m 118 #[vi p1, vi p2, vi p3, vi p4, vi p5, vi p6, vi 4, vi v770, vi v771, vi v772, vi v773, vi v774, vr b803, vi 0] [(.int 1)]) (fun _ k => XS.iload X826.here hx rfl (dk at_108) rfl (XS.icmpNo X826.here hx rfl (dk at_110) rfl (teq (by decide : (0 : Int32) = (0 : Int32))).2 (XS.iconst X826.here hx rfl (dk at_113) (XS.goto X826.here hx rfl (pc0 := 114) (pc' := 118) rfl (dk at_114) (by decide) (by decide) k)))) ?_
          have hkE828 : _ ≤ T826.heap.size := (by rw [hh826]; exact (Nat.le_trans hk K803.1))
          have CE828 : CHr Z own_EL s.vm s.heap s.vm T826.heap := (by rw [hh826]; exact C804)
          refine Go.retS X826 hx hlk hS hkE828 hZ hEL CE828 (t := .boolean) hret rfl (Or.inl ⟨rfl, by simp, _, rfl⟩) (dk at_118) (by decide) (by decide) ?_
          exact ⟨rfl, N826⟩
    · skip
      have V829 := p803_6 rfl
      have F829 := p803_8 rfl
      refine gy (St T803 m 66 #[vi p1, vi p2, vi p3, vi p4, vi p5, vi p6, vi 4, vi v770, vi v771, vi v772, vi v773, vi v774, vr b803, .unset] [(.int v770)]) (fun _ k => XS.astore X803.here hx rfl (dk at_56) rfl rfl (l' := #[vi p1, vi p2, vi p3, vi p4, vi p5, vi p6, vi 4, vi v770, vi v771, vi v772, vi v773, vi v774, vr b803, .unset]) rfl (XS.iload X803.here hx rfl (dk at_58) rfl (XS.iconst X803.here hx rfl (dk at_60) (XS.icmpNo X803.here hx rfl (dk at_61) rfl (teq (by decide : (4 : Int32) = (4 : Int32))).2 (XS.iload X803.here hx rfl (dk at_64) rfl k))))) ?_
      obtain ⟨_, _, ⟨T830, L830, k830, n830⟩, -, X830, ⟨Lc830, hQ830, l830, y830, z830⟩, st830⟩ := Jvm.LawKit.callS X803 hx (y := Y2) hown (mvT hZ (wd hw 56 rfl)) (mvT hZ (wd hw 57 rfl)) (mvT hZ (wd hw 3 rfl)) (mvT hZ (wd hw 58 rfl)) (by decide) (backOf (W := 0) (rm_dig l Z a0 hw [] v770 T803.heap n0 Z804 ) hZ (wd hw 58 rfl) (wd hw 3 rfl) (by decide) (by decide)) (g := (mkF m 66 #[vi p1, vi p2, vi p3, vi p4, vi p5, vi p6, vi 4, vi v770, vi v771, vi v772, vi v773, vi v774, vr b803, .unset] [(.int v770)])) rfl (by rw [hml]; rfl) (argsL := [(.int v770)]) (rest := []) (lenOf pd_20 rfl) rfl (by show 2 * 0 + _ ≤ _; exact Nat.le_of_eq rfl) (dk at_66) (fun _ _ => ⟨rfl, rfl, Nat.le_of_ble_eq_true rfl, Nat.le_of_ble_eq_true rfl⟩)
      dsimp only [Pt.U, Pt.locs, Pt.cells, Pt.slots] at X830 l830 y830 z830 st830 hQ830
      subst l830 y830 z830
      obtain ⟨v830, rfl, Nq830, hh830, p830_0⟩ := hQ830
      have N830 := Fr.app N803 Nq830
      refine gy (St T830 m 69 #[vi p1, vi p2, vi p3, vi p4, vi p5, vi p6, vi 4, vi v770, vi v771, vi v772, vi v773, vi v774, vr b803, .unset] [(.int v830)]) (fun _ k => st830 _ k) ?_
      rcases p830_0 with ⟨rfl, e831⟩ | ⟨rfl, e831⟩
      · skip
        refine gy (St T830 m 74 #[vi p1, vi p2, vi p3, vi p4, vi p5, vi p6, vi 4, vi v770, vi v771, vi v772, vi v773, vi v774, vr b803, .unset] [(.int v771)]) (fun _ k => XS.ifNo X830.here hx rfl (dk at_69) rfl ((if0 _ _).trans (feq (by decide : ¬ ((1 : Int32) = (0 : Int32)))).1) (XS.iload X830.here hx rfl (dk at_72) rfl k)) ?_
        obtain ⟨_, _, ⟨T832, L832, k832, n832⟩, -, X832, ⟨Lc832, hQ832, l832, y832, z832⟩, st832⟩ := Jvm.LawKit.callS X830 hx (y := Y2) hown (mvT hZ (wd hw 56 rfl)) (mvT hZ (wd hw 57 rfl)) (mvT hZ (wd hw 3 rfl)) (mvT hZ (wd hw 58 rfl)) (by decide) (backOf (W := 0) (rm_dig l Z a0 hw [] v771 T803.heap n0 Z804 ) hZ (wd hw 58 rfl) (wd hw 3 rfl) (by decide) (by decide)) (g := (mkF m 74 #[vi p1, vi p2, vi p3, vi p4, vi p5, vi p6, vi 4, vi v770, vi v771, vi v772, vi v773, vi v774, vr b803, .unset] [(.int v771)])) rfl (by rw [hml]; rfl) (argsL := [(.int v771)]) (rest := []) (lenOf pd_20 rfl) rfl (by show 2 * 0 + _ ≤ _; exact Nat.le_of_eq rfl) (dk at_74) (fun _ _ => ⟨rfl, hh830, Nat.le_of_ble_eq_true rfl, Nat.le_of_ble_eq_true rfl⟩)
        dsimp only [Pt.U, Pt.locs, Pt.cells, Pt.slots] at X832 l832 y832 z832 st832 hQ832
        subst l832 y832 z832
        obtain ⟨v832, rfl, Nq832, hh832, p832_0⟩ := hQ832
        have N832 := Fr.app N830 Nq832
        refine gy (St T832 m 77 #[vi p1, vi p2, vi p3, vi p4, vi p5, vi p6, vi 4, vi v770, vi v771, vi v772, vi v773, vi v774, vr b803, .unset] [(.int v832)]) (fun _ k => st832 _ k) ?_
        rcases p832_0 with ⟨rfl, e833⟩ | ⟨rfl, e833⟩
        · skip
          refine gy (St T832 m 82 #[vi p1, vi p2, vi p3, vi p4, vi p5, vi p6, vi 4, vi v770, vi v771, vi v772, vi v773, vi v774, vr b803, .unset] [(.int v772)]) (fun _ k => XS.ifNo X832.here hx rfl (dk at_77) rfl ((if0 _ _).trans (feq (by decide : ¬ ((1 : Int32) = (0 : Int32)))).1) (XS.iload X832.here hx rfl (dk at_80) rfl k)) ?_
          obtain ⟨_, _, ⟨T834, L834, k834, n834⟩, -, X834, ⟨Lc834, hQ834, l834, y834, z834⟩, st834⟩ := Jvm.LawKit.callS X832 hx (y := Y2) hown (mvT hZ (wd hw 56 rfl)) (mvT hZ (wd hw 57 rfl)) (mvT hZ (wd hw 3 rfl)) (mvT hZ (wd hw 58 rfl)) (by decide) (backOf (W := 0) (rm_dig l Z a0 hw [] v772 T803.heap n0 Z804 ) hZ (wd hw 58 rfl) (wd hw 3 rfl) (by decide) (by decide)) (g := (mkF m 82 #[vi p1, vi p2, vi p3, vi p4, vi p5, vi p6, vi 4, vi v770, vi v771, vi v772, vi v773, vi v774, vr b803, .unset] [(.int v772)])) rfl (by rw [hml]; rfl) (argsL := [(.int v772)]) (rest := []) (lenOf pd_20 rfl) rfl (by show 2 * 0 + _ ≤ _; exact Nat.le_of_eq rfl) (dk at_82) (fun _ _ => ⟨rfl, hh832, Nat.le_of_ble_eq_true rfl, Nat.le_of_ble_eq_true rfl⟩)
          dsimp only [Pt.U, Pt.locs, Pt.cells, Pt.slots] at X834 l834 y834 z834 st834 hQ834
          subst l834 y834 z834
          obtain ⟨v834, rfl, Nq834, hh834, p834_0⟩ := hQ834
          have N834 := Fr.app N832 Nq834
          refine gy (St T834 m 85 #[vi p1, vi p2, vi p3, vi p4, vi p5, vi p6, vi 4, vi v770, vi v771, vi v772, vi v773, vi v774, vr b803, .unset] [(.int v834)]) (fun _ k => st834 _ k) ?_
          rcases p834_0 with ⟨rfl, e835⟩ | ⟨rfl, e835⟩
          · skip
            refine gy (St T834 m 90 #[vi p1, vi p2, vi p3, vi p4, vi p5, vi p6, vi 4, vi v770, vi v771, vi v772, vi v773, vi v774, vr b803, .unset] [(.int v773)]) (fun _ k => XS.ifNo X834.here hx rfl (dk at_85) rfl ((if0 _ _).trans (feq (by decide : ¬ ((1 : Int32) = (0 : Int32)))).1) (XS.iload X834.here hx rfl (dk at_88) rfl k)) ?_
            obtain ⟨_, _, ⟨T836, L836, k836, n836⟩, -, X836, ⟨Lc836, hQ836, l836, y836, z836⟩, st836⟩ := Jvm.LawKit.callS X834 hx (y := Y2) hown (mvT hZ (wd hw 56 rfl)) (mvT hZ (wd hw 57 rfl)) (mvT hZ (wd hw 3 rfl)) (mvT hZ (wd hw 58 rfl)) (by decide) (backOf (W := 0) (rm_dig l Z a0 hw [] v773 T803.heap n0 Z804 ) hZ (wd hw 58 rfl) (wd hw 3 rfl) (by decide) (by decide)) (g := (mkF m 90 #[vi p1, vi p2, vi p3, vi p4, vi p5, vi p6, vi 4, vi v770, vi v771, vi v772, vi v773, vi v774, vr b803, .unset] [(.int v773)])) rfl (by rw [hml]; rfl) (argsL := [(.int v773)]) (rest := []) (lenOf pd_20 rfl) rfl (by show 2 * 0 + _ ≤ _; exact Nat.le_of_eq rfl) (dk at_90) (fun _ _ => ⟨rfl, hh834, Nat.le_of_ble_eq_true rfl, Nat.le_of_ble_eq_true rfl⟩)
            dsimp only [Pt.U, Pt.locs, Pt.cells, Pt.slots] at X836 l836 y836 z836 st836 hQ836
            subst l836 y836 z836
            obtain ⟨v836, rfl, Nq836, hh836, p836_0⟩ := hQ836
            have N836 := Fr.app N834 Nq836
            refine gy (St T836 m 93 #[vi p1, vi p2, vi p3, vi p4, vi p5, vi p6, vi 4, vi v770, vi v771, vi v772, vi v773, vi v774, vr b803, .unset] [(.int v836)]) (fun _ k => st836 _ k) ?_
            rcases p836_0 with ⟨rfl, e837⟩ | ⟨rfl, e837⟩
            · skip
              refine gy (St T836 m 105 #[vi p1, vi p2, vi p3, vi p4, vi p5, vi p6, vi 4, vi v770, vi v771, vi v772, vi v773, vi v774, vr b803, vi 1] [(.ref b803)]) (fun _ k => XS.ifNo X836.here hx rfl (dk at_93) rfl ((if0 _ _).trans (feq (by decide : ¬ ((1 : Int32) = (0 : Int32)))).1) (XS.iconst X836.here hx rfl (dk at_96) (XS.goto X836.here hx rfl (pc0 := 97) (pc' := 101) rfl (dk at_97) (by decide) (by decide) (XS.istore X836.here hx rfl (dk at_101) rfl (l' := #[vi p1, vi p2, vi p3, vi p4, vi p5, vi p6, vi 4, vi v770, vi v771, vi v772, vi v773, vi v774, vr b803, vi 1]) rfl (XS.aload X836.here hx rfl (dk at_103) rfl rfl k))))) ?_
              obtain ⟨_, _, ⟨T838, L838, k838, n838⟩, -, X838, ⟨Lc838, hQ838, l838, y838, z838⟩, st838⟩ := Jvm.LawKit.callS X836 hx (y := Y1) hown (mvT hZ (wd hw 31 rfl)) (mvT hZ (wd hw 32 rfl)) (mvT hZ (wd hw 33 rfl)) (mvT hZ (wd hw 34 rfl)) (by decide) (backOf (W := 0) (rm_isY_4_1 l Z a0 hw [] b803 t803 k803 cs fm v770 v771 v772 v773 T803.heap n0 Z804 O804 pr1 hcs pr6 hr_fm pr3 pr4 pr5 p803_0 p803_1 F829 V829 p770_0 p771_0 p772_0 p773_0) hZ (wd hw 34 rfl) (wd hw 33 rfl) (by decide) (by decide)) (g := (mkF m 105 #[vi p1, vi p2, vi p3, vi p4, vi p5, vi p6, vi 4, vi v770, vi v771, vi v772, vi v773, vi v774, vr b803, vi 1] [(.ref b803)])) rfl (by rw [hml]; rfl) (argsL := [(.ref b803)]) (rest := []) (lenOf pd_19 rfl) rfl (by show 2 * 0 + _ ≤ _; exact Nat.le_of_eq rfl) (dk at_105) (fun _ _ => ⟨rfl, hh836, Nat.le_of_ble_eq_true rfl, Nat.le_of_ble_eq_true rfl⟩)
              dsimp only [Pt.U, Pt.locs, Pt.cells, Pt.slots] at X838 l838 y838 z838 st838 hQ838
              subst l838 y838 z838
              obtain ⟨v838, rfl, Nq838, hh838, p838_0⟩ := hQ838
              have N838 := Fr.app N836 Nq838
              refine gy (St T838 m 108 #[vi p1, vi p2, vi p3, vi p4, vi p5, vi p6, vi 4, vi v770, vi v771, vi v772, vi v773, vi v774, vr b803, vi 1] [(.int v838)]) (fun _ k => st838 _ k) ?_
              rcases p838_0 with ⟨rfl, e839⟩ | ⟨rfl, e839⟩
              · skip
                refine gy (St T838 m 118 #[vi p1, vi p2, vi p3, vi p4, vi p5, vi p6, vi 4, vi v770, vi v771, vi v772, vi v773, vi v774, vr b803, vi 1] [(.int 1)]) (fun _ k => XS.iload X838.here hx rfl (dk at_108) rfl (XS.icmpNo X838.here hx rfl (dk at_110) rfl (teq (by decide : (1 : Int32) = (1 : Int32))).2 (XS.iconst X838.here hx rfl (dk at_113) (XS.goto X838.here hx rfl (pc0 := 114) (pc' := 118) rfl (dk at_114) (by decide) (by decide) k)))) ?_
                have hkE840 : _ ≤ T838.heap.size := (by rw [hh838]; exact (Nat.le_trans hk K803.1))
                have CE840 : CHr Z own_EL s.vm s.heap s.vm T838.heap := (by rw [hh838]; exact C804)
                refine Go.retS X838 hx hlk hS hkE840 hZ hEL CE840 (t := .boolean) hret rfl (Or.inl ⟨rfl, by simp, _, rfl⟩) (dk at_118) (by decide) (by decide) ?_
                exact ⟨rfl, N838⟩
              · skip
                exact absurd ⟨e831, e833, e835, e837⟩ e839
            · skip
              refine gy (St T836 m 105 #[vi p1, vi p2, vi p3, vi p4, vi p5, vi p6, vi 4, vi v770, vi v771, vi v772, vi v773, vi v774, vr b803, vi 0] [(.ref b803)]) (fun _ k => XS.ifYes X836.here hx rfl (pc0 := 93) (pc' := 100) rfl (dk at_93) rfl ((if0 _ _).trans (teq (by decide : (0 : Int32) = (0 : Int32))).1) (by decide) (by decide) (XS.iconst X836.here hx rfl (dk at_100) (XS.istore X836.here hx rfl (dk at_101) rfl (l' := #[vi p1, vi p2, vi p3, vi p4, vi p5, vi p6, vi 4, vi v770, vi v771, vi v772, vi v773, vi v774, vr b803, vi 0]) rfl (XS.aload X836.here hx rfl (dk at_103) rfl rfl k)))) ?_
              obtain ⟨_, _, ⟨T841, L841, k841, n841⟩, -, X841, ⟨Lc841, hQ841, l841, y841, z841⟩, st841⟩ := Jvm.LawKit.callS X836 hx (y := Y1) hown (mvT hZ (wd hw 31 rfl)) (mvT hZ (wd hw 32 rfl)) (mvT hZ (wd hw 33 rfl)) (mvT hZ (wd hw 34 rfl)) (by decide) (backOf (W := 0) (rm_isY_4_1 l Z a0 hw [] b803 t803 k803 cs fm v770 v771 v772 v773 T803.heap n0 Z804 O804 pr1 hcs pr6 hr_fm pr3 pr4 pr5 p803_0 p803_1 F829 V829 p770_0 p771_0 p772_0 p773_0) hZ (wd hw 34 rfl) (wd hw 33 rfl) (by decide) (by decide)) (g := (mkF m 105 #[vi p1, vi p2, vi p3, vi p4, vi p5, vi p6, vi 4, vi v770, vi v771, vi v772, vi v773, vi v774, vr b803, vi 0] [(.ref b803)])) rfl (by rw [hml]; rfl) (argsL := [(.ref b803)]) (rest := []) (lenOf pd_19 rfl) rfl (by show 2 * 0 + _ ≤ _; exact Nat.le_of_eq rfl) (dk at_105) (fun _ _ => ⟨rfl, hh836, Nat.le_of_ble_eq_true rfl, Nat.le_of_ble_eq_true rfl⟩)
              dsimp only [Pt.U, Pt.locs, Pt.cells, Pt.slots] at X841 l841 y841 z841 st841 hQ841
              subst l841 y841 z841
              obtain ⟨v841, rfl, Nq841, hh841, p841_0⟩ := hQ841
              have N841 := Fr.app N836 Nq841
              refine gy (St T841 m 108 #[vi p1, vi p2, vi p3, vi p4, vi p5, vi p6, vi 4, vi v770, vi v771, vi v772, vi v773, vi v774, vr b803, vi 0] [(.int v841)]) (fun _ k => st841 _ k) ?_
              rcases p841_0 with ⟨rfl, e842⟩ | ⟨rfl, e842⟩
              · skip
                exact absurd e842.2.2.2 e837
              · skip
                refine gy (St T841 m 118 #[vi p1, vi p2, vi p3, vi p4, vi p5, vi p6, vi 4, vi v770, vi v771, vi v772, vi v773, vi v774, vr b803, vi 0] [(.int 1)]) (fun _ k => XS.iload X841.here hx rfl (dk at_108) rfl (XS.icmpNo X841.here hx rfl (dk at_110) rfl (teq (by decide : (0 : Int32) = (0 : Int32))).2 (XS.iconst X841.here hx rfl (dk at_113) (XS.goto X841.here hx rfl (pc0 := 114) (pc' := 118) rfl (dk at_114) (by decide) (by decide) k)))) ?_
                have hkE843 : _ ≤ T841.heap.size := (by rw [hh841]; exact (Nat.le_trans hk K803.1))
                have CE843 : CHr Z own_EL s.vm s.heap s.vm T841.heap := (by rw [hh841]; exact C804)
                refine Go.retS X841 hx hlk hS hkE843 hZ hEL CE843 (t := .boolean) hret rfl (Or.inl ⟨rfl, by simp, _, rfl⟩) (dk at_118) (by decide) (by decide) ?_
                exact ⟨rfl, N841⟩
          · skip
            refine gy (St T834 m 105 #[vi p1, vi p2, vi p3, vi p4, vi p5, vi p6, vi 4, vi v770, vi v771, vi v772, vi v773, vi v774, vr b803, vi 0] [(.ref b803)]) (fun _ k => XS.ifYes X834.here hx rfl (pc0 := 85) (pc' := 100) rfl (dk at_85) rfl ((if0 _ _).trans (teq (by decide : (0 : Int32) = (0 : Int32))).1) (by decide) (by decide) (XS.iconst X834.here hx rfl (dk at_100) (XS.istore X834.here hx rfl (dk at_101) rfl (l' := #[vi p1, vi p2, vi p3, vi p4, vi p5, vi p6, vi 4, vi v770, vi v771, vi v772, vi v773, vi v774, vr b803, vi 0]) rfl (XS.aload X834.here hx rfl (dk at_103) rfl rfl k)))) ?_
            obtain ⟨_, _, ⟨T844, L844, k844, n844⟩, -, X844, ⟨Lc844, hQ844, l844, y844, z844⟩, st844⟩ := Jvm.LawKit.callS X834 hx (y := Y1) hown (mvT hZ (wd hw 31 rfl)) (mvT hZ (wd hw 32 rfl)) (mvT hZ (wd hw 33 rfl)) (mvT hZ (wd hw 34 rfl)) (by decide) (backOf (W := 0) (rm_isY_4_1 l Z a0 hw [] b803 t803 k803 cs fm v770 v771 v772 v773 T803.heap n0 Z804 O804 pr1 hcs pr6 hr_fm pr3 pr4 pr5 p803_0 p803_1 F829 V829 p770_0 p771_0 p772_0 p773_0) hZ (wd hw 34 rfl) (wd hw 33 rfl) (by decide) (by decide)) (g := (mkF m 105 #[vi p1, vi p2, vi p3, vi p4, vi p5, vi p6, vi 4, vi v770, vi v771, vi v772, vi v773, vi v774, vr b803, vi 0] [(.ref b803)])) rfl (by rw [hml]; rfl) (argsL := [(.ref b803)]) (rest := []) (lenOf pd_19 rfl) rfl (by show 2 * 0 + _ ≤ _; exact Nat.le_of_eq rfl) (dk at_105) (fun _ _ => ⟨rfl, hh834, Nat.le_of_ble_eq_true rfl, Nat.le_of_ble_eq_true rfl⟩)
            dsimp only [Pt.U, Pt.locs, Pt.cells, Pt.slots] at X844 l844 y844 z844 st844 hQ844
            subst l844 y844 z844
            obtain ⟨v844, rfl, Nq844, hh844, p844_0⟩ := hQ844
            have N844 := Fr.app N834 Nq844
            refine gy (St T844 m 108 #[vi p1, vi p2, vi p3, vi p4, vi p5, vi p6, vi 4, vi v770, vi v771, vi v772, vi v773, vi v774, vr b803, vi 0] [(.int v844)]) (fun _ k => st844 _ k) ?_
            rcases p844_0 with ⟨rfl, e845⟩ | ⟨rfl, e845⟩
            · skip
              exact absurd e845.2.2.1 e835
            · skip
              refine gy (St T844 m 118 #[vi p1, vi p2, vi p3, vi p4, vi p5, vi p6, vi 4, vi v770, vi v771, vi v772, vi v773, vi v774, vr b803, vi 0] [(.int 1)]) (fun _ k => XS.iload X844.here hx rfl (dk at_108) rfl (XS.icmpNo X844.here hx rfl (dk at_110) rfl (teq (by decide : (0 : Int32) = (0 : Int32))).2 (XS.iconst X844.here hx rfl (dk at_113) (XS.goto X844.here hx rfl (pc0 := 114) (pc' := 118) rfl (dk at_114) (by decide) (by decide) k)))) ?_
              have hkE846 : _ ≤ T844.heap.size := (by rw [hh844]; exact (Nat.le_trans hk K803.1))
              have CE846 : CHr Z own_EL s.vm s.heap s.vm T844.heap := (by rw [hh844]; exact C804)
              refine Go.retS X844 hx hlk hS hkE846 hZ hEL CE846 (t := .boolean) hret rfl (Or.inl ⟨rfl, by simp, _, rfl⟩) (dk at_118) (by decide) (by decide) ?_
              exact ⟨rfl, N844⟩
        · skip
          refine gy (St T832 m 105 #[vi p1, vi p2, vi p3, vi p4, vi p5, vi p6, vi 4, vi v770, vi v771, vi v772, vi v773, vi v774, vr b803, vi 0] [(.ref b803)]) (fun _ k => XS.ifYes X832.here hx rfl (pc0 := 77) (pc' := 100) rfl (dk at_77) rfl ((if0 _ _).trans (teq (by decide : (0 : Int32) = (0 : Int32))).1) (by decide) (by decide) (XS.iconst X832.here hx rfl (dk at_100) (XS.istore X832.here hx rfl (dk at_101) rfl (l' := #[vi p1, vi p2, vi p3, vi p4, vi p5, vi p6, vi 4, vi v770, vi v771, vi v772, vi v773, vi v774, vr b803, vi 0]) rfl (XS.aload X832.here hx rfl (dk at_103) rfl rfl k)))) ?_
          obtain ⟨_, _, ⟨T847, L847, k847, n847⟩, -, X847, ⟨Lc847, hQ847, l847, y847, z847⟩, st847⟩ := Jvm.LawKit.callS X832 hx (y := Y1) hown (mvT hZ (wd hw 31 rfl)) (mvT hZ (wd hw 32 rfl)) (mvT hZ (wd hw 33 rfl)) (mvT hZ (wd hw 34 rfl)) (by decide) (backOf (W := 0) (rm_isY_4_1 l Z a0 hw [] b803 t803 k803 cs fm v770 v771 v772 v773 T803.heap n0 Z804 O804 pr1 hcs pr6 hr_fm pr3 pr4 pr5 p803_0 p803_1 F829 V829 p770_0 p771_0 p772_0 p773_0) hZ (wd hw 34 rfl) (wd hw 33 rfl) (by decide) (by decide)) (g := (mkF m 105 #[vi p1, vi p2, vi p3, vi p4, vi p5, vi p6, vi 4, vi v770, vi v771, vi v772, vi v773, vi v774, vr b803, vi 0] [(.ref b803)])) rfl (by rw [hml]; rfl) (argsL := [(.ref b803)]) (rest := []) (lenOf pd_19 rfl) rfl (by show 2 * 0 + _ ≤ _; exact Nat.le_of_eq rfl) (dk at_105) (fun _ _ => ⟨rfl, hh832, Nat.le_of_ble_eq_true rfl, Nat.le_of_ble_eq_true rfl⟩)
          dsimp only [Pt.U, Pt.locs, Pt.cells, Pt.slots] at X847 l847 y847 z847 st847 hQ847
          subst l847 y847 z847
          obtain ⟨v847, rfl, Nq847, hh847, p847_0⟩ := hQ847
          have N847 := Fr.app N832 Nq847
          refine gy (St T847 m 108 #[vi p1, vi p2, vi p3, vi p4, vi p5, vi p6, vi 4, vi v770, vi v771, vi v772, vi v773, vi v774, vr b803, vi 0] [(.int v847)]) (fun _ k => st847 _ k) ?_
          rcases p847_0 with ⟨rfl, e848⟩ | ⟨rfl, e848⟩
          · skip
            exact absurd e848.2.1 e833
          · skip
            refine gy (St T847 m 118 #[vi p1, vi p2, vi p3, vi p4, vi p5, vi p6, vi 4, vi v770, vi v771, vi v772, vi v773, vi v774, vr b803, vi 0] [(.int 1)]) (fun _ k => XS.iload X847.here hx rfl (dk at_108) rfl (XS.icmpNo X847.here hx rfl (dk at_110) rfl (teq (by decide : (0 : Int32) = (0 : Int32))).2 (XS.iconst X847.here hx rfl (dk at_113) (XS.goto X847.here hx rfl (pc0 := 114) (pc' := 118) rfl (dk at_114) (by decide) (by decide) k)))) ?_
            have hkE849 : _ ≤ T847.heap.size := (by rw [hh847]; exact (Nat.le_trans hk K803.1))
            have CE849 : CHr Z own_EL s.vm s.heap s.vm T847.heap := (by rw [hh847]; exact C804)
            refine Go.retS X847 hx hlk hS hkE849 hZ hEL CE849 (t := .boolean) hret rfl (Or.inl ⟨rfl, by simp, _, rfl⟩) (dk at_118) (by decide) (by decide) ?_
            exact ⟨rfl, N847⟩
      · skip
        refine gy (St T830 m 105 #[vi p1, vi p2, vi p3, vi p4, vi p5, vi p6, vi 4, vi v770, vi v771, vi v772, vi v773, vi v774, vr b803, vi 0] [(.ref b803)]) (fun _ k => XS.ifYes X830.here hx rfl (pc0 := 69) (pc' := 100) rfl (dk at_69) rfl ((if0 _ _).trans (teq (by decide : (0 : Int32) = (0 : Int32))).1) (by decide) (by decide) (XS.iconst X830.here hx rfl (dk at_100) (XS.istore X830.here hx rfl (dk at_101) rfl (l' := #[vi p1, vi p2, vi p3, vi p4, vi p5, vi p6, vi 4, vi v770, vi v771, vi v772, vi v773, vi v774, vr b803, vi 0]) rfl (XS.aload X830.here hx rfl (dk at_103) rfl rfl k)))) ?_
        obtain ⟨_, _, ⟨T850, L850, k850, n850⟩, -, X850, ⟨Lc850, hQ850, l850, y850, z850⟩, st850⟩ := Jvm.LawKit.callS X830 hx (y := Y1) hown (mvT hZ (wd hw 31 rfl)) (mvT hZ (wd hw 32 rfl)) (mvT hZ (wd hw 33 rfl)) (mvT hZ (wd hw 34 rfl)) (by decide) (backOf (W := 0) (rm_isY_4_1 l Z a0 hw [] b803 t803 k803 cs fm v770 v771 v772 v773 T803.heap n0 Z804 O804 pr1 hcs pr6 hr_fm pr3 pr4 pr5 p803_0 p803_1 F829 V829 p770_0 p771_0 p772_0 p773_0) hZ (wd hw 34 rfl) (wd hw 33 rfl) (by decide) (by decide)) (g := (mkF m 105 #[vi p1, vi p2, vi p3, vi p4, vi p5, vi p6, vi 4, vi v770, vi v771, vi v772, vi v773, vi v774, vr b803, vi 0] [(.ref b803)])) rfl (by rw [hml]; rfl) (argsL := [(.ref b803)]) (rest := []) (lenOf pd_19 rfl) rfl (by show 2 * 0 + _ ≤ _; exact Nat.le_of_eq rfl) (dk at_105) (fun _ _ => ⟨rfl, hh830, Nat.le_of_ble_eq_true rfl, Nat.le_of_ble_eq_true rfl⟩)
        dsimp only [Pt.U, Pt.locs, Pt.cells, Pt.slots] at X850 l850 y850 z850 st850 hQ850
        subst l850 y850 z850
        obtain ⟨v850, rfl, Nq850, hh850, p850_0⟩ := hQ850
        have N850 := Fr.app N830 Nq850
        refine gy (St T850 m 108 #[vi p1, vi p2, vi p3, vi p4, vi p5, vi p6, vi 4, vi v770, vi v771, vi v772, vi v773, vi v774, vr b803, vi 0] [(.int v850)]) (fun _ k => st850 _ k) ?_
        rcases p850_0 with ⟨rfl, e851⟩ | ⟨rfl, e851⟩
        · skip
          exact absurd e851.1 e831
        · skip
          refine gy (St T850 m 118 #[vi p1, vi p2, vi p3, vi p4, vi p5, vi p6, vi 4, vi v770, vi v771, vi v772, vi v773, vi v774, vr b803, vi 0] [(.int 1)]) (fun _ k => XS.iload X850.here hx rfl (dk at_108) rfl (XS.icmpNo X850.here hx rfl (dk at_110) rfl (teq (by decide : (0 : Int32) = (0 : Int32))).2 (XS.iconst X850.here hx rfl (dk at_113) (XS.goto X850.here hx rfl (pc0 := 114) (pc' := 118) rfl (dk at_114) (by decide) (by decide) k)))) ?_
          have hkE852 : _ ≤ T850.heap.size := (by rw [hh850]; exact (Nat.le_trans hk K803.1))
          have CE852 : CHr Z own_EL s.vm s.heap s.vm T850.heap := (by rw [hh850]; exact C804)
          refine Go.retS X850 hx hlk hS hkE852 hZ hEL CE852 (t := .boolean) hret rfl (Or.inl ⟨rfl, by simp, _, rfl⟩) (dk at_118) (by decide) (by decide) ?_
          exact ⟨rfl, N850⟩
  · skip
    refine gy (St T774 m 53 #[vi p1, vi p2, vi p3, vi p4, vi p5, vi p6, vi 5, vi v770, vi v771, vi v772, vi v773, vi v774, .unset, .unset] [(.int v774), (.int v773), (.int v772), (.int v771), (.int v770), (.int 5)]) (fun _ k => XS.iload X774.here hx rfl (dk at_41) rfl (XS.iload X774.here hx rfl (dk at_43) rfl (XS.iload X774.here hx rfl (dk at_45) rfl (XS.iload X774.here hx rfl (dk at_47) rfl (XS.iload X774.here hx rfl (dk at_49) rfl (XS.iload X774.here hx rfl (dk at_51) rfl k)))))) ?_
    obtain ⟨_, _, ⟨T853, L853, k853, n853⟩, -, X853, ⟨Lc853, hQ853, l853, y853, z853⟩, st853⟩ := Jvm.LawKit.callS X774 hx (y := Y4) hown (mvT hZ (wd hw 6 rfl)) (mvT hZ (wd hw 7 rfl)) (mvT hZ (wd hw 3 rfl)) (mvT hZ (wd hw 8 rfl)) (by decide) (backOf (W := 0) (rm_str_5 l Z a0 hw [] v770 v771 v772 v773 v774 cs h0 n0 Z0 pr0 pr1 hcs pr3 pr4 pr5 p770_0 p771_0 p772_0 p773_0 p774_0) hZ (wd hw 8 rfl) (wd hw 3 rfl) (by decide) (by decide)) (g := (mkF m 53 #[vi p1, vi p2, vi p3, vi p4, vi p5, vi p6, vi 5, vi v770, vi v771, vi v772, vi v773, vi v774, .unset, .unset] [(.int v774), (.int v773), (.int v772), (.int v771), (.int v770), (.int 5)])) rfl (by rw [hml]; rfl) (argsL := [(.int 5), (.int v770), (.int v771), (.int v772), (.int v773), (.int v774)]) (rest := []) (lenOf pd_18 rfl) rfl (by show 2 * 0 + _ ≤ _; exact Nat.le_of_eq rfl) (dk at_53) (fun _ _ => ⟨rfl, hh774, Nat.le_of_ble_eq_true rfl, Nat.le_of_ble_eq_true rfl⟩)
    dsimp only [Pt.U, Pt.locs, Pt.cells, Pt.slots] at X853 l853 y853 z853 st853 hQ853
    subst l853 y853 z853
    obtain ⟨b853, t853, k853, u853, rfl, Nq853, K853, p853_0, p853_1, p853_2, p853_3, p853_4, p853_5, p853_6, p853_7, p853_8⟩ := hQ853
    have N853 := Fr.app N774 Nq853
    have C854 := C0.trans (CHr.keep K853 sf0 C0.1)
    have O854 := pr0.keep K853 all0
    have Z854 : n0 ≤ T853.heap.size := Nat.le_trans Z0 K853.1
    have sz_t853 : h0.size ≤ t853 := p853_2
    have sz_b853 : h0.size ≤ b853 := p853_3
    refine gy (St T853 m 56 #[vi p1, vi p2, vi p3, vi p4, vi p5, vi p6, vi 5, vi v770, vi v771, vi v772, vi v773, vi v774, .unset, .unset] [(.ref b853)]) (fun _ k => st853 _ k) ?_
    rcases u853 with _ | _
    · skip
      have V855 := p853_5 rfl
      have F855 := p853_7 rfl
      have U855 := p853_4 rfl
      refine gy (St T853 m 105 #[vi p1, vi p2, vi p3, vi p4, vi p5, vi p6, vi 5, vi v770, vi v771, vi v772, vi v773, vi v774, vr b853, vi 0] [(.ref b853)]) (fun _ k => XS.astore X853.here hx rfl (dk at_56) rfl rfl (l' := #[vi p1, vi p2, vi p3, vi p4, vi p5, vi p6, vi 5, vi v770, vi v771, vi v772, vi v773, vi v774, vr b853, .unset]) rfl (XS.iload X853.here hx rfl (dk at_58) rfl (XS.iconst X853.here hx rfl (dk at_60) (XS.icmpYes X853.here hx rfl (pc0 := 61) (pc' := 100) rfl (dk at_61) rfl (feq (by decide : ¬ ((5 : Int32) = (4 : Int32)))).2 (by decide) (by decide) (XS.iconst X853.here hx rfl (dk at_100) (XS.istore X853.here hx rfl (dk at_101) rfl (l' := #[vi p1, vi p2, vi p3, vi p4, vi p5, vi p6, vi 5, vi v770, vi v771, vi v772, vi v773, vi v774, vr b853, vi 0]) rfl (XS.aload X853.here hx rfl (dk at_103) rfl rfl k))))))) ?_
      obtain ⟨_, _, ⟨T856, L856, k856, n856⟩, -, X856, ⟨Lc856, hQ856, l856, y856, z856⟩, st856⟩ := Jvm.LawKit.callS X853 hx (y := Y1) hown (mvT hZ (wd hw 31 rfl)) (mvT hZ (wd hw 32 rfl)) (mvT hZ (wd hw 33 rfl)) (mvT hZ (wd hw 34 rfl)) (by decide) (backOf (W := 0) (rm_isY_5_0 l Z a0 hw [] b853 t853 k853 cs [(.int (nar .byte (v770.toInt8.toInt32))), (.int (nar .byte (v771.toInt8.toInt32))), (.int (nar .byte (v772.toInt8.toInt32))), (.int (nar .byte (v773.toInt8.toInt32))), (.int (nar .byte (v774.toInt8.toInt32)))] T853.heap n0 Z854 O854 pr1 hcs p853_0 p853_1 F855 V855) hZ (wd hw 34 rfl) (wd hw 33 rfl) (by decide) (by decide)) (g := (mkF m 105 #[vi p1, vi p2, vi p3, vi p4, vi p5, vi p6, vi 5, vi v770, vi v771, vi v772, vi v773, vi v774, vr b853, vi 0] [(.ref b853)])) rfl (by rw [hml]; rfl) (argsL := [(.ref b853)]) (rest := []) (lenOf pd_19 rfl) rfl (by show 2 * 0 + _ ≤ _; exact Nat.le_of_eq rfl) (dk at_105) (fun _ _ => ⟨rfl, rfl, Nat.le_of_ble_eq_true rfl, Nat.le_of_ble_eq_true rfl⟩)
      dsimp only [Pt.U, Pt.locs, Pt.cells, Pt.slots] at X856 l856 y856 z856 st856 hQ856
      subst l856 y856 z856
      obtain ⟨rfl, Nq856, hh856⟩ := hQ856
      have N856 := Fr.app N853 Nq856
      refine gy (St T856 m 108 #[vi p1, vi p2, vi p3, vi p4, vi p5, vi p6, vi 5, vi v770, vi v771, vi v772, vi v773, vi v774, vr b853, vi 0] [(.int 0)]) (fun _ k => st856 _ k) ?_
      refine gy (St T856 m 118 #[vi p1, vi p2, vi p3, vi p4, vi p5, vi p6, vi 5, vi v770, vi v771, vi v772, vi v773, vi v774, vr b853, vi 0] [(.int 1)]) (fun _ k => XS.iload X856.here hx rfl (dk at_108) rfl (XS.icmpNo X856.here hx rfl (dk at_110) rfl (teq (by decide : (0 : Int32) = (0 : Int32))).2 (XS.iconst X856.here hx rfl (dk at_113) (XS.goto X856.here hx rfl (pc0 := 114) (pc' := 118) rfl (dk at_114) (by decide) (by decide) k)))) ?_
      have hkE857 : _ ≤ T856.heap.size := (by rw [hh856]; exact (Nat.le_trans hk K853.1))
      have CE857 : CHr Z own_EL s.vm s.heap s.vm T856.heap := (by rw [hh856]; exact C854)
      refine Go.retS X856 hx hlk hS hkE857 hZ hEL CE857 (t := .boolean) hret rfl (Or.inl ⟨rfl, by simp, _, rfl⟩) (dk at_118) (by decide) (by decide) ?_
      exact ⟨rfl, N856⟩
    · skip
      have V858 := p853_6 rfl
      have F858 := p853_8 rfl
      refine gy (St T853 m 105 #[vi p1, vi p2, vi p3, vi p4, vi p5, vi p6, vi 5, vi v770, vi v771, vi v772, vi v773, vi v774, vr b853, vi 0] [(.ref b853)]) (fun _ k => XS.astore X853.here hx rfl (dk at_56) rfl rfl (l' := #[vi p1, vi p2, vi p3, vi p4, vi p5, vi p6, vi 5, vi v770, vi v771, vi v772, vi v773, vi v774, vr b853, .unset]) rfl (XS.iload X853.here hx rfl (dk at_58) rfl (XS.iconst X853.here hx rfl (dk at_60) (XS.icmpYes X853.here hx rfl (pc0 := 61) (pc' := 100) rfl (dk at_61) rfl (feq (by decide : ¬ ((5 : Int32) = (4 : Int32)))).2 (by decide) (by decide) (XS.iconst X853.here hx rfl (dk at_100) (XS.istore X853.here hx rfl (dk at_101) rfl (l' := #[vi p1, vi p2, vi p3, vi p4, vi p5, vi p6, vi 5, vi v770, vi v771, vi v772, vi v773, vi v774, vr b853, vi 0]) rfl (XS.aload X853.here hx rfl (dk at_103) rfl rfl k))))))) ?_
      obtain ⟨_, _, ⟨T859, L859, k859, n859⟩, -, X859, ⟨Lc859, hQ859, l859, y859, z859⟩, st859⟩ := Jvm.LawKit.callS X853 hx (y := Y1) hown (mvT hZ (wd hw 31 rfl)) (mvT hZ (wd hw 32 rfl)) (mvT hZ (wd hw 33 rfl)) (mvT hZ (wd hw 34 rfl)) (by decide) (backOf (W := 0) (rm_isY_5_1 l Z a0 hw [] b853 t853 k853 cs [(.int (own_b0 v770)), (.int (own_b1 v770)), (.int (own_b0 v771)), (.int (own_b1 v771)), (.int (own_b0 v772)), (.int (own_b1 v772)), (.int (own_b0 v773)), (.int (own_b1 v773)), (.int (own_b0 v774)), (.int (own_b1 v774))] T853.heap n0 Z854 O854 pr1 hcs p853_0 p853_1 F858 V858) hZ (wd hw 34 rfl) (wd hw 33 rfl) (by decide) (by decide)) (g := (mkF m 105 #[vi p1, vi p2, vi p3, vi p4, vi p5, vi p6, vi 5, vi v770, vi v771, vi v772, vi v773, vi v774, vr b853, vi 0] [(.ref b853)])) rfl (by rw [hml]; rfl) (argsL := [(.ref b853)]) (rest := []) (lenOf pd_19 rfl) rfl (by show 2 * 0 + _ ≤ _; exact Nat.le_of_eq rfl) (dk at_105) (fun _ _ => ⟨rfl, rfl, Nat.le_of_ble_eq_true rfl, Nat.le_of_ble_eq_true rfl⟩)
      dsimp only [Pt.U, Pt.locs, Pt.cells, Pt.slots] at X859 l859 y859 z859 st859 hQ859
      subst l859 y859 z859
      obtain ⟨rfl, Nq859, hh859⟩ := hQ859
      have N859 := Fr.app N853 Nq859
      refine gy (St T859 m 108 #[vi p1, vi p2, vi p3, vi p4, vi p5, vi p6, vi 5, vi v770, vi v771, vi v772, vi v773, vi v774, vr b853, vi 0] [(.int 0)]) (fun _ k => st859 _ k) ?_
      refine gy (St T859 m 118 #[vi p1, vi p2, vi p3, vi p4, vi p5, vi p6, vi 5, vi v770, vi v771, vi v772, vi v773, vi v774, vr b853, vi 0] [(.int 1)]) (fun _ k => XS.iload X859.here hx rfl (dk at_108) rfl (XS.icmpNo X859.here hx rfl (dk at_110) rfl (teq (by decide : (0 : Int32) = (0 : Int32))).2 (XS.iconst X859.here hx rfl (dk at_113) (XS.goto X859.here hx rfl (pc0 := 114) (pc' := 118) rfl (dk at_114) (by decide) (by decide) k)))) ?_
      have hkE860 : _ ≤ T859.heap.size := (by rw [hh859]; exact (Nat.le_trans hk K853.1))
      have CE860 : CHr Z own_EL s.vm s.heap s.vm T859.heap := (by rw [hh859]; exact C854)
      refine Go.retS X859 hx hlk hS hkE860 hZ hEL CE860 (t := .boolean) hret rfl (Or.inl ⟨rfl, by simp, _, rfl⟩) (dk at_118) (by decide) (by decide) ?_
      exact ⟨rfl, N859⟩
set_option maxRecDepth 65536 in
set_option maxHeartbeats 40000000 in
theorem comes_1 {Post : Tables → Env → Array Value → State → Outcome → State → Prop} (hpost : ∀ tb e args s v u, (limb_1_1.after args s (.returned v) u = true ∧ limb_1_2.after args s (.returned v) u = true ∧ True) → ReturnedEndW s (.returned v) u (Jvm.fieldLocs frame_1_writes args s ++ Jvm.arrayLocs frame_1_arrays args s ++ Jvm.staticLocs frame_1_statics s) 24 1152 → Post tb e args s (.returned v) u) :
    ArmFor flags0 classFile x code maxLocals ret World_1 tables_1 room_1 Calls_1 rest_1 Pre_1 Post := by
  intro l hfl _ _ p e ha hc hk s m args below hf hA hF happ hP
  obtain ⟨hcalls, hrest, hpre⟩ := hP
  obtain ⟨-, -, -, hnamed, -, -, -, hat⟩ := (Spec.applies_iff hf).mp happ
  obtain ⟨hg, hn⟩ := and_e (Cond.before_iff.mp (show (Jvm.Cond.and given_1 narrow_1).before args s = true from hpre))
  obtain ⟨hg0, hgr0⟩ := and_e hg
  obtain ⟨ga0, hgr1⟩ := and_e hgr0
  obtain ⟨ga1, hgr2⟩ := and_e hgr1
  obtain ⟨ga2, hgr3⟩ := and_e hgr2
  obtain ⟨ga3, hgr4⟩ := and_e hgr3
  obtain ⟨ga4, hgr5⟩ := and_e hgr4
  obtain ⟨w0, w1, w2, w3, w4, w5, rfl⟩ : ∃ w0 w1 w2 w3 w4 w5 : Value, args = #[w0, w1, w2, w3, w4, w5] := by
    have hs : args.size = 6 := by simpa [Cond.value, given_1] using hg0
    obtain ⟨L⟩ := args
    match L, hs with
    | [w0, w1, w2, w3, w4, w5], _ => exact ⟨w0, w1, w2, w3, w4, w5, rfl⟩
  have hw := fun d (hd : d ∈ tables_1) => atoms_spec (ws := Jvm.Cond.code x code maxLocals ret :: tables_1) hat d (List.mem_cons_of_mem _ hd)
  have hfit : Fit s := fun {y c} hc i hi => by
    obtain ⟨ha, rfl⟩ := Array.getElem?_eq_some_iff.mp hc
    have q := List.all_eq_true.mp ((Array.all_eq_true_iff_forall_mem.mp hF) _ (Array.getElem_mem ha)) i (List.mem_range.mpr hi)
    simpa [Array.getElem?_eq_getElem hi] using q
  obtain ⟨hsets, hown0⟩ := atoms_of _ (rest_1_c_eq ▸ (show rest_1_c.before _ s = true from hrest))
  have hr0 := Cond.before_iff.mp hown0
  obtain ⟨i0, ei0⟩ := is_v ga0
  obtain rfl : w0 = (.int i0) := Option.some.inj ei0
  obtain ⟨i1, ei1⟩ := is_v ga1
  obtain rfl : w1 = (.int i1) := Option.some.inj ei1
  obtain ⟨i2, ei2⟩ := is_v ga2
  obtain rfl : w2 = (.int i2) := Option.some.inj ei2
  obtain ⟨i3, ei3⟩ := is_v ga3
  obtain rfl : w3 = (.int i3) := Option.some.inj ei3
  obtain ⟨i4, ei4⟩ := is_v ga4
  obtain rfl : w4 = (.int i4) := Option.some.inj ei4
  obtain ⟨i5, ei5⟩ := is_v hgr5
  obtain rfl : w5 = (.int i5) := Option.some.inj ei5
  have ncs := not_v (Cond.before_iff.mp (hsets _ (List.mem_of_getElem? (i := 2) rfl)))
  obtain ⟨cs, ecs⟩ := is_v (Cond.before_iff.mp (hsets _ (List.mem_of_getElem? (i := 1) rfl)))
  have Scs : Sta s s.heap "java/lang/String" "COMPACT_STRINGS" "Z" (.int cs) := Sta.start ecs (Or.inl (hsets _ (List.mem_of_getElem? (i := 0) rfl)))
  have hcs : ¬ (cs = (0 : Int32)) := gotF (Cond.eq_ints ecs (Term.int_eval (0))) ncs
  have Su__assertionsDisabled : Sta s s.heap "java/lang/StringUTF16" "$assertionsDisabled" "Z" (.int 1) := Sta.start (own_eqk (Cond.before_iff.mp (hsets _ (List.mem_of_getElem? (i := 12) rfl)))) (Or.inl (hsets _ (List.mem_of_getElem? (i := 11) rfl)))
  have Su_HI_BYTE_SHIFT : Sta s s.heap "java/lang/StringUTF16" "HI_BYTE_SHIFT" "I" (.int 0) := Sta.start (own_eqk (Cond.before_iff.mp (hsets _ (List.mem_of_getElem? (i := 15) rfl)))) (Or.inl (hsets _ (List.mem_of_getElem? (i := 14) rfl)))
  have Su_LO_BYTE_SHIFT : Sta s s.heap "java/lang/StringUTF16" "LO_BYTE_SHIFT" "I" (.int 8) := Sta.start (own_eqk (Cond.before_iff.mp (hsets _ (List.mem_of_getElem? (i := 18) rfl)))) (Or.inl (hsets _ (List.mem_of_getElem? (i := 17) rfl)))
  obtain ⟨fm, efm, hrfm⟩ := isR_v (Cond.before_iff.mp (hsets _ (List.mem_of_getElem? (i := 8) rfl)))
  have Sfm : Sta s s.heap "jdk/internal/util/Preconditions" "SIOOBE_FORMATTER" "Ljava/util/function/BiFunction;" fm := Sta.start efm (Or.inl (hsets _ (List.mem_of_getElem? (i := 7) rfl)))
  have hCH : CHv s own_EL s.vm s.heap := CHv.start (own_hEL hw) (fun p hp => hcalls.1 p hp) (hsets _ (List.mem_of_getElem? (i := 2) rfl)) (wd hw 24 rfl) (wd hw 10 rfl)
  obtain ⟨n, o, h1, h2, h3, _, L, rfl, ⟨rfl, N⟩, -, hq⟩ := rm0 l s _ hw tables_1 i0 i1 i2 i3 i4 i5 cs fm s.heap s.heap.size (Nat.le_refl _) (Old.start s) Scs hcs Su__assertionsDisabled Su_HI_BYTE_SHIFT Su_LO_BYTE_SHIFT Sfm hrfm p e ha hc hk s m _ below hf ((Spec.applies_iff_loose hf).mp happ).1 ⟨rfl, State.Warmed39.refl s, rfl, hCH⟩ trivial
  refine ⟨n, _, h1, h2, h3, hpost _ _ _ _ _ _ ⟨Cond.after_iff.mpr rfl, Cond.after_iff.mpr (eq_i res_at (Term.int_eval (1)) rfl), trivial⟩ ⟨hq.1, hq.2.1, hq.2.2.1, (hq.2.2.2.sift fun y hy => Or.inr (N y hy)).mono (by decide) (by decide)⟩⟩
theorem main_1_1 : Claimed_1_1 := comes_1 fun _ _ _ _ _ _ h hF => ⟨h.1, hF⟩
theorem main_1_2 : Claimed_1_2 := comes_1 fun _ _ _ _ _ _ h hF => ⟨h.2.1, hF⟩
end Jvm.Pilot.@@N@@
namespace Jvm.Pilot.@@N@@
open Jvm Jvm.ClassFile Sem Op Lib Jvm.Free Jvm.Stand Jvm.Pilot.@@N@@.Jvm.D
/-! MADE BY PROGRAM (witnessworld.py) out of the Statement's table words and the real class files: 20 classes; the members and pool entries that the words name. The judged class is class 1, her method 4. -/
namespace start1
open Jvm.ClassFile
def u (s : String) : CpInfo := .utf8 (stringToUtf16 s)
/-- a pool by its gaps: so many unusable entries, then the entry; so many at the end -/
def gap : Nat → List CpInfo → List CpInfo
  | 0, r => r
  | n + 1, r => .unusable :: gap n r
def poolList (es : List (Nat × CpInfo)) (last : Nat) : List CpInfo := es.foldr (fun e r => gap e.1 (e.2 :: r)) (gap last [])
def pool (es : List (Nat × CpInfo)) (last : Nat) : Array CpInfo := ⟨poolList es last⟩
def fileOf (pool : Array CpInfo) (this : Nat) (attrs : Array Attribute := #[]) (ms : Array MethodInfo := #[]) (fl : Nat := 33) (sup : Nat := 0) (ifs : Array Nat := #[]) (fds : Array FieldInfo := #[]) : ClassFile where
  minorVersion := 0
  majorVersion := 65
  constantPool := pool
  accessFlags := fl
  thisClass := this
  superClass := sup
  interfaces := ifs
  fields := fds
  methods := ms
  attributes := attrs
def plain (name : String) (sup : Option ClassId) : Class where
  name := name
  kind := .ordinary
  loader := none
  accessFlags := 33
  super := sup
  interfaces := #[]
  cf := none
  fields := #[]
  methods := #[]
  instanceTypes := #[]
  staticTypes := #[]
  resolved := #[]
  callSites := []
  init := .initialized
  statics := none
  mirror := none

def pool0 : Array CpInfo := pool [(5, u "<init>"), (0, u "()V"), (1, .class_ 10), (1, u "java/lang/Object")] 113

def k0c0 : Code := { maxStack := 0, maxLocals := 1, code := object_method_1_code, exceptionTable := #[], attributes := #[] }
def k0m0 : Method := { name := "<init>", desc := "()V", sig := { parameters := [], returnType := none }, accessFlags := 1, code := some k0c0 }
/-- java/lang/Object -/
def k0 : Class := { plain "java/lang/Object" none with
  accessFlags := 33
  interfaces := #[]
  cf := some (fileOf pool0 8 #[] #[{ accessFlags := 1, nameIndex := 5, descriptorIndex := 6, attributes := #[] }] 33 0 #[] #[])
  fields := #[]
  methods := #[k0m0]
  instanceTypes := #[]
  staticTypes := #[]
  resolved := Array.replicate 124 none
  statics := none }

def pool1 : Array CpInfo := pool [(2, .class_ 4), (1, u "java/lang/Object"), (0, u "<init>"), (0, u "()V"), (0, .integer 65535), (0, .class_ 9), (0, u "java/lang/String"), (0, .methodref 8 11), (0, .nameAndType 5 12), (0, u "([C)V"), (0, .integer 2147483647), (0, .methodref 15 16), (0, .class_ 17), (0, .nameAndType 18 19), (0, u "com/example/vestwright/vestwright/FormatsIsYearPinLaw"), (0, u "draw"), (0, u "(I)C"), (0, .methodref 15 21), (0, .nameAndType 22 23), (0, u "str"), (0, u "(ICCCCC)Ljava/lang/String;"), (0, .methodref 15 25), (0, .nameAndType 26 27), (0, u "dig"), (0, u "(C)Z"), (0, .methodref 29 30), (0, .class_ 31), (0, .nameAndType 32 33), (0, u "com/example/vestwright/vestwright/Formats"), (0, u "isYear"), (0, u "(Ljava/lang/String;)Z"), (3, u "law"), (0, u "(IIIIII)Z")] 2

def k1m0 : Method := { name := "<init>", desc := "()V", sig := { parameters := [], returnType := none }, accessFlags := 2, code := none }
def k1c1 : Code := { maxStack := 3, maxLocals := 2, code := method_2_code, exceptionTable := #[], attributes := #[] }
def k1m1 : Method := { name := "draw", desc := "(I)C", sig := { parameters := [.int], returnType := some .char }, accessFlags := 10, code := some k1c1 }
def k1c2 : Code := { maxStack := 2, maxLocals := 1, code := method_3_code, exceptionTable := #[], attributes := #[] }
def k1m2 : Method := { name := "dig", desc := "(C)Z", sig := { parameters := [.char], returnType := some .boolean }, accessFlags := 10, code := some k1c2 }
def k1c3 : Code := { maxStack := 6, maxLocals := 6, code := method_4_code, exceptionTable := #[], attributes := #[] }
def k1m3 : Method := { name := "str", desc := "(ICCCCC)Ljava/lang/String;", sig := { parameters := [.int, .char, .char, .char, .char, .char], returnType := some (.object "java/lang/String") }, accessFlags := 10, code := some k1c3 }
def k1c4 : Code := { maxStack := 6, maxLocals := 14, code := code, exceptionTable := #[], attributes := #[] }
def k1m4 : Method := { name := "law", desc := "(IIIIII)Z", sig := { parameters := [.int, .int, .int, .int, .int, .int], returnType := some .boolean }, accessFlags := 9, code := some k1c4 }
/-- com/example/vestwright/vestwright/FormatsIsYearPinLaw -/
def k1 : Class := { plain "com/example/vestwright/vestwright/FormatsIsYearPinLaw" (some 0) with
  accessFlags := 49
  interfaces := #[]
  cf := some (fileOf pool1 15 #[] #[{ accessFlags := 2, nameIndex := 5, descriptorIndex := 6, attributes := #[] }, { accessFlags := 10, nameIndex := 18, descriptorIndex := 19, attributes := #[] }, { accessFlags := 10, nameIndex := 26, descriptorIndex := 27, attributes := #[] }, { accessFlags := 10, nameIndex := 22, descriptorIndex := 23, attributes := #[] }, { accessFlags := 9, nameIndex := 37, descriptorIndex := 38, attributes := #[] }] 49 2 #[] #[])
  fields := #[]
  methods := #[k1m0, k1m1, k1m2, k1m3, k1m4]
  instanceTypes := #[]
  staticTypes := #[]
  resolved := Array.replicate 41 none
  statics := none }

def pool2 : Array CpInfo := pool [(1, .class_ 2), (0, u "java/io/Serializable"), (0, .class_ 4), (0, u "java/lang/Object")] 2

/-- java/io/Serializable -/
def k2 : Class := { plain "java/io/Serializable" (some 0) with
  accessFlags := 1537
  interfaces := #[]
  cf := some (fileOf pool2 1 #[] #[] 1537 3 #[] #[])
  fields := #[]
  methods := #[]
  instanceTypes := #[]
  staticTypes := #[]
  resolved := Array.replicate 7 none
  statics := none }

def pool3 : Array CpInfo := pool [(1, .class_ 2), (0, u "java/lang/Comparable"), (0, .class_ 4), (0, u "java/lang/Object")] 7

/-- java/lang/Comparable -/
def k3 : Class := { plain "java/lang/Comparable" (some 0) with
  accessFlags := 1537
  interfaces := #[]
  cf := some (fileOf pool3 1 #[] #[] 1537 3 #[] #[])
  fields := #[]
  methods := #[]
  instanceTypes := #[]
  staticTypes := #[]
  resolved := Array.replicate 12 none
  statics := none }

def pool4 : Array CpInfo := pool [(2, .class_ 4), (1, u "java/lang/CharSequence"), (42, .class_ 48), (0, u "java/lang/CharSequence$1CodePointIterator"), (10, .class_ 60), (0, u "java/lang/CharSequence$1CharIterator"), (5, .class_ 67), (0, u "java/lang/Object")] 63

/-- java/lang/CharSequence -/
def k4 : Class := { plain "java/lang/CharSequence" (some 0) with
  accessFlags := 1537
  interfaces := #[]
  cf := some (fileOf pool4 2 #[.nestMembers #[47, 59]] #[] 1537 66 #[] #[])
  fields := #[]
  methods := #[]
  instanceTypes := #[]
  staticTypes := #[]
  resolved := Array.replicate 131 none
  statics := none }

def pool5 : Array CpInfo := pool [(1, .class_ 2), (0, u "java/lang/constant/Constable"), (0, .class_ 4), (0, u "java/lang/Object")] 6

/-- java/lang/constant/Constable -/
def k5 : Class := { plain "java/lang/constant/Constable" (some 0) with
  accessFlags := 1537
  interfaces := #[]
  cf := some (fileOf pool5 1 #[] #[] 1537 3 #[] #[])
  fields := #[]
  methods := #[]
  instanceTypes := #[]
  staticTypes := #[]
  resolved := Array.replicate 11 none
  statics := none }

def pool6 : Array CpInfo := pool [(1, .class_ 2), (0, u "java/lang/constant/ConstantDesc"), (0, .class_ 4), (0, u "java/lang/Object")] 32

/-- java/lang/constant/ConstantDesc -/
def k6 : Class := { plain "java/lang/constant/ConstantDesc" (some 0) with
  accessFlags := 1537
  interfaces := #[]
  cf := some (fileOf pool6 1 #[] #[] 1537 3 #[] #[])
  fields := #[]
  methods := #[]
  instanceTypes := #[]
  staticTypes := #[]
  resolved := Array.replicate 37 none
  statics := none }

def pool7 : Array CpInfo := pool [(1, .methodref 2 3), (0, .class_ 4), (0, .nameAndType 5 6), (0, u "java/lang/Object"), (0, u "<init>"), (0, u "()V"), (0, .string 8), (0, u ""), (0, .fieldref 10 11), (0, .class_ 12), (0, .nameAndType 13 14), (0, u "java/lang/String"), (0, u "value"), (0, u "[B"), (0, .fieldref 10 16), (0, .nameAndType 17 18), (0, u "coder"), (0, u "B"), (2, u "hash"), (0, u "I"), (2, u "hashIsZero"), (0, u "Z"), (0, .methodref 10 28), (0, .nameAndType 5 29), (0, u "([CIILjava/lang/Void;)V"), (8, .fieldref 10 39), (0, .nameAndType 40 26), (0, u "COMPACT_STRINGS"), (1, .class_ 44), (1, u "java/lang/StringUTF16"), (0, u "compress"), (1, .methodref 42 48), (0, .nameAndType 49 50), (0, u "coderFromArrayLen"), (0, u "([BI)B"), (56, .class_ 109), (1, u "java/lang/StringLatin1"), (32, u "()Z"), (34, .methodref 42 178), (0, .nameAndType 45 179), (0, u "([CII)[B"), (154, u "()I"), (0, .methodref 10 336), (0, .nameAndType 17 337), (0, u "()B"), (25, u "([BI)C"), (27, u "(II)V"), (35, u "(I)C"), (64, .methodref 10 493), (0, .nameAndType 494 142), (0, u "isLatin1"), (0, .methodref 107 496), (0, .nameAndType 497 363), (0, u "charAt"), (0, .methodref 42 496), (2, u "checkIndex"), (5, u "length"), (67, .class_ 576), (0, u "java/lang/CharSequence"), (22, u "CASE_INSENSITIVE_ORDER"), (0, u "Ljava/util/Comparator;"), (409, u "([C)V"), (42, .fieldref 1054 1055), (0, .class_ 1056), (0, .nameAndType 1057 1058), (0, u "jdk/internal/util/Preconditions"), (0, u "SIOOBE_FORMATTER"), (0, u "Ljava/util/function/BiFunction;"), (0, .methodref 1054 1060), (0, .nameAndType 501 1061), (0, u "(IILjava/util/function/BiFunction;)I"), (39, u "serialPersistentFields"), (0, u "[Ljava/io/ObjectStreamField;"), (0, .class_ 1104), (0, u "java/lang/String$CaseInsensitiveComparator"), (1, .class_ 1107), (0, u "java/io/Serializable"), (0, .class_ 1109), (0, u "java/lang/Comparable"), (0, .class_ 1111), (0, u "java/lang/constant/Constable"), (0, .class_ 1113), (0, u "java/lang/constant/ConstantDesc"), (2, u "serialVersionUID"), (0, u "J"), (3, u "REPL"), (0, u "C"), (2, u "LATIN1"), (1, u "UTF16")] 323

def k7m0 : Method := { name := "<init>", desc := "()V", sig := { parameters := [], returnType := none }, accessFlags := 1, code := none }
def k7c1 : Code := { maxStack := 5, maxLocals := 2, code := jdk_42_method_3_code, exceptionTable := #[], attributes := #[] }
def k7m1 : Method := { name := "<init>", desc := "([C)V", sig := { parameters := [(.array .char)], returnType := none }, accessFlags := 1, code := some k7c1 }
def k7c2 : Code := { maxStack := 2, maxLocals := 1, code := jdk_42_method_54_code, exceptionTable := #[], attributes := #[] }
def k7m2 : Method := { name := "length", desc := "()I", sig := { parameters := [], returnType := some .int }, accessFlags := 1, code := some k7c2 }
def k7c3 : Code := { maxStack := 2, maxLocals := 2, code := jdk_42_method_56_code, exceptionTable := #[], attributes := #[] }
def k7m3 : Method := { name := "charAt", desc := "(I)C", sig := { parameters := [.int], returnType := some .char }, accessFlags := 1, code := some k7c3 }
def k7c4 : Code := { maxStack := 4, maxLocals := 6, code := jdk_42_method_149_code, exceptionTable := #[], attributes := #[] }
def k7m4 : Method := { name := "<init>", desc := "([CIILjava/lang/Void;)V", sig := { parameters := [(.array .char), .int, .int, (.object "java/lang/Void")], returnType := none }, accessFlags := 2, code := some k7c4 }
def k7c5 : Code := { maxStack := 1, maxLocals := 1, code := jdk_42_method_152_code, exceptionTable := #[], attributes := #[] }
def k7m5 : Method := { name := "coder", desc := "()B", sig := { parameters := [], returnType := some .byte }, accessFlags := 0, code := some k7c5 }
def k7c6 : Code := { maxStack := 1, maxLocals := 1, code := jdk_42_method_154_code, exceptionTable := #[], attributes := #[] }
def k7m6 : Method := { name := "isLatin1", desc := "()Z", sig := { parameters := [], returnType := some .boolean }, accessFlags := 0, code := some k7c6 }
def k7c7 : Code := { maxStack := 3, maxLocals := 2, code := jdk_42_method_155_code, exceptionTable := #[], attributes := #[] }
def k7m7 : Method := { name := "checkIndex", desc := "(II)V", sig := { parameters := [.int, .int], returnType := none }, accessFlags := 8, code := some k7c7 }
/-- java/lang/String -/
def k7 : Class := { plain "java/lang/String" (some 0) with
  accessFlags := 49
  interfaces := #[2, 3, 4, 5, 6]
  cf := some (fileOf pool7 10 #[.nestMembers #[1103]] #[{ accessFlags := 1, nameIndex := 5, descriptorIndex := 6, attributes := #[] }, { accessFlags := 1, nameIndex := 5, descriptorIndex := 1010, attributes := #[] }, { accessFlags := 1, nameIndex := 507, descriptorIndex := 334, attributes := #[] }, { accessFlags := 1, nameIndex := 497, descriptorIndex := 427, attributes := #[] }, { accessFlags := 2, nameIndex := 5, descriptorIndex := 29, attributes := #[] }, { accessFlags := 0, nameIndex := 17, descriptorIndex := 337, attributes := #[] }, { accessFlags := 0, nameIndex := 494, descriptorIndex := 142, attributes := #[] }, { accessFlags := 8, nameIndex := 501, descriptorIndex := 391, attributes := #[] }] 49 2 #[1106, 1108, 575, 1110, 1112] #[{ accessFlags := 18, nameIndex := 13, descriptorIndex := 14, attributes := #[] }, { accessFlags := 18, nameIndex := 17, descriptorIndex := 18, attributes := #[] }, { accessFlags := 2, nameIndex := 21, descriptorIndex := 22, attributes := #[] }, { accessFlags := 2, nameIndex := 25, descriptorIndex := 26, attributes := #[] }, { accessFlags := 26, nameIndex := 1116, descriptorIndex := 1117, attributes := #[] }, { accessFlags := 24, nameIndex := 40, descriptorIndex := 26, attributes := #[] }, { accessFlags := 26, nameIndex := 1101, descriptorIndex := 1102, attributes := #[] }, { accessFlags := 26, nameIndex := 1121, descriptorIndex := 1122, attributes := #[] }, { accessFlags := 25, nameIndex := 599, descriptorIndex := 600, attributes := #[] }, { accessFlags := 24, nameIndex := 1125, descriptorIndex := 18, attributes := #[] }, { accessFlags := 24, nameIndex := 1127, descriptorIndex := 18, attributes := #[] }])
  fields := #[{ name := "value", type := (.array .byte), accessFlags := 18, slot := 0, constantValue := 0 }, { name := "coder", type := .byte, accessFlags := 18, slot := 1, constantValue := 0 }, { name := "hash", type := .int, accessFlags := 2, slot := 2, constantValue := 0 }, { name := "hashIsZero", type := .boolean, accessFlags := 2, slot := 3, constantValue := 0 }, { name := "serialVersionUID", type := .long, accessFlags := 26, slot := 0, constantValue := 0 }, { name := "COMPACT_STRINGS", type := .boolean, accessFlags := 24, slot := 1, constantValue := 0 }, { name := "serialPersistentFields", type := (.array (.object "java/io/ObjectStreamField")), accessFlags := 26, slot := 2, constantValue := 0 }, { name := "REPL", type := .char, accessFlags := 26, slot := 3, constantValue := 0 }, { name := "CASE_INSENSITIVE_ORDER", type := (.object "java/util/Comparator"), accessFlags := 25, slot := 4, constantValue := 0 }, { name := "LATIN1", type := .byte, accessFlags := 24, slot := 5, constantValue := 0 }, { name := "UTF16", type := .byte, accessFlags := 24, slot := 6, constantValue := 0 }]
  methods := #[k7m0, k7m1, k7m2, k7m3, k7m4, k7m5, k7m6, k7m7]
  instanceTypes := #[(.array .byte), .byte, .int, .boolean]
  staticTypes := #[.long, .boolean, (.array (.object "java/io/ObjectStreamField")), .char, (.object "java/util/Comparator"), .byte, .byte]
  resolved := Array.replicate 1451 none
  statics := some 0 }

def pool8 : Array CpInfo := pool [(2, .class_ 4), (1, u "java/lang/Object"), (0, u "<init>"), (0, u "()V"), (0, .methodref 8 9), (0, .class_ 10), (0, .nameAndType 11 12), (0, u "java/lang/String"), (0, u "length"), (0, u "()I"), (0, .methodref 14 15), (0, .class_ 16), (0, .nameAndType 17 18), (0, u "com/example/vestwright/vestwright/Formats"), (0, u "digits"), (0, u "(Ljava/lang/String;II)Z"), (8, .methodref 8 28), (0, .nameAndType 29 30), (0, u "charAt"), (0, u "(I)C"), (103, u "DATE_FORM"), (0, u "Ljava/lang/String;"), (1, u "LONG_DECIMAL"), (0, u "I"), (3, u "isYear"), (0, u "(Ljava/lang/String;)Z")] 34

def k8m0 : Method := { name := "<init>", desc := "()V", sig := { parameters := [], returnType := none }, accessFlags := 2, code := none }
def k8c1 : Code := { maxStack := 3, maxLocals := 1, code := prog_16_method_2_code, exceptionTable := #[], attributes := #[] }
def k8m1 : Method := { name := "isYear", desc := "(Ljava/lang/String;)Z", sig := { parameters := [(.object "java/lang/String")], returnType := some .boolean }, accessFlags := 8, code := some k8c1 }
def k8c2 : Code := { maxStack := 2, maxLocals := 5, code := prog_16_method_14_code, exceptionTable := #[], attributes := #[] }
def k8m2 : Method := { name := "digits", desc := "(Ljava/lang/String;II)Z", sig := { parameters := [(.object "java/lang/String"), .int, .int], returnType := some .boolean }, accessFlags := 10, code := some k8c2 }
/-- com/example/vestwright/vestwright/Formats -/
def k8 : Class := { plain "com/example/vestwright/vestwright/Formats" (some 0) with
  accessFlags := 48
  interfaces := #[]
  cf := some (fileOf pool8 14 #[] #[{ accessFlags := 2, nameIndex := 5, descriptorIndex := 6, attributes := #[] }, { accessFlags := 8, nameIndex := 142, descriptorIndex := 143, attributes := #[] }, { accessFlags := 10, nameIndex := 17, descriptorIndex := 18, attributes := #[] }] 48 2 #[] #[{ accessFlags := 26, nameIndex := 134, descriptorIndex := 135, attributes := #[] }, { accessFlags := 26, nameIndex := 137, descriptorIndex := 138, attributes := #[] }])
  fields := #[{ name := "DATE_FORM", type := (.object "java/lang/String"), accessFlags := 26, slot := 0, constantValue := 0 }, { name := "LONG_DECIMAL", type := .int, accessFlags := 26, slot := 1, constantValue := 0 }]
  methods := #[k8m0, k8m1, k8m2]
  instanceTypes := #[]
  staticTypes := #[(.object "java/lang/String"), .int]
  resolved := Array.replicate 178 none
  statics := none }

def pool9 : Array CpInfo := pool [(3, .class_ 4), (0, u "java/lang/String"), (1, .class_ 8), (1, u "java/lang/Object"), (0, u "<init>"), (0, u "()V"), (0, .methodref 12 13), (0, .class_ 14), (0, .nameAndType 15 16), (0, u "java/lang/StringUTF16"), (0, u "newBytesLength"), (0, u "(I)I"), (3, .integer 1073741823), (23, .fieldref 12 45), (0, .nameAndType 46 47), (0, u "$assertionsDisabled"), (0, u "Z"), (0, .methodref 12 49), (0, .nameAndType 50 51), (0, u "length"), (0, u "([B)I"), (7, .fieldref 12 60), (0, .nameAndType 61 62), (0, u "HI_BYTE_SHIFT"), (0, u "I"), (0, .fieldref 12 64), (0, .nameAndType 65 62), (0, u "LO_BYTE_SHIFT"), (1, .methodref 12 68), (0, .nameAndType 69 70), (0, u "checkIndex"), (0, u "(I[B)V"), (0, .methodref 12 72), (0, .nameAndType 73 74), (0, u "getChar"), (0, u "([BI)C"), (32, .methodref 12 108), (0, .nameAndType 109 110), (0, u "newBytesFor"), (0, u "(I)[B"), (0, .methodref 12 112), (0, .nameAndType 113 114), (0, u "putChar"), (0, u "([BII)V"), (0, .methodref 12 116), (0, .nameAndType 117 118), (0, u "compress"), (0, u "([CI[BII)I"), (0, .methodref 12 120), (0, .nameAndType 121 122), (0, u "toBytes"), (0, u "([CII)[B"), (138, u "coderFromArrayLen"), (0, u "([BI)B"), (106, .class_ 371), (1, u "java/lang/StringUTF16$LinesSpliterator"), (20, u "charAt"), (21, .methodref 3 415), (0, .nameAndType 69 416), (0, u "(II)V"), (13, u "MAX_LENGTH"), (196, .class_ 628), (0, u "java/lang/StringUTF16$CodePointsSpliterator"), (0, .class_ 630), (0, u "java/lang/StringUTF16$CharsSpliterator")] 4

def k9m0 : Method := { name := "<init>", desc := "()V", sig := { parameters := [], returnType := none }, accessFlags := 0, code := none }
def k9c1 : Code := { maxStack := 1, maxLocals := 1, code := jdk_52_method_2_code, exceptionTable := #[], attributes := #[] }
def k9m1 : Method := { name := "newBytesFor", desc := "(I)[B", sig := { parameters := [.int], returnType := some (.array .byte) }, accessFlags := 9, code := some k9c1 }
def k9c2 : Code := { maxStack := 4, maxLocals := 1, code := jdk_52_method_3_code, exceptionTable := #[], attributes := #[] }
def k9m2 : Method := { name := "newBytesLength", desc := "(I)I", sig := { parameters := [.int], returnType := some .int }, accessFlags := 9, code := some k9c2 }
def k9c3 : Code := { maxStack := 4, maxLocals := 3, code := jdk_52_method_4_code, exceptionTable := #[], attributes := #[] }
def k9m3 : Method := { name := "putChar", desc := "([BII)V", sig := { parameters := [(.array .byte), .int, .int], returnType := none }, accessFlags := 8, code := some k9c3 }
def k9c4 : Code := { maxStack := 3, maxLocals := 2, code := jdk_52_method_5_code, exceptionTable := #[], attributes := #[] }
def k9m4 : Method := { name := "getChar", desc := "([BI)C", sig := { parameters := [(.array .byte), .int], returnType := some .char }, accessFlags := 8, code := some k9c4 }
def k9c5 : Code := { maxStack := 2, maxLocals := 1, code := jdk_52_method_6_code, exceptionTable := #[], attributes := #[] }
def k9m5 : Method := { name := "length", desc := "([B)I", sig := { parameters := [(.array .byte)], returnType := some .int }, accessFlags := 9, code := some k9c5 }
def k9c6 : Code := { maxStack := 4, maxLocals := 5, code := jdk_52_method_14_code, exceptionTable := #[], attributes := #[] }
def k9m6 : Method := { name := "toBytes", desc := "([CII)[B", sig := { parameters := [(.array .char), .int, .int], returnType := some (.array .byte) }, accessFlags := 9, code := some k9c6 }
def k9c7 : Code := { maxStack := 2, maxLocals := 2, code := jdk_52_method_15_code, exceptionTable := #[], attributes := #[] }
def k9m7 : Method := { name := "coderFromArrayLen", desc := "([BI)B", sig := { parameters := [(.array .byte), .int], returnType := some .byte }, accessFlags := 8, code := some k9c7 }
def k9c8 : Code := { maxStack := 5, maxLocals := 6, code := jdk_52_method_16_code, exceptionTable := #[], attributes := #[] }
def k9m8 : Method := { name := "compress", desc := "([CII)[B", sig := { parameters := [(.array .char), .int, .int], returnType := some (.array .byte) }, accessFlags := 9, code := some k9c8 }
def k9c9 : Code := { maxStack := 3, maxLocals := 7, code := jdk_52_method_21_code, exceptionTable := #[], attributes := #[] }
def k9m9 : Method := { name := "compress", desc := "([CI[BII)I", sig := { parameters := [(.array .char), .int, (.array .byte), .int, .int], returnType := some .int }, accessFlags := 9, code := some k9c9 }
def k9c10 : Code := { maxStack := 2, maxLocals := 2, code := jdk_52_method_83_code, exceptionTable := #[], attributes := #[] }
def k9m10 : Method := { name := "charAt", desc := "([BI)C", sig := { parameters := [(.array .byte), .int], returnType := some .char }, accessFlags := 9, code := some k9c10 }
def k9c11 : Code := { maxStack := 2, maxLocals := 2, code := jdk_52_method_91_code, exceptionTable := #[], attributes := #[] }
def k9m11 : Method := { name := "checkIndex", desc := "(I[B)V", sig := { parameters := [.int, (.array .byte)], returnType := none }, accessFlags := 9, code := some k9c11 }
/-- java/lang/StringUTF16 -/
def k9 : Class := { plain "java/lang/StringUTF16" (some 0) with
  accessFlags := 48
  interfaces := #[]
  cf := some (fileOf pool9 12 #[.nestMembers #[627, 629, 369]] #[{ accessFlags := 0, nameIndex := 9, descriptorIndex := 10, attributes := #[] }, { accessFlags := 9, nameIndex := 109, descriptorIndex := 110, attributes := #[] }, { accessFlags := 9, nameIndex := 15, descriptorIndex := 16, attributes := #[] }, { accessFlags := 8, nameIndex := 113, descriptorIndex := 114, attributes := #[] }, { accessFlags := 8, nameIndex := 73, descriptorIndex := 74, attributes := #[] }, { accessFlags := 9, nameIndex := 50, descriptorIndex := 51, attributes := #[] }, { accessFlags := 9, nameIndex := 121, descriptorIndex := 122, attributes := #[] }, { accessFlags := 8, nameIndex := 261, descriptorIndex := 262, attributes := #[] }, { accessFlags := 9, nameIndex := 117, descriptorIndex := 122, attributes := #[] }, { accessFlags := 9, nameIndex := 117, descriptorIndex := 118, attributes := #[] }, { accessFlags := 9, nameIndex := 392, descriptorIndex := 74, attributes := #[] }, { accessFlags := 9, nameIndex := 69, descriptorIndex := 70, attributes := #[] }] 48 6 #[] #[{ accessFlags := 26, nameIndex := 61, descriptorIndex := 62, attributes := #[] }, { accessFlags := 26, nameIndex := 65, descriptorIndex := 62, attributes := #[] }, { accessFlags := 24, nameIndex := 430, descriptorIndex := 62, attributes := #[] }, { accessFlags := 4120, nameIndex := 46, descriptorIndex := 47, attributes := #[] }])
  fields := #[{ name := "HI_BYTE_SHIFT", type := .int, accessFlags := 26, slot := 0, constantValue := 0 }, { name := "LO_BYTE_SHIFT", type := .int, accessFlags := 26, slot := 1, constantValue := 0 }, { name := "MAX_LENGTH", type := .int, accessFlags := 24, slot := 2, constantValue := 0 }, { name := "$assertionsDisabled", type := .boolean, accessFlags := 4120, slot := 3, constantValue := 0 }]
  methods := #[k9m0, k9m1, k9m2, k9m3, k9m4, k9m5, k9m6, k9m7, k9m8, k9m9, k9m10, k9m11]
  instanceTypes := #[]
  staticTypes := #[.int, .int, .int, .boolean]
  resolved := Array.replicate 635 none
  statics := some 1 }

def pool10 : Array CpInfo := pool [(1, .class_ 2), (0, u "java/lang/String"), (1, .class_ 6), (1, u "java/lang/Object"), (0, u "<init>"), (0, u "()V"), (0, .methodref 1 10), (0, .nameAndType 11 12), (0, u "checkIndex"), (0, u "(II)V"), (1, .class_ 16), (1, u "java/lang/StringLatin1"), (36, u "([BI)C"), (67, u "$assertionsDisabled"), (0, u "Z"), (98, .class_ 223), (1, u "java/lang/StringLatin1$LinesSpliterator"), (28, u "charAt"), (137, .class_ 391), (0, u "java/lang/StringLatin1$CharsSpliterator")] 3

def k10m0 : Method := { name := "<init>", desc := "()V", sig := { parameters := [], returnType := none }, accessFlags := 0, code := none }
def k10c1 : Code := { maxStack := 2, maxLocals := 2, code := jdk_43_method_2_code, exceptionTable := #[], attributes := #[] }
def k10m1 : Method := { name := "charAt", desc := "([BI)C", sig := { parameters := [(.array .byte), .int], returnType := some .char }, accessFlags := 9, code := some k10c1 }
/-- java/lang/StringLatin1 -/
def k10 : Class := { plain "java/lang/StringLatin1" (some 0) with
  accessFlags := 48
  interfaces := #[]
  cf := some (fileOf pool10 14 #[.nestMembers #[390, 221]] #[{ accessFlags := 0, nameIndex := 7, descriptorIndex := 8, attributes := #[] }, { accessFlags := 9, nameIndex := 252, descriptorIndex := 53, attributes := #[] }] 48 4 #[] #[{ accessFlags := 4120, nameIndex := 121, descriptorIndex := 122, attributes := #[] }])
  fields := #[{ name := "$assertionsDisabled", type := .boolean, accessFlags := 4120, slot := 0, constantValue := 0 }]
  methods := #[k10m0, k10m1]
  instanceTypes := #[]
  staticTypes := #[.boolean]
  resolved := Array.replicate 395 none
  statics := none }

def pool11 : Array CpInfo := pool [(2, .class_ 4), (1, u "java/lang/Object"), (0, u "<init>"), (0, u "()V"), (17, .class_ 26), (1, u "jdk/internal/util/Preconditions"), (6, u "checkIndex"), (21, .class_ 56), (0, u "jdk/internal/util/Preconditions$4"), (57, .class_ 115), (0, u "jdk/internal/util/Preconditions$1"), (7, u "SIOOBE_FORMATTER"), (0, u "Ljava/util/function/BiFunction;"), (0, .class_ 126), (0, u "jdk/internal/util/Preconditions$2"), (3, u "AIOOBE_FORMATTER"), (0, .class_ 132), (0, u "jdk/internal/util/Preconditions$3"), (3, u "IOOBE_FORMATTER"), (41, u "(IILjava/util/function/BiFunction;)I")] 15

def k11m0 : Method := { name := "<init>", desc := "()V", sig := { parameters := [], returnType := none }, accessFlags := 1, code := none }
def k11c1 : Code := { maxStack := 3, maxLocals := 3, code := jdk_41_method_11_code, exceptionTable := #[], attributes := #[] }
def k11m1 : Method := { name := "checkIndex", desc := "(IILjava/util/function/BiFunction;)I", sig := { parameters := [.int, .int, (.object "java/util/function/BiFunction")], returnType := some .int }, accessFlags := 9, code := some k11c1 }
/-- jdk/internal/util/Preconditions -/
def k11 : Class := { plain "jdk/internal/util/Preconditions" (some 0) with
  accessFlags := 33
  interfaces := #[]
  cf := some (fileOf pool11 24 #[.nestMembers #[55, 131, 125, 114]] #[{ accessFlags := 1, nameIndex := 5, descriptorIndex := 6, attributes := #[] }, { accessFlags := 9, nameIndex := 33, descriptorIndex := 178, attributes := #[] }] 33 2 #[] #[{ accessFlags := 25, nameIndex := 123, descriptorIndex := 124, attributes := #[] }, { accessFlags := 25, nameIndex := 130, descriptorIndex := 124, attributes := #[] }, { accessFlags := 25, nameIndex := 136, descriptorIndex := 124, attributes := #[] }])
  fields := #[{ name := "SIOOBE_FORMATTER", type := (.object "java/util/function/BiFunction"), accessFlags := 25, slot := 0, constantValue := 0 }, { name := "AIOOBE_FORMATTER", type := (.object "java/util/function/BiFunction"), accessFlags := 25, slot := 1, constantValue := 0 }, { name := "IOOBE_FORMATTER", type := (.object "java/util/function/BiFunction"), accessFlags := 25, slot := 2, constantValue := 0 }]
  methods := #[k11m0, k11m1]
  instanceTypes := #[]
  staticTypes := #[(.object "java/util/function/BiFunction"), (.object "java/util/function/BiFunction"), (.object "java/util/function/BiFunction")]
  resolved := Array.replicate 194 none
  statics := some 2 }

def pool12 : Array CpInfo := pool [(9, u "<init>"), (6, .class_ 18), (1, u "java/lang/Object"), (0, u "()V"), (1, .class_ 23), (1, u "jdk/internal/util/ArraysSupport"), (0, u "LOG2_ARRAY_LONG_INDEX_SCALE"), (0, u "I"), (2, u "U"), (0, u "Ljdk/internal/misc/Unsafe;"), (8, u "BIG_ENDIAN"), (0, u "Z"), (8, u "LOG2_BYTE_BIT_SIZE"), (4, u "LOG2_ARRAY_INT_INDEX_SCALE"), (54, u "JLA"), (0, u "Ljdk/internal/access/JavaLangAccess;"), (11, u "LOG2_ARRAY_BOOLEAN_INDEX_SCALE"), (9, u "LOG2_ARRAY_BYTE_INDEX_SCALE"), (5, u "LOG2_ARRAY_CHAR_INDEX_SCALE"), (5, u "LOG2_ARRAY_SHORT_INDEX_SCALE"), (18, u "LOG2_ARRAY_FLOAT_INDEX_SCALE"), (24, u "LOG2_ARRAY_DOUBLE_INDEX_SCALE"), (89, u "T_BOOLEAN"), (2, u "T_CHAR"), (1, u "T_FLOAT"), (1, u "T_DOUBLE"), (1, u "T_BYTE"), (1, u "T_SHORT"), (1, u "T_INT"), (1, u "T_LONG"), (1, u "SOFT_MAX_ARRAY_LENGTH")] 83

def k12m0 : Method := { name := "<init>", desc := "()V", sig := { parameters := [], returnType := none }, accessFlags := 2, code := none }
/-- jdk/internal/util/ArraysSupport -/
def k12 : Class := { plain "jdk/internal/util/ArraysSupport" (some 0) with
  accessFlags := 33
  interfaces := #[]
  cf := some (fileOf pool12 21 #[] #[{ accessFlags := 2, nameIndex := 9, descriptorIndex := 19, attributes := #[] }] 33 16 #[] #[{ accessFlags := 24, nameIndex := 28, descriptorIndex := 29, attributes := #[] }, { accessFlags := 26, nameIndex := 38, descriptorIndex := 39, attributes := #[] }, { accessFlags := 25, nameIndex := 121, descriptorIndex := 25, attributes := #[] }, { accessFlags := 25, nameIndex := 131, descriptorIndex := 25, attributes := #[] }, { accessFlags := 25, nameIndex := 137, descriptorIndex := 25, attributes := #[] }, { accessFlags := 25, nameIndex := 143, descriptorIndex := 25, attributes := #[] }, { accessFlags := 25, nameIndex := 53, descriptorIndex := 25, attributes := #[] }, { accessFlags := 25, nameIndex := 24, descriptorIndex := 25, attributes := #[] }, { accessFlags := 25, nameIndex := 162, descriptorIndex := 25, attributes := #[] }, { accessFlags := 25, nameIndex := 187, descriptorIndex := 25, attributes := #[] }, { accessFlags := 26, nameIndex := 48, descriptorIndex := 25, attributes := #[] }, { accessFlags := 25, nameIndex := 277, descriptorIndex := 25, attributes := #[] }, { accessFlags := 25, nameIndex := 280, descriptorIndex := 25, attributes := #[] }, { accessFlags := 25, nameIndex := 282, descriptorIndex := 25, attributes := #[] }, { accessFlags := 25, nameIndex := 284, descriptorIndex := 25, attributes := #[] }, { accessFlags := 25, nameIndex := 286, descriptorIndex := 25, attributes := #[] }, { accessFlags := 25, nameIndex := 288, descriptorIndex := 25, attributes := #[] }, { accessFlags := 25, nameIndex := 290, descriptorIndex := 25, attributes := #[] }, { accessFlags := 25, nameIndex := 292, descriptorIndex := 25, attributes := #[] }, { accessFlags := 26, nameIndex := 108, descriptorIndex := 109, attributes := #[] }, { accessFlags := 25, nameIndex := 294, descriptorIndex := 25, attributes := #[] }])
  fields := #[{ name := "U", type := (.object "jdk/internal/misc/Unsafe"), accessFlags := 24, slot := 0, constantValue := 0 }, { name := "BIG_ENDIAN", type := .boolean, accessFlags := 26, slot := 1, constantValue := 0 }, { name := "LOG2_ARRAY_BOOLEAN_INDEX_SCALE", type := .int, accessFlags := 25, slot := 2, constantValue := 0 }, { name := "LOG2_ARRAY_BYTE_INDEX_SCALE", type := .int, accessFlags := 25, slot := 3, constantValue := 0 }, { name := "LOG2_ARRAY_CHAR_INDEX_SCALE", type := .int, accessFlags := 25, slot := 4, constantValue := 0 }, { name := "LOG2_ARRAY_SHORT_INDEX_SCALE", type := .int, accessFlags := 25, slot := 5, constantValue := 0 }, { name := "LOG2_ARRAY_INT_INDEX_SCALE", type := .int, accessFlags := 25, slot := 6, constantValue := 0 }, { name := "LOG2_ARRAY_LONG_INDEX_SCALE", type := .int, accessFlags := 25, slot := 7, constantValue := 0 }, { name := "LOG2_ARRAY_FLOAT_INDEX_SCALE", type := .int, accessFlags := 25, slot := 8, constantValue := 0 }, { name := "LOG2_ARRAY_DOUBLE_INDEX_SCALE", type := .int, accessFlags := 25, slot := 9, constantValue := 0 }, { name := "LOG2_BYTE_BIT_SIZE", type := .int, accessFlags := 26, slot := 10, constantValue := 0 }, { name := "T_BOOLEAN", type := .int, accessFlags := 25, slot := 11, constantValue := 0 }, { name := "T_CHAR", type := .int, accessFlags := 25, slot := 12, constantValue := 0 }, { name := "T_FLOAT", type := .int, accessFlags := 25, slot := 13, constantValue := 0 }, { name := "T_DOUBLE", type := .int, accessFlags := 25, slot := 14, constantValue := 0 }, { name := "T_BYTE", type := .int, accessFlags := 25, slot := 15, constantValue := 0 }, { name := "T_SHORT", type := .int, accessFlags := 25, slot := 16, constantValue := 0 }, { name := "T_INT", type := .int, accessFlags := 25, slot := 17, constantValue := 0 }, { name := "T_LONG", type := .int, accessFlags := 25, slot := 18, constantValue := 0 }, { name := "JLA", type := (.object "jdk/internal/access/JavaLangAccess"), accessFlags := 26, slot := 19, constantValue := 0 }, { name := "SOFT_MAX_ARRAY_LENGTH", type := .int, accessFlags := 25, slot := 20, constantValue := 0 }]
  methods := #[k12m0]
  instanceTypes := #[]
  staticTypes := #[(.object "jdk/internal/misc/Unsafe"), .boolean, .int, .int, .int, .int, .int, .int, .int, .int, .int, .int, .int, .int, .int, .int, .int, .int, .int, (.object "jdk/internal/access/JavaLangAccess"), .int]
  resolved := Array.replicate 378 none
  statics := none }

def pool13 : Array CpInfo := pool [(1, u "java/lang/Cloneable"), (0, .class_ 1), (0, u "java/lang/Object"), (0, .class_ 3)] 3

/-- java/lang/Cloneable -/
def k13 : Class := { plain "java/lang/Cloneable" (some 0) with
  accessFlags := 1537
  interfaces := #[]
  cf := some (fileOf pool13 2 #[] #[] 1537 4 #[] #[])
  fields := #[]
  methods := #[]
  instanceTypes := #[]
  staticTypes := #[]
  resolved := Array.replicate 8 none
  statics := none }

/-- the primitive byte -/
def k14 : Class := { plain "byte" none with kind := .primitive 'B', accessFlags := 0x411 }
/-- [B -/
def k15 : Class := { plain "[B" (some 0) with kind := .array 14 .byte, interfaces := #[13, 2], accessFlags := 1041 }

/-- the primitive char -/
def k16 : Class := { plain "char" none with kind := .primitive 'C', accessFlags := 0x411 }
/-- [C -/
def k17 : Class := { plain "[C" (some 0) with kind := .array 16 .char, interfaces := #[13, 2], accessFlags := 1041 }

/-- the primitive int -/
def k18 : Class := { plain "int" none with kind := .primitive 'I', accessFlags := 0x411 }
/-- [I -/
def k19 : Class := { plain "[I" (some 0) with kind := .array 18 .int, interfaces := #[13, 2], accessFlags := 1041 }

def heap : Heap := #[{ cls := 7, slots := #[.long 0, .int 1, .null, .int 0, .null, .int 0, .int 0], vm := .statics 7 },
  { cls := 9, slots := #[.int 0, .int 8, .int 0, .int 1], vm := .statics 9 },
  { cls := 11, slots := #[.null, .null, .null], vm := .statics 11 }]
def classes : Array Class := #[k0, k1, k2, k3, k4, k5, k6, k7, k8, k9, k10, k11, k12, k13, k14, k15, k16, k17, k18, k19]
def interned : List (Array UInt16 × Addr) := []
def slotsUsed : Nat := 14
def theMethod : MethodId := ⟨1, 4⟩
def args0 : Array Value := #[.int 5, .int 6, .int 7, .int 8, .int 9, .int 10]
def aboutOver (below : List Frame) : State where
  vm := { classes := classes, interned := interned.toArray }
  heap := heap
  slotsUsed := slotsUsed
  threads := #[{ frames := .invoking theMethod args0 :: below }]
def below0 : List Frame := [.native { method := ⟨0, 0⟩, args := #[] }]
def about1 : State := aboutOver below0
def p0 : Program := .bare "" "" ""
def e0 : Env := launch0.env 0 0 0
theorem w_frames : about1.frames = Frame.invoking theMethod args0 :: below0 := rfl
set_option maxRecDepth 65536 in
theorem w_args : argsFit about1.vm theMethod args0 = true := by decide +kernel
set_option maxRecDepth 65536 in
theorem w_heap : heapFits about1 = true := by decide +kernel
set_option maxRecDepth 65536 in
theorem w_runnable : about1.curStatus? = some .runnable := by decide +kernel
set_option maxRecDepth 65536 in
theorem w_alone : about1.alone = true := by decide +kernel
set_option maxRecDepth 65536 in
theorem w_named : about1.methodNamed? x = some theMethod := by decide +kernel
set_option maxRecDepth 65536 in
theorem w_hears : about1.hears theMethod below0 = true := by decide +kernel
set_option maxRecDepth 65536 in
theorem w_ripe : about1.ripe theMethod args0 below0 = true := by decide +kernel
theorem w_running : about1.status = .running := rfl
set_option maxRecDepth 65536 in
theorem w_room : about1.hasRoom e0.platform room_1 = true :=
  launch0.hasRoom_least _ room_1 (by decide +kernel) (by decide +kernel) (by decide +kernel) (by decide +kernel) (by decide +kernel) (by decide +kernel)
theorem allAtoms_all (ts : List Jvm.Cond) (a : Array Jvm.Value) (st : Jvm.State) : (allAtoms ts).before a st = ts.all (fun c => c.before a st) := by
  induction ts with
  | nil => rfl
  | cons c t ih =>
    show (Jvm.Cond.and c (allAtoms t)).before a st = _
    rw [Jvm.Cond.before_and, ih, List.all_cons]
def words1 : List Jvm.Cond := Jvm.Cond.code x code maxLocals ret :: tables_1
/-- a 'code' word, met by the world's own term for the bytes: nothing is compared byte by byte -/
theorem code_word {y : MethodName} {bytes : ByteArray} {mx : Nat} {rt : Option FieldType} {a : Array Value} {s : State} {m : MethodId} {meth : Method} {c : Code} (h1 : s.methodNamed? y = some m) (h2 : s.vm.method? m = some meth) (h3 : meth.code = some c) (h4 : c.code = bytes)
    (h5 : (c.maxLocals == mx && c.exceptionTable.isEmpty && decide (c.maxStack ≤ mostOperands) && decide (meth.sig.returnType = rt) && !meth.locks && decide (parseMethodDescriptor y.desc = some meth.sig)) = true) : (Jvm.Cond.code y bytes mx rt).before a s = true := by
  simp only [Bool.and_eq_true, beq_iff_eq, Bool.not_eq_true', decide_eq_true_eq] at h5
  obtain ⟨⟨⟨⟨⟨g1, g2⟩, g3⟩, g4⟩, g5⟩, g6⟩ := h5
  simp [Cond.before, Cond.holds, Cond.value, h1, h2, h3, h4, g1, g2, g3, g4, g5, g6]
def isCode : Jvm.Cond → Bool
  | .code _ _ _ _ => true
  | _ => false
theorem all_split {L : List Jvm.Cond} {P : Jvm.Cond → Bool} (h1 : L.all (fun c => isCode c || P c) = true) (h2 : ∀ c ∈ L.filter isCode, P c = true) : L.all P = true := by
  refine List.all_eq_true.mpr fun c hc => ?_
  have h := List.all_eq_true.mp h1 c hc
  rcases Bool.eq_false_or_eq_true (isCode c) with hi | hi
  · exact h2 c (List.mem_filter.mpr ⟨hc, hi⟩)
  · simpa [hi] using h
set_option maxRecDepth 65536 in
theorem w_c0 : (Jvm.Cond.code x code maxLocals ret).before args0 about1 = true := code_word (m := ⟨1, 4⟩) (meth := k1m4) (c := k1c4) (by decide +kernel) rfl rfl rfl (by decide +kernel)
set_option maxRecDepth 65536 in
theorem w_c1 : (Jvm.Cond.code ({ cls := "com/example/vestwright/vestwright/FormatsIsYearPinLaw", name := "draw", desc := "(I)C" } : Jvm.MethodName) method_2_code (2 : Nat) (Option.some Jvm.ClassFile.FieldType.char)).before args0 about1 = true := code_word (m := ⟨1, 1⟩) (meth := k1m1) (c := k1c1) (by decide +kernel) rfl rfl rfl (by decide +kernel)
set_option maxRecDepth 65536 in
theorem w_c2 : (Jvm.Cond.code ({ cls := "com/example/vestwright/vestwright/FormatsIsYearPinLaw", name := "str", desc := "(ICCCCC)Ljava/lang/String;" } : Jvm.MethodName) method_4_code (6 : Nat) (Option.some (Jvm.ClassFile.FieldType.object "java/lang/String"))).before args0 about1 = true := code_word (m := ⟨1, 3⟩) (meth := k1m3) (c := k1c3) (by decide +kernel) rfl rfl rfl (by decide +kernel)
set_option maxRecDepth 65536 in
theorem w_c3 : (Jvm.Cond.code ({ cls := "java/lang/String", name := "<init>", desc := "([C)V" } : Jvm.MethodName) jdk_42_method_3_code (2 : Nat) (Option.none : Option Jvm.ClassFile.FieldType)).before args0 about1 = true := code_word (m := ⟨7, 1⟩) (meth := k7m1) (c := k7c1) (by decide +kernel) rfl rfl rfl (by decide +kernel)
set_option maxRecDepth 65536 in
theorem w_c4 : (Jvm.Cond.code ({ cls := "java/lang/String", name := "<init>", desc := "([CIILjava/lang/Void;)V" } : Jvm.MethodName) jdk_42_method_149_code (6 : Nat) (Option.none : Option Jvm.ClassFile.FieldType)).before args0 about1 = true := code_word (m := ⟨7, 4⟩) (meth := k7m4) (c := k7c4) (by decide +kernel) rfl rfl rfl (by decide +kernel)
set_option maxRecDepth 65536 in
theorem w_c5 : (Jvm.Cond.code ({ cls := "java/lang/Object", name := "<init>", desc := "()V" } : Jvm.MethodName) object_method_1_code (1 : Nat) (Option.none : Option Jvm.ClassFile.FieldType)).before args0 about1 = true := code_word (m := ⟨0, 0⟩) (meth := k0m0) (c := k0c0) (by decide +kernel) rfl rfl rfl (by decide +kernel)
set_option maxRecDepth 65536 in
theorem w_c6 : (Jvm.Cond.code ({ cls := "com/example/vestwright/vestwright/Formats", name := "isYear", desc := "(Ljava/lang/String;)Z" } : Jvm.MethodName) prog_16_method_2_code (1 : Nat) (Option.some Jvm.ClassFile.FieldType.boolean)).before args0 about1 = true := code_word (m := ⟨8, 1⟩) (meth := k8m1) (c := k8c1) (by decide +kernel) rfl rfl rfl (by decide +kernel)
set_option maxRecDepth 65536 in
theorem w_c7 : (Jvm.Cond.code ({ cls := "java/lang/String", name := "length", desc := "()I" } : Jvm.MethodName) jdk_42_method_54_code (1 : Nat) (Option.some Jvm.ClassFile.FieldType.int)).before args0 about1 = true := code_word (m := ⟨7, 2⟩) (meth := k7m2) (c := k7c2) (by decide +kernel) rfl rfl rfl (by decide +kernel)
set_option maxRecDepth 65536 in
theorem w_c8 : (Jvm.Cond.code ({ cls := "java/lang/String", name := "coder", desc := "()B" } : Jvm.MethodName) jdk_42_method_152_code (1 : Nat) (Option.some Jvm.ClassFile.FieldType.byte)).before args0 about1 = true := code_word (m := ⟨7, 5⟩) (meth := k7m5) (c := k7c5) (by decide +kernel) rfl rfl rfl (by decide +kernel)
set_option maxRecDepth 65536 in
theorem w_c9 : (Jvm.Cond.code ({ cls := "java/lang/StringUTF16", name := "compress", desc := "([CII)[B" } : Jvm.MethodName) jdk_52_method_16_code (6 : Nat) (Option.some (Jvm.ClassFile.FieldType.array Jvm.ClassFile.FieldType.byte))).before args0 about1 = true := code_word (m := ⟨9, 8⟩) (meth := k9m8) (c := k9c8) (by decide +kernel) rfl rfl rfl (by decide +kernel)
set_option maxRecDepth 65536 in
theorem w_c10 : (Jvm.Cond.code ({ cls := "java/lang/StringUTF16", name := "compress", desc := "([CI[BII)I" } : Jvm.MethodName) jdk_52_method_21_code (7 : Nat) (Option.some Jvm.ClassFile.FieldType.int)).before args0 about1 = true := code_word (m := ⟨9, 9⟩) (meth := k9m9) (c := k9c9) (by decide +kernel) rfl rfl rfl (by decide +kernel)
set_option maxRecDepth 65536 in
theorem w_c11 : (Jvm.Cond.code ({ cls := "java/lang/StringUTF16", name := "coderFromArrayLen", desc := "([BI)B" } : Jvm.MethodName) jdk_52_method_15_code (2 : Nat) (Option.some Jvm.ClassFile.FieldType.byte)).before args0 about1 = true := code_word (m := ⟨9, 7⟩) (meth := k9m7) (c := k9c7) (by decide +kernel) rfl rfl rfl (by decide +kernel)
set_option maxRecDepth 65536 in
theorem w_c12 : (Jvm.Cond.code ({ cls := "com/example/vestwright/vestwright/FormatsIsYearPinLaw", name := "dig", desc := "(C)Z" } : Jvm.MethodName) method_3_code (1 : Nat) (Option.some Jvm.ClassFile.FieldType.boolean)).before args0 about1 = true := code_word (m := ⟨1, 2⟩) (meth := k1m2) (c := k1c2) (by decide +kernel) rfl rfl rfl (by decide +kernel)
set_option maxRecDepth 65536 in
theorem w_c13 : (Jvm.Cond.code ({ cls := "com/example/vestwright/vestwright/Formats", name := "digits", desc := "(Ljava/lang/String;II)Z" } : Jvm.MethodName) prog_16_method_14_code (5 : Nat) (Option.some Jvm.ClassFile.FieldType.boolean)).before args0 about1 = true := code_word (m := ⟨8, 2⟩) (meth := k8m2) (c := k8c2) (by decide +kernel) rfl rfl rfl (by decide +kernel)
set_option maxRecDepth 65536 in
theorem w_c14 : (Jvm.Cond.code ({ cls := "java/lang/String", name := "charAt", desc := "(I)C" } : Jvm.MethodName) jdk_42_method_56_code (2 : Nat) (Option.some Jvm.ClassFile.FieldType.char)).before args0 about1 = true := code_word (m := ⟨7, 3⟩) (meth := k7m3) (c := k7c3) (by decide +kernel) rfl rfl rfl (by decide +kernel)
set_option maxRecDepth 65536 in
theorem w_c15 : (Jvm.Cond.code ({ cls := "java/lang/String", name := "isLatin1", desc := "()Z" } : Jvm.MethodName) jdk_42_method_154_code (1 : Nat) (Option.some Jvm.ClassFile.FieldType.boolean)).before args0 about1 = true := code_word (m := ⟨7, 6⟩) (meth := k7m6) (c := k7c6) (by decide +kernel) rfl rfl rfl (by decide +kernel)
set_option maxRecDepth 65536 in
theorem w_c16 : (Jvm.Cond.code ({ cls := "java/lang/StringLatin1", name := "charAt", desc := "([BI)C" } : Jvm.MethodName) jdk_43_method_2_code (2 : Nat) (Option.some Jvm.ClassFile.FieldType.char)).before args0 about1 = true := code_word (m := ⟨10, 1⟩) (meth := k10m1) (c := k10c1) (by decide +kernel) rfl rfl rfl (by decide +kernel)
set_option maxRecDepth 65536 in
theorem w_c17 : (Jvm.Cond.code ({ cls := "java/lang/String", name := "checkIndex", desc := "(II)V" } : Jvm.MethodName) jdk_42_method_155_code (2 : Nat) (Option.none : Option Jvm.ClassFile.FieldType)).before args0 about1 = true := code_word (m := ⟨7, 7⟩) (meth := k7m7) (c := k7c7) (by decide +kernel) rfl rfl rfl (by decide +kernel)
set_option maxRecDepth 65536 in
theorem w_c18 : (Jvm.Cond.code ({ cls := "jdk/internal/util/Preconditions", name := "checkIndex", desc := "(IILjava/util/function/BiFunction;)I" } : Jvm.MethodName) jdk_41_method_11_code (3 : Nat) (Option.some Jvm.ClassFile.FieldType.int)).before args0 about1 = true := code_word (m := ⟨11, 1⟩) (meth := k11m1) (c := k11c1) (by decide +kernel) rfl rfl rfl (by decide +kernel)
set_option maxRecDepth 65536 in
theorem w_c19 : (Jvm.Cond.code ({ cls := "java/lang/StringUTF16", name := "toBytes", desc := "([CII)[B" } : Jvm.MethodName) jdk_52_method_14_code (5 : Nat) (Option.some (Jvm.ClassFile.FieldType.array Jvm.ClassFile.FieldType.byte))).before args0 about1 = true := code_word (m := ⟨9, 6⟩) (meth := k9m6) (c := k9c6) (by decide +kernel) rfl rfl rfl (by decide +kernel)
set_option maxRecDepth 65536 in
theorem w_c20 : (Jvm.Cond.code ({ cls := "java/lang/StringUTF16", name := "newBytesFor", desc := "(I)[B" } : Jvm.MethodName) jdk_52_method_2_code (1 : Nat) (Option.some (Jvm.ClassFile.FieldType.array Jvm.ClassFile.FieldType.byte))).before args0 about1 = true := code_word (m := ⟨9, 1⟩) (meth := k9m1) (c := k9c1) (by decide +kernel) rfl rfl rfl (by decide +kernel)
set_option maxRecDepth 65536 in
theorem w_c21 : (Jvm.Cond.code ({ cls := "java/lang/StringUTF16", name := "newBytesLength", desc := "(I)I" } : Jvm.MethodName) jdk_52_method_3_code (1 : Nat) (Option.some Jvm.ClassFile.FieldType.int)).before args0 about1 = true := code_word (m := ⟨9, 2⟩) (meth := k9m2) (c := k9c2) (by decide +kernel) rfl rfl rfl (by decide +kernel)
set_option maxRecDepth 65536 in
theorem w_c22 : (Jvm.Cond.code ({ cls := "java/lang/StringUTF16", name := "putChar", desc := "([BII)V" } : Jvm.MethodName) jdk_52_method_4_code (3 : Nat) (Option.none : Option Jvm.ClassFile.FieldType)).before args0 about1 = true := code_word (m := ⟨9, 3⟩) (meth := k9m3) (c := k9c3) (by decide +kernel) rfl rfl rfl (by decide +kernel)
set_option maxRecDepth 65536 in
theorem w_c23 : (Jvm.Cond.code ({ cls := "java/lang/StringUTF16", name := "getChar", desc := "([BI)C" } : Jvm.MethodName) jdk_52_method_5_code (2 : Nat) (Option.some Jvm.ClassFile.FieldType.char)).before args0 about1 = true := code_word (m := ⟨9, 4⟩) (meth := k9m4) (c := k9c4) (by decide +kernel) rfl rfl rfl (by decide +kernel)
set_option maxRecDepth 65536 in
theorem w_c24 : (Jvm.Cond.code ({ cls := "java/lang/StringUTF16", name := "charAt", desc := "([BI)C" } : Jvm.MethodName) jdk_52_method_83_code (2 : Nat) (Option.some Jvm.ClassFile.FieldType.char)).before args0 about1 = true := code_word (m := ⟨9, 10⟩) (meth := k9m10) (c := k9c10) (by decide +kernel) rfl rfl rfl (by decide +kernel)
set_option maxRecDepth 65536 in
theorem w_c25 : (Jvm.Cond.code ({ cls := "java/lang/StringUTF16", name := "checkIndex", desc := "(I[B)V" } : Jvm.MethodName) jdk_52_method_91_code (2 : Nat) (Option.none : Option Jvm.ClassFile.FieldType)).before args0 about1 = true := code_word (m := ⟨9, 11⟩) (meth := k9m11) (c := k9c11) (by decide +kernel) rfl rfl rfl (by decide +kernel)
set_option maxRecDepth 65536 in
theorem w_c26 : (Jvm.Cond.code ({ cls := "java/lang/StringUTF16", name := "length", desc := "([B)I" } : Jvm.MethodName) jdk_52_method_6_code (1 : Nat) (Option.some Jvm.ClassFile.FieldType.int)).before args0 about1 = true := code_word (m := ⟨9, 5⟩) (meth := k9m5) (c := k9c5) (by decide +kernel) rfl rfl rfl (by decide +kernel)
def codes1 : List Jvm.Cond := [Jvm.Cond.code x code maxLocals ret, Jvm.Cond.code ({ cls := "com/example/vestwright/vestwright/FormatsIsYearPinLaw", name := "draw", desc := "(I)C" } : Jvm.MethodName) method_2_code (2 : Nat) (Option.some Jvm.ClassFile.FieldType.char), Jvm.Cond.code ({ cls := "com/example/vestwright/vestwright/FormatsIsYearPinLaw", name := "str", desc := "(ICCCCC)Ljava/lang/String;" } : Jvm.MethodName) method_4_code (6 : Nat) (Option.some (Jvm.ClassFile.FieldType.object "java/lang/String")), Jvm.Cond.code ({ cls := "java/lang/String", name := "<init>", desc := "([C)V" } : Jvm.MethodName) jdk_42_method_3_code (2 : Nat) (Option.none : Option Jvm.ClassFile.FieldType), Jvm.Cond.code ({ cls := "java/lang/String", name := "<init>", desc := "([CIILjava/lang/Void;)V" } : Jvm.MethodName) jdk_42_method_149_code (6 : Nat) (Option.none : Option Jvm.ClassFile.FieldType), Jvm.Cond.code ({ cls := "java/lang/Object", name := "<init>", desc := "()V" } : Jvm.MethodName) object_method_1_code (1 : Nat) (Option.none : Option Jvm.ClassFile.FieldType), Jvm.Cond.code ({ cls := "com/example/vestwright/vestwright/Formats", name := "isYear", desc := "(Ljava/lang/String;)Z" } : Jvm.MethodName) prog_16_method_2_code (1 : Nat) (Option.some Jvm.ClassFile.FieldType.boolean), Jvm.Cond.code ({ cls := "java/lang/String", name := "length", desc := "()I" } : Jvm.MethodName) jdk_42_method_54_code (1 : Nat) (Option.some Jvm.ClassFile.FieldType.int), Jvm.Cond.code ({ cls := "java/lang/String", name := "coder", desc := "()B" } : Jvm.MethodName) jdk_42_method_152_code (1 : Nat) (Option.some Jvm.ClassFile.FieldType.byte), Jvm.Cond.code ({ cls := "java/lang/StringUTF16", name := "compress", desc := "([CII)[B" } : Jvm.MethodName) jdk_52_method_16_code (6 : Nat) (Option.some (Jvm.ClassFile.FieldType.array Jvm.ClassFile.FieldType.byte)), Jvm.Cond.code ({ cls := "java/lang/StringUTF16", name := "compress", desc := "([CI[BII)I" } : Jvm.MethodName) jdk_52_method_21_code (7 : Nat) (Option.some Jvm.ClassFile.FieldType.int), Jvm.Cond.code ({ cls := "java/lang/StringUTF16", name := "coderFromArrayLen", desc := "([BI)B" } : Jvm.MethodName) jdk_52_method_15_code (2 : Nat) (Option.some Jvm.ClassFile.FieldType.byte), Jvm.Cond.code ({ cls := "com/example/vestwright/vestwright/FormatsIsYearPinLaw", name := "dig", desc := "(C)Z" } : Jvm.MethodName) method_3_code (1 : Nat) (Option.some Jvm.ClassFile.FieldType.boolean), Jvm.Cond.code ({ cls := "com/example/vestwright/vestwright/Formats", name := "digits", desc := "(Ljava/lang/String;II)Z" } : Jvm.MethodName) prog_16_method_14_code (5 : Nat) (Option.some Jvm.ClassFile.FieldType.boolean), Jvm.Cond.code ({ cls := "java/lang/String", name := "charAt", desc := "(I)C" } : Jvm.MethodName) jdk_42_method_56_code (2 : Nat) (Option.some Jvm.ClassFile.FieldType.char), Jvm.Cond.code ({ cls := "java/lang/String", name := "isLatin1", desc := "()Z" } : Jvm.MethodName) jdk_42_method_154_code (1 : Nat) (Option.some Jvm.ClassFile.FieldType.boolean), Jvm.Cond.code ({ cls := "java/lang/StringLatin1", name := "charAt", desc := "([BI)C" } : Jvm.MethodName) jdk_43_method_2_code (2 : Nat) (Option.some Jvm.ClassFile.FieldType.char), Jvm.Cond.code ({ cls := "java/lang/String", name := "checkIndex", desc := "(II)V" } : Jvm.MethodName) jdk_42_method_155_code (2 : Nat) (Option.none : Option Jvm.ClassFile.FieldType), Jvm.Cond.code ({ cls := "jdk/internal/util/Preconditions", name := "checkIndex", desc := "(IILjava/util/function/BiFunction;)I" } : Jvm.MethodName) jdk_41_method_11_code (3 : Nat) (Option.some Jvm.ClassFile.FieldType.int), Jvm.Cond.code ({ cls := "java/lang/StringUTF16", name := "toBytes", desc := "([CII)[B" } : Jvm.MethodName) jdk_52_method_14_code (5 : Nat) (Option.some (Jvm.ClassFile.FieldType.array Jvm.ClassFile.FieldType.byte)), Jvm.Cond.code ({ cls := "java/lang/StringUTF16", name := "newBytesFor", desc := "(I)[B" } : Jvm.MethodName) jdk_52_method_2_code (1 : Nat) (Option.some (Jvm.ClassFile.FieldType.array Jvm.ClassFile.FieldType.byte)), Jvm.Cond.code ({ cls := "java/lang/StringUTF16", name := "newBytesLength", desc := "(I)I" } : Jvm.MethodName) jdk_52_method_3_code (1 : Nat) (Option.some Jvm.ClassFile.FieldType.int), Jvm.Cond.code ({ cls := "java/lang/StringUTF16", name := "putChar", desc := "([BII)V" } : Jvm.MethodName) jdk_52_method_4_code (3 : Nat) (Option.none : Option Jvm.ClassFile.FieldType), Jvm.Cond.code ({ cls := "java/lang/StringUTF16", name := "getChar", desc := "([BI)C" } : Jvm.MethodName) jdk_52_method_5_code (2 : Nat) (Option.some Jvm.ClassFile.FieldType.char), Jvm.Cond.code ({ cls := "java/lang/StringUTF16", name := "charAt", desc := "([BI)C" } : Jvm.MethodName) jdk_52_method_83_code (2 : Nat) (Option.some Jvm.ClassFile.FieldType.char), Jvm.Cond.code ({ cls := "java/lang/StringUTF16", name := "checkIndex", desc := "(I[B)V" } : Jvm.MethodName) jdk_52_method_91_code (2 : Nat) (Option.none : Option Jvm.ClassFile.FieldType), Jvm.Cond.code ({ cls := "java/lang/StringUTF16", name := "length", desc := "([B)I" } : Jvm.MethodName) jdk_52_method_6_code (1 : Nat) (Option.some Jvm.ClassFile.FieldType.int)]
set_option maxRecDepth 65536 in
theorem codes_eq : words1.filter isCode = codes1 := rfl
theorem w_codes : ∀ c ∈ words1.filter isCode, c.before args0 about1 = true := by
  rw [codes_eq]
  intro c hc
  simp only [codes1, List.mem_cons, List.not_mem_nil, or_false] at hc
  rcases hc with rfl | rfl | rfl | rfl | rfl | rfl | rfl | rfl | rfl | rfl | rfl | rfl | rfl | rfl | rfl | rfl | rfl | rfl | rfl | rfl | rfl | rfl | rfl | rfl | rfl | rfl | rfl
  · exact w_c0
  · exact w_c1
  · exact w_c2
  · exact w_c3
  · exact w_c4
  · exact w_c5
  · exact w_c6
  · exact w_c7
  · exact w_c8
  · exact w_c9
  · exact w_c10
  · exact w_c11
  · exact w_c12
  · exact w_c13
  · exact w_c14
  · exact w_c15
  · exact w_c16
  · exact w_c17
  · exact w_c18
  · exact w_c19
  · exact w_c20
  · exact w_c21
  · exact w_c22
  · exact w_c23
  · exact w_c24
  · exact w_c25
  · exact w_c26
set_option maxRecDepth 65536 in
theorem w_t1 : (words1.take 24).all (fun c => isCode c || c.before args0 about1) = true := by decide +kernel
set_option maxRecDepth 65536 in
theorem w_t2 : ((words1.drop 24).take 24).all (fun c => isCode c || c.before args0 about1) = true := by decide +kernel
set_option maxRecDepth 65536 in
theorem w_t3 : (((words1.drop 24).drop 24).take 24).all (fun c => isCode c || c.before args0 about1) = true := by decide +kernel
set_option maxRecDepth 65536 in
theorem w_t4 : ((((words1.drop 24).drop 24).drop 24).take 24).all (fun c => isCode c || c.before args0 about1) = true := by decide +kernel
set_option maxRecDepth 65536 in
theorem w_t5 : ((((words1.drop 24).drop 24).drop 24).drop 24).all (fun c => isCode c || c.before args0 about1) = true := by decide +kernel
theorem w_tables : (allAtoms (Jvm.Cond.code x code maxLocals ret :: tables_1)).before args0 about1 = true := by
  rw [allAtoms_all]
  show words1.all (fun c => c.before args0 about1) = true
  refine all_split ?_ w_codes
  rw [← List.take_append_drop 24 words1, List.all_append, w_t1, ← List.take_append_drop 24 (words1.drop 24), List.all_append, w_t2, ← List.take_append_drop 24 ((words1.drop 24).drop 24), List.all_append, w_t3, ← List.take_append_drop 24 (((words1.drop 24).drop 24).drop 24), List.all_append, w_t4, w_t5]
  rfl
set_option maxRecDepth 65536 in
theorem w_rest : rest_1_c.before args0 about1 = true := by decide +kernel
set_option maxRecDepth 65536 in
theorem w_case : (Jvm.Cond.and given_1 narrow_1).before args0 about1 = true := by decide +kernel
set_option maxRecDepth 65536 in
theorem w_consts : constsHeld consts_1 about1 := Jvm.Lit.constsHeldB_iff.mp (by decide +kernel)
theorem w_applies : (headSpec (Jvm.Cond.code x code maxLocals ret :: tables_1) room_1).applies x e0.platform about1 = true :=
  (Spec.applies_iff w_frames).mpr ⟨w_running, w_runnable, w_alone, w_named, w_hears, w_ripe, w_room, w_tables⟩
theorem atStart : AtStart classFile x code maxLocals ret World_1 tables_1 room_1 Calls_1 rest_1 Pre_1 launch0 p0 e0 about1 theMethod args0 below0 :=
  ⟨lists_1, trivial, launch0.admits_env _ _ _, launch0.least_env, fairChoices_fair.cas, fairChoices_fair.clock, w_frames, w_args, w_heap, w_applies, ⟨w_consts, trivial⟩, w_rest, w_case⟩
end start1
theorem witness_1 : WitnessClaimed_1 := ⟨start1.p0, start1.e0, start1.about1, start1.theMethod, start1.args0, start1.below0, start1.atStart⟩
end Jvm.Pilot.@@N@@
