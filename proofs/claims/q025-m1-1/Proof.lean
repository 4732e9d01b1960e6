import JvmDerived
import JvmDerived.Pilot.@@N@@Statement
import JvmDerived.Pilot.@@N@@Code
set_option linter.unusedVariables false
set_option linter.unusedSimpArgs false
namespace Jvm.RoadKit
open Sem ClassFile Op Lib Jvm.Stand Jvm.Free Jvm.LawKit
section Own
variable {p : Program} {l : Launch} {e : Env} {R : Room} {s : State} {m : MethodId} {args : Array Value} {below : List Frame} {meth : Method} {c : Code} {T A B : State} {locs : List Loc} {cells slots K N : Nat} {P : State → Outcome → Prop} {Q : Option Value → Heap → List Loc → Prop}
def Go (p : Program) (e : Env) (below : List Frame) (P : State → Outcome → Prop) (A : State) : Prop := ∃ s₂ o, Steps p.tables e below A s₂ ∧ s₂.status = .running ∧ Ended s₂ below o ∧ P s₂ o
def PostW (s : State) (K N : Nat) (Q : Option Value → Heap → List Loc → Prop) : State → Outcome → Prop := fun s₂ o => ∃ v L, o = .returned v ∧ Q v s₂.heap L ∧ FrameEnd s o s₂ L K N
theorem Go.by (h : ∀ t, Steps p.tables e below B t → Steps p.tables e below A t) (k : Go p e below P B) : Go p e below P A := by
  obtain ⟨s₂, o, h1, h2⟩ := k
  exact ⟨s₂, o, h _ h1, h2⟩
abbrev vi (n : Int32) : Slot := .val (.int n)
abbrev vr (a : Addr) : Slot := .val (.ref a)
abbrev St (T : State) (m : MethodId) (pc : Nat) (L : Array Slot) (S : List Value) : State := T.setTop (mkF m pc L S)
theorem gy (B : State) (h : ∀ t, Steps p.tables e below B t → Steps p.tables e below A t) (k : Go p e below P B) : Go p e below P A := Go.by h k
theorem Go.to (h : Steps p.tables e below A B) (k : Go p e below P B) : Go p e below P A := Go.by (fun _ q => h.trans q) k
theorem Go.cast {g g' : JFrame} (q : g = g') (k : Go p e below P (T.setTop g')) : Go p e below P (T.setTop g) := q ▸ k
theorem Go.ret (X : Stand p l e R s m args below meth c T locs cells slots) (hx : p.tables.exec = Jvm.exec) (hlk : meth.locks = false) {pc : Nat} {Ls : Array Slot} {w : Value} {t : FieldType} {i : Instr} {rest : List Value} (hret : meth.sig.returnType = some t) (hn : narrow t w = w)
    (hi : (i = .ireturn ∧ (t = .int ∨ t = .boolean ∨ t = .byte ∨ t = .char ∨ t = .short) ∧ ∃ z, w = .int z) ∨ (i = .lreturn ∧ t = .long ∧ ∃ z, w = .long z) ∨ (i = .dreturn ∧ t = .double ∧ ∃ z, w = .double z) ∨ (i = .freturn ∧ t = .float ∧ ∃ z, w = .float z) ∨ (i = .areturn ∧ t.isReference = true ∧ w.isRef = true))
    (hd : decode c.code pc = .ok (i, 1)) (hc : cells ≤ K) (hs : slots ≤ N) (hQ : Q (some w) T.heap locs) : Go p e below (PostW s K N Q) (T.setTop (mkF m pc Ls (w :: rest))) := by
  obtain ⟨fs, hr, hrun, hended, hW, hsame⟩ := X.leave (v := some w) (fun h => by rw [hret] at h; cases h) hlk
  exact ⟨_, _, retOut X hx hret hn hi hd hr, hrun, hended, _, _, rfl, hQ, ⟨_, rfl⟩, hW, hsame.mono hc hs⟩
theorem Go.retZ (X : Stand p l e R s m args below meth c T locs cells slots) (hx : p.tables.exec = Jvm.exec) (hlk : meth.locks = false) {pc : Nat} {Ls : Array Slot} {z : Int32} {t : FieldType} {rest : List Value} (hret : meth.sig.returnType = some t) (ht : t = .boolean ∨ t = .byte ∨ t = .char ∨ t = .short)
    (hd : decode c.code pc = .ok (.ireturn, 1)) (hc : cells ≤ K) (hs : slots ≤ N) (hQ : Q (some (.int (nar t z))) T.heap locs) : Go p e below (PostW s K N Q) (T.setTop (mkF m pc Ls (.int z :: rest))) := by
  obtain ⟨fs, hr, hrun, hended, hW, hsame⟩ := X.leave (v := some (.int (nar t z))) (fun h => by rw [hret] at h; cases h) hlk
  exact ⟨_, _, retN X hx hret ht hd hr, hrun, hended, _, _, rfl, hQ, ⟨_, rfl⟩, hW, hsame.mono hc hs⟩
theorem own_cat {w : Value} (h : w.isRef = true) : w.category = 1 := by cases w <;> first | rfl | (simp [Value.isRef] at h)
theorem own_narR {w : Value} {t : FieldType} (h : w.isRef = true) (ht : t.isReference = true) : narrow t w = w := by cases t <;> first | (cases ht; done) | (cases w <;> first | rfl | (simp [Value.isRef] at h))
theorem own_fitR {w : Value} {t : FieldType} (h : w.isRef = true) (ht : t.isReference = true) : fits t w = true := by cases t <;> first | (cases ht; done) | (cases w <;> first | rfl | (simp [Value.isRef] at h))
theorem own_a {P : Value → Prop} {x : Value} {r : List Value} (h : P x) (k : ∀ v ∈ r, P v) : ∀ v ∈ x :: r, P v := List.forall_mem_cons.2 ⟨h, k⟩
theorem own_push (acc : Array Slot) {v : Value} (h : v.category = 1) : (if v.category = 2 then (acc.push (.val v)).push .second else acc.push (.val v)) = acc.push (.val v) := by rw [if_neg]; rw [h]; decide
theorem own_fold {xs : List Value} (h : ∀ v ∈ xs, v.category = 1) : ∀ acc : Array Slot, xs.foldl (fun acc v => if v.category = 2 then (acc.push (.val v)).push .second else acc.push (.val v)) acc = acc ++ (xs.map Slot.val).toArray := by
  induction xs with
  | nil => intro acc; simp
  | cons x r ih =>
    intro acc
    rw [List.foldl_cons, own_push acc (h x (List.mem_cons_self ..)), ih (fun v q => h v (List.mem_cons_of_mem _ q))]
    simp
theorem own_ent (m : MethodId) {xs : List Value} {n : Nat} {k : Nat} (h : ∀ v ∈ xs, v.category = 1) (hn : n = xs.length + k) : entryFrame m xs.toArray n = mkF m 0 ((xs.map Slot.val) ++ List.replicate k Slot.unset).toArray [] := by
  have e : xs.toArray.foldl (init := #[]) (fun acc v => if v.category = 2 then (acc.push (.val v)).push .second else acc.push (.val v)) = (xs.map Slot.val).toArray := by
    rw [List.foldl_toArray, own_fold h]; simp
  have z : n - (xs.map Slot.val).toArray.size = k := by simp; omega
  have q : argsToLocals xs.toArray n = ((xs.map Slot.val) ++ List.replicate k Slot.unset).toArray := by
    show (xs.toArray.foldl _ #[]) ++ Array.replicate (n - (xs.toArray.foldl _ #[]).size) Slot.unset = _
    rw [e, z]; simp
  show ({ method := m, pc := 0, locals := argsToLocals xs.toArray n, stack := [], locked := none } : JFrame) = _
  rw [q]
theorem Go.retV (X : Stand p l e R s m args below meth c T locs cells slots) (hx : p.tables.exec = Jvm.exec) (hlk : meth.locks = false) {pc : Nat} {Ls : Array Slot} (hret : meth.sig.returnType = none)
    (hd : decode c.code pc = .ok (.return_, 1)) (hc : cells ≤ K) (hs : slots ≤ N) (hQ : Q none T.heap locs) : Go p e below (PostW s K N Q) (T.setTop (mkF m pc Ls [])) := by
  obtain ⟨fs, hr, hrun, hended, hW, hsame⟩ := X.leave (v := none) (fun _ => rfl) hlk
  exact ⟨_, _, X.returnOut hx hret hd hr, hrun, hended, _, _, rfl, hQ, ⟨_, rfl⟩, hW, hsame.mono hc hs⟩
theorem wd {L : List Cond} {a0 : Array Value} {Z : State} (hw : ∀ d ∈ L, d.before a0 Z = true) (i : Nat) {d : Cond} (h : L[i]? = some d) : d.before a0 Z = true := hw d (List.mem_of_getElem? h)
abbrev Met (l : Launch) (Z : State) (y : MethodName) (bytes : ByteArray) (maxL : Nat) (ret : Option FieldType) (ws : List Cond) (rm : Room) (as' : Array Value) (h0 : Heap) (Q : Option Value → Heap → List Loc → Prop) : Prop :=
  MetFree l y (head1 (Cond.code y bytes maxL ret :: ws) rm) (fun a U => a = as' ∧ Z.Warmed39 U.vm ∧ U.heap = h0) (fun _ _ _ _ _ => True) (fun _ U o U' => ∃ v L, o = .returned v ∧ Q v U'.heap L ∧ FrameEnd U o U' L rm.cells rm.slots)
theorem Met.enter {Z : State} {y : MethodName} {bytes : ByteArray} {maxL : Nat} {ret : Option FieldType} {ws : List Cond} {rm : Room} {as' : Array Value} {h0 : Heap} {f0 : MethodId → JFrame} (hpl : plainFor y = true) (hf0 : ∀ m, entryFrame m as' maxL = f0 m)
    (body : ∀ (p : Program) (e : Env) (s : State) (m : MethodId) (below : List Frame) (meth : Method) (c : Code) (s₁ : State), p.tables.exec = Jvm.exec → c.code = bytes → c.maxLocals = maxL → s.vm.findClass y.cls = some m.cls → meth.name = y.name → meth.sig.returnType = ret → meth.locks = false → Z.Warmed39 s.vm → Stand p l e rm s m as' below meth c s₁ [] 0 0 → s₁.heap = h0 → Go p e below (PostW s rm.cells rm.slots Q) (s₁.setTop (f0 m))) : Met l Z y bytes maxL ret ws rm as' h0 Q := by
  refine MetFree.of_bodySF hpl hisR ?_
  intro p e s m args below meth c s₁ Bd hml0 hP hK
  obtain ⟨rfl, hZ, hh⟩ := hP
  have q := body p e s m below meth c s₁ Bd.exec Bd.bytes hml0 (findClass_of_methodNamed Bd.named) (name_of_methodNamed Bd.named Bd.method).1 Bd.returns Bd.notSynchronized hZ (Stand.of_body Bd) (by rw [← hh, Bd.state]; rfl)
  rw [← hf0] at q
  exact q
end Own
section OwnC
variable {p : Program} {l : Launch} {e : Env} {R : Room} {s : State} {m : MethodId} {args : Array Value} {below : List Frame} {meth : Method} {c : Code} {T : State} {locs : List Loc} {cells slots : Nat} {P : State → Outcome → Prop} {Q : Option Value → Heap → List Loc → Prop} {Z : State} {a0 : Array Value} {h : Heap} {n0 : Nat} {Q' : Option Value → Heap → Prop}
theorem goS (X : Stand p l e R s m args below meth c T locs cells slots) (hx : p.tables.exec = Jvm.exec) (hZ : Z.Warmed39 s.vm) {own : String} {index : Nat} {y : MethodName} {bytes : ByteArray} {maxL : Nat} {ret : Option FieldType} (hown : s.vm.findClass own = some m.cls)
    (w1 : (Cond.methodLink own index y).before a0 Z = true) (ww : (Cond.static y).before a0 Z = true ∧ (Cond.initialized y.cls).before a0 Z = true ∧ (Cond.code y bytes maxL ret).before a0 Z = true) (n cells' slots' : Nat) {rm : Room} {as' : Array Value} (hM : Met l Z y bytes maxL ret [] rm as' h (fun v h L => Fr n0 L ∧ Q' v h)) (N : Fr n0 locs) (eT : T.heap = h)
    {sig : MethodDescriptor} (hpd : parseMethodDescriptor y.desc = some sig) {g : JFrame} {ML : Nat} (hml : c.maxLocals = ML) (hd : decode c.code g.pc = .ok (.invokestatic index, 3)) (k : ∀ v T' L, Stand p l e R s m args below meth c T' (locs ++ L) cells' slots' → Fr n0 (locs ++ L) → Q' v T'.heap → Go p e below P (T'.setTop { g with pc := g.pc + 3, stack := v.toList ++ g.stack.drop n }))
    (hg : g.method = m := by rfl) (hsize : g.locals.size = ML := by rfl) (hy : y.cls ≠ "java/lang/invoke/MethodHandle" ∧ y.cls ≠ "java/lang/invoke/VarHandle" := by decide) (hlen : ((g.stack.take n).reverse).length = sig.parameters.length := by rfl) (has : ((g.stack.take n).reverse).toArray = as' := by rfl)
    (hf : rm.frames + 1 ≤ R.frames := by decide) (hl : 2 * g.monitorRoom + ((g.stack.drop n).map fun v => v.category).sum + (maxL + 11) + rm.locals ≤ R.locals := by exact Nat.le_of_ble_eq_true rfl) (hc : cells + rm.cells = cells' := by rfl) (hs : slots + rm.slots = slots' := by rfl) (hc' : cells' ≤ R.cells := by decide) (hs' : slots' ≤ R.slots := by decide) : Go p e below P (T.setTop g) := by
  obtain ⟨w2, w3, w4⟩ := ww
  subst hc hs
  obtain ⟨v, vm₁, ⟨T', L', k', n'⟩, -, X', ⟨L, hQ, l1, y1, z1⟩, st⟩ := Jvm.LawKit.callS X hx (y := y) hown (mvT hZ w1) (mvT hZ w2) (mvT hZ w3) (mvT hZ w4) hy (backOf (W := 2 * g.monitorRoom + ((g.stack.drop n).map fun v => v.category).sum) (Q := fun v h L => Fr n0 L ∧ Q' v h) hM hZ w4 w3 hf hl) (g := g) hg (by rw [hml]; exact hsize) (argsL := (g.stack.take n).reverse) (rest := g.stack.drop n)
    (fun sig' h' => by rw [hpd] at h'; cases h'; exact hlen) (by rw [List.reverse_reverse, List.take_append_drop]) (Nat.le_refl _) hd (fun _ _ => ⟨has, eT, hc', hs'⟩)
  dsimp only [Pt.U, Pt.locs, Pt.cells, Pt.slots] at X' l1 y1 z1 st hQ
  subst l1 y1 z1
  exact Go.by st (k v T' L X' (Fr.app N hQ.1) hQ.2)
theorem goV (X : Stand p l e R s m args below meth c T locs cells slots) (hx : p.tables.exec = Jvm.exec) (hZ : Z.Warmed39 s.vm) {own C : String} {index : Nat} {y : MethodName} {bytes : ByteArray} {maxL : Nat} {ret : Option FieldType} (hown : s.vm.findClass own = some m.cls)
    (w1 : (Cond.methodLink own index y).before a0 Z = true) (ww : (Cond.declares y).before a0 Z = true ∧ (Cond.selects C y y).before a0 Z = true ∧ (Cond.instanceMethod y).before a0 Z = true ∧ (Cond.initialized y.cls).before a0 Z = true ∧ (Cond.code y bytes maxL ret).before a0 Z = true) {a : Addr} (E : Exa Z h a C) (n cells' slots' : Nat) {rm : Room} {as' : Array Value} (hM : Met l Z y bytes maxL ret [] rm as' h (fun v h L => Fr n0 L ∧ Q' v h)) (N : Fr n0 locs) (eT : T.heap = h)
    {sig : MethodDescriptor} (hpd : parseMethodDescriptor y.desc = some sig) {g : JFrame} {ML : Nat} (hml : c.maxLocals = ML) (hd : decode c.code g.pc = .ok (.invokevirtual index, 3)) (k : ∀ v T' L, Stand p l e R s m args below meth c T' (locs ++ L) cells' slots' → Fr n0 (locs ++ L) → Q' v T'.heap → Go p e below P (T'.setTop { g with pc := g.pc + 3, stack := v.toList ++ g.stack.drop (n + 1) }))
    (hg : g.method = m := by rfl) (hsize : g.locals.size = ML := by rfl) (hy : y.cls ≠ "java/lang/invoke/MethodHandle" ∧ y.cls ≠ "java/lang/invoke/VarHandle" := by decide) (hlen : ((g.stack.take n).reverse).length = sig.parameters.length := by rfl) (hat : g.stack = (g.stack.take n) ++ Value.ref a :: g.stack.drop (n + 1) := by rfl) (has : (Value.ref a :: (g.stack.take n).reverse).toArray = as' := by rfl)
    (hf : rm.frames + 1 ≤ R.frames := by decide) (hl : 2 * g.monitorRoom + ((g.stack.drop (n + 1)).map fun v => v.category).sum + (maxL + 11) + rm.locals ≤ R.locals := by exact Nat.le_of_ble_eq_true rfl) (hc : cells + rm.cells = cells' := by rfl) (hs : slots + rm.slots = slots' := by rfl) (hc' : cells' ≤ R.cells := by decide) (hs' : slots' ≤ R.slots := by decide) : Go p e below P (T.setTop g) := by
  obtain ⟨w2, w5, w6, w3, w4⟩ := ww
  subst hc hs
  obtain ⟨cq, kq, qa, -, qc⟩ := isOf hZ eT E
  obtain ⟨v, vm₁, ⟨T', L', k', n'⟩, -, X', ⟨L, hQ, l1, y1, z1⟩, st⟩ := X.virtualBack hx (y := y) (z := y) hown (mvT hZ w1) (mvT hZ w2) (notFace_of_selects (args := #[]) (mvT hZ w5)) (mvT hZ w5) (mvT hZ w6) hy (backOf (W := 2 * g.monitorRoom + ((g.stack.drop (n + 1)).map fun v => v.category).sum) (Q := fun v h L => Fr n0 L ∧ Q' v h) hM hZ w4 w3 hf hl) qa qc (g := g) hg (by rw [hml]; exact hsize) (Steps.refl _) (argsL := (g.stack.take n).reverse) (rest := g.stack.drop (n + 1))
    (fun sig' h' => by rw [hpd] at h'; cases h'; exact hlen) (by rw [List.reverse_reverse]; exact hat) (Nat.le_refl _) hd (fun _ _ => ⟨has, eT, hc', hs'⟩)
  dsimp only [Pt.U, Pt.locs, Pt.cells, Pt.slots] at X' l1 y1 z1 st hQ
  subst l1 y1 z1
  exact Go.to st (k v T' L X' (Fr.app N hQ.1) hQ.2)
theorem goI (X : Stand p l e R s m args below meth c T locs cells slots) (hx : p.tables.exec = Jvm.exec) (hZ : Z.Warmed39 s.vm) {own : String} {index : Nat} {y : MethodName} {bytes : ByteArray} {maxL : Nat} (hown : s.vm.findClass own = some m.cls)
    (w1 : (Cond.methodLink own index y).before a0 Z = true) (ww : (Cond.instanceMethod y).before a0 Z = true ∧ (Cond.initialized y.cls).before a0 Z = true ∧ (Cond.code y bytes maxL none).before a0 Z = true) (n cells' slots' : Nat) {rm : Room} {as' : Array Value} (hM : Met l Z y bytes maxL none [] rm as' h (fun v h L => Fr n0 L ∧ Q' v h)) (N : Fr n0 locs) (eT : T.heap = h)
    {sig : MethodDescriptor} (hpd : parseMethodDescriptor y.desc = some sig) {g : JFrame} {ML : Nat} (hml : c.maxLocals = ML) (hd : decode c.code g.pc = .ok (.invokespecial index, 3)) (k : ∀ v T' L, Stand p l e R s m args below meth c T' (locs ++ L) cells' slots' → Fr n0 (locs ++ L) → Q' v T'.heap → Go p e below P (T'.setTop { g with pc := g.pc + 3, stack := v.toList ++ g.stack.drop (n + 1) }))
    {a : Addr} (hat : g.stack = (g.stack.take n) ++ Value.ref a :: g.stack.drop (n + 1) := by rfl) (hn : y.name = "<init>" := by rfl)
    (hg : g.method = m := by rfl) (hsize : g.locals.size = ML := by rfl) (hy : y.cls ≠ "java/lang/invoke/MethodHandle" ∧ y.cls ≠ "java/lang/invoke/VarHandle" := by decide) (hlen : ((g.stack.take n).reverse).length = sig.parameters.length := by rfl) (has : (Value.ref a :: (g.stack.take n).reverse).toArray = as' := by rfl)
    (hf : rm.frames + 1 ≤ R.frames := by decide) (hl : 2 * g.monitorRoom + ((g.stack.drop (n + 1)).map fun v => v.category).sum + (maxL + 11) + rm.locals ≤ R.locals := by exact Nat.le_of_ble_eq_true rfl) (hc : cells + rm.cells = cells' := by rfl) (hs : slots + rm.slots = slots' := by rfl) (hc' : cells' ≤ R.cells := by decide) (hs' : slots' ≤ R.slots := by decide) : Go p e below P (T.setTop g) := by
  obtain ⟨w6, w3, w4⟩ := ww
  subst hc hs
  obtain ⟨v, vm₁, ⟨T', L', k', n'⟩, -, X', ⟨L, hQ, l1, y1, z1⟩, st⟩ := X.specialBack hx (y := y) hn hown (mvT hZ w1) (mvT hZ w6) (mvT hZ w4) hy (backOf (W := 2 * g.monitorRoom + ((g.stack.drop (n + 1)).map fun v => v.category).sum) (Q := fun v h L => Fr n0 L ∧ Q' v h) hM hZ w4 w3 hf hl) (g := g) hg (by rw [hml]; exact hsize) (Steps.refl _) (a := a) (argsL := (g.stack.take n).reverse) (rest := g.stack.drop (n + 1))
    (fun sig' h' => by rw [hpd] at h'; cases h'; exact hlen) (by rw [List.reverse_reverse]; exact hat) (Nat.le_refl _) hd (fun _ _ => ⟨has, eT, hc', hs'⟩)
  dsimp only [Pt.U, Pt.locs, Pt.cells, Pt.slots] at X' l1 y1 z1 st hQ
  subst l1 y1 z1
  exact Go.to st (k v T' L X' (Fr.app N hQ.1) hQ.2)
theorem oe (m : MethodId) {xs : List Value} {n : Nat} (k : Nat) (h : xs.all (fun v => v.category == 1) = true := by rfl) (hn : n = xs.length + k := by rfl) : entryFrame m xs.toArray n = mkF m 0 ((xs.map Slot.val) ++ List.replicate k Slot.unset).toArray [] := own_ent m (fun v hv => by simpa using List.all_eq_true.mp h v hv) hn
theorem gz {B : State} (X : Stand p l e R s m args below meth c B locs cells slots) (pc : Nat) (L : Array Slot) (S : List Value) (h : ∀ t, Steps p.tables e below (B.setTop (mkF m pc L S)) t → Steps p.tables e below T t) (k : Go p e below P (B.setTop (mkF m pc L S))) : Go p e below P T := Go.by h k
theorem lN (X : Stand p l e R s m args below meth c T locs cells slots) (hx : p.tables.exec = Jvm.exec) {target : State} {g : JFrame} {k : Fin 4} {v : Int32} (hd : decode c.code g.pc = .ok (.iload_n k, 1)) (hl : g.locals[k.val]? = some (.val (.int v))) (hr : Steps p.tables e below (T.setTop { g with pc := g.pc + 1, stack := .int v :: g.stack }) target) (hg : g.method = m := by rfl) : Steps p.tables e below (T.setTop g) target := XS.iloadN X.here hx hg hd hl hr
theorem lI (X : Stand p l e R s m args below meth c T locs cells slots) (hx : p.tables.exec = Jvm.exec) {target : State} {g : JFrame} {k : Nat} {v : Int32} (hd : decode c.code g.pc = .ok (.iload k, 2)) (hl : g.locals[k]? = some (.val (.int v))) (hr : Steps p.tables e below (T.setTop { g with pc := g.pc + 2, stack := .int v :: g.stack }) target) (hg : g.method = m := by rfl) : Steps p.tables e below (T.setTop g) target := XS.iload X.here hx hg hd hl hr
theorem aN (X : Stand p l e R s m args below meth c T locs cells slots) (hx : p.tables.exec = Jvm.exec) {target : State} {g : JFrame} {k : Fin 4} {v : Value} (hd : decode c.code g.pc = .ok (.aload_n k, 1)) (hl : g.locals[k.val]? = some (.val v)) (hv : v.isRef = true) (hr : Steps p.tables e below (T.setTop { g with pc := g.pc + 1, stack := v :: g.stack }) target) (hg : g.method = m := by rfl) : Steps p.tables e below (T.setTop g) target := XS.aloadN X.here hx hg hd hl hv hr
theorem aI (X : Stand p l e R s m args below meth c T locs cells slots) (hx : p.tables.exec = Jvm.exec) {target : State} {g : JFrame} {k : Nat} {v : Value} (hd : decode c.code g.pc = .ok (.aload k, 2)) (hl : g.locals[k]? = some (.val v)) (hv : v.isRef = true) (hr : Steps p.tables e below (T.setTop { g with pc := g.pc + 2, stack := v :: g.stack }) target) (hg : g.method = m := by rfl) : Steps p.tables e below (T.setTop g) target := XS.aload X.here hx hg hd hl hv hr
theorem kC (X : Stand p l e R s m args below meth c T locs cells slots) (hx : p.tables.exec = Jvm.exec) {target : State} {g : JFrame} {i : Int} (hd : decode c.code g.pc = .ok (.iconst i, 1)) (hr : Steps p.tables e below (T.setTop { g with pc := g.pc + 1, stack := .int (Int32.ofInt i) :: g.stack }) target) (hg : g.method = m := by rfl) : Steps p.tables e below (T.setTop g) target := XS.iconst X.here hx hg hd hr
theorem sN (X : Stand p l e R s m args below meth c T locs cells slots) (hx : p.tables.exec = Jvm.exec) {target : State} {g : JFrame} {k : Fin 4} {x : Int32} {rest : List Value} {o : Slot} (hd : decode c.code g.pc = .ok (.istore_n k, 1)) (hs : g.stack = .int x :: rest) (hold : g.locals[k.val]? = some o) (ho : o = .unset ∨ ∃ w, o = .val w ∧ w.category = 1) (hr : Steps p.tables e below (T.setTop { g with pc := g.pc + 1, stack := rest, locals := g.locals.setIfInBounds k.val (.val (.int x)) }) target) (hg : g.method = m := by rfl) : Steps p.tables e below (T.setTop g) target := XS.istoreN X.here hx hg hd hs (XS.store1 hold ho rfl) hr
theorem sI (X : Stand p l e R s m args below meth c T locs cells slots) (hx : p.tables.exec = Jvm.exec) {target : State} {g : JFrame} {k : Nat} {x : Int32} {rest : List Value} {o : Slot} (hd : decode c.code g.pc = .ok (.istore k, 2)) (hs : g.stack = .int x :: rest) (hold : g.locals[k]? = some o) (ho : o = .unset ∨ ∃ w, o = .val w ∧ w.category = 1) (hr : Steps p.tables e below (T.setTop { g with pc := g.pc + 2, stack := rest, locals := g.locals.setIfInBounds k (.val (.int x)) }) target) (hg : g.method = m := by rfl) : Steps p.tables e below (T.setTop g) target := XS.istore X.here hx hg hd hs (XS.store1 hold ho rfl) hr
theorem tN (X : Stand p l e R s m args below meth c T locs cells slots) (hx : p.tables.exec = Jvm.exec) {target : State} {g : JFrame} {k : Fin 4} {x : Value} {rest : List Value} {o : Slot} (hd : decode c.code g.pc = .ok (.astore_n k, 1)) (hs : g.stack = x :: rest) (hv : x.isRef = true) (hold : g.locals[k.val]? = some o) (ho : o = .unset ∨ ∃ w, o = .val w ∧ w.category = 1) (hr : Steps p.tables e below (T.setTop { g with pc := g.pc + 1, stack := rest, locals := g.locals.setIfInBounds k.val (.val x) }) target) (hg : g.method = m := by rfl) : Steps p.tables e below (T.setTop g) target := XS.astoreN X.here hx hg hd hs hv (XS.store1 hold ho (own_cat hv)) hr
theorem tI (X : Stand p l e R s m args below meth c T locs cells slots) (hx : p.tables.exec = Jvm.exec) {target : State} {g : JFrame} {k : Nat} {x : Value} {rest : List Value} {o : Slot} (hd : decode c.code g.pc = .ok (.astore k, 2)) (hs : g.stack = x :: rest) (hv : x.isRef = true) (hold : g.locals[k]? = some o) (ho : o = .unset ∨ ∃ w, o = .val w ∧ w.category = 1) (hr : Steps p.tables e below (T.setTop { g with pc := g.pc + 2, stack := rest, locals := g.locals.setIfInBounds k (.val x) }) target) (hg : g.method = m := by rfl) : Steps p.tables e below (T.setTop g) target := XS.astore X.here hx hg hd hs hv (XS.store1 hold ho (own_cat hv)) hr
theorem pI (X : Stand p l e R s m args below meth c T locs cells slots) (hx : p.tables.exec = Jvm.exec) {target : State} {g : JFrame} {x y : Int32} {rest : List Value} (hd : decode c.code g.pc = .ok (.iadd, 1)) (hs : g.stack = .int y :: .int x :: rest) (hr : Steps p.tables e below (T.setTop { g with pc := g.pc + 1, stack := .int (x + y) :: rest }) target) (hg : g.method = m := by rfl) : Steps p.tables e below (T.setTop g) target := XS.iadd X.here hx hg hd hs hr
theorem cN (X : Stand p l e R s m args below meth c T locs cells slots) (hx : p.tables.exec = Jvm.exec) {target : State} {g : JFrame} {cd : ClassFile.Cond} {o : Int} {x y : Int32} {rest : List Value} (hd : decode c.code g.pc = .ok (.if_icmp cd o, 3)) (hs : g.stack = .int y :: .int x :: rest) (hc : if_icmp.holds cd x y = false) (hr : Steps p.tables e below (T.setTop { g with pc := g.pc + 3, stack := rest }) target) (hg : g.method = m := by rfl) : Steps p.tables e below (T.setTop g) target := XS.icmpNo X.here hx hg hd hs hc hr
theorem fN (X : Stand p l e R s m args below meth c T locs cells slots) (hx : p.tables.exec = Jvm.exec) {target : State} {g : JFrame} {cd : ClassFile.Cond} {o : Int} {x : Int32} {rest : List Value} (hd : decode c.code g.pc = .ok (.ifCond cd o, 3)) (hs : g.stack = .int x :: rest) (hc : ifCond.holds cd x = false) (hr : Steps p.tables e below (T.setTop { g with pc := g.pc + 3, stack := rest }) target) (hg : g.method = m := by rfl) : Steps p.tables e below (T.setTop g) target := XS.ifNo X.here hx hg hd hs hc hr
theorem cY (X : Stand p l e R s m args below meth c T locs cells slots) (hx : p.tables.exec = Jvm.exec) {target : State} {g : JFrame} {cd : ClassFile.Cond} {o : Int} {x y : Int32} {rest : List Value} (pc0 pc' : Nat) (hpc : g.pc = pc0) (hd : decode c.code g.pc = .ok (.if_icmp cd o, 3)) (hs : g.stack = .int y :: .int x :: rest) (hc : if_icmp.holds cd x y = true) (hr : Steps p.tables e below (T.setTop { g with pc := pc', stack := rest }) target) (ho : 0 ≤ (pc0 : Int) + o := by decide) (hp : ((pc0 : Int) + o).toNat = pc' := by decide) (hg : g.method = m := by rfl) : Steps p.tables e below (T.setTop g) target := XS.icmpYes X.here hx hg hpc hd hs hc ho hp hr
theorem fY (X : Stand p l e R s m args below meth c T locs cells slots) (hx : p.tables.exec = Jvm.exec) {target : State} {g : JFrame} {cd : ClassFile.Cond} {o : Int} {x : Int32} {rest : List Value} (pc0 pc' : Nat) (hpc : g.pc = pc0) (hd : decode c.code g.pc = .ok (.ifCond cd o, 3)) (hs : g.stack = .int x :: rest) (hc : ifCond.holds cd x = true) (hr : Steps p.tables e below (T.setTop { g with pc := pc', stack := rest }) target) (ho : 0 ≤ (pc0 : Int) + o := by decide) (hp : ((pc0 : Int) + o).toNat = pc' := by decide) (hg : g.method = m := by rfl) : Steps p.tables e below (T.setTop g) target := XS.ifYes X.here hx hg hpc hd hs hc ho hp hr
theorem gT (X : Stand p l e R s m args below meth c T locs cells slots) (hx : p.tables.exec = Jvm.exec) {target : State} {g : JFrame} {o : Int} (pc0 pc' : Nat) (hpc : g.pc = pc0) (hd : decode c.code g.pc = .ok (.goto o, 3)) (hr : Steps p.tables e below (T.setTop { g with pc := pc' }) target) (ho : 0 ≤ (pc0 : Int) + o := by decide) (hp : ((pc0 : Int) + o).toNat = pc' := by decide) (hg : g.method = m := by rfl) : Steps p.tables e below (T.setTop g) target := XS.goto X.here hx hg hpc hd ho hp hr
theorem Go.retA {K N : Nat} (X : Stand p l e R s m args below meth c T locs cells slots) (hx : p.tables.exec = Jvm.exec) (hlk : meth.locks = false) {pc : Nat} {Ls : Array Slot} {a : Value} {t : FieldType} {rest : List Value} (hret : meth.sig.returnType = some t) (hd : decode c.code pc = .ok (.areturn, 1)) (hQ : Q (some a) T.heap locs) (hv : a.isRef = true := by rfl) (hn : narrow t a = a := by rfl) (ht : t.isReference = true := by rfl) (hc : cells ≤ K := by decide) (hs : slots ≤ N := by decide) : Go p e below (PostW s K N Q) (T.setTop (mkF m pc Ls (a :: rest))) := Go.ret X hx hlk hret hn (Or.inr (Or.inr (Or.inr (Or.inr ⟨rfl, ht, hv⟩)))) hd hc hs hQ
theorem Go.retJ {K N : Nat} (X : Stand p l e R s m args below meth c T locs cells slots) (hx : p.tables.exec = Jvm.exec) (hlk : meth.locks = false) {pc : Nat} {Ls : Array Slot} {z : Int32} {t : FieldType} {rest : List Value} (hret : meth.sig.returnType = some t) (hd : decode c.code pc = .ok (.ireturn, 1)) (hQ : Q (some (.int z)) T.heap locs) (hn : narrow t (.int z) = .int z := by rfl) (ht : t = .int ∨ t = .boolean ∨ t = .byte ∨ t = .char ∨ t = .short := by simp) (hc : cells ≤ K := by decide) (hs : slots ≤ N := by decide) : Go p e below (PostW s K N Q) (T.setTop (mkF m pc Ls (.int z :: rest))) := Go.ret X hx hlk hret hn (Or.inl ⟨rfl, ht, _, rfl⟩) hd hc hs hQ
end OwnC
end Jvm.RoadKit
namespace Jvm.RoadKit
open Sem ClassFile Op Lib Bundle Jvm.Stand Jvm.Free Jvm.LawKit Jvm.Free.SB Jvm.Free.SBG
section OwnS
variable {p : Program} {l : Launch} {e : Env} {R : Room} {s : State} {m : MethodId} {args : Array Value} {below : List Frame} {meth : Method} {c : Code} {T A B : State} {locs : List Loc} {cells slots K N : Nat} {Q : Option Value → Heap → List Loc → Prop} {Z : State} {a0 : Array Value} {EL : List (String × Nat)} {vm0 : Vm} {k0 : Nat}
def PostS (Z : State) (EL : List (String × Nat)) (s : State) (K N : Nat) (Q : Option Value → Heap → List Loc → Prop) : State → Outcome → Prop := fun s₂ o => ∃ v L, o = .returned v ∧ Q v s₂.heap L ∧ CHr Z EL s.vm s.heap s₂.vm s₂.heap ∧ ReturnedEndW s o s₂ L K N
theorem own_monoW {t : State} {o : Outcome} {L : List Loc} {k n : Nat} (h : ReturnedEndW s o t L k n) (hk : k ≤ K) (hn : n ≤ N) : ReturnedEndW s o t L K N := ⟨h.1, h.2.1, h.2.2.1, h.2.2.2.mono hk hn⟩
theorem Go.retS (X : Stand p l e R (s.setVm vm0) m args below meth c T locs cells slots) (hx : p.tables.exec = Jvm.exec) (hlk : meth.locks = false) (hS : s.Since vm0 k0) (hk : k0 ≤ T.heap.size) (hZ : Z.Warmed39 vm0) (hEL : EW Z a0 EL) (C : CHr Z EL s.vm s.heap vm0 T.heap) {pc : Nat} {Ls : Array Slot} {w : Value} {t : FieldType} {i : Instr} {rest : List Value} (hret : meth.sig.returnType = some t) (hn : narrow t w = w)
    (hi : (i = .ireturn ∧ (t = .int ∨ t = .boolean ∨ t = .byte ∨ t = .char ∨ t = .short) ∧ ∃ z, w = .int z) ∨ (i = .lreturn ∧ t = .long ∧ ∃ z, w = .long z) ∨ (i = .dreturn ∧ t = .double ∧ ∃ z, w = .double z) ∨ (i = .freturn ∧ t = .float ∧ ∃ z, w = .float z) ∨ (i = .areturn ∧ t.isReference = true ∧ w.isRef = true))
    (hd : decode c.code pc = .ok (i, 1)) (hc : cells ≤ K) (hs : slots ≤ N) (hQ : Q (some w) T.heap locs) : Go p e below (PostS Z EL s K N Q) (T.setTop (mkF m pc Ls (w :: rest))) := by
  obtain ⟨fs, hr, hrun, hended, hW⟩ := X.leaveW hS hk (v := some w) (fun h => by rw [hret] at h; cases h) hlk
  exact ⟨_, _, retOut X hx hret hn hi hd hr, hrun, hended, _, _, rfl, hQ, (show CHr Z EL s.vm s.heap T.vm T.heap from C.trans (CHv.at X hZ hEL C.1)), own_monoW hW hc hs⟩
theorem Go.retZS (X : Stand p l e R (s.setVm vm0) m args below meth c T locs cells slots) (hx : p.tables.exec = Jvm.exec) (hlk : meth.locks = false) (hS : s.Since vm0 k0) (hk : k0 ≤ T.heap.size) (hZ : Z.Warmed39 vm0) (hEL : EW Z a0 EL) (C : CHr Z EL s.vm s.heap vm0 T.heap) {pc : Nat} {Ls : Array Slot} {z : Int32} {t : FieldType} {rest : List Value} (hret : meth.sig.returnType = some t) (ht : t = .boolean ∨ t = .byte ∨ t = .char ∨ t = .short)
    (hd : decode c.code pc = .ok (.ireturn, 1)) (hc : cells ≤ K) (hs : slots ≤ N) (hQ : Q (some (.int (nar t z))) T.heap locs) : Go p e below (PostS Z EL s K N Q) (T.setTop (mkF m pc Ls (.int z :: rest))) := by
  obtain ⟨fs, hr, hrun, hended, hW⟩ := X.leaveW hS hk (v := some (.int (nar t z))) (fun h => by rw [hret] at h; cases h) hlk
  exact ⟨_, _, retN X hx hret ht hd hr, hrun, hended, _, _, rfl, hQ, (show CHr Z EL s.vm s.heap T.vm T.heap from C.trans (CHv.at X hZ hEL C.1)), own_monoW hW hc hs⟩
theorem Go.retVS (X : Stand p l e R (s.setVm vm0) m args below meth c T locs cells slots) (hx : p.tables.exec = Jvm.exec) (hlk : meth.locks = false) (hS : s.Since vm0 k0) (hk : k0 ≤ T.heap.size) (hZ : Z.Warmed39 vm0) (hEL : EW Z a0 EL) (C : CHr Z EL s.vm s.heap vm0 T.heap) {pc : Nat} {Ls : Array Slot} (hret : meth.sig.returnType = none)
    (hd : decode c.code pc = .ok (.return_, 1)) (hc : cells ≤ K) (hs : slots ≤ N) (hQ : Q none T.heap locs) : Go p e below (PostS Z EL s K N Q) (T.setTop (mkF m pc Ls [])) := by
  obtain ⟨fs, hr, hrun, hended, hW⟩ := X.leaveW hS hk (v := none) (fun _ => rfl) hlk
  exact ⟨_, _, X.returnOut hx hret hd hr, hrun, hended, _, _, rfl, hQ, (show CHr Z EL s.vm s.heap T.vm T.heap from C.trans (CHv.at X hZ hEL C.1)), own_monoW hW hc hs⟩
abbrev MetS (l : Launch) (Z : State) (EL : List (String × Nat)) (y : MethodName) (bytes : ByteArray) (maxL : Nat) (ret : Option FieldType) (ws : List Cond) (rm : Room) (as' : Array Value) (h0 : Heap) (Q : Option Value → Heap → List Loc → Prop) : Prop :=
  MetFree l y (head1 (Cond.code y bytes maxL ret :: ws) rm) (fun a U => a = as' ∧ Z.Warmed39 U.vm ∧ U.heap = h0 ∧ CHv Z EL U.vm h0) (fun _ _ _ _ _ => True) (fun _ U o U' => ∃ v L, o = .returned v ∧ Q v U'.heap L ∧ CHr Z EL U.vm U.heap U'.vm U'.heap ∧ ReturnedEndW U o U' L rm.cells rm.slots)
theorem MetS.enter {y : MethodName} {bytes : ByteArray} {maxL : Nat} {ret : Option FieldType} {ws : List Cond} {rm : Room} {as' : Array Value} {h0 : Heap} {f0 : MethodId → JFrame} (hpl : plainFor y = true) (hf0 : ∀ m, entryFrame m as' maxL = f0 m)
    (body : ∀ (p : Program) (e : Env) (s : State) (m : MethodId) (below : List Frame) (meth : Method) (c : Code) (s₁ : State), p.tables.exec = Jvm.exec → c.code = bytes → c.maxLocals = maxL → s.vm.findClass y.cls = some m.cls → meth.name = y.name → meth.sig.returnType = ret → meth.locks = false → Z.Warmed39 s.vm → Stand p l e rm (s.setVm s.vm) m as' below meth c s₁ [] 0 0 → s₁.heap = h0 → s.Since s.vm h0.size → CHr Z EL s.vm s.heap s.vm h0 → Go p e below (PostS Z EL s rm.cells rm.slots Q) (s₁.setTop (f0 m))) : MetS l Z EL y bytes maxL ret ws rm as' h0 Q := by
  refine MetFree.of_bodySF hpl hisR ?_
  intro p e s m args below meth c s₁ Bd hml0 hP hK
  obtain ⟨rfl, hZ, hh, hC⟩ := hP
  have q := body p e s m below meth c s₁ Bd.exec Bd.bytes hml0 (findClass_of_methodNamed Bd.named) (name_of_methodNamed Bd.named Bd.method).1 Bd.returns Bd.notSynchronized hZ (Stand.of_body Bd) (by rw [← hh, Bd.state]; rfl) ((State.WarmedH.refl s).since _) (by rw [hh]; exact CHr.refl hC)
  rw [← hf0] at q
  exact q
/-- an object whose 'value' is null is no booked String, nor a booked String's array -/
theorem own_safe0 {h : Heap} {x : Addr} {vm : Vm} (hal : Z.vm.Alike vm) (E : Exa Z h x "java/lang/String") (F : Fld Z h x "java/lang/String" "value" "[B" .null) : Safe Z EL vm h x := fun B => by
  obtain ⟨p, -, u, a, -, q, -, S, rfl | rfl⟩ := B
  · obtain ⟨cS, ⟨⟨s1, s2, s3, ⟨cv, kv, iv, s4, s4'⟩, -, s6, -, s8, -⟩, -⟩, -⟩ := S
    obtain ⟨cell, cf, k, i, f, h1, h2, -, -, -, -, h7⟩ := F
    obtain ⟨kv', z4⟩ := ff_back hal s4
    have e1 := h2.symm.trans z4
    simp only [Option.some.injEq, Prod.mk.injEq] at e1
    have e2 : cell = q.sC := Option.some.inj (h1.symm.trans s1)
    rw [e2, e1.2.2.2, s8] at h7
    cases h7
  · obtain ⟨cS, ⟨⟨-, -, -, -, -, -, -, -, -, s10, -⟩, -⟩, -, hB, -⟩ := S
    obtain ⟨cell, k, h1, h2, -⟩ := E
    have e2 : cell = q.SA := Option.some.inj (h1.symm.trans s10)
    have hB' : vm.findClass "[B" = some q.SA.cls := hB
    rw [hal.findClass] at hB'
    rw [e2] at h2
    obtain ⟨k1, q1, q2⟩ := Vm.findClass_spec hB'
    obtain ⟨k2, q3, q4⟩ := Vm.findClass_spec h2
    cases q1.symm.trans q3
    have := q2.symm.trans q4
    revert this
    decide
end OwnS
end Jvm.RoadKit
namespace Jvm.RoadKit
open ClassFile Sem Op Lib Bundle Jvm.Stand Jvm.Free Jvm.LawKit Jvm.Free.SB Jvm.Free.SBG
section OwnE
variable {p : Program} {l : Launch} {e : Env} {R : Room} {s : State} {m : MethodId} {args : Array Value} {below : List Frame} {meth : Method} {c : Code} {T : State} {locs : List Loc} {cells slots : Nat} {Z : State} {a0 : Array Value} {EL : List (String × Nat)} {vm0 : Vm} {own : String} {index : Nat}
theorem own_noUnits {u : Array UInt16} (h : utf16ToString? u = some "") : u = #[] := by
  have q := Jvm.ClassFile.units_of_text h (by decide)
  exact Array.toList_inj.mp (by rw [q]; rfl)
theorem own_noLat : (#[] : Array UInt16).all (· < 256) = true := by first | rfl | decide | simp
theorem own_noBytes : stringBytes #[] = #[] := by rw [SBG.stringBytes_lat own_noLat]; first | rfl | simp
theorem own_extPush (h : Heap) (x : Cell) : Ext h (h.push x) := ext_of fun a ha => by rw [Array.getElem?_push, if_neg (Nat.ne_of_lt ha)]
theorem own_emptySaid {h : Heap} {vm : Vm} {a : Addr} (hal : Z.vm.Alike vm) (F : SlOf (Wst Z vm h) a #[]) :
    Exa Z h a "java/lang/String" ∧ Fld Z h a "java/lang/String" "coder" "B" (.int 0) ∧ ∃ (b : Addr) (k : ClassId), Fld Z h a "java/lang/String" "value" "[B" (.ref b) ∧ Arv Z h b k .byte 0 [] (.int 0) := by
  obtain ⟨q, cS, rfl, ⟨L, hcS, rfl⟩, ⟨kS, hkS, -, hsz⟩, -, hby⟩ := F.moved (W := ({ Z with heap := h } : State)) hal.symm (fun _ _ y => y)
  obtain ⟨cv, kv, iv, v1, v2⟩ := L.ffV
  obtain ⟨cc, kc, ic, c1, c2⟩ := L.ffC
  have z : q.SA.slots.size = 0 := by rw [hby, own_noBytes]; rfl
  exact ⟨⟨q.sC, kS, L.ha, hcS, hkS, L.obj, fun _ => hsz⟩, ⟨q.sC, cc, kc, ic, _, L.ha, c1, L.stC, L.kn, L.obj, c2, L.slC⟩, q.sd, q.SA.cls,
    ⟨q.sC, cv, kv, iv, _, L.ha, v1, L.stV, L.kn, L.obj, v2, L.slV⟩, ⟨q.SA, ⟨L.hd, L.arr, L.knA⟩, rfl, z, by decide, fun i hi => absurd hi (by omega), fun i hi => absurd hi (by omega)⟩⟩
abbrev OwnGrew (T T₂ : State) : Prop := T₂.vm.interned = T.vm.interned ∨ ∃ b : Addr, T₂.vm.interned = T.vm.interned.push (#[], b) ∧ T.vm.interned.find? (fun p => p.1 == (#[] : Array UInt16)) = none ∧ b < T₂.heap.size ∧ SlIn 0 T.heap.size T₂ b #[]
theorem own_grewAt {T T₂ : State} {b : Addr} (S : SlIn 0 T.heap.size T₂ b #[]) : ∃ q : SQ, q.sa = b ∧ SlB (Wst Z T₂.vm T₂.heap) q #[] ∧ T.heap.size ≤ q.sa ∧ T.heap.size ≤ q.sd := by
  obtain ⟨q, cS, h1, L, h2, h3, h4, h5⟩ := S
  exact ⟨q, h1, ⟨cS, L.carry (U' := Wst Z T₂.vm T₂.heap) (Vm.Alike.refl _) L.1.ha L.1.hd, h2, h3, h4⟩, h5.resolve_left fun y => Nat.not_lt_zero _ y.1⟩
theorem own_emptyAt {T₂ : State} {a : Addr} {k₂ : Class} {d : ClassId} (hZ : Z.Warmed39 T.vm) (hf : T.vm.findClass own = some d) (w : (Cond.stringLink own index "").before a0 Z = true) (hEL : EW Z a0 EL) (hmem : (own, index) ∈ EL) (H : CHv Z EL T.vm T.heap)
    (hW : T.Warmed39 T₂.vm) (E : Ext T.heap T₂.heap) (G : OwnGrew T T₂) (hk : T₂.vm.classes[d]? = some k₂) (hr : k₂.resolved[index]? = some (some (.string a))) :
    CHr Z EL T.vm T.heap T₂.vm T₂.heap ∧ Exa Z T₂.heap a "java/lang/String" ∧ Fld Z T₂.heap a "java/lang/String" "coder" "B" (.int 0) ∧ ∃ (b : Addr) (k : ClassId), Fld Z T₂.heap a "java/lang/String" "value" "[B" (.ref b) ∧ Arv Z T₂.heap b k .byte 0 [] (.int 0) := by
  have hZ2 : Z.Warmed39 T₂.vm := State.Warmed39.trans (t := T) hZ hW
  have hf2 : T₂.vm.findClass own = some d := by rw [hW.alike.findClass]; exact hf
  obtain ⟨H2, B⟩ := CHv.later (vm := T.vm) (vm1 := T₂.vm) (h := T.heap) (h' := T₂.heap) hZ (show (Wst Z T.vm T.heap).Warmed39 T₂.vm from hW) hEL E (Or.imp id (fun ⟨b, e1, e2, _, S⟩ => ⟨#[], b, e1, e2, fun _ => own_grewAt S⟩) G) H
  obtain ⟨k, cf, i, u, hk', hcf, hp, hu, -, htext, -⟩ := Cond.stringLink_spec (s := Wst Z T₂.vm T₂.heap) hf2 (mvS (args := a0) (s := { Z with heap := T₂.heap }) hZ2 w)
  cases own_noUnits htext
  cases hk.symm.trans hk'
  exact ⟨⟨H2, E.1, B⟩, own_emptySaid hZ2.alike (H2 _ hmem _ a ⟨d, _, cf, i, hf2, hk, hcf, hp, hu, Or.inl hr⟩)⟩
abbrev ownVm (T : State) (d : ClassId) (index : Nat) : Vm := ({ T.vm with interned := T.vm.interned.push (#[], T.heap.size + 1) } : Vm).noted d index (.string (T.heap.size + 1))
theorem own_ldcE (X : Stand p l e R (s.setVm vm0) m args below meth c T locs cells slots) (hx : p.tables.exec = Jvm.exec) (hZ : Z.Warmed39 vm0) (hown : vm0.findClass own = some m.cls) (w : (Cond.stringLink own index "").before a0 Z = true) (wS : ∀ a ∈ Bundle.stringAtoms, a.before a0 Z = true)
    {h : Heap} (eT : T.heap = h) {k0 : Nat} (hS : s.Since vm0 k0) (hk : k0 ≤ h.size) (hEL : EW Z a0 EL) (hmem : (own, index) ∈ EL) (H : CHv Z EL vm0 h)
    {g : JFrame} (hg : g.method = m) (hd : decode c.code g.pc = .ok (.ldc_w index, 3)) (hc : cells + 2 ≤ R.cells) (hl : slots + 4 ≤ R.slots) :
    ∃ (a : Addr) (T' : State) (h' : Heap) (k1 : Nat) (b : Addr) (k : ClassId), Stand p l e R (s.setVm T'.vm) m args below meth c T' locs (cells + 2) (slots + 4) ∧ T'.heap = h' ∧ Ext h h' ∧ s.Since T'.vm k1 ∧ k1 ≤ h'.size ∧ Z.Warmed39 (s.setVm T'.vm).vm ∧ (s.setVm T'.vm).vm.findClass own = some m.cls ∧
      Exa Z h' a "java/lang/String" ∧ Fld Z h' a "java/lang/String" "coder" "B" (.int 0) ∧ Fld Z h' a "java/lang/String" "value" "[B" (.ref b) ∧ Arv Z h' b k .byte 0 [] (.int 0) ∧ CHr Z EL vm0 h T'.vm h' ∧
      ∀ target, Steps p.tables e below (T'.setTop { g with pc := g.pc + 3, stack := .ref a :: g.stack }) target → Steps p.tables e below (T.setTop g) target := by
  subst eT hg
  have hT : Z.Warmed39 T.vm := wtrans (s := s.setVm vm0) hZ X.warmed
  have A := CHv.at X hZ hEL H
  have X1 : Stand p l e R (s.setVm T.vm) g.method args below meth c T locs cells slots := X.retabled X.warmed.wide
  have S1 : s.Since T.vm T.heap.size := hS.trans (X.warmed.since _) hk
  have hf : T.vm.findClass own = some g.method.cls := by rw [X.warmed.alike.findClass]; exact hown
  suffices Q : ∃ (a : Addr) (T₂ : State) (k₂ : Class), Stand p l e R (s.setVm T₂.vm) g.method args below meth c T₂ locs (cells + 2) (slots + 4) ∧ T.Warmed39 T₂.vm ∧ Ext T.heap T₂.heap ∧ OwnGrew T T₂ ∧ T₂.vm.classes[g.method.cls]? = some k₂ ∧ k₂.resolved[index]? = some (some (.string a)) ∧
      ∀ target, Steps p.tables e below (T₂.setTop { g with pc := g.pc + 3, stack := .ref a :: g.stack }) target → Steps p.tables e below (T.setTop g) target by
    obtain ⟨a, T₂, k₂, X2, hW, E, G, hk2, hr, st⟩ := Q
    obtain ⟨C, EA, FC, b, k, FV, VA⟩ := own_emptyAt hT hf w hEL hmem A.1 hW E G hk2 hr
    have hI : T.Interned1 T₂ := ⟨E.1, Or.imp id (fun ⟨b, e1, _, l2, S⟩ => ⟨#[], b, e1, by obtain ⟨q, rfl, -, l1, -⟩ := own_grewAt (Z := Z) S; exact l1, l2⟩) G⟩
    exact ⟨a, T₂, _, T₂.heap.size, b, k, X2, rfl, E, ⟨State.Warmed39.trans (t := T) S1.1 hW, S1.2.step X1.same.2.1 hI⟩, Nat.le_refl _, State.Warmed39.trans (t := T) hT hW, by show T₂.vm.findClass own = _; rw [hW.alike.findClass]; exact hf, EA, FC, FV, VA, A.trans C, st⟩
  obtain ⟨k, cf, i, u, hk', hcf, hp, hu, hnm, htext, hres⟩ := Cond.stringLink_spec (s := Wst Z T.vm T.heap) hf (mvS (args := a0) (s := { Z with heap := T.heap }) hT w)
  cases own_noUnits htext
  have hk' : T.vm.classes[g.method.cls]? = some k := hk'
  have n1 : k.cf.bind (namesOf? ·.constantPool index) = some (.string "") := by rw [hcf]; exact hnm
  have n2 : k.cf.bind (·.constantPool[index]?) = some (.string i) := by rw [hcf]; exact hp
  have n3 : k.cf.bind (·.constantPool.utf8? i) = some #[] := by rw [hcf]; simp [ConstantPool.utf8?, hu]
  rcases hres with ho | ⟨a, hr⟩
  · cases hn : T.vm.interned.find? (fun p => p.1 == (#[] : Array UInt16)) with
    | some pr =>
      obtain ⟨v, a⟩ := pr
      have ev : v = #[] := by have y := Array.find?_some hn; exact eq_of_beq y
      subst ev
      have hW : T.Warmed39 (T.vm.noted g.method.cls index (.string a)) := (State.Warmed39.refl T).notedString hk' (Or.inl ho) n1 n2 n3 hn
      exact ⟨a, T.setVm (T.vm.noted g.method.cls index (.string a)), _, (X1.retabled (show (s.setVm T.vm).Warmed39 _ from hW)).mono (by omega) (by omega), hW, ⟨Nat.le_refl _, fun _ _ y => y⟩, Or.inl rfl, Vm.classes_note_self index (.string a) hk', Class.resolved_note_self (.string a) ho, fun target rest => by
        jvm_step X.here [hx, hd, ldc_w.wp_string_found (e := e) (s := T) (f := g) X.here.top hk' hcf hp hu ho hn]
        exact rest⟩
    | none =>
      obtain ⟨Y, LY, n4, fv, fc⟩ := StringT.of_atoms (args := a0) wS
      obtain ⟨kS, kB, LT, ty⟩ := LY.warmer hT.alike
      have ft : T.fitsSlot = Z.fitsSlot := fits_alike hT.alike
      have hU := withString_eq T Y.cB Y.cS kS Y.fv Y.fc #[]
      obtain ⟨U, eU⟩ : ∃ U, U = withString T Y.cB Y.cS kS Y.fv Y.fc #[] := ⟨_, rfl⟩
      rw [← eU] at hU
      have hh : U.heap = (T.heap.push (bytesOf Y.cB #[])).push (stringAt Y.cS kS Y.fv Y.fc #[] T.heap.size) := by rw [hU]; rfl
      have E : Ext T.heap U.heap := by rw [hh]; exact ⟨by simp only [Array.size_push]; omega, fun a x y => (own_extPush _ _).2 _ _ ((own_extPush _ _).2 _ _ y)⟩
      have z1 : (bytesOf Y.cB #[]).slots.size = 0 := by rw [(Cell.writeAll_facts _ _).2.2]; show (Array.replicate (stringBytes #[]).size (Value.int 0)).size = 0; rw [own_noBytes]; simp
      have z2 : (stringAt Y.cS kS Y.fv Y.fc #[] T.heap.size).slots.size = 4 := by simp [string0, Cell.setSlot, ty, n4]
      have z3 : T.slotsUsed + (stringBytes #[]).size + kS.instanceTypes.size ≤ e.platform.maxSlots := by
        have y := X.slotsAbove hl
        rw [own_noBytes, ty, n4]; show T.slotsUsed + 0 + 4 ≤ _; omega
      have XU : Stand p l e R (s.setVm T.vm) g.method args below meth c U locs (cells + 2) (slots + 4) := by
        rw [hU]; exact ((X1.pushed _).pushed _).mono (by omega) (by rw [z1, z2]; omega)
      have hW : T.Warmed39 (ownVm T g.method.cls index) := ((State.Warmed39.refl T).interns #[] (T.heap.size + 1)).notedString hk' (Or.inl ho) n1 n2 n3 (by
        show (T.vm.interned.push _).find? _ = _
        rw [Array.find?_push, hn]; simp)
      have X2 : Stand p l e R (s.setVm (ownVm T g.method.cls index)) g.method args below meth c (U.setVm (ownVm T g.method.cls index)) locs (cells + 2) (slots + 4) := XU.retabled (show (s.setVm T.vm).Warmed39 _ from hW)
      have M : SlIn 0 T.heap.size (U.setVm (ownVm T g.method.cls index)) (T.heap.size + 1) #[] := made_sl wS LY n4 ty (State.Warmed39.trans (t := T) hT hW).alike
        (by show U.heap[T.heap.size]? = _; rw [hh]; exact (own_extPush _ _).2 _ _ (by simp))
        (by show U.heap[T.heap.size + 1]? = _; rw [hh, Array.getElem?_push, if_pos (by simp)]) own_noLat (by rw [own_noBytes]; decide) 0
      refine ⟨T.heap.size + 1, U.setVm (ownVm T g.method.cls index), _, X2, hW, E, Or.inr ⟨T.heap.size + 1, rfl, hn, by show _ < U.heap.size; rw [hh]; simp only [Array.size_push]; omega, M⟩, Vm.classes_note_self (vm := { T.vm with interned := T.vm.interned.push (#[], T.heap.size + 1) }) index _ hk', Class.resolved_note_self _ ho, fun target rest => ?_⟩
      refine Steps.instr (s := T) (f := g) X.here ?_
      simp [jvm, wpRun, exec, X.here.top, hx, hd]
      refine ldc_w.wp_string_new (e := e) (s := T) (f := g) X.here.top hk' hcf hp hu ho hn LT.found LT.cls LT.initialized LT.ordinary LT.foundB LT.clsB LT.kindB LT.value LT.coder (by rw [own_noBytes]; exact Nat.not_lt_zero _) (by rw [own_noBytes]; simp) (X.cellsAbove hc) z3
        (stringBytes_fit LT.clsB LT.kindB #[]) LT.valueSlot LT.coderSlot (by rw [ft]; exact fv _) (by rw [ft]; exact fc _) (fun _ _ => ?_)
      intro _
      have t1 : (withString T Y.cB Y.cS kS Y.fv Y.fc #[]).topJava?.isSome := eU ▸ XU.here.top
      have t2 := X2.here.top
      rw [eU] at t2 rest
      simp [jvm, afterInstr, t1, t2]
      rw [State.modifyTopJava_setTop]
      exact rest
  · exact ⟨a, T, k, X1.mono (by omega) (by omega), State.Warmed39.refl T, ⟨Nat.le_refl _, fun _ _ y => y⟩, Or.inl rfl, hk', hr, fun target rest => by
      jvm_step X.here [hx, hd, ldc_w.wp_string (e := e) (s := T) (f := g) X.here.top hk' hcf hp hr]
      exact rest⟩
end OwnE
end Jvm.RoadKit
namespace Jvm.Pilot.@@N@@
open Jvm Jvm.ClassFile Sem Op Lib Jvm.Free Jvm.Stand Jvm.LawKit Jvm.RoadKit Bundle Jvm.Pilot.@@N@@.Jvm.D
set_option maxRecDepth 65536
set_option maxHeartbeats 40000000
abbrev Dk (b : ByteArray) (c : Code) : Prop := ∀ {i : Nat} {r : Except DecodeError (Instr × Nat)}, decode b i = r → decode c.code i = r
abbrev FV (Z : State) (h : Heap) (a t : Addr) : Prop := Fld Z h a "java/lang/String" "value" "[B" (.ref t)
abbrev FC (Z : State) (h : Heap) (a : Addr) (v : Int32) : Prop := Fld Z h a "java/lang/String" "coder" "B" (.int v)
abbrev XT (Z : State) (h : Heap) (a : Addr) : Prop := Exa Z h a "java/lang/String"
abbrev S0 (Z : State) : Prop := Sta Z Z.heap "java/lang/StringUTF16" "$assertionsDisabled" "Z" (.int 1)
abbrev S1 (Z : State) : Prop := Sta Z Z.heap "java/lang/StringUTF16" "HI_BYTE_SHIFT" "I" (.int 0)
abbrev S2 (Z : State) : Prop := Sta Z Z.heap "java/lang/StringUTF16" "LO_BYTE_SHIFT" "I" (.int 8)
abbrev S3 (Z : State) (x : Int32) : Prop := Sta Z Z.heap "java/lang/String" "COMPACT_STRINGS" "Z" (.int x)
abbrev S4 (Z : State) (x : Value) : Prop := Sta Z Z.heap "jdk/internal/util/Preconditions" "SIOOBE_FORMATTER" "Ljava/util/function/BiFunction;" x
abbrev B0 : ByteArray := jdk_29_method_69_code
abbrev B1 : ByteArray := jdk_41_method_11_code
abbrev B2 : ByteArray := jdk_41_method_12_code
abbrev B3 : ByteArray := jdk_41_method_13_code
abbrev B4 : ByteArray := jdk_42_method_149_code
abbrev B5 : ByteArray := jdk_42_method_151_code
abbrev B6 : ByteArray := jdk_42_method_152_code
abbrev B7 : ByteArray := jdk_42_method_154_code
abbrev B8 : ByteArray := jdk_42_method_155_code
abbrev B9 : ByteArray := jdk_42_method_157_code
abbrev B10 : ByteArray := jdk_42_method_158_code
abbrev B11 : ByteArray := jdk_42_method_3_code
abbrev B12 : ByteArray := jdk_42_method_54_code
abbrev B13 : ByteArray := jdk_42_method_56_code
abbrev B14 : ByteArray := jdk_42_method_57_code
abbrev B15 : ByteArray := jdk_42_method_92_code
abbrev B16 : ByteArray := jdk_43_method_2_code
abbrev B17 : ByteArray := jdk_43_method_47_code
abbrev B18 : ByteArray := jdk_52_method_14_code
abbrev B19 : ByteArray := jdk_52_method_15_code
abbrev B20 : ByteArray := jdk_52_method_16_code
abbrev B21 : ByteArray := jdk_52_method_17_code
abbrev B22 : ByteArray := jdk_52_method_21_code
abbrev B23 : ByteArray := jdk_52_method_22_code
abbrev B24 : ByteArray := jdk_52_method_2_code
abbrev B25 : ByteArray := jdk_52_method_3_code
abbrev B26 : ByteArray := jdk_52_method_4_code
abbrev B27 : ByteArray := jdk_52_method_5_code
abbrev B28 : ByteArray := jdk_52_method_69_code
abbrev B29 : ByteArray := jdk_52_method_6_code
abbrev B30 : ByteArray := jdk_52_method_7_code
abbrev B31 : ByteArray := jdk_52_method_83_code
abbrev B32 : ByteArray := jdk_52_method_8_code
abbrev B33 : ByteArray := jdk_52_method_91_code
abbrev B34 : ByteArray := jdk_52_method_94_code
abbrev B35 : ByteArray := jdk_65_method_131_code
abbrev B36 : ByteArray := jdk_65_method_132_code
abbrev B37 : ByteArray := jdk_65_method_133_code
abbrev B38 : ByteArray := jdk_89_method_14_code
abbrev B39 : ByteArray := jdk_89_method_15_code
abbrev B40 : ByteArray := jdk_89_method_18_code
abbrev B41 : ByteArray := jdk_89_method_19_code
abbrev B42 : ByteArray := method_3_code
abbrev B43 : ByteArray := method_4_code
abbrev B44 : ByteArray := method_5_code
abbrev B45 : ByteArray := method_6_code
abbrev B46 : ByteArray := prog_36_method_7_code
abbrev B47 : ByteArray := prog_36_method_8_code
abbrev DK (b : ByteArray) (i : Nat) (x : Instr) (n : Nat) : Prop := decode b i = .ok (x, n)
abbrev HW (a0 : Array Value) (Z : State) : Prop := ∀ d ∈ tables_1, d.before a0 Z = true
abbrev Y0 : MethodName := ⟨"com/example/orderly_outbox/orderlyoutbox/store/LastError", "cut", "(Ljava/lang/String;I)Ljava/lang/String;"⟩
abbrev Y1 : MethodName := ⟨"com/example/orderly_outbox/orderlyoutbox/store/LastError", "utf8Length", "(I)I"⟩
abbrev Y2 : MethodName := ⟨"com/example/orderly_outbox/orderlyoutbox/store/LastErrorCutPinLaw", "bytes", "([CII)I"⟩
abbrev Y3 : MethodName := ⟨"com/example/orderly_outbox/orderlyoutbox/store/LastErrorCutPinLaw", "draw", "(I)C"⟩
abbrev Y4 : MethodName := ⟨"com/example/orderly_outbox/orderlyoutbox/store/LastErrorCutPinLaw", "text", "([CI)Ljava/lang/String;"⟩
abbrev Y5 : MethodName := ⟨"com/example/orderly_outbox/orderlyoutbox/store/LastErrorCutPinLaw", "units", "([CII)I"⟩
abbrev Y6 : MethodName := ⟨"java/lang/Character", "charCount", "(I)I"⟩
abbrev Y7 : MethodName := ⟨"java/lang/Character", "isHighSurrogate", "(C)Z"⟩
abbrev Y8 : MethodName := ⟨"java/lang/Character", "isLowSurrogate", "(C)Z"⟩
abbrev Y9 : MethodName := ⟨"java/lang/Character", "toCodePoint", "(CC)I"⟩
abbrev Y10 : MethodName := ⟨"java/lang/Math", "min", "(II)I"⟩
abbrev Y11 : MethodName := ⟨"java/lang/String", "<init>", "([BB)V"⟩
abbrev Y12 : MethodName := ⟨"java/lang/String", "<init>", "([C)V"⟩
abbrev Y13 : MethodName := ⟨"java/lang/String", "<init>", "([CIILjava/lang/Void;)V"⟩
abbrev Y14 : MethodName := ⟨"java/lang/String", "charAt", "(I)C"⟩
abbrev Y15 : MethodName := ⟨"java/lang/String", "checkBoundsBeginEnd", "(III)V"⟩
abbrev Y16 : MethodName := ⟨"java/lang/String", "checkBoundsOffCount", "(III)I"⟩
abbrev Y17 : MethodName := ⟨"java/lang/String", "checkIndex", "(II)V"⟩
abbrev Y18 : MethodName := ⟨"java/lang/String", "codePointAt", "(I)I"⟩
abbrev Y19 : MethodName := ⟨"java/lang/String", "coder", "()B"⟩
abbrev Y20 : MethodName := ⟨"java/lang/String", "isLatin1", "()Z"⟩
abbrev Y21 : MethodName := ⟨"java/lang/String", "length", "()I"⟩
abbrev Y22 : MethodName := ⟨"java/lang/String", "substring", "(II)Ljava/lang/String;"⟩
abbrev Y23 : MethodName := ⟨"java/lang/StringLatin1", "charAt", "([BI)C"⟩
abbrev Y24 : MethodName := ⟨"java/lang/StringLatin1", "newString", "([BII)Ljava/lang/String;"⟩
abbrev Y25 : MethodName := ⟨"java/lang/StringUTF16", "charAt", "([BI)C"⟩
abbrev Y26 : MethodName := ⟨"java/lang/StringUTF16", "checkBoundsOffCount", "(II[B)V"⟩
abbrev Y27 : MethodName := ⟨"java/lang/StringUTF16", "checkIndex", "(I[B)V"⟩
abbrev Y28 : MethodName := ⟨"java/lang/StringUTF16", "codePointAt", "([BII)I"⟩
abbrev Y29 : MethodName := ⟨"java/lang/StringUTF16", "codePointAt", "([BIIZ)I"⟩
abbrev Y30 : MethodName := ⟨"java/lang/StringUTF16", "coderFromArrayLen", "([BI)B"⟩
abbrev Y31 : MethodName := ⟨"java/lang/StringUTF16", "compress", "([BII)[B"⟩
abbrev Y32 : MethodName := ⟨"java/lang/StringUTF16", "compress", "([BI[BII)I"⟩
abbrev Y33 : MethodName := ⟨"java/lang/StringUTF16", "compress", "([CII)[B"⟩
abbrev Y34 : MethodName := ⟨"java/lang/StringUTF16", "compress", "([CI[BII)I"⟩
abbrev Y35 : MethodName := ⟨"java/lang/StringUTF16", "getChar", "([BI)C"⟩
abbrev Y36 : MethodName := ⟨"java/lang/StringUTF16", "length", "([B)I"⟩
abbrev Y37 : MethodName := ⟨"java/lang/StringUTF16", "newBytesFor", "(I)[B"⟩
abbrev Y38 : MethodName := ⟨"java/lang/StringUTF16", "newBytesLength", "(I)I"⟩
abbrev Y39 : MethodName := ⟨"java/lang/StringUTF16", "newString", "([BII)Ljava/lang/String;"⟩
abbrev Y40 : MethodName := ⟨"java/lang/StringUTF16", "putChar", "([BII)V"⟩
abbrev Y41 : MethodName := ⟨"java/lang/StringUTF16", "toBytes", "([CII)[B"⟩
abbrev Y42 : MethodName := ⟨"java/util/Arrays", "checkLength", "(II)V"⟩
abbrev Y43 : MethodName := ⟨"java/util/Arrays", "copyOfRange", "([BII)[B"⟩
abbrev Y44 : MethodName := ⟨"java/util/Arrays", "copyOfRangeByte", "([BII)[B"⟩
abbrev Y45 : MethodName := ⟨"jdk/internal/util/Preconditions", "checkFromIndexSize", "(IIILjava/util/function/BiFunction;)I"⟩
abbrev Y46 : MethodName := ⟨"jdk/internal/util/Preconditions", "checkFromToIndex", "(IIILjava/util/function/BiFunction;)I"⟩
abbrev Y47 : MethodName := ⟨"jdk/internal/util/Preconditions", "checkIndex", "(IILjava/util/function/BiFunction;)I"⟩
theorem own_eqk {args : Array Value} {first s : State} {o : Option Outcome} {idx : List Nat} {t : Term} {k : Int32} (h : (Jvm.Cond.eq t (Term.int k)).value args first o s idx = some true) : t.eval args first o idx s = some (.int k) := by
  obtain ⟨x, y, ex, ey, -, k2⟩ := cmp_v (Or.inl h)
  have e2 : y = .int k := Option.some.inj (ey.symm.trans (Term.int_eval k))
  subst e2
  obtain ⟨z, rfl⟩ := k2
  have := gotT (Cond.eq_ints ex (Term.int_eval k)) h
  rw [ex, this]

theorem own_ch (x : Int32) : ¬ (255 : Int32) < (x &&& (255 : Int32)).toUInt32.toUInt16.toUInt32.toInt32 := by
  rw [i2c_mask]
  have q := c_mask x 255 8 (by decide) (by decide)
  have z : (255 : Int32).toInt = 255 := by decide
  rw [Int32.lt_iff_toInt_lt, z]
  omega
theorem own_ch0 (x : Int32) : ¬ (x &&& (255 : Int32)).toUInt32.toUInt16.toUInt32.toInt32 < (0 : Int32) := by
  rw [i2c_mask]
  have q := c_mask x 255 8 (by decide) (by decide)
  have z : (0 : Int32).toInt = 0 := by decide
  rw [Int32.lt_iff_toInt_lt, z]
  omega
theorem own_nar (x : Int32) : nar .char ((x &&& (255 : Int32)).toUInt32.toUInt16.toUInt32.toInt32) = (x &&& (255 : Int32)) := by
  show ((x &&& (255 : Int32)).toUInt32.toUInt16.toUInt32.toInt32).toUInt32.toUInt16.toUInt32.toInt32 = _
  rw [i2c_mask, i2c_mask]
theorem own_chn (x : Int32) : ¬ (255 : Int32) < nar .char ((x &&& (255 : Int32)).toUInt32.toUInt16.toUInt32.toInt32) := by
  rw [own_nar]
  have q := c_mask x 255 8 (by decide) (by decide)
  have z : (255 : Int32).toInt = 255 := by decide
  rw [Int32.lt_iff_toInt_lt, z]
  omega

abbrev own_EL : List (String × Nat) := [("java/lang/String", 7), ("java/lang/StringLatin1", 151), ("java/lang/StringUTF16", 295)]
theorem own_hEL {Z : State} {a0 : Array Value} (hw : HW a0 Z) : EW Z a0 own_EL := (EW.cons (wd hw 113 rfl) (by decide) (EW.cons (wd hw 88 rfl) (by decide) (EW.cons (wd hw 148 rfl) (by decide) EW.nil)))
theorem own_wS {Z : State} {a0 : Array Value} (hw : HW a0 Z) : ∀ a ∈ Bundle.stringAtoms, a.before a0 Z = true := fun a ha => by
  simp only [Bundle.stringAtoms, Bundle.sN, List.mem_cons, List.not_mem_nil, or_false] at ha
  rcases ha with rfl | rfl | rfl | rfl | rfl | rfl | rfl
  · exact (wd hw 10 rfl)
  · exact (wd hw 9 rfl)
  · exact (wd hw 26 rfl)
  · exact (wd hw 36 rfl)
  · exact (wd hw 34 rfl)
  · exact (wd hw 89 rfl)
  · exact (wd hw 90 rfl)
def own_rng (c : Int32) : Prop := ¬ c < (0 : Int32) ∧ ¬ (65535 : Int32) < c
theorem own_rngI {c : Int32} (h : own_rng c) : 0 ≤ c.toInt ∧ c.toInt ≤ 65535 := by
  obtain ⟨h1, h2⟩ := h
  have z1 : (0 : Int32).toInt = 0 := by decide
  have z2 : (65535 : Int32).toInt = 65535 := by decide
  rw [Int32.lt_iff_toInt_lt] at h1 h2
  omega
theorem own_nc {c : Int32} (h : own_rng c) : nar .char c = c := by
  have q := own_rngI h
  have r := c_i2c c
  show c.toUInt32.toUInt16.toUInt32.toInt32 = c
  rw [← Int32.toInt_inj]
  omega
theorem own_fc {c : Int32} (h : own_rng c) : fits .char (.int c) = true := by
  have := fits_nar_char c
  rwa [own_nc h] at this
theorem own_rngC (x : Int32) : own_rng (nar .char x) := rng_char (fits_nar_char x)
abbrev own_b0 (c : Int32) : Int32 := nar .byte ((c >>> ((0 : Int32) &&& 31)).toInt8.toInt32)
abbrev own_b1 (c : Int32) : Int32 := nar .byte ((c >>> ((8 : Int32) &&& 31)).toInt8.toInt32)
theorem own_nb (x : Int32) : nar .byte (x.toInt8.toInt32) = x.toInt8.toInt32 := by
  show x.toInt8.toInt32.toInt8.toInt32 = x.toInt8.toInt32
  simp
theorem own_gc {c : Int32} (h : own_rng c) : nar .char (((((own_b0 c) &&& (255 : Int32)) <<< ((0 : Int32) &&& 31)) ||| (((own_b1 c) &&& (255 : Int32)) <<< ((8 : Int32) &&& 31))).toUInt32.toUInt16.toUInt32.toInt32) = c := by
  have q := own_rngI h
  obtain ⟨lo, hlo⟩ : ∃ v, v = ((own_b0 c) &&& (255 : Int32)) <<< ((0 : Int32) &&& 31) := ⟨_, rfl⟩
  obtain ⟨hi, hhi⟩ : ∃ v, v = ((own_b1 c) &&& (255 : Int32)) <<< ((8 : Int32) &&& 31) := ⟨_, rfl⟩
  rw [← hlo, ← hhi]
  have a1 := c_ishr c 0 0 (by decide)
  have a2 := c_ishr c 8 8 (by decide)
  have b1 := c_i2b (c >>> ((0 : Int32) &&& 31))
  have b2 := c_i2b (c >>> ((8 : Int32) &&& 31))
  have m1 := c_mask (own_b0 c) 255 8 (by decide) (by decide)
  have m2 := c_mask (own_b1 c) 255 8 (by decide) (by decide)
  have e1 : own_b0 c = (c >>> ((0 : Int32) &&& 31)).toInt8.toInt32 := own_nb _
  have e2 : own_b1 c = (c >>> ((8 : Int32) &&& 31)).toInt8.toInt32 := own_nb _
  rw [e1] at m1
  rw [e2] at m2
  have s1 := c_ishl ((own_b0 c) &&& (255 : Int32)) 0 0 (by decide)
  have s2 := c_ishl ((own_b1 c) &&& (255 : Int32)) 8 8 (by decide)
  rw [← hlo, e1] at s1
  rw [← hhi, e2] at s2
  have g1 := rng32 lo
  have g2 := rng32 hi
  have f1 : lo.toInt = c.toInt % 256 := by omega
  have f2 : hi.toInt = (c.toInt / 256) * 256 := by omega
  have o1 := c_or' lo hi 8 (by decide) 256 (by decide) (by omega) (by omega) (by omega)
  have g3 := rng32 (lo ||| hi)
  have f3 : (lo ||| hi).toInt = c.toInt := by omega
  have f4 : (lo ||| hi) = c := Int32.toInt_inj.mp f3
  rw [f4]
  have r := c_i2c c
  have f5 : c.toUInt32.toUInt16.toUInt32.toInt32 = c := by rw [← Int32.toInt_inj]; omega
  rw [f5, own_nc h]
theorem own_lc {c : Int32} (h : own_rng c) (h2 : ¬ (255 : Int32) < c) : nar .char (((nar .byte (c.toInt8.toInt32)) &&& (255 : Int32)).toUInt32.toUInt16.toUInt32.toInt32) = c := by
  have q := own_rngI h
  have z : (255 : Int32).toInt = 255 := by decide
  rw [Int32.lt_iff_toInt_lt, z] at h2
  rw [own_nb, i2c_mask]
  have b1 := c_i2b c
  have m1 := c_mask (c.toInt8.toInt32) 255 8 (by decide) (by decide)
  have f : (c.toInt8.toInt32 &&& (255 : Int32)) = c := by rw [← Int32.toInt_inj]; omega
  rw [f, own_nc h]

def own_hi (p : Int32) : Int32 := if p < (55296 : Int32) then 0 else if p < (56320 : Int32) then 1 else 0
def own_lo (p : Int32) : Int32 := if p < (56320 : Int32) then 0 else if p < (57344 : Int32) then 1 else 0
abbrev own_tcp (c d : Int32) : Int32 := (((c <<< ((10 : Int32) &&& 31)) + d) + (-56613888 : Int32))
def own_cp (c d : Int32) : Int32 := if own_hi c = (0 : Int32) then c else if own_lo d = (0 : Int32) then c else own_tcp c d
def own_len (p : Int32) : Int32 := if p < (128 : Int32) then 1 else if p < (2048 : Int32) then 2 else if p < (65536 : Int32) then 3 else 4
def own_cnt (p : Int32) : Int32 := if p < (65536 : Int32) then 1 else 2
theorem own_hi0 {p : Int32} (a : p < (55296 : Int32)) : (0 : Int32) = own_hi p := by rw [own_hi, if_pos a]
theorem own_hi1 {p : Int32} (a : ¬ p < (55296 : Int32)) (b : p < (56320 : Int32)) : (1 : Int32) = own_hi p := by rw [own_hi, if_neg a, if_pos b]
theorem own_hi2 {p : Int32} (a : ¬ p < (55296 : Int32)) (b : ¬ p < (56320 : Int32)) : (0 : Int32) = own_hi p := by rw [own_hi, if_neg a, if_neg b]
theorem own_lo0 {p : Int32} (a : p < (56320 : Int32)) : (0 : Int32) = own_lo p := by rw [own_lo, if_pos a]
theorem own_lo1 {p : Int32} (a : ¬ p < (56320 : Int32)) (b : p < (57344 : Int32)) : (1 : Int32) = own_lo p := by rw [own_lo, if_neg a, if_pos b]
theorem own_lo2 {p : Int32} (a : ¬ p < (56320 : Int32)) (b : ¬ p < (57344 : Int32)) : (0 : Int32) = own_lo p := by rw [own_lo, if_neg a, if_neg b]
theorem own_cp0 {c d : Int32} (a : own_hi c = (0 : Int32)) : c = own_cp c d := by rw [own_cp, if_pos a]
theorem own_cp1 {c d : Int32} (a : ¬ own_hi c = (0 : Int32)) (b : own_lo d = (0 : Int32)) : c = own_cp c d := by rw [own_cp, if_neg a, if_pos b]
theorem own_cp2 {c d : Int32} (a : ¬ own_hi c = (0 : Int32)) (b : ¬ own_lo d = (0 : Int32)) : own_tcp c d = own_cp c d := by rw [own_cp, if_neg a, if_neg b]
theorem own_len0 {p : Int32} (a : p < (128 : Int32)) : (1 : Int32) = own_len p := by rw [own_len, if_pos a]
theorem own_len1 {p : Int32} (a : ¬ p < (128 : Int32)) (b : p < (2048 : Int32)) : (2 : Int32) = own_len p := by rw [own_len, if_neg a, if_pos b]
theorem own_len2 {p : Int32} (a : ¬ p < (128 : Int32)) (b : ¬ p < (2048 : Int32)) (d : p < (65536 : Int32)) : (3 : Int32) = own_len p := by rw [own_len, if_neg a, if_neg b, if_pos d]
theorem own_len3 {p : Int32} (a : ¬ p < (128 : Int32)) (b : ¬ p < (2048 : Int32)) (d : ¬ p < (65536 : Int32)) : (4 : Int32) = own_len p := by rw [own_len, if_neg a, if_neg b, if_neg d]
theorem own_cnt0 {p : Int32} (a : p < (65536 : Int32)) : (1 : Int32) = own_cnt p := by rw [own_cnt, if_pos a]
theorem own_cnt1 {p : Int32} (a : ¬ p < (65536 : Int32)) : (2 : Int32) = own_cnt p := by rw [own_cnt, if_neg a]
theorem own_ltI (a : Int32) (k : Int32) (n : Int) (hk : k.toInt = n) : a < k ↔ a.toInt < n := by rw [Int32.lt_iff_toInt_lt, hk]
theorem own_gtI (a : Int32) (k : Int32) (n : Int) (hk : k.toInt = n) : k < a ↔ n < a.toInt := by rw [Int32.lt_iff_toInt_lt, hk]
theorem own_r16 {c : Int32} (h : own_rng c) : c < (65536 : Int32) := (own_ltI c 65536 65536 (by decide)).mpr (by have := own_rngI h; omega)
theorem own_cntR {c : Int32} (h : own_rng c) : own_cnt c = (1 : Int32) := (own_cnt0 (own_r16 h)).symm
theorem own_cntV (x : Int32) : own_cnt x = (1 : Int32) ∨ own_cnt x = (2 : Int32) := by
  by_cases h : x < (65536 : Int32)
  · exact Or.inl (own_cnt0 h).symm
  · exact Or.inr (own_cnt1 h).symm
theorem own_big {x : Int32} (h : own_cnt x = (2 : Int32)) : ¬ x < (65536 : Int32) := fun q => by
  have := own_cnt0 q
  rw [h] at this
  exact absurd this (by decide)
theorem own_len4 {x : Int32} (h : own_cnt x = (2 : Int32)) : (4 : Int32) = own_len x := by
  have q := own_big h
  rw [own_ltI x 65536 65536 (by decide)] at q
  exact own_len3 (by rw [own_ltI x 128 128 (by decide)]; omega) (by rw [own_ltI x 2048 2048 (by decide)]; omega) (own_big h)
theorem own_hin {c : Int32} (h : ¬ own_hi c = (0 : Int32)) : ¬ c < (55296 : Int32) ∧ c < (56320 : Int32) := by
  by_cases a : c < (55296 : Int32)
  · exact absurd (own_hi0 a).symm h
  · by_cases b : c < (56320 : Int32)
    · exact ⟨a, b⟩
    · exact absurd (own_hi2 a b).symm h
theorem own_lon {c : Int32} (h : ¬ own_lo c = (0 : Int32)) : ¬ c < (56320 : Int32) ∧ c < (57344 : Int32) := by
  by_cases a : c < (56320 : Int32)
  · exact absurd (own_lo0 a).symm h
  · by_cases b : c < (57344 : Int32)
    · exact ⟨a, b⟩
    · exact absurd (own_lo2 a b).symm h
theorem own_tcpB {c d : Int32} (hc : ¬ own_hi c = (0 : Int32)) (hd : ¬ own_lo d = (0 : Int32)) : own_cnt (own_tcp c d) = (2 : Int32) := by
  obtain ⟨c1, c2⟩ := own_hin hc
  obtain ⟨d1, d2⟩ := own_lon hd
  rw [own_ltI c 55296 55296 (by decide)] at c1
  rw [own_ltI c 56320 56320 (by decide)] at c2
  rw [own_ltI d 56320 56320 (by decide)] at d1
  rw [own_ltI d 57344 57344 (by decide)] at d2
  refine (own_cnt1 ?_).symm
  rw [own_ltI _ 65536 65536 (by decide)]
  obtain ⟨s, hs⟩ : ∃ s, s = (c <<< ((10 : Int32) &&& 31)) := ⟨_, rfl⟩
  have e1 := c_ishl c 10 10 (by decide)
  have r1 := rng32 s
  rw [← hs] at e1
  show ¬ (((c <<< ((10 : Int32) &&& 31)) + d) + (-56613888 : Int32)).toInt < 65536
  rw [← hs]
  have e2 := c_iadd s d
  have r2 := rng32 (s + d)
  have e3 := c_iadd (s + d) (-56613888)
  have r3 := rng32 ((s + d) + (-56613888))
  have z : (-56613888 : Int32).toInt = -56613888 := by decide
  rw [z] at e3
  have f1 : s.toInt = c.toInt * 1024 := by omega
  omega
theorem own_cpC {c d : Int32} (h : ¬ own_cnt (own_cp c d) = (2 : Int32)) : own_cp c d = c := by
  by_cases a : own_hi c = (0 : Int32)
  · exact (own_cp0 a).symm
  · by_cases b : own_lo d = (0 : Int32)
    · exact (own_cp1 a b).symm
    · rw [← own_cp2 a b] at h
      exact absurd (own_tcpB a b) h
theorem own_u2 {c d : Int32} (a : ¬ c < (55296 : Int32)) (b : ¬ (56319 : Int32) < c) (x : ¬ d < (56320 : Int32)) (y : ¬ (57343 : Int32) < d) : (2 : Int32) = own_cnt (own_cp c d) := by
  have b' : c < (56320 : Int32) := (own_ltI c 56320 56320 (by decide)).mpr (by rw [own_gtI c 56319 56319 (by decide)] at b; omega)
  have y' : d < (57344 : Int32) := (own_ltI d 57344 57344 (by decide)).mpr (by rw [own_gtI d 57343 57343 (by decide)] at y; omega)
  have h1 : ¬ own_hi c = (0 : Int32) := by rw [← own_hi1 a b']; decide
  have h2 : ¬ own_lo d = (0 : Int32) := by rw [← own_lo1 x y']; decide
  rw [← own_cp2 h1 h2]
  exact (own_tcpB h1 h2).symm
theorem own_u1 {c d : Int32} (h : own_rng c) (e : own_cp c d = c) : (1 : Int32) = own_cnt (own_cp c d) := by rw [e]; exact (own_cntR h).symm
theorem own_cpa {c d : Int32} (a : c < (55296 : Int32)) : own_cp c d = c := (own_cp0 (own_hi0 a).symm).symm
theorem own_cpb {c d : Int32} (b : (56319 : Int32) < c) : own_cp c d = c := by
  rw [own_gtI c 56319 56319 (by decide)] at b
  exact (own_cp0 (own_hi2 (by rw [own_ltI c 55296 55296 (by decide)]; omega) (by rw [own_ltI c 56320 56320 (by decide)]; omega)).symm).symm
theorem own_cpc {c d : Int32} (b : d < (56320 : Int32)) : own_cp c d = c := by
  by_cases a : own_hi c = (0 : Int32)
  · exact (own_cp0 a).symm
  · exact (own_cp1 a (own_lo0 b).symm).symm
theorem own_cpd {c d : Int32} (b : (57343 : Int32) < d) : own_cp c d = c := by
  rw [own_gtI d 57343 57343 (by decide)] at b
  have q : own_lo d = (0 : Int32) := (own_lo2 (by rw [own_ltI d 56320 56320 (by decide)]; omega) (by rw [own_ltI d 57344 57344 (by decide)]; omega)).symm
  by_cases a : own_hi c = (0 : Int32)
  · exact (own_cp0 a).symm
  · exact (own_cp1 a q).symm
theorem own_cpL {c d : Int32} (h : ¬ (255 : Int32) < c) : c = own_cp c d := by
  rw [own_gtI c 255 255 (by decide)] at h
  exact (own_cpa ((own_ltI c 55296 55296 (by decide)).mpr (by omega))).symm
theorem own_2L {c d : Int32} (hr : own_rng c) (h : ¬ (255 : Int32) < c) : ¬ own_cnt (own_cp c d) = (2 : Int32) := by
  rw [← own_cpL h, own_cntR hr]
  decide
theorem own_lcp {c : Int32} (h : own_rng c) (h2 : ¬ (255 : Int32) < c) : (c.toInt8.toInt32 &&& (255 : Int32)) = c := by
  have q := own_rngI h
  rw [own_gtI c 255 255 (by decide)] at h2
  have b1 := c_i2b c
  have m1 := c_mask (c.toInt8.toInt32) 255 8 (by decide) (by decide)
  rw [← Int32.toInt_inj]
  omega
theorem own_add0 (x : Int32) : (0 : Int32) + x = x := by simp
theorem own_and3 {x v : Int32} (h : v = (x &&& (3 : Int32))) : v = 0 ∨ v = 1 ∨ v = 2 ∨ v = 3 := by
  have q := c_mask x 3 2 (by decide) (by decide)
  rw [← h] at q
  have h0 : (0 : Int32).toInt = 0 := by decide
  have h1 : (1 : Int32).toInt = 1 := by decide
  have h2 : (2 : Int32).toInt = 2 := by decide
  have h3 : (3 : Int32).toInt = 3 := by decide
  simp only [← Int32.toInt_inj, h0, h1, h2, h3]
  omega
theorem own_tk {vs : List Value} {d : Value} {e i : Nat} (h : i < e) : (vs.take e).getD i d = vs.getD i d := by
  rw [List.getD_eq_getElem?_getD, List.getD_eq_getElem?_getD, List.getElem?_take_of_lt h]
theorem own_tkd {vs : List Value} {d : Value} {e i : Nat} (h : e ≤ i) : (vs.take e).getD i d = d := by
  rw [List.getD_eq_getElem?_getD, List.getElem?_eq_none (Nat.le_trans (by rw [List.length_take]; exact Nat.min_le_left _ _) h)]; rfl
theorem own_tl2 {vs : List Value} {d a b : Value} (h0 : vs.getD 0 d = a) (h1 : vs.getD 1 d = b) : ∀ i, [a, b].getD i d = (vs.take 2).getD i d
  | 0 => by rw [own_tk (by decide), h0]; rfl
  | 1 => by rw [own_tk (by decide), h1]; rfl
  | n + 2 => by rw [own_tkd (by omega)]; rfl
theorem own_tl4 {vs : List Value} {d a b x y : Value} (h0 : vs.getD 0 d = a) (h1 : vs.getD 1 d = b) (h2 : vs.getD 2 d = x) (h3 : vs.getD 3 d = y) : ∀ i, [a, b, x, y].getD i d = (vs.take 4).getD i d
  | 0 => by rw [own_tk (by decide), h0]; rfl
  | 1 => by rw [own_tk (by decide), h1]; rfl
  | 2 => by rw [own_tk (by decide), h2]; rfl
  | 3 => by rw [own_tk (by decide), h3]; rfl
  | n + 4 => by rw [own_tkd (by omega)]; rfl
theorem own_ust (vs : List Value) (d : Value) {e : Nat} (h : e ≤ vs.length) : vs.take e = (List.range e).map fun i => vs.getD (0 + i) d := by
  apply List.ext_getElem
  · simp; omega
  · intro i h1 h2
    have h3 : i < vs.length := by
      rw [List.length_take] at h1
      omega
    simp only [List.getElem_map, List.getElem_range, Nat.zero_add, List.getElem_take]
    rw [List.getD_eq_getElem?_getD, List.getElem?_eq_getElem h3]; rfl
theorem own_lcq {c : Int32} (h : own_rng c) (h2 : ¬ (255 : Int32) < c) : ((nar .byte (c.toInt8.toInt32)) &&& (255 : Int32)) = c := by rw [own_nb]; exact own_lcp h h2
theorem own_nfw : nativeFrameWords "java/lang/System" "arraycopy" 5 = 7 := by first | rfl | decide | simp [nativeFrameWords]
theorem own_cpt {p : Program} {l : Launch} {e : Env} {R : Room} {s Z : State} {m : MethodId} {args : Array Value} {below : List Frame} {meth : Method} {c : Code} {T : State} {locs : List Loc} {cells slots : Nat} {h : Heap} {a b : Addr} (X : Stand p l e R s m args below meth c T locs cells slots) (hx : p.tables.exec = Jvm.exec) (hZ : Z.Warmed39 s.vm) {a0 : Array Value} {own : String} {index : Nat} (hown : s.vm.findClass own = some m.cls)
    (w1 : (Jvm.Cond.methodLink own index Jvm.Stand.acN).before a0 Z = true) (w2 : (Jvm.Cond.native Jvm.Stand.acN).before a0 Z = true) (w3 : (Jvm.Cond.static Jvm.Stand.acN).before a0 Z = true) (w4 : (Jvm.Cond.initialized "java/lang/System").before a0 Z = true) (eT : T.heap = h)
    {ka kb : ClassId} {z z' nn : Int32} {vs vd : List Value} {n : Nat} (A : Arv Z h a ka .byte z vs (.int 0)) (B : Arv Z h b kb .byte z' vd (.int 0)) (hvd : vd.length = n) (hnn : nn.toNatClampNeg = n) (hn0 : ¬ nn < 0) (h4 : n ≤ z.toNatClampNeg) (h5 : n ≤ z'.toNatClampNeg) (hl : n ≤ vs.length) {n0 : Nat} (N : Fr n0 locs) (ge : n0 ≤ b)
    {g : JFrame} (hg : g.method = m) (hsize : g.locals.size = c.maxLocals) {rest : List Value} (hs : g.stack = .int nn :: .int 0 :: .ref b :: .int 0 :: .ref a :: rest) (hd : decode c.code g.pc = .ok (.invokestatic index, 3))
    (hf : 1 ≤ R.frames) {W : Nat} (hW : 2 * g.monitorRoom + (rest.map fun v => v.category).sum ≤ W) (hlo : W + 18 ≤ R.locals) :
    ∃ T' h' L, Stand p l e R s m args below meth c T' L cells slots ∧ T'.heap = h' ∧ Fr n0 L ∧ Keep h h' [b] ∧ Arv Z h' b kb .byte z' (vs.take n) (.int 0) ∧
      ∀ target, Steps p.tables e below (T'.setTop { g with pc := g.pc + 3, stack := rest }) target → Steps p.tables e below (T.setTop g) target := by
  have z0 : (0 : Int32).toNatClampNeg = 0 := by decide
  obtain ⟨T', h', L, X', e', N', K', V', st⟩ := cpA X hx hZ hown w1 w2 w3 w4 eT (us := vs.take n) A B (Or.inl ⟨rfl, rfl⟩) (by decide) (by decide) hn0 (by rw [hnn, z0]; omega) (by rw [hnn, z0]; omega) (by rw [hnn, z0]; exact own_ust vs _ hl) (by rw [hnn, z0]; omega) N ge hg hsize hs hd hf hW (by rw [own_nfw]; omega)
  have e : vd.take (0 : Int32).toNatClampNeg ++ vs.take n ++ vd.drop ((0 : Int32).toNatClampNeg + nn.toNatClampNeg) = vs.take n := by
    rw [z0, hnn, Nat.zero_add, List.take_zero, List.drop_eq_nil_of_le (by omega), List.nil_append, List.append_nil]
  rw [e] at V'
  exact ⟨T', h', L, X', e', N', K', V', st⟩

theorem d1_0 : DK B42 0 (.iload_n 0) 1 := by decide +kernel
theorem d1_1 : DK B42 1 (.bipush 16) 2 := by decide +kernel
theorem d1_3 : DK B42 3 .iushr 1 := by decide +kernel
theorem d1_4 : DK B42 4 (.iconst 3) 1 := by decide +kernel
theorem d1_5 : DK B42 5 .iand 1 := by decide +kernel
theorem d1_6 : DK B42 6 (.istore_n 1) 1 := by decide +kernel
theorem d1_7 : DK B42 7 (.iload_n 1) 1 := by decide +kernel
theorem d1_8 : DK B42 8 (.ifCond .ne 9) 3 := by decide +kernel
theorem d1_11 : DK B42 11 (.iload_n 0) 1 := by decide +kernel
theorem d1_12 : DK B42 12 (.bipush 127) 2 := by decide +kernel
theorem d1_14 : DK B42 14 .iand 1 := by decide +kernel
theorem d1_15 : DK B42 15 .i2c 1 := by decide +kernel
theorem d1_16 : DK B42 16 .ireturn 1 := by decide +kernel
theorem d1_17 : DK B42 17 (.iload_n 1) 1 := by decide +kernel
theorem d1_18 : DK B42 18 (.iconst 1) 1 := by decide +kernel
theorem d1_19 : DK B42 19 (.if_icmp .ne 10) 3 := by decide +kernel
theorem d1_22 : DK B42 22 (.iload_n 0) 1 := by decide +kernel
theorem d1_23 : DK B42 23 (.sipush 2047) 3 := by decide +kernel
theorem d1_26 : DK B42 26 .iand 1 := by decide +kernel
theorem d1_27 : DK B42 27 .i2c 1 := by decide +kernel
theorem d1_28 : DK B42 28 .ireturn 1 := by decide +kernel
theorem d1_29 : DK B42 29 (.iload_n 1) 1 := by decide +kernel
theorem d1_30 : DK B42 30 (.iconst 2) 1 := by decide +kernel
theorem d1_31 : DK B42 31 (.if_icmp .ne 13) 3 := by decide +kernel
theorem d1_34 : DK B42 34 (.ldc 39) 2 := by decide +kernel
theorem d1_36 : DK B42 36 (.iload_n 0) 1 := by decide +kernel
theorem d1_37 : DK B42 37 (.sipush 2047) 3 := by decide +kernel
theorem d1_40 : DK B42 40 .iand 1 := by decide +kernel
theorem d1_41 : DK B42 41 .ior 1 := by decide +kernel
theorem d1_42 : DK B42 42 .i2c 1 := by decide +kernel
theorem d1_43 : DK B42 43 .ireturn 1 := by decide +kernel
theorem d1_44 : DK B42 44 (.iload_n 0) 1 := by decide +kernel
theorem d1_45 : DK B42 45 .i2c 1 := by decide +kernel
theorem d1_46 : DK B42 46 .ireturn 1 := by decide +kernel
theorem pn0 : plainName "com/example/orderly_outbox/orderlyoutbox/store/LastErrorCutPinLaw" = true := by first | (simp [plainName, overriddenIn]; done) | decide +kernel
theorem rm_draw {l : Launch} {Z : State} {a0 : Array Value} (hw : HW a0 Z) (p1 : Int32) (h0 : Heap) (n0 : Nat) (Z0 : n0 ≤ h0.size) :
    Met l Z Y3 B42 2 (some .char) [] ({ frames := 0, cells := 0, slots := 0, locals := 0 } : Room) #[(.int p1)] h0 (fun vv h L => Fr n0 L ∧ ∃ v : Int32, vv = some (.int v) ∧ h = h0 ∧ own_rng v) := by
  refine Met.enter (f0 := fun m => mkF m 0 #[vi p1, .unset] []) (plainFor_of_name pn0) (fun m => oe m 1) ?_
  intro p e s m below meth c s₁ hx hby hml hown hnm hret hlk hZ X0 e0
  have dk : Dk B42 c := fun h => hb hby h
  have W := @wd _ _ _ hw
  have N0 := Fr.nil n0
  refine gz X0 6 #[vi p1, .unset] [(.int (((p1.toUInt32 >>> ((16 : Int32) &&& 31).toUInt32).toInt32) &&& (3 : Int32)))] (fun _ k => lN X0 hx (dk d1_0) rfl (XS.bipush X0.here hx rfl (dk d1_1) (XS.iushr X0.here hx rfl (dk d1_3) rfl (kC X0 hx (dk d1_4) (XS.iand X0.here hx rfl (dk d1_5) rfl k))))) ?_
  obtain ⟨v10, hv10⟩ : ∃ v, v = (((p1.toUInt32 >>> ((16 : Int32) &&& 31).toUInt32).toInt32) &&& (3 : Int32)) := ⟨_, rfl⟩
  refine gz X0 8 #[vi p1, vi v10] [(.int v10)] (fun _ k => sN (x := v10) (rest := []) X0 hx (dk d1_6) (by rw [hv10]) rfl (.inl rfl) (lN X0 hx (dk d1_7) rfl k)) ?_
  by_cases c11 : v10 = (0 : Int32)
  · skip
    refine gz X0 16 #[vi p1, vi v10] [(.int ((p1 &&& (127 : Int32)).toUInt32.toUInt16.toUInt32.toInt32))] (fun _ k => fN X0 hx (dk d1_8) rfl ((if0 _ _).trans (teq c11).2) (lN X0 hx (dk d1_11) rfl (XS.bipush X0.here hx rfl (dk d1_12) (XS.iand X0.here hx rfl (dk d1_14) rfl (XS.i2c X0.here hx rfl (dk d1_15) rfl k))))) ?_
    refine Go.retZ X0 hx hlk (t := .char) hret (by simp) (dk d1_16) (by decide) (by decide) ?_
    rw [e0]
    exact ⟨N0, (nar .char ((p1 &&& (127 : Int32)).toUInt32.toUInt16.toUInt32.toInt32)), rfl, rfl, (own_rngC _)⟩
  · skip
    refine gz X0 19 #[vi p1, vi v10] [(.int 1), (.int v10)] (fun _ k => fY X0 hx 8 17 rfl (dk d1_8) rfl ((if0 _ _).trans (feq c11).2) (lN X0 hx (dk d1_17) rfl (kC X0 hx (dk d1_18) k))) ?_
    by_cases c12 : v10 = (1 : Int32)
    · skip
      refine gz X0 28 #[vi p1, vi v10] [(.int ((p1 &&& (2047 : Int32)).toUInt32.toUInt16.toUInt32.toInt32))] (fun _ k => cN X0 hx (dk d1_19) rfl (teq c12).2 (lN X0 hx (dk d1_22) rfl (XS.sipush X0.here hx rfl (dk d1_23) (XS.iand X0.here hx rfl (dk d1_26) rfl (XS.i2c X0.here hx rfl (dk d1_27) rfl k))))) ?_
      refine Go.retZ X0 hx hlk (t := .char) hret (by simp) (dk d1_28) (by decide) (by decide) ?_
      rw [e0]
      exact ⟨N0, (nar .char ((p1 &&& (2047 : Int32)).toUInt32.toUInt16.toUInt32.toInt32)), rfl, rfl, (own_rngC _)⟩
    · skip
      refine gz X0 31 #[vi p1, vi v10] [(.int 2), (.int v10)] (fun _ k => cY X0 hx 19 29 rfl (dk d1_19) rfl (feq c12).2 (lN X0 hx (dk d1_29) rfl (kC X0 hx (dk d1_30) k))) ?_
      by_cases c13 : v10 = (2 : Int32)
      · skip
        refine gz X0 43 #[vi p1, vi v10] [(.int (((55296 : Int32) ||| (p1 &&& (2047 : Int32))).toUInt32.toUInt16.toUInt32.toInt32))] (fun _ k => cN X0 hx (dk d1_31) rfl (teq c13).2 (X0.ldcInt hx hown (mvT hZ (W 97 rfl)) (g := (mkF m 34 #[vi p1, vi v10] [])) rfl (dk d1_34) _ (lN X0 hx (dk d1_36) rfl (XS.sipush X0.here hx rfl (dk d1_37) (XS.iand X0.here hx rfl (dk d1_40) rfl (XS.ior X0.here hx rfl (dk d1_41) rfl (XS.i2c X0.here hx rfl (dk d1_42) rfl k))))))) ?_
        refine Go.retZ X0 hx hlk (t := .char) hret (by simp) (dk d1_43) (by decide) (by decide) ?_
        rw [e0]
        exact ⟨N0, (nar .char (((55296 : Int32) ||| (p1 &&& (2047 : Int32))).toUInt32.toUInt16.toUInt32.toInt32)), rfl, rfl, (own_rngC _)⟩
      · skip
        refine gz X0 46 #[vi p1, vi v10] [(.int (p1.toUInt32.toUInt16.toUInt32.toInt32))] (fun _ k => cY X0 hx 31 44 rfl (dk d1_31) rfl (feq c13).2 (lN X0 hx (dk d1_44) rfl (XS.i2c X0.here hx rfl (dk d1_45) rfl k))) ?_
        refine Go.retZ X0 hx hlk (t := .char) hret (by simp) (dk d1_46) (by decide) (by decide) ?_
        rw [e0]
        exact ⟨N0, (nar .char (p1.toUInt32.toUInt16.toUInt32.toInt32)), rfl, rfl, (own_rngC _)⟩
theorem d29_0 : DK B26 0 (.getstatic 44) 3 := by decide +kernel
theorem d29_3 : DK B26 3 (.ifCond .ne 25) 3 := by decide +kernel
theorem d29_28 : DK B26 28 (.iload_n 1) 1 := by decide +kernel
theorem d29_29 : DK B26 29 (.iconst 1) 1 := by decide +kernel
theorem d29_30 : DK B26 30 .ishl 1 := by decide +kernel
theorem d29_31 : DK B26 31 (.istore_n 1) 1 := by decide +kernel
theorem d29_32 : DK B26 32 (.aload_n 0) 1 := by decide +kernel
theorem d29_33 : DK B26 33 (.iload_n 1) 1 := by decide +kernel
theorem d29_34 : DK B26 34 (.iinc 1 1) 3 := by decide +kernel
theorem d29_37 : DK B26 37 (.iload_n 2) 1 := by decide +kernel
theorem d29_38 : DK B26 38 (.getstatic 59) 3 := by decide +kernel
theorem d29_41 : DK B26 41 .ishr 1 := by decide +kernel
theorem d29_42 : DK B26 42 .i2b 1 := by decide +kernel
theorem d29_43 : DK B26 43 .bastore 1 := by decide +kernel
theorem d29_44 : DK B26 44 (.aload_n 0) 1 := by decide +kernel
theorem d29_45 : DK B26 45 (.iload_n 1) 1 := by decide +kernel
theorem d29_46 : DK B26 46 (.iload_n 2) 1 := by decide +kernel
theorem d29_47 : DK B26 47 (.getstatic 63) 3 := by decide +kernel
theorem d29_50 : DK B26 50 .ishr 1 := by decide +kernel
theorem d29_51 : DK B26 51 .i2b 1 := by decide +kernel
theorem d29_52 : DK B26 52 .bastore 1 := by decide +kernel
theorem d29_53 : DK B26 53 .return_ 1 := by decide +kernel
theorem pn4 : plainName "java/lang/StringUTF16" = true := by first | (simp [plainName, overriddenIn]; done) | decide +kernel
theorem rm_put_0 {l : Launch} {Z : State} {a0 : Array Value} (hw : HW a0 Z) (b1 : Addr) (kb : ClassId) (cc : Int32) (z : Int32) (vs : List Value) (h0 : Heap) (n0 : Nat) (Z0 : n0 ≤ h0.size) (pr0 : Old Z n0 h0) (pr1 : S0 Z) (pr2 : S1 Z) (pr3 : S2 Z) (pr4 : Arv Z h0 b1 kb .byte z vs (.int 0)) (pr5 : n0 ≤ b1) (hz0 : (0 : Int32) < z) (hz1 : (1 : Int32) < z) (hl0 : 0 < vs.length) (hl1 : 1 < vs.length) :
    Met l Z Y40 B26 3 none [] ({ frames := 0, cells := 0, slots := 0, locals := 0 } : Room) #[(.ref b1), (.int 0), (.int cc)] h0 (fun vv h L => Fr n0 L ∧ vv = none ∧ Keep h0 h [b1] ∧ Arv Z h b1 kb .byte z ((vs.set 0 (.int (own_b0 cc))).set 1 (.int (own_b1 cc))) (.int 0)) := by
  refine Met.enter (f0 := fun m => mkF m 0 #[vr b1, vi 0, vi cc] []) (plainFor_of_name pn4) (fun m => oe m 0) ?_
  intro p e s m below meth c s₁ hx hby hml hown hnm hret hlk hZ X0 e0
  have dk : Dk B26 c := fun h => hb hby h
  have W := @wd _ _ _ hw
  have N0 := Fr.nil n0
  obtain ⟨T10, X10, e10, st10⟩ := getS2 X0 hx hZ hown (host := "") (Or.inl (W 127 rfl)) Via.refl e0 (pr1.ext pr0.2) (g := (mkF m 0 #[vr b1, vi 0, vi cc] [])) rfl (dk d29_0)
  refine gz X10 38 #[vr b1, vi 1, vi cc] [(.int cc), (.int 0), (.ref b1)] (fun _ k => st10 _ (fY X10 hx 3 28 rfl (dk d29_3) rfl ((if0 _ _).trans (feq (by decide)).2) (lN X10 hx (dk d29_28) rfl (kC X10 hx (dk d29_29) (XS.ishl X10.here hx rfl (dk d29_30) rfl (sN X10 hx (dk d29_31) rfl rfl (.inr ⟨_, rfl, rfl⟩) (aN X10 hx (dk d29_32) rfl rfl (lN X10 hx (dk d29_33) rfl (XS.iinc X10.here hx rfl (dk d29_34) rfl (l' := #[vr b1, vi 1, vi cc]) rfl (lN X10 hx (dk d29_37) rfl k)))))))))) ?_
  obtain ⟨T11, X11, e11, st11⟩ := getS2 X10 hx hZ hown (host := "") (Or.inl (W 128 rfl)) Via.refl e10 (pr2.ext pr0.2) (g := (mkF m 38 #[vr b1, vi 1, vi cc] [(.int cc), (.int 0), (.ref b1)])) rfl (dk d29_38)
  refine gz X11 43 #[vr b1, vi 1, vi cc] [(.int ((cc >>> ((0 : Int32) &&& 31)).toInt8.toInt32)), (.int 0), (.ref b1)] (fun _ k => st11 _ (XS.ishr X11.here hx rfl (dk d29_41) rfl (XS.i2b X11.here hx rfl (dk d29_42) rfl k))) ?_
  obtain ⟨cl12, Ar12, q12, S12, N_12, Hs12, G12⟩ := id pr4
  have hin13 : ¬ ((0 : Int32) < 0 ∨ cl12.slots.size ≤ ((0 : Int32)).toNatClampNeg) := inb_of S12 ⟨by decide, hz0⟩
  obtain ⟨T13, h13, X13, e13, W13, st13⟩ := stB X11 hx hZ e11 Ar12 (j := (0 : Int32)) hin13 (g := (mkF m 43 #[vr b1, vi 1, vi cc] [(.int ((cc >>> ((0 : Int32) &&& 31)).toInt8.toInt32)), (.int 0), (.ref b1)])) rfl rfl (dk d29_43)
  have O14 := pr0.wr W13 pr5
  have Z14 : n0 ≤ h13.size := Nat.le_trans Z0 (Keep.of_wr W13).1
  have V13 : Arv Z h13 b1 kb .byte z (vs.set 0 (.int (nar .byte ((cc >>> ((0 : Int32) &&& 31)).toInt8.toInt32)))) (.int 0) := Arv.set Ar12 q12 S12 N_12 Hs12 G12 (fits_nar_byte _) W13 0 rfl (by simpa using hl0)
  have N13 := Fr.snoc X13 N0 pr5
  refine gz X13 47 #[vr b1, vi 1, vi cc] [(.int cc), (.int 1), (.ref b1)] (fun _ k => st13 _ (aN X13 hx (dk d29_44) rfl rfl (lN X13 hx (dk d29_45) rfl (lN X13 hx (dk d29_46) rfl k)))) ?_
  obtain ⟨T15, X15, e15, st15⟩ := getS2 X13 hx hZ hown (host := "") (Or.inl (W 129 rfl)) Via.refl e13 (pr3.ext O14.2) (g := (mkF m 47 #[vr b1, vi 1, vi cc] [(.int cc), (.int 1), (.ref b1)])) rfl (dk d29_47)
  refine gz X15 52 #[vr b1, vi 1, vi cc] [(.int ((cc >>> ((8 : Int32) &&& 31)).toInt8.toInt32)), (.int 1), (.ref b1)] (fun _ k => st15 _ (XS.ishr X15.here hx rfl (dk d29_50) rfl (XS.i2b X15.here hx rfl (dk d29_51) rfl k))) ?_
  obtain ⟨cl16, Ar16, q16, S16, N_16, Hs16, G16⟩ := id V13
  have hin17 : ¬ ((1 : Int32) < 0 ∨ cl16.slots.size ≤ ((1 : Int32)).toNatClampNeg) := inb_of S16 ⟨by decide, hz1⟩
  obtain ⟨T17, h17, X17, e17, W17, st17⟩ := stB X15 hx hZ e15 Ar16 (j := (1 : Int32)) hin17 (g := (mkF m 52 #[vr b1, vi 1, vi cc] [(.int ((cc >>> ((8 : Int32) &&& 31)).toInt8.toInt32)), (.int 1), (.ref b1)])) rfl rfl (dk d29_52)
  have O18 := O14.wr W17 pr5
  have Z18 : n0 ≤ h17.size := Nat.le_trans Z14 (Keep.of_wr W17).1
  have V17 : Arv Z h17 b1 kb .byte z ((vs.set 0 (.int (nar .byte ((cc >>> ((0 : Int32) &&& 31)).toInt8.toInt32)))).set 1 (.int (nar .byte ((cc >>> ((8 : Int32) &&& 31)).toInt8.toInt32)))) (.int 0) := Arv.set Ar16 q16 S16 N_16 Hs16 G16 (fits_nar_byte _) W17 1 rfl (by simpa using hl1)
  have N17 := Fr.snoc X17 N13 pr5
  refine gz X17 53 #[vr b1, vi 1, vi cc] [] (fun _ k => st17 _ k) ?_
  refine Go.retV X17 hx hlk hret (dk d29_53) (by decide) (by decide) ?_
  rw [e17]
  exact ⟨N17, rfl, (((Keep.refl h0 [b1]).wr W13 (Or.inl (List.mem_of_getElem? (i := 0) rfl))).wr W17 (Or.inl (List.mem_of_getElem? (i := 0) rfl))), V17⟩
theorem d30_0 : DK B27 0 (.getstatic 44) 3 := by decide +kernel
theorem d30_3 : DK B27 3 (.ifCond .ne 25) 3 := by decide +kernel
theorem d30_28 : DK B27 28 (.iload_n 1) 1 := by decide +kernel
theorem d30_29 : DK B27 29 (.iconst 1) 1 := by decide +kernel
theorem d30_30 : DK B27 30 .ishl 1 := by decide +kernel
theorem d30_31 : DK B27 31 (.istore_n 1) 1 := by decide +kernel
theorem d30_32 : DK B27 32 (.aload_n 0) 1 := by decide +kernel
theorem d30_33 : DK B27 33 (.iload_n 1) 1 := by decide +kernel
theorem d30_34 : DK B27 34 (.iinc 1 1) 3 := by decide +kernel
theorem d30_37 : DK B27 37 .baload 1 := by decide +kernel
theorem d30_38 : DK B27 38 (.sipush 255) 3 := by decide +kernel
theorem d30_41 : DK B27 41 .iand 1 := by decide +kernel
theorem d30_42 : DK B27 42 (.getstatic 59) 3 := by decide +kernel
theorem d30_45 : DK B27 45 .ishl 1 := by decide +kernel
theorem d30_46 : DK B27 46 (.aload_n 0) 1 := by decide +kernel
theorem d30_47 : DK B27 47 (.iload_n 1) 1 := by decide +kernel
theorem d30_48 : DK B27 48 .baload 1 := by decide +kernel
theorem d30_49 : DK B27 49 (.sipush 255) 3 := by decide +kernel
theorem d30_52 : DK B27 52 .iand 1 := by decide +kernel
theorem d30_53 : DK B27 53 (.getstatic 63) 3 := by decide +kernel
theorem d30_56 : DK B27 56 .ishl 1 := by decide +kernel
theorem d30_57 : DK B27 57 .ior 1 := by decide +kernel
theorem d30_58 : DK B27 58 .i2c 1 := by decide +kernel
theorem d30_59 : DK B27 59 .ireturn 1 := by decide +kernel
theorem rm_get_0 {l : Launch} {Z : State} {a0 : Array Value} (hw : HW a0 Z) (b1 : Addr) (kb : ClassId) (cc : Int32) (z : Int32) (vs : List Value) (h0 : Heap) (n0 : Nat) (Z0 : n0 ≤ h0.size) (pr0 : Old Z n0 h0) (pr1 : S0 Z) (pr2 : S1 Z) (pr3 : S2 Z) (pr4 : Arv Z h0 b1 kb .byte z vs (.int 0)) (hz0 : (0 : Int32) < z) (hz1 : (1 : Int32) < z) (he0 : vs.getD 0 (.int 0) = .int (own_b0 cc)) (he1 : vs.getD 1 (.int 0) = .int (own_b1 cc)) (hr : own_rng cc) :
    Met l Z Y35 B27 2 (some .char) [] ({ frames := 0, cells := 0, slots := 0, locals := 0 } : Room) #[(.ref b1), (.int 0)] h0 (fun vv h L => Fr n0 L ∧ vv = some (.int cc) ∧ h = h0) := by
  refine Met.enter (f0 := fun m => mkF m 0 #[vr b1, vi 0] []) (plainFor_of_name pn4) (fun m => oe m 0) ?_
  intro p e s m below meth c s₁ hx hby hml hown hnm hret hlk hZ X0 e0
  have dk : Dk B27 c := fun h => hb hby h
  have W := @wd _ _ _ hw
  have N0 := Fr.nil n0
  obtain ⟨T10, X10, e10, st10⟩ := getS2 X0 hx hZ hown (host := "") (Or.inl (W 127 rfl)) Via.refl e0 (pr1.ext pr0.2) (g := (mkF m 0 #[vr b1, vi 0] [])) rfl (dk d30_0)
  refine gz X10 37 #[vr b1, vi 1] [(.int 0), (.ref b1)] (fun _ k => st10 _ (fY X10 hx 3 28 rfl (dk d30_3) rfl ((if0 _ _).trans (feq (by decide)).2) (lN X10 hx (dk d30_28) rfl (kC X10 hx (dk d30_29) (XS.ishl X10.here hx rfl (dk d30_30) rfl (sN X10 hx (dk d30_31) rfl rfl (.inr ⟨_, rfl, rfl⟩) (aN X10 hx (dk d30_32) rfl rfl (lN X10 hx (dk d30_33) rfl (XS.iinc X10.here hx rfl (dk d30_34) rfl (l' := #[vr b1, vi 1]) rfl k))))))))) ?_
  obtain ⟨cl11, Ar11, q11, S11, N_11, Hs11, G11⟩ := id pr4
  have hin12 : ¬ ((0 : Int32) < 0 ∨ cl11.slots.size ≤ ((0 : Int32)).toNatClampNeg) := inb_of S11 ⟨by decide, hz0⟩
  have hat12 : cl11.slots[((0 : Int32)).toNatClampNeg]? = some (.int (own_b0 cc)) := Hs11.at hin12 he0
  refine gz X10 38 #[vr b1, vi 1] [(.int (own_b0 cc))] (fun _ k => X10.baloadBytes hx (j := (0 : Int32)) (v := (.int (own_b0 cc))) (by rw [e10]; exact Ar11.1) (State.isArrayOf_alike hZ.alike Ar11.2.1) Ar11.2.2 hin12 hat12 (g := (mkF m 37 #[vr b1, vi 1] [(.int 0), (.ref b1)])) rfl rfl (dk d30_37) _ k) ?_
  refine gz X10 42 #[vr b1, vi 1] [(.int ((own_b0 cc) &&& (255 : Int32)))] (fun _ k => XS.sipush X10.here hx rfl (dk d30_38) (XS.iand X10.here hx rfl (dk d30_41) rfl k)) ?_
  obtain ⟨T13, X13, e13, st13⟩ := getS2 X10 hx hZ hown (host := "") (Or.inl (W 128 rfl)) Via.refl e10 (pr2.ext pr0.2) (g := (mkF m 42 #[vr b1, vi 1] [(.int ((own_b0 cc) &&& (255 : Int32)))])) rfl (dk d30_42)
  refine gz X13 48 #[vr b1, vi 1] [(.int 1), (.ref b1), (.int (((own_b0 cc) &&& (255 : Int32)) <<< ((0 : Int32) &&& 31)))] (fun _ k => st13 _ (XS.ishl X13.here hx rfl (dk d30_45) rfl (aN X13 hx (dk d30_46) rfl rfl (lN X13 hx (dk d30_47) rfl k)))) ?_
  obtain ⟨cl14, Ar14, q14, S14, N_14, Hs14, G14⟩ := id pr4
  have hin15 : ¬ ((1 : Int32) < 0 ∨ cl14.slots.size ≤ ((1 : Int32)).toNatClampNeg) := inb_of S14 ⟨by decide, hz1⟩
  have hat15 : cl14.slots[((1 : Int32)).toNatClampNeg]? = some (.int (own_b1 cc)) := Hs14.at hin15 he1
  refine gz X13 49 #[vr b1, vi 1] [(.int (own_b1 cc)), (.int (((own_b0 cc) &&& (255 : Int32)) <<< ((0 : Int32) &&& 31)))] (fun _ k => X13.baloadBytes hx (j := (1 : Int32)) (v := (.int (own_b1 cc))) (by rw [e13]; exact Ar14.1) (State.isArrayOf_alike hZ.alike Ar14.2.1) Ar14.2.2 hin15 hat15 (g := (mkF m 48 #[vr b1, vi 1] [(.int 1), (.ref b1), (.int (((own_b0 cc) &&& (255 : Int32)) <<< ((0 : Int32) &&& 31)))])) rfl rfl (dk d30_48) _ k) ?_
  refine gz X13 53 #[vr b1, vi 1] [(.int ((own_b1 cc) &&& (255 : Int32))), (.int (((own_b0 cc) &&& (255 : Int32)) <<< ((0 : Int32) &&& 31)))] (fun _ k => XS.sipush X13.here hx rfl (dk d30_49) (XS.iand X13.here hx rfl (dk d30_52) rfl k)) ?_
  obtain ⟨T16, X16, e16, st16⟩ := getS2 X13 hx hZ hown (host := "") (Or.inl (W 129 rfl)) Via.refl e13 (pr3.ext pr0.2) (g := (mkF m 53 #[vr b1, vi 1] [(.int ((own_b1 cc) &&& (255 : Int32))), (.int (((own_b0 cc) &&& (255 : Int32)) <<< ((0 : Int32) &&& 31)))])) rfl (dk d30_53)
  refine gz X16 59 #[vr b1, vi 1] [(.int (((((own_b0 cc) &&& (255 : Int32)) <<< ((0 : Int32) &&& 31)) ||| (((own_b1 cc) &&& (255 : Int32)) <<< ((8 : Int32) &&& 31))).toUInt32.toUInt16.toUInt32.toInt32))] (fun _ k => st16 _ (XS.ishl X16.here hx rfl (dk d30_56) rfl (XS.ior X16.here hx rfl (dk d30_57) rfl (XS.i2c X16.here hx rfl (dk d30_58) rfl k)))) ?_
  refine Go.retZ X16 hx hlk (t := .char) hret (by simp) (dk d30_59) (by decide) (by decide) ?_
  rw [e16]
  exact ⟨N0, (congrArg (fun q => some (Value.int q)) (own_gc hr)), rfl⟩
theorem rm_put_1 {l : Launch} {Z : State} {a0 : Array Value} (hw : HW a0 Z) (b1 : Addr) (kb : ClassId) (cc : Int32) (z : Int32) (vs : List Value) (h0 : Heap) (n0 : Nat) (Z0 : n0 ≤ h0.size) (pr0 : Old Z n0 h0) (pr1 : S0 Z) (pr2 : S1 Z) (pr3 : S2 Z) (pr4 : Arv Z h0 b1 kb .byte z vs (.int 0)) (pr5 : n0 ≤ b1) (hz0 : (2 : Int32) < z) (hz1 : (3 : Int32) < z) (hl0 : 2 < vs.length) (hl1 : 3 < vs.length) :
    Met l Z Y40 B26 3 none [] ({ frames := 0, cells := 0, slots := 0, locals := 0 } : Room) #[(.ref b1), (.int 1), (.int cc)] h0 (fun vv h L => Fr n0 L ∧ vv = none ∧ Keep h0 h [b1] ∧ Arv Z h b1 kb .byte z ((vs.set 2 (.int (own_b0 cc))).set 3 (.int (own_b1 cc))) (.int 0)) := by
  refine Met.enter (f0 := fun m => mkF m 0 #[vr b1, vi 1, vi cc] []) (plainFor_of_name pn4) (fun m => oe m 0) ?_
  intro p e s m below meth c s₁ hx hby hml hown hnm hret hlk hZ X0 e0
  have dk : Dk B26 c := fun h => hb hby h
  have W := @wd _ _ _ hw
  have N0 := Fr.nil n0
  obtain ⟨T10, X10, e10, st10⟩ := getS2 X0 hx hZ hown (host := "") (Or.inl (W 127 rfl)) Via.refl e0 (pr1.ext pr0.2) (g := (mkF m 0 #[vr b1, vi 1, vi cc] [])) rfl (dk d29_0)
  refine gz X10 38 #[vr b1, vi 3, vi cc] [(.int cc), (.int 2), (.ref b1)] (fun _ k => st10 _ (fY X10 hx 3 28 rfl (dk d29_3) rfl ((if0 _ _).trans (feq (by decide)).2) (lN X10 hx (dk d29_28) rfl (kC X10 hx (dk d29_29) (XS.ishl X10.here hx rfl (dk d29_30) rfl (sN X10 hx (dk d29_31) rfl rfl (.inr ⟨_, rfl, rfl⟩) (aN X10 hx (dk d29_32) rfl rfl (lN X10 hx (dk d29_33) rfl (XS.iinc X10.here hx rfl (dk d29_34) rfl (l' := #[vr b1, vi 3, vi cc]) rfl (lN X10 hx (dk d29_37) rfl k)))))))))) ?_
  obtain ⟨T11, X11, e11, st11⟩ := getS2 X10 hx hZ hown (host := "") (Or.inl (W 128 rfl)) Via.refl e10 (pr2.ext pr0.2) (g := (mkF m 38 #[vr b1, vi 3, vi cc] [(.int cc), (.int 2), (.ref b1)])) rfl (dk d29_38)
  refine gz X11 43 #[vr b1, vi 3, vi cc] [(.int ((cc >>> ((0 : Int32) &&& 31)).toInt8.toInt32)), (.int 2), (.ref b1)] (fun _ k => st11 _ (XS.ishr X11.here hx rfl (dk d29_41) rfl (XS.i2b X11.here hx rfl (dk d29_42) rfl k))) ?_
  obtain ⟨cl12, Ar12, q12, S12, N_12, Hs12, G12⟩ := id pr4
  have hin13 : ¬ ((2 : Int32) < 0 ∨ cl12.slots.size ≤ ((2 : Int32)).toNatClampNeg) := inb_of S12 ⟨by decide, hz0⟩
  obtain ⟨T13, h13, X13, e13, W13, st13⟩ := stB X11 hx hZ e11 Ar12 (j := (2 : Int32)) hin13 (g := (mkF m 43 #[vr b1, vi 3, vi cc] [(.int ((cc >>> ((0 : Int32) &&& 31)).toInt8.toInt32)), (.int 2), (.ref b1)])) rfl rfl (dk d29_43)
  have O14 := pr0.wr W13 pr5
  have Z14 : n0 ≤ h13.size := Nat.le_trans Z0 (Keep.of_wr W13).1
  have V13 : Arv Z h13 b1 kb .byte z (vs.set 2 (.int (nar .byte ((cc >>> ((0 : Int32) &&& 31)).toInt8.toInt32)))) (.int 0) := Arv.set Ar12 q12 S12 N_12 Hs12 G12 (fits_nar_byte _) W13 2 rfl (by simpa using hl0)
  have N13 := Fr.snoc X13 N0 pr5
  refine gz X13 47 #[vr b1, vi 3, vi cc] [(.int cc), (.int 3), (.ref b1)] (fun _ k => st13 _ (aN X13 hx (dk d29_44) rfl rfl (lN X13 hx (dk d29_45) rfl (lN X13 hx (dk d29_46) rfl k)))) ?_
  obtain ⟨T15, X15, e15, st15⟩ := getS2 X13 hx hZ hown (host := "") (Or.inl (W 129 rfl)) Via.refl e13 (pr3.ext O14.2) (g := (mkF m 47 #[vr b1, vi 3, vi cc] [(.int cc), (.int 3), (.ref b1)])) rfl (dk d29_47)
  refine gz X15 52 #[vr b1, vi 3, vi cc] [(.int ((cc >>> ((8 : Int32) &&& 31)).toInt8.toInt32)), (.int 3), (.ref b1)] (fun _ k => st15 _ (XS.ishr X15.here hx rfl (dk d29_50) rfl (XS.i2b X15.here hx rfl (dk d29_51) rfl k))) ?_
  obtain ⟨cl16, Ar16, q16, S16, N_16, Hs16, G16⟩ := id V13
  have hin17 : ¬ ((3 : Int32) < 0 ∨ cl16.slots.size ≤ ((3 : Int32)).toNatClampNeg) := inb_of S16 ⟨by decide, hz1⟩
  obtain ⟨T17, h17, X17, e17, W17, st17⟩ := stB X15 hx hZ e15 Ar16 (j := (3 : Int32)) hin17 (g := (mkF m 52 #[vr b1, vi 3, vi cc] [(.int ((cc >>> ((8 : Int32) &&& 31)).toInt8.toInt32)), (.int 3), (.ref b1)])) rfl rfl (dk d29_52)
  have O18 := O14.wr W17 pr5
  have Z18 : n0 ≤ h17.size := Nat.le_trans Z14 (Keep.of_wr W17).1
  have V17 : Arv Z h17 b1 kb .byte z ((vs.set 2 (.int (nar .byte ((cc >>> ((0 : Int32) &&& 31)).toInt8.toInt32)))).set 3 (.int (nar .byte ((cc >>> ((8 : Int32) &&& 31)).toInt8.toInt32)))) (.int 0) := Arv.set Ar16 q16 S16 N_16 Hs16 G16 (fits_nar_byte _) W17 3 rfl (by simpa using hl1)
  have N17 := Fr.snoc X17 N13 pr5
  refine gz X17 53 #[vr b1, vi 3, vi cc] [] (fun _ k => st17 _ k) ?_
  refine Go.retV X17 hx hlk hret (dk d29_53) (by decide) (by decide) ?_
  rw [e17]
  exact ⟨N17, rfl, (((Keep.refl h0 [b1]).wr W13 (Or.inl (List.mem_of_getElem? (i := 0) rfl))).wr W17 (Or.inl (List.mem_of_getElem? (i := 0) rfl))), V17⟩
theorem rm_get_1 {l : Launch} {Z : State} {a0 : Array Value} (hw : HW a0 Z) (b1 : Addr) (kb : ClassId) (cc : Int32) (z : Int32) (vs : List Value) (h0 : Heap) (n0 : Nat) (Z0 : n0 ≤ h0.size) (pr0 : Old Z n0 h0) (pr1 : S0 Z) (pr2 : S1 Z) (pr3 : S2 Z) (pr4 : Arv Z h0 b1 kb .byte z vs (.int 0)) (hz0 : (2 : Int32) < z) (hz1 : (3 : Int32) < z) (he0 : vs.getD 2 (.int 0) = .int (own_b0 cc)) (he1 : vs.getD 3 (.int 0) = .int (own_b1 cc)) (hr : own_rng cc) :
    Met l Z Y35 B27 2 (some .char) [] ({ frames := 0, cells := 0, slots := 0, locals := 0 } : Room) #[(.ref b1), (.int 1)] h0 (fun vv h L => Fr n0 L ∧ vv = some (.int cc) ∧ h = h0) := by
  refine Met.enter (f0 := fun m => mkF m 0 #[vr b1, vi 1] []) (plainFor_of_name pn4) (fun m => oe m 0) ?_
  intro p e s m below meth c s₁ hx hby hml hown hnm hret hlk hZ X0 e0
  have dk : Dk B27 c := fun h => hb hby h
  have W := @wd _ _ _ hw
  have N0 := Fr.nil n0
  obtain ⟨T10, X10, e10, st10⟩ := getS2 X0 hx hZ hown (host := "") (Or.inl (W 127 rfl)) Via.refl e0 (pr1.ext pr0.2) (g := (mkF m 0 #[vr b1, vi 1] [])) rfl (dk d30_0)
  refine gz X10 37 #[vr b1, vi 3] [(.int 2), (.ref b1)] (fun _ k => st10 _ (fY X10 hx 3 28 rfl (dk d30_3) rfl ((if0 _ _).trans (feq (by decide)).2) (lN X10 hx (dk d30_28) rfl (kC X10 hx (dk d30_29) (XS.ishl X10.here hx rfl (dk d30_30) rfl (sN X10 hx (dk d30_31) rfl rfl (.inr ⟨_, rfl, rfl⟩) (aN X10 hx (dk d30_32) rfl rfl (lN X10 hx (dk d30_33) rfl (XS.iinc X10.here hx rfl (dk d30_34) rfl (l' := #[vr b1, vi 3]) rfl k))))))))) ?_
  obtain ⟨cl11, Ar11, q11, S11, N_11, Hs11, G11⟩ := id pr4
  have hin12 : ¬ ((2 : Int32) < 0 ∨ cl11.slots.size ≤ ((2 : Int32)).toNatClampNeg) := inb_of S11 ⟨by decide, hz0⟩
  have hat12 : cl11.slots[((2 : Int32)).toNatClampNeg]? = some (.int (own_b0 cc)) := Hs11.at hin12 he0
  refine gz X10 38 #[vr b1, vi 3] [(.int (own_b0 cc))] (fun _ k => X10.baloadBytes hx (j := (2 : Int32)) (v := (.int (own_b0 cc))) (by rw [e10]; exact Ar11.1) (State.isArrayOf_alike hZ.alike Ar11.2.1) Ar11.2.2 hin12 hat12 (g := (mkF m 37 #[vr b1, vi 3] [(.int 2), (.ref b1)])) rfl rfl (dk d30_37) _ k) ?_
  refine gz X10 42 #[vr b1, vi 3] [(.int ((own_b0 cc) &&& (255 : Int32)))] (fun _ k => XS.sipush X10.here hx rfl (dk d30_38) (XS.iand X10.here hx rfl (dk d30_41) rfl k)) ?_
  obtain ⟨T13, X13, e13, st13⟩ := getS2 X10 hx hZ hown (host := "") (Or.inl (W 128 rfl)) Via.refl e10 (pr2.ext pr0.2) (g := (mkF m 42 #[vr b1, vi 3] [(.int ((own_b0 cc) &&& (255 : Int32)))])) rfl (dk d30_42)
  refine gz X13 48 #[vr b1, vi 3] [(.int 3), (.ref b1), (.int (((own_b0 cc) &&& (255 : Int32)) <<< ((0 : Int32) &&& 31)))] (fun _ k => st13 _ (XS.ishl X13.here hx rfl (dk d30_45) rfl (aN X13 hx (dk d30_46) rfl rfl (lN X13 hx (dk d30_47) rfl k)))) ?_
  obtain ⟨cl14, Ar14, q14, S14, N_14, Hs14, G14⟩ := id pr4
  have hin15 : ¬ ((3 : Int32) < 0 ∨ cl14.slots.size ≤ ((3 : Int32)).toNatClampNeg) := inb_of S14 ⟨by decide, hz1⟩
  have hat15 : cl14.slots[((3 : Int32)).toNatClampNeg]? = some (.int (own_b1 cc)) := Hs14.at hin15 he1
  refine gz X13 49 #[vr b1, vi 3] [(.int (own_b1 cc)), (.int (((own_b0 cc) &&& (255 : Int32)) <<< ((0 : Int32) &&& 31)))] (fun _ k => X13.baloadBytes hx (j := (3 : Int32)) (v := (.int (own_b1 cc))) (by rw [e13]; exact Ar14.1) (State.isArrayOf_alike hZ.alike Ar14.2.1) Ar14.2.2 hin15 hat15 (g := (mkF m 48 #[vr b1, vi 3] [(.int 3), (.ref b1), (.int (((own_b0 cc) &&& (255 : Int32)) <<< ((0 : Int32) &&& 31)))])) rfl rfl (dk d30_48) _ k) ?_
  refine gz X13 53 #[vr b1, vi 3] [(.int ((own_b1 cc) &&& (255 : Int32))), (.int (((own_b0 cc) &&& (255 : Int32)) <<< ((0 : Int32) &&& 31)))] (fun _ k => XS.sipush X13.here hx rfl (dk d30_49) (XS.iand X13.here hx rfl (dk d30_52) rfl k)) ?_
  obtain ⟨T16, X16, e16, st16⟩ := getS2 X13 hx hZ hown (host := "") (Or.inl (W 129 rfl)) Via.refl e13 (pr3.ext pr0.2) (g := (mkF m 53 #[vr b1, vi 3] [(.int ((own_b1 cc) &&& (255 : Int32))), (.int (((own_b0 cc) &&& (255 : Int32)) <<< ((0 : Int32) &&& 31)))])) rfl (dk d30_53)
  refine gz X16 59 #[vr b1, vi 3] [(.int (((((own_b0 cc) &&& (255 : Int32)) <<< ((0 : Int32) &&& 31)) ||| (((own_b1 cc) &&& (255 : Int32)) <<< ((8 : Int32) &&& 31))).toUInt32.toUInt16.toUInt32.toInt32))] (fun _ k => st16 _ (XS.ishl X16.here hx rfl (dk d30_56) rfl (XS.ior X16.here hx rfl (dk d30_57) rfl (XS.i2c X16.here hx rfl (dk d30_58) rfl k)))) ?_
  refine Go.retZ X16 hx hlk (t := .char) hret (by simp) (dk d30_59) (by decide) (by decide) ?_
  rw [e16]
  exact ⟨N0, (congrArg (fun q => some (Value.int q)) (own_gc hr)), rfl⟩
theorem rm_put_2 {l : Launch} {Z : State} {a0 : Array Value} (hw : HW a0 Z) (b1 : Addr) (kb : ClassId) (cc : Int32) (z : Int32) (vs : List Value) (h0 : Heap) (n0 : Nat) (Z0 : n0 ≤ h0.size) (pr0 : Old Z n0 h0) (pr1 : S0 Z) (pr2 : S1 Z) (pr3 : S2 Z) (pr4 : Arv Z h0 b1 kb .byte z vs (.int 0)) (pr5 : n0 ≤ b1) (hz0 : (4 : Int32) < z) (hz1 : (5 : Int32) < z) (hl0 : 4 < vs.length) (hl1 : 5 < vs.length) :
    Met l Z Y40 B26 3 none [] ({ frames := 0, cells := 0, slots := 0, locals := 0 } : Room) #[(.ref b1), (.int 2), (.int cc)] h0 (fun vv h L => Fr n0 L ∧ vv = none ∧ Keep h0 h [b1] ∧ Arv Z h b1 kb .byte z ((vs.set 4 (.int (own_b0 cc))).set 5 (.int (own_b1 cc))) (.int 0)) := by
  refine Met.enter (f0 := fun m => mkF m 0 #[vr b1, vi 2, vi cc] []) (plainFor_of_name pn4) (fun m => oe m 0) ?_
  intro p e s m below meth c s₁ hx hby hml hown hnm hret hlk hZ X0 e0
  have dk : Dk B26 c := fun h => hb hby h
  have W := @wd _ _ _ hw
  have N0 := Fr.nil n0
  obtain ⟨T10, X10, e10, st10⟩ := getS2 X0 hx hZ hown (host := "") (Or.inl (W 127 rfl)) Via.refl e0 (pr1.ext pr0.2) (g := (mkF m 0 #[vr b1, vi 2, vi cc] [])) rfl (dk d29_0)
  refine gz X10 38 #[vr b1, vi 5, vi cc] [(.int cc), (.int 4), (.ref b1)] (fun _ k => st10 _ (fY X10 hx 3 28 rfl (dk d29_3) rfl ((if0 _ _).trans (feq (by decide)).2) (lN X10 hx (dk d29_28) rfl (kC X10 hx (dk d29_29) (XS.ishl X10.here hx rfl (dk d29_30) rfl (sN X10 hx (dk d29_31) rfl rfl (.inr ⟨_, rfl, rfl⟩) (aN X10 hx (dk d29_32) rfl rfl (lN X10 hx (dk d29_33) rfl (XS.iinc X10.here hx rfl (dk d29_34) rfl (l' := #[vr b1, vi 5, vi cc]) rfl (lN X10 hx (dk d29_37) rfl k)))))))))) ?_
  obtain ⟨T11, X11, e11, st11⟩ := getS2 X10 hx hZ hown (host := "") (Or.inl (W 128 rfl)) Via.refl e10 (pr2.ext pr0.2) (g := (mkF m 38 #[vr b1, vi 5, vi cc] [(.int cc), (.int 4), (.ref b1)])) rfl (dk d29_38)
  refine gz X11 43 #[vr b1, vi 5, vi cc] [(.int ((cc >>> ((0 : Int32) &&& 31)).toInt8.toInt32)), (.int 4), (.ref b1)] (fun _ k => st11 _ (XS.ishr X11.here hx rfl (dk d29_41) rfl (XS.i2b X11.here hx rfl (dk d29_42) rfl k))) ?_
  obtain ⟨cl12, Ar12, q12, S12, N_12, Hs12, G12⟩ := id pr4
  have hin13 : ¬ ((4 : Int32) < 0 ∨ cl12.slots.size ≤ ((4 : Int32)).toNatClampNeg) := inb_of S12 ⟨by decide, hz0⟩
  obtain ⟨T13, h13, X13, e13, W13, st13⟩ := stB X11 hx hZ e11 Ar12 (j := (4 : Int32)) hin13 (g := (mkF m 43 #[vr b1, vi 5, vi cc] [(.int ((cc >>> ((0 : Int32) &&& 31)).toInt8.toInt32)), (.int 4), (.ref b1)])) rfl rfl (dk d29_43)
  have O14 := pr0.wr W13 pr5
  have Z14 : n0 ≤ h13.size := Nat.le_trans Z0 (Keep.of_wr W13).1
  have V13 : Arv Z h13 b1 kb .byte z (vs.set 4 (.int (nar .byte ((cc >>> ((0 : Int32) &&& 31)).toInt8.toInt32)))) (.int 0) := Arv.set Ar12 q12 S12 N_12 Hs12 G12 (fits_nar_byte _) W13 4 rfl (by simpa using hl0)
  have N13 := Fr.snoc X13 N0 pr5
  refine gz X13 47 #[vr b1, vi 5, vi cc] [(.int cc), (.int 5), (.ref b1)] (fun _ k => st13 _ (aN X13 hx (dk d29_44) rfl rfl (lN X13 hx (dk d29_45) rfl (lN X13 hx (dk d29_46) rfl k)))) ?_
  obtain ⟨T15, X15, e15, st15⟩ := getS2 X13 hx hZ hown (host := "") (Or.inl (W 129 rfl)) Via.refl e13 (pr3.ext O14.2) (g := (mkF m 47 #[vr b1, vi 5, vi cc] [(.int cc), (.int 5), (.ref b1)])) rfl (dk d29_47)
  refine gz X15 52 #[vr b1, vi 5, vi cc] [(.int ((cc >>> ((8 : Int32) &&& 31)).toInt8.toInt32)), (.int 5), (.ref b1)] (fun _ k => st15 _ (XS.ishr X15.here hx rfl (dk d29_50) rfl (XS.i2b X15.here hx rfl (dk d29_51) rfl k))) ?_
  obtain ⟨cl16, Ar16, q16, S16, N_16, Hs16, G16⟩ := id V13
  have hin17 : ¬ ((5 : Int32) < 0 ∨ cl16.slots.size ≤ ((5 : Int32)).toNatClampNeg) := inb_of S16 ⟨by decide, hz1⟩
  obtain ⟨T17, h17, X17, e17, W17, st17⟩ := stB X15 hx hZ e15 Ar16 (j := (5 : Int32)) hin17 (g := (mkF m 52 #[vr b1, vi 5, vi cc] [(.int ((cc >>> ((8 : Int32) &&& 31)).toInt8.toInt32)), (.int 5), (.ref b1)])) rfl rfl (dk d29_52)
  have O18 := O14.wr W17 pr5
  have Z18 : n0 ≤ h17.size := Nat.le_trans Z14 (Keep.of_wr W17).1
  have V17 : Arv Z h17 b1 kb .byte z ((vs.set 4 (.int (nar .byte ((cc >>> ((0 : Int32) &&& 31)).toInt8.toInt32)))).set 5 (.int (nar .byte ((cc >>> ((8 : Int32) &&& 31)).toInt8.toInt32)))) (.int 0) := Arv.set Ar16 q16 S16 N_16 Hs16 G16 (fits_nar_byte _) W17 5 rfl (by simpa using hl1)
  have N17 := Fr.snoc X17 N13 pr5
  refine gz X17 53 #[vr b1, vi 5, vi cc] [] (fun _ k => st17 _ k) ?_
  refine Go.retV X17 hx hlk hret (dk d29_53) (by decide) (by decide) ?_
  rw [e17]
  exact ⟨N17, rfl, (((Keep.refl h0 [b1]).wr W13 (Or.inl (List.mem_of_getElem? (i := 0) rfl))).wr W17 (Or.inl (List.mem_of_getElem? (i := 0) rfl))), V17⟩
theorem rm_get_2 {l : Launch} {Z : State} {a0 : Array Value} (hw : HW a0 Z) (b1 : Addr) (kb : ClassId) (cc : Int32) (z : Int32) (vs : List Value) (h0 : Heap) (n0 : Nat) (Z0 : n0 ≤ h0.size) (pr0 : Old Z n0 h0) (pr1 : S0 Z) (pr2 : S1 Z) (pr3 : S2 Z) (pr4 : Arv Z h0 b1 kb .byte z vs (.int 0)) (hz0 : (4 : Int32) < z) (hz1 : (5 : Int32) < z) (he0 : vs.getD 4 (.int 0) = .int (own_b0 cc)) (he1 : vs.getD 5 (.int 0) = .int (own_b1 cc)) (hr : own_rng cc) :
    Met l Z Y35 B27 2 (some .char) [] ({ frames := 0, cells := 0, slots := 0, locals := 0 } : Room) #[(.ref b1), (.int 2)] h0 (fun vv h L => Fr n0 L ∧ vv = some (.int cc) ∧ h = h0) := by
  refine Met.enter (f0 := fun m => mkF m 0 #[vr b1, vi 2] []) (plainFor_of_name pn4) (fun m => oe m 0) ?_
  intro p e s m below meth c s₁ hx hby hml hown hnm hret hlk hZ X0 e0
  have dk : Dk B27 c := fun h => hb hby h
  have W := @wd _ _ _ hw
  have N0 := Fr.nil n0
  obtain ⟨T10, X10, e10, st10⟩ := getS2 X0 hx hZ hown (host := "") (Or.inl (W 127 rfl)) Via.refl e0 (pr1.ext pr0.2) (g := (mkF m 0 #[vr b1, vi 2] [])) rfl (dk d30_0)
  refine gz X10 37 #[vr b1, vi 5] [(.int 4), (.ref b1)] (fun _ k => st10 _ (fY X10 hx 3 28 rfl (dk d30_3) rfl ((if0 _ _).trans (feq (by decide)).2) (lN X10 hx (dk d30_28) rfl (kC X10 hx (dk d30_29) (XS.ishl X10.here hx rfl (dk d30_30) rfl (sN X10 hx (dk d30_31) rfl rfl (.inr ⟨_, rfl, rfl⟩) (aN X10 hx (dk d30_32) rfl rfl (lN X10 hx (dk d30_33) rfl (XS.iinc X10.here hx rfl (dk d30_34) rfl (l' := #[vr b1, vi 5]) rfl k))))))))) ?_
  obtain ⟨cl11, Ar11, q11, S11, N_11, Hs11, G11⟩ := id pr4
  have hin12 : ¬ ((4 : Int32) < 0 ∨ cl11.slots.size ≤ ((4 : Int32)).toNatClampNeg) := inb_of S11 ⟨by decide, hz0⟩
  have hat12 : cl11.slots[((4 : Int32)).toNatClampNeg]? = some (.int (own_b0 cc)) := Hs11.at hin12 he0
  refine gz X10 38 #[vr b1, vi 5] [(.int (own_b0 cc))] (fun _ k => X10.baloadBytes hx (j := (4 : Int32)) (v := (.int (own_b0 cc))) (by rw [e10]; exact Ar11.1) (State.isArrayOf_alike hZ.alike Ar11.2.1) Ar11.2.2 hin12 hat12 (g := (mkF m 37 #[vr b1, vi 5] [(.int 4), (.ref b1)])) rfl rfl (dk d30_37) _ k) ?_
  refine gz X10 42 #[vr b1, vi 5] [(.int ((own_b0 cc) &&& (255 : Int32)))] (fun _ k => XS.sipush X10.here hx rfl (dk d30_38) (XS.iand X10.here hx rfl (dk d30_41) rfl k)) ?_
  obtain ⟨T13, X13, e13, st13⟩ := getS2 X10 hx hZ hown (host := "") (Or.inl (W 128 rfl)) Via.refl e10 (pr2.ext pr0.2) (g := (mkF m 42 #[vr b1, vi 5] [(.int ((own_b0 cc) &&& (255 : Int32)))])) rfl (dk d30_42)
  refine gz X13 48 #[vr b1, vi 5] [(.int 5), (.ref b1), (.int (((own_b0 cc) &&& (255 : Int32)) <<< ((0 : Int32) &&& 31)))] (fun _ k => st13 _ (XS.ishl X13.here hx rfl (dk d30_45) rfl (aN X13 hx (dk d30_46) rfl rfl (lN X13 hx (dk d30_47) rfl k)))) ?_
  obtain ⟨cl14, Ar14, q14, S14, N_14, Hs14, G14⟩ := id pr4
  have hin15 : ¬ ((5 : Int32) < 0 ∨ cl14.slots.size ≤ ((5 : Int32)).toNatClampNeg) := inb_of S14 ⟨by decide, hz1⟩
  have hat15 : cl14.slots[((5 : Int32)).toNatClampNeg]? = some (.int (own_b1 cc)) := Hs14.at hin15 he1
  refine gz X13 49 #[vr b1, vi 5] [(.int (own_b1 cc)), (.int (((own_b0 cc) &&& (255 : Int32)) <<< ((0 : Int32) &&& 31)))] (fun _ k => X13.baloadBytes hx (j := (5 : Int32)) (v := (.int (own_b1 cc))) (by rw [e13]; exact Ar14.1) (State.isArrayOf_alike hZ.alike Ar14.2.1) Ar14.2.2 hin15 hat15 (g := (mkF m 48 #[vr b1, vi 5] [(.int 5), (.ref b1), (.int (((own_b0 cc) &&& (255 : Int32)) <<< ((0 : Int32) &&& 31)))])) rfl rfl (dk d30_48) _ k) ?_
  refine gz X13 53 #[vr b1, vi 5] [(.int ((own_b1 cc) &&& (255 : Int32))), (.int (((own_b0 cc) &&& (255 : Int32)) <<< ((0 : Int32) &&& 31)))] (fun _ k => XS.sipush X13.here hx rfl (dk d30_49) (XS.iand X13.here hx rfl (dk d30_52) rfl k)) ?_
  obtain ⟨T16, X16, e16, st16⟩ := getS2 X13 hx hZ hown (host := "") (Or.inl (W 129 rfl)) Via.refl e13 (pr3.ext pr0.2) (g := (mkF m 53 #[vr b1, vi 5] [(.int ((own_b1 cc) &&& (255 : Int32))), (.int (((own_b0 cc) &&& (255 : Int32)) <<< ((0 : Int32) &&& 31)))])) rfl (dk d30_53)
  refine gz X16 59 #[vr b1, vi 5] [(.int (((((own_b0 cc) &&& (255 : Int32)) <<< ((0 : Int32) &&& 31)) ||| (((own_b1 cc) &&& (255 : Int32)) <<< ((8 : Int32) &&& 31))).toUInt32.toUInt16.toUInt32.toInt32))] (fun _ k => st16 _ (XS.ishl X16.here hx rfl (dk d30_56) rfl (XS.ior X16.here hx rfl (dk d30_57) rfl (XS.i2c X16.here hx rfl (dk d30_58) rfl k)))) ?_
  refine Go.retZ X16 hx hlk (t := .char) hret (by simp) (dk d30_59) (by decide) (by decide) ?_
  rw [e16]
  exact ⟨N0, (congrArg (fun q => some (Value.int q)) (own_gc hr)), rfl⟩
theorem d28_0 : DK B25 0 (.iload_n 0) 1 := by decide +kernel
theorem d28_1 : DK B25 1 (.ifCond .ge 11) 3 := by decide +kernel
theorem d28_12 : DK B25 12 (.iload_n 0) 1 := by decide +kernel
theorem d28_13 : DK B25 13 (.ldc 20) 2 := by decide +kernel
theorem d28_15 : DK B25 15 (.if_icmp .lt 40) 3 := by decide +kernel
theorem d28_55 : DK B25 55 (.iload_n 0) 1 := by decide +kernel
theorem d28_56 : DK B25 56 (.iconst 1) 1 := by decide +kernel
theorem d28_57 : DK B25 57 .ishl 1 := by decide +kernel
theorem d28_58 : DK B25 58 .ireturn 1 := by decide +kernel
theorem rm_nbl_1 {l : Launch} {Z : State} {a0 : Array Value} (hw : HW a0 Z)  (h0 : Heap) (n0 : Nat) (Z0 : n0 ≤ h0.size) :
    Met l Z Y38 B25 1 (some .int) [] ({ frames := 0, cells := 0, slots := 0, locals := 0 } : Room) #[(.int 1)] h0 (fun vv h L => Fr n0 L ∧ vv = some (.int 2) ∧ h = h0) := by
  refine Met.enter (f0 := fun m => mkF m 0 #[vi 1] []) (plainFor_of_name pn4) (fun m => oe m 0) ?_
  intro p e s m below meth c s₁ hx hby hml hown hnm hret hlk hZ X0 e0
  have dk : Dk B25 c := fun h => hb hby h
  have W := @wd _ _ _ hw
  have N0 := Fr.nil n0
  refine gz X0 58 #[vi 1] [(.int 2)] (fun _ k => lN X0 hx (dk d28_0) rfl (fY X0 hx 1 12 rfl (dk d28_1) rfl ((if0 _ _).trans (flt (by decide)).2.1) (lN X0 hx (dk d28_12) rfl (X0.ldcInt hx hown (mvT hZ (W 123 rfl)) (g := (mkF m 13 #[vi 1] [(.int 1)])) rfl (dk d28_13) _ (cY X0 hx 15 55 rfl (dk d28_15) rfl (tlt (by decide)).1 (lN X0 hx (dk d28_55) rfl (kC X0 hx (dk d28_56) (XS.ishl X0.here hx rfl (dk d28_57) rfl k)))))))) ?_
  refine Go.retJ X0 hx hlk (t := .int) hret (dk d28_58) ?_
  rw [e0]
  exact ⟨N0, rfl, rfl⟩
theorem d27_0 : DK B24 0 (.iload_n 0) 1 := by decide +kernel
theorem d27_1 : DK B24 1 (.invokestatic 11) 3 := by decide +kernel
theorem pd_0 : parseMethodDescriptor "(I)I" = some ⟨[.int], some .int⟩ := by decide +kernel
theorem m0 {Z : State} {a0 : Array Value} (hw : HW a0 Z) : (Jvm.Cond.static Y38).before a0 Z = true ∧ (Jvm.Cond.initialized "java/lang/StringUTF16").before a0 Z = true ∧ (Jvm.Cond.code Y38 B25 (1 : Nat) (Option.some Jvm.ClassFile.FieldType.int)).before a0 Z = true := ⟨(wd hw 121 rfl), (wd hw 24 rfl), (wd hw 122 rfl)⟩
theorem d27_4 : DK B24 4 (.newarray .byte) 2 := by decide +kernel
theorem d27_6 : DK B24 6 .areturn 1 := by decide +kernel
theorem rm_nbf_1 {l : Launch} {Z : State} {a0 : Array Value} (hw : HW a0 Z)  (h0 : Heap) (n0 : Nat) (Z0 : n0 ≤ h0.size) (pr0 : Old Z n0 h0) :
    Met l Z Y37 B24 1 (some (.array .byte)) [] ({ frames := 1, cells := 1, slots := 2, locals := 12 } : Room) #[(.int 1)] h0 (fun vv h L => Fr n0 L ∧ ∃ b : Addr, ∃ k : ClassId, vv = some (.ref b) ∧ Keep h0 h [] ∧ Arv Z h b k .byte (2 : Int32) [(.int 0), (.int 0)] (.int 0) ∧ h0.size ≤ b) := by
  refine Met.enter (f0 := fun m => mkF m 0 #[vi 1] []) (plainFor_of_name pn4) (fun m => oe m 0) ?_
  intro p e s m below meth c s₁ hx hby hml hown hnm hret hlk hZ X0 e0
  have dk : Dk B24 c := fun h => hb hby h
  have W := @wd _ _ _ hw
  have N0 := Fr.nil n0
  refine gz X0 1 #[vi 1] [(.int 1)] (fun _ k => lN X0 hx (dk d27_0) rfl k) ?_
  refine goS X0 hx hZ hown (W 120 rfl) (m0 hw) 1 0 0 (rm_nbl_1 hw  h0 n0 Z0 ) N0 e0 pd_0 hml (dk d27_1) ?_
  rintro _ T10 L10 X10 N10 ⟨rfl, hh10⟩
  obtain ⟨T11, h11, k11, X11, e11, E11, A11, st11⟩ := newP X10 hx hZ (W 26 rfl) hh10 (g := (mkF m 4 #[vi 1] [(.int 2)])) rfl (dk d27_4) rfl (by decide) (cap := 2) (by decide) (by decide) (by decide) (by decide)
  obtain ⟨b11, g11⟩ : ∃ z, z = h0.size := ⟨_, rfl⟩
  rw [← g11] at A11 st11
  have sz_b11 : h0.size ≤ b11 := Nat.le_of_eq g11.symm
  have V11 : Arv Z h11 b11 k11 .byte (2 : Int32) [(.int 0), (.int 0)] (.int 0) := (Arv.new A11 (by decide)).pad (pad_rep [] (.int 0) 2)
  have O12 := pr0.ext E11
  have Z12 : n0 ≤ h11.size := Nat.le_trans Z0 E11.1
  refine gz X11 6 #[vi 1] [(.ref b11)] (fun _ k => st11 _ k) ?_
  refine Go.retA X11 hx hlk (t := (.array .byte)) hret (dk d27_6) ?_
  rw [e11]
  exact ⟨N10, b11, k11, rfl, ((Keep.refl h0 []).ext E11), V11, (Nat.le_trans (Nat.le_refl _) sz_b11)⟩
theorem d26_0 : DK B18 0 (.iload_n 2) 1 := by decide +kernel
theorem d26_1 : DK B18 1 (.invokestatic 107) 3 := by decide +kernel
theorem pd_1 : parseMethodDescriptor "(I)[B" = some ⟨[.int], some (.array .byte)⟩ := by decide +kernel
theorem m1 {Z : State} {a0 : Array Value} (hw : HW a0 Z) : (Jvm.Cond.static Y37).before a0 Z = true ∧ (Jvm.Cond.initialized "java/lang/StringUTF16").before a0 Z = true ∧ (Jvm.Cond.code Y37 B24 (1 : Nat) (Option.some (Jvm.ClassFile.FieldType.array Jvm.ClassFile.FieldType.byte))).before a0 Z = true := ⟨(wd hw 118 rfl), (wd hw 24 rfl), (wd hw 119 rfl)⟩
theorem d26_4 : DK B18 4 (.astore_n 3) 1 := by decide +kernel
theorem d26_5 : DK B18 5 (.iconst 0) 1 := by decide +kernel
theorem d26_6 : DK B18 6 (.istore 4) 2 := by decide +kernel
theorem d26_8 : DK B18 8 (.iload 4) 2 := by decide +kernel
theorem d26_10 : DK B18 10 (.iload_n 2) 1 := by decide +kernel
theorem d26_11 : DK B18 11 (.if_icmp .ge 21) 3 := by decide +kernel
theorem d26_14 : DK B18 14 (.aload_n 3) 1 := by decide +kernel
theorem d26_15 : DK B18 15 (.iload 4) 2 := by decide +kernel
theorem d26_17 : DK B18 17 (.aload_n 0) 1 := by decide +kernel
theorem d26_18 : DK B18 18 (.iload_n 1) 1 := by decide +kernel
theorem d26_19 : DK B18 19 .caload 1 := by decide +kernel
theorem d26_20 : DK B18 20 (.invokestatic 111) 3 := by decide +kernel
theorem pd_2 : parseMethodDescriptor "([BII)V" = some ⟨[(.array .byte), .int, .int], none⟩ := by decide +kernel
theorem m2 {Z : State} {a0 : Array Value} (hw : HW a0 Z) : (Jvm.Cond.static Y40).before a0 Z = true ∧ (Jvm.Cond.initialized "java/lang/StringUTF16").before a0 Z = true ∧ (Jvm.Cond.code Y40 B26 (3 : Nat) (Option.none : Option Jvm.ClassFile.FieldType)).before a0 Z = true := ⟨(wd hw 125 rfl), (wd hw 24 rfl), (wd hw 126 rfl)⟩
theorem d26_23 : DK B18 23 (.iinc 1 1) 3 := by decide +kernel
theorem d26_26 : DK B18 26 (.iinc 4 1) 3 := by decide +kernel
theorem d26_29 : DK B18 29 (.goto (-21)) 3 := by decide +kernel
theorem d26_32 : DK B18 32 (.aload_n 3) 1 := by decide +kernel
theorem d26_33 : DK B18 33 .areturn 1 := by decide +kernel
theorem rm_tb_1 {l : Launch} {Z : State} {a0 : Array Value} (hw : HW a0 Z) (a1 : Addr) (ka : ClassId) (c0 : Int32) (h0 : Heap) (n0 : Nat) (Z0 : n0 ≤ h0.size) (pr0 : Old Z n0 h0) (pr1 : S0 Z) (pr2 : S1 Z) (pr3 : S2 Z) (pr4 : Arv Z h0 a1 ka .char (1 : Int32) [(.int c0)] (.int 0)) :
    Met l Z Y41 B18 5 (some (.array .byte)) [] ({ frames := 2, cells := 1, slots := 2, locals := 24 } : Room) #[(.ref a1), (.int 0), (.int 1)] h0 (fun vv h L => Fr n0 L ∧ ∃ b : Addr, ∃ k : ClassId, vv = some (.ref b) ∧ Keep h0 h [] ∧ Arv Z h b k .byte (2 : Int32) [(.int (own_b0 c0)), (.int (own_b1 c0))] (.int 0) ∧ h0.size ≤ b) := by
  refine Met.enter (f0 := fun m => mkF m 0 #[vr a1, vi 0, vi 1, .unset, .unset] []) (plainFor_of_name pn4) (fun m => oe m 2) ?_
  intro p e s m below meth c s₁ hx hby hml hown hnm hret hlk hZ X0 e0
  have dk : Dk B18 c := fun h => hb hby h
  have W := @wd _ _ _ hw
  have N0 := Fr.nil n0
  refine gz X0 1 #[vr a1, vi 0, vi 1, .unset, .unset] [(.int 1)] (fun _ k => lN X0 hx (dk d26_0) rfl k) ?_
  refine goS X0 hx hZ hown (W 117 rfl) (m1 hw) 1 1 2 (rm_nbf_1 hw  h0 n0 Z0 pr0) N0 e0 pd_1 hml (dk d26_1) ?_
  rintro _ T10 L10 X10 N10 ⟨b10, k10, rfl, K10, p10_0, p10_1⟩
  have O11 := pr0.keep K10 all0
  have Z11 : n0 ≤ T10.heap.size := Nat.le_trans Z0 K10.1
  have sz_b10 : h0.size ≤ b10 := p10_1
  refine gz X10 19 #[vr a1, vi 0, vi 1, vr b10, vi 0] [(.int 0), (.ref a1), (.int 0), (.ref b10)] (fun _ k => tN X10 hx (dk d26_4) rfl rfl rfl (.inl rfl) (kC X10 hx (dk d26_5) (sI X10 hx (dk d26_6) rfl rfl (.inl rfl) (lI X10 hx (dk d26_8) rfl (lN X10 hx (dk d26_10) rfl (cN X10 hx (dk d26_11) rfl (tlt (by decide)).2.1 (aN X10 hx (dk d26_14) rfl rfl (lI X10 hx (dk d26_15) rfl (aN X10 hx (dk d26_17) rfl rfl (lN X10 hx (dk d26_18) rfl k)))))))))) ?_
  obtain ⟨cl12, Ar12, q12, S12, N_12, Hs12, G12⟩ := id (pr4.keep K10 nin0)
  have hin13 : ¬ ((0 : Int32) < 0 ∨ cl12.slots.size ≤ ((0 : Int32)).toNatClampNeg) := inb_of S12 ⟨by decide, by decide⟩
  have hat13 : cl12.slots[((0 : Int32)).toNatClampNeg]? = some (.int c0) := Hs12.at hin13 rfl
  refine gz X10 20 #[vr a1, vi 0, vi 1, vr b10, vi 0] [(.int c0), (.int 0), (.ref b10)] (fun _ k => X10.caload hx (j := (0 : Int32)) (v := (.int c0)) Ar12.1 (State.isArrayOf_alike hZ.alike Ar12.2.1) Ar12.2.2 hin13 hat13 (g := (mkF m 19 #[vr a1, vi 0, vi 1, vr b10, vi 0] [(.int 0), (.ref a1), (.int 0), (.ref b10)])) rfl rfl (dk d26_19) _ k) ?_
  refine goS X10 hx hZ hown (W 124 rfl) (m2 hw) 3 1 2 (rm_put_0 hw b10 k10 c0 (2 : Int32) [(.int 0), (.int 0)] T10.heap n0 Z11 O11 pr1 pr2 pr3 p10_0 (Nat.le_trans Z0 sz_b10) (by decide) (by decide) (Nat.le_of_ble_eq_true rfl) (Nat.le_of_ble_eq_true rfl)) N10 rfl pd_2 hml (dk d26_20) ?_
  rintro _ T14 L14 X14 N14 ⟨rfl, K14, p14_0⟩
  have O15 := O11.keep K14 (allS (Nat.le_trans Z0 sz_b10) all0)
  have Z15 : n0 ≤ T14.heap.size := Nat.le_trans Z11 K14.1
  have p14_0 : Arv Z T14.heap b10 k10 .byte (2 : Int32) [(.int (own_b0 c0)), (.int (own_b1 c0))] (.int 0) := p14_0
  refine gz X14 33 #[vr a1, vi 1, vi 1, vr b10, vi 1] [(.ref b10)] (fun _ k => XS.iinc X14.here hx rfl (dk d26_23) rfl (l' := #[vr a1, vi 1, vi 1, vr b10, vi 0]) rfl (XS.iinc X14.here hx rfl (dk d26_26) rfl (l' := #[vr a1, vi 1, vi 1, vr b10, vi 1]) rfl (gT X14 hx 29 8 rfl (dk d26_29) (lI X14 hx (dk d26_8) rfl (lN X14 hx (dk d26_10) rfl (cY X14 hx 11 32 rfl (dk d26_11) rfl (flt (by decide)).2.1 (aN X14 hx (dk d26_32) rfl rfl k))))))) ?_
  refine Go.retA X14 hx hlk (t := (.array .byte)) hret (dk d26_33) ?_
  exact ⟨N14, b10, k10, rfl, (((Keep.refl h0 []).trans K10 all0).trans K14 (allS (Or.inr (Nat.le_trans (Nat.le_refl _) sz_b10)) all0)), p14_0, (Nat.le_trans (Nat.le_refl _) sz_b10)⟩
theorem d8_0 : DK B19 0 (.iload_n 1) 1 := by decide +kernel
theorem d8_1 : DK B19 1 (.aload_n 0) 1 := by decide +kernel
theorem d8_2 : DK B19 2 .arraylength 1 := by decide +kernel
theorem d8_3 : DK B19 3 .isub 1 := by decide +kernel
theorem d8_4 : DK B19 4 (.bipush 31) 2 := by decide +kernel
theorem d8_6 : DK B19 6 .iushr 1 := by decide +kernel
theorem d8_7 : DK B19 7 .i2b 1 := by decide +kernel
theorem d8_8 : DK B19 8 .ireturn 1 := by decide +kernel
theorem rm_cfal_1_0 {l : Launch} {Z : State} {a0 : Array Value} (hw : HW a0 Z) (b1 : Addr) (kb : ClassId) (c0 : Int32) (h0 : Heap) (n0 : Nat) (Z0 : n0 ≤ h0.size) (pr0 : Arv Z h0 b1 kb .byte (1 : Int32) [(.int (nar .byte (c0.toInt8.toInt32)))] (.int 0)) :
    Met l Z Y30 B19 2 (some .byte) [] ({ frames := 0, cells := 0, slots := 0, locals := 0 } : Room) #[(.ref b1), (.int 1)] h0 (fun vv h L => Fr n0 L ∧ vv = some (.int 0) ∧ h = h0) := by
  refine Met.enter (f0 := fun m => mkF m 0 #[vr b1, vi 1] []) (plainFor_of_name pn4) (fun m => oe m 0) ?_
  intro p e s m below meth c s₁ hx hby hml hown hnm hret hlk hZ X0 e0
  have dk : Dk B19 c := fun h => hb hby h
  have W := @wd _ _ _ hw
  have N0 := Fr.nil n0
  refine gz X0 2 #[vr b1, vi 1] [(.ref b1), (.int 1)] (fun _ k => lN X0 hx (dk d8_0) rfl (aN X0 hx (dk d8_1) rfl rfl k)) ?_
  obtain ⟨cl10, Ar10, q10, S10, N_10, Hs10, G10⟩ := id pr0
  refine gz X0 3 #[vr b1, vi 1] [(.int 1), (.int 1)] (fun _ k => X0.arraylength hx (by rw [e0]; exact Ar10.1) (State.isArrayOf_alike hZ.alike Ar10.2.1) (g := (mkF m 2 #[vr b1, vi 1] [(.ref b1), (.int 1)])) rfl rfl (dk d8_2) _ (by rw [len_of S10 N_10]; exact k)) ?_
  refine gz X0 8 #[vr b1, vi 1] [(.int 0)] (fun _ k => XS.isub X0.here hx rfl (dk d8_3) rfl (XS.bipush X0.here hx rfl (dk d8_4) (XS.iushr X0.here hx rfl (dk d8_6) rfl (XS.i2b X0.here hx rfl (dk d8_7) rfl k)))) ?_
  refine Go.retJ X0 hx hlk (t := .byte) hret (dk d8_8) ?_
  rw [e0]
  exact ⟨N0, rfl, rfl⟩
theorem rm_cfal_1_1 {l : Launch} {Z : State} {a0 : Array Value} (hw : HW a0 Z) (b1 : Addr) (kb : ClassId) (c0 : Int32) (h0 : Heap) (n0 : Nat) (Z0 : n0 ≤ h0.size) (pr0 : Arv Z h0 b1 kb .byte (2 : Int32) [(.int (own_b0 c0)), (.int (own_b1 c0))] (.int 0)) :
    Met l Z Y30 B19 2 (some .byte) [] ({ frames := 0, cells := 0, slots := 0, locals := 0 } : Room) #[(.ref b1), (.int 1)] h0 (fun vv h L => Fr n0 L ∧ vv = some (.int 1) ∧ h = h0) := by
  refine Met.enter (f0 := fun m => mkF m 0 #[vr b1, vi 1] []) (plainFor_of_name pn4) (fun m => oe m 0) ?_
  intro p e s m below meth c s₁ hx hby hml hown hnm hret hlk hZ X0 e0
  have dk : Dk B19 c := fun h => hb hby h
  have W := @wd _ _ _ hw
  have N0 := Fr.nil n0
  refine gz X0 2 #[vr b1, vi 1] [(.ref b1), (.int 1)] (fun _ k => lN X0 hx (dk d8_0) rfl (aN X0 hx (dk d8_1) rfl rfl k)) ?_
  obtain ⟨cl10, Ar10, q10, S10, N_10, Hs10, G10⟩ := id pr0
  refine gz X0 3 #[vr b1, vi 1] [(.int 2), (.int 1)] (fun _ k => X0.arraylength hx (by rw [e0]; exact Ar10.1) (State.isArrayOf_alike hZ.alike Ar10.2.1) (g := (mkF m 2 #[vr b1, vi 1] [(.ref b1), (.int 1)])) rfl rfl (dk d8_2) _ (by rw [len_of S10 N_10]; exact k)) ?_
  refine gz X0 8 #[vr b1, vi 1] [(.int 1)] (fun _ k => XS.isub X0.here hx rfl (dk d8_3) rfl (XS.bipush X0.here hx rfl (dk d8_4) (XS.iushr X0.here hx rfl (dk d8_6) rfl (XS.i2b X0.here hx rfl (dk d8_7) rfl k)))) ?_
  refine Go.retJ X0 hx hlk (t := .byte) hret (dk d8_8) ?_
  rw [e0]
  exact ⟨N0, rfl, rfl⟩
theorem d7_0 : DK B22 0 (.iconst 0) 1 := by decide +kernel
theorem d7_1 : DK B22 1 (.istore 5) 2 := by decide +kernel
theorem d7_3 : DK B22 3 (.iload 5) 2 := by decide +kernel
theorem d7_5 : DK B22 5 (.iload 4) 2 := by decide +kernel
theorem d7_7 : DK B22 7 (.if_icmp .ge 37) 3 := by decide +kernel
theorem d7_10 : DK B22 10 (.aload_n 0) 1 := by decide +kernel
theorem d7_11 : DK B22 11 (.iload_n 1) 1 := by decide +kernel
theorem d7_12 : DK B22 12 .caload 1 := by decide +kernel
theorem d7_13 : DK B22 13 (.istore 6) 2 := by decide +kernel
theorem d7_15 : DK B22 15 (.iload 6) 2 := by decide +kernel
theorem d7_17 : DK B22 17 (.sipush 255) 3 := by decide +kernel
theorem d7_20 : DK B22 20 (.if_icmp .le 6) 3 := by decide +kernel
theorem d7_23 : DK B22 23 (.iload 5) 2 := by decide +kernel
theorem d7_25 : DK B22 25 .ireturn 1 := by decide +kernel
theorem d7_26 : DK B22 26 (.aload_n 2) 1 := by decide +kernel
theorem d7_27 : DK B22 27 (.iload_n 3) 1 := by decide +kernel
theorem d7_28 : DK B22 28 (.iload 6) 2 := by decide +kernel
theorem d7_30 : DK B22 30 .i2b 1 := by decide +kernel
theorem d7_31 : DK B22 31 .bastore 1 := by decide +kernel
theorem d7_32 : DK B22 32 (.iinc 1 1) 3 := by decide +kernel
theorem d7_35 : DK B22 35 (.iinc 3 1) 3 := by decide +kernel
theorem d7_38 : DK B22 38 (.iinc 5 1) 3 := by decide +kernel
theorem d7_41 : DK B22 41 (.goto (-38)) 3 := by decide +kernel
theorem d7_44 : DK B22 44 (.iload 4) 2 := by decide +kernel
theorem d7_46 : DK B22 46 .ireturn 1 := by decide +kernel
theorem rm_cmp5_1 {l : Launch} {Z : State} {a0 : Array Value} (hw : HW a0 Z) (a1 : Addr) (b1 : Addr) (ka : ClassId) (kb : ClassId) (c0 : Int32) (h0 : Heap) (n0 : Nat) (Z0 : n0 ≤ h0.size) (pr0 : Old Z n0 h0) (pr1 : Arv Z h0 a1 ka .char (1 : Int32) [(.int c0)] (.int 0)) (pr2 : Arv Z h0 b1 kb .byte (1 : Int32) [(.int 0)] (.int 0)) (pr3 : n0 ≤ b1) (pr4 : a1 ≠ b1) :
    Met l Z Y34 B22 7 (some .int) [] ({ frames := 0, cells := 0, slots := 0, locals := 0 } : Room) #[(.ref a1), (.int 0), (.ref b1), (.int 0), (.int 1)] h0 (fun vv h L => Fr n0 L ∧ ∃ r : Int32, vv = some (.int r) ∧ Keep h0 h [b1] ∧ (r = (1 : Int32) → Arv Z h b1 kb .byte (1 : Int32) [(.int (nar .byte (c0.toInt8.toInt32)))] (.int 0)) ∧ ((r = (1 : Int32) ∧ ¬ (255 : Int32) < c0) ∨ (r = (0 : Int32) ∧ (255 : Int32) < c0))) := by
  refine Met.enter (f0 := fun m => mkF m 0 #[vr a1, vi 0, vr b1, vi 0, vi 1, .unset, .unset] []) (plainFor_of_name pn4) (fun m => oe m 2) ?_
  intro p e s m below meth c s₁ hx hby hml hown hnm hret hlk hZ X0 e0
  have dk : Dk B22 c := fun h => hb hby h
  have W := @wd _ _ _ hw
  have N0 := Fr.nil n0
  refine gz X0 12 #[vr a1, vi 0, vr b1, vi 0, vi 1, vi 0, .unset] [(.int 0), (.ref a1)] (fun _ k => kC X0 hx (dk d7_0) (sI X0 hx (dk d7_1) rfl rfl (.inl rfl) (lI X0 hx (dk d7_3) rfl (lI X0 hx (dk d7_5) rfl (cN X0 hx (dk d7_7) rfl (tlt (by decide)).2.1 (aN X0 hx (dk d7_10) rfl rfl (lN X0 hx (dk d7_11) rfl k))))))) ?_
  obtain ⟨cl10, Ar10, q10, S10, N_10, Hs10, G10⟩ := id pr1
  have hin11 : ¬ ((0 : Int32) < 0 ∨ cl10.slots.size ≤ ((0 : Int32)).toNatClampNeg) := inb_of S10 ⟨by decide, by decide⟩
  have hat11 : cl10.slots[((0 : Int32)).toNatClampNeg]? = some (.int c0) := Hs10.at hin11 rfl
  refine gz X0 13 #[vr a1, vi 0, vr b1, vi 0, vi 1, vi 0, .unset] [(.int c0)] (fun _ k => X0.caload hx (j := (0 : Int32)) (v := (.int c0)) (by rw [e0]; exact Ar10.1) (State.isArrayOf_alike hZ.alike Ar10.2.1) Ar10.2.2 hin11 hat11 (g := (mkF m 12 #[vr a1, vi 0, vr b1, vi 0, vi 1, vi 0, .unset] [(.int 0), (.ref a1)])) rfl rfl (dk d7_12) _ k) ?_
  refine gz X0 20 #[vr a1, vi 0, vr b1, vi 0, vi 1, vi 0, vi c0] [(.int 255), (.int c0)] (fun _ k => sI X0 hx (dk d7_13) rfl rfl (.inl rfl) (lI X0 hx (dk d7_15) rfl (XS.sipush X0.here hx rfl (dk d7_17) k))) ?_
  by_cases c12 : (255 : Int32) < c0
  · skip
    refine gz X0 25 #[vr a1, vi 0, vr b1, vi 0, vi 1, vi 0, vi c0] [(.int 0)] (fun _ k => cN X0 hx (dk d7_20) rfl (tlt c12).2.2.2 (lI X0 hx (dk d7_23) rfl k)) ?_
    refine Go.retJ X0 hx hlk (t := .int) hret (dk d7_25) ?_
    rw [e0]
    exact ⟨N0, (0 : Int32), rfl, (Keep.refl h0 [b1]), (fun q => absurd q (by decide)), (Or.inr ⟨rfl, c12⟩)⟩
  · skip
    refine gz X0 31 #[vr a1, vi 0, vr b1, vi 0, vi 1, vi 0, vi c0] [(.int (c0.toInt8.toInt32)), (.int 0), (.ref b1)] (fun _ k => cY X0 hx 20 26 rfl (dk d7_20) rfl (flt c12).2.2.2 (aN X0 hx (dk d7_26) rfl rfl (lN X0 hx (dk d7_27) rfl (lI X0 hx (dk d7_28) rfl (XS.i2b X0.here hx rfl (dk d7_30) rfl k))))) ?_
    obtain ⟨cl13, Ar13, q13, S13, N_13, Hs13, G13⟩ := id pr2
    have hin14 : ¬ ((0 : Int32) < 0 ∨ cl13.slots.size ≤ ((0 : Int32)).toNatClampNeg) := inb_of S13 ⟨by decide, by decide⟩
    obtain ⟨T14, h14, X14, e14, W14, st14⟩ := stB X0 hx hZ e0 Ar13 (j := (0 : Int32)) hin14 (g := (mkF m 31 #[vr a1, vi 0, vr b1, vi 0, vi 1, vi 0, vi c0] [(.int (c0.toInt8.toInt32)), (.int 0), (.ref b1)])) rfl rfl (dk d7_31)
    have O15 := pr0.wr W14 pr3
    have Z15 : n0 ≤ h14.size := Nat.le_trans Z0 (Keep.of_wr W14).1
    have V14 : Arv Z h14 b1 kb .byte (1 : Int32) [(.int (nar .byte (c0.toInt8.toInt32)))] (.int 0) := Arv.set Ar13 q13 S13 N_13 Hs13 G13 (fits_nar_byte _) W14 0 rfl (Nat.le_of_ble_eq_true rfl)
    have N14 := Fr.snoc X14 N0 pr3
    refine gz X14 46 #[vr a1, vi 1, vr b1, vi 1, vi 1, vi 1, vi c0] [(.int 1)] (fun _ k => st14 _ (XS.iinc X14.here hx rfl (dk d7_32) rfl (l' := #[vr a1, vi 1, vr b1, vi 0, vi 1, vi 0, vi c0]) rfl (XS.iinc X14.here hx rfl (dk d7_35) rfl (l' := #[vr a1, vi 1, vr b1, vi 1, vi 1, vi 0, vi c0]) rfl (XS.iinc X14.here hx rfl (dk d7_38) rfl (l' := #[vr a1, vi 1, vr b1, vi 1, vi 1, vi 1, vi c0]) rfl (gT X14 hx 41 3 rfl (dk d7_41) (lI X14 hx (dk d7_3) rfl (lI X14 hx (dk d7_5) rfl (cY X14 hx 7 44 rfl (dk d7_7) rfl (flt (by decide)).2.1 (lI X14 hx (dk d7_44) rfl k))))))))) ?_
    refine Go.retJ X14 hx hlk (t := .int) hret (dk d7_46) ?_
    rw [e14]
    exact ⟨N14, (1 : Int32), rfl, ((Keep.refl h0 [b1]).wr W14 (Or.inl (List.mem_of_getElem? (i := 0) rfl))), (fun _ => V14), (Or.inl ⟨rfl, c12⟩)⟩
theorem d6_0 : DK B20 0 (.iload_n 2) 1 := by decide +kernel
theorem d6_1 : DK B20 1 (.newarray .byte) 2 := by decide +kernel
theorem d6_3 : DK B20 3 (.astore_n 3) 1 := by decide +kernel
theorem d6_4 : DK B20 4 (.aload_n 0) 1 := by decide +kernel
theorem d6_5 : DK B20 5 (.iload_n 1) 1 := by decide +kernel
theorem d6_6 : DK B20 6 (.aload_n 3) 1 := by decide +kernel
theorem d6_7 : DK B20 7 (.iconst 0) 1 := by decide +kernel
theorem d6_8 : DK B20 8 (.iload_n 2) 1 := by decide +kernel
theorem d6_9 : DK B20 9 (.invokestatic 115) 3 := by decide +kernel
theorem pd_3 : parseMethodDescriptor "([CI[BII)I" = some ⟨[(.array .char), .int, (.array .byte), .int, .int], some .int⟩ := by decide +kernel
theorem m3 {Z : State} {a0 : Array Value} (hw : HW a0 Z) : (Jvm.Cond.static Y34).before a0 Z = true ∧ (Jvm.Cond.initialized "java/lang/StringUTF16").before a0 Z = true ∧ (Jvm.Cond.code Y34 B22 (7 : Nat) (Option.some Jvm.ClassFile.FieldType.int)).before a0 Z = true := ⟨(wd hw 28 rfl), (wd hw 24 rfl), (wd hw 29 rfl)⟩
theorem d6_12 : DK B20 12 (.istore 4) 2 := by decide +kernel
theorem d6_14 : DK B20 14 (.iload 4) 2 := by decide +kernel
theorem d6_16 : DK B20 16 (.iload_n 2) 1 := by decide +kernel
theorem d6_17 : DK B20 17 (.if_icmp .eq 40) 3 := by decide +kernel
theorem d6_57 : DK B20 57 (.aload_n 3) 1 := by decide +kernel
theorem d6_58 : DK B20 58 .areturn 1 := by decide +kernel
theorem d6_20 : DK B20 20 (.aload_n 0) 1 := by decide +kernel
theorem d6_21 : DK B20 21 (.iload_n 1) 1 := by decide +kernel
theorem d6_22 : DK B20 22 (.iload_n 2) 1 := by decide +kernel
theorem d6_23 : DK B20 23 (.invokestatic 119) 3 := by decide +kernel
theorem pd_4 : parseMethodDescriptor "([CII)[B" = some ⟨[(.array .char), .int, .int], some (.array .byte)⟩ := by decide +kernel
theorem m4 {Z : State} {a0 : Array Value} (hw : HW a0 Z) : (Jvm.Cond.static Y41).before a0 Z = true ∧ (Jvm.Cond.initialized "java/lang/StringUTF16").before a0 Z = true ∧ (Jvm.Cond.code Y41 B18 (5 : Nat) (Option.some (Jvm.ClassFile.FieldType.array Jvm.ClassFile.FieldType.byte))).before a0 Z = true := ⟨(wd hw 115 rfl), (wd hw 24 rfl), (wd hw 116 rfl)⟩
theorem d6_26 : DK B20 26 (.astore 5) 2 := by decide +kernel
theorem d6_28 : DK B20 28 (.aload 5) 2 := by decide +kernel
theorem d6_30 : DK B20 30 (.iload 4) 2 := by decide +kernel
theorem d6_32 : DK B20 32 (.invokestatic 71) 3 := by decide +kernel
theorem pd_5 : parseMethodDescriptor "([BI)C" = some ⟨[(.array .byte), .int], some .char⟩ := by decide +kernel
theorem m5 {Z : State} {a0 : Array Value} (hw : HW a0 Z) : (Jvm.Cond.static Y35).before a0 Z = true ∧ (Jvm.Cond.initialized "java/lang/StringUTF16").before a0 Z = true ∧ (Jvm.Cond.code Y35 B27 (2 : Nat) (Option.some Jvm.ClassFile.FieldType.char)).before a0 Z = true := ⟨(wd hw 131 rfl), (wd hw 24 rfl), (wd hw 132 rfl)⟩
theorem d6_35 : DK B20 35 (.sipush 255) 3 := by decide +kernel
theorem d6_38 : DK B20 38 (.if_icmp .gt 16) 3 := by decide +kernel
theorem d6_54 : DK B20 54 (.aload 5) 2 := by decide +kernel
theorem d6_56 : DK B20 56 .areturn 1 := by decide +kernel
theorem rm_cmp3_1 {l : Launch} {Z : State} {a0 : Array Value} (hw : HW a0 Z) (a1 : Addr) (ka : ClassId) (c0 : Int32) (h0 : Heap) (n0 : Nat) (Z0 : n0 ≤ h0.size) (pr0 : Old Z n0 h0) (pr1 : S0 Z) (pr2 : S1 Z) (pr3 : S2 Z) (pr4 : Arv Z h0 a1 ka .char (1 : Int32) [(.int c0)] (.int 0)) (hr0 : own_rng c0) :
    Met l Z Y33 B20 6 (some (.array .byte)) [] ({ frames := 3, cells := 2, slots := 3, locals := 40 } : Room) #[(.ref a1), (.int 0), (.int 1)] h0 (fun vv h L => Fr n0 L ∧ ∃ b : Addr, ∃ k : ClassId, ∃ u : Bool, vv = some (.ref b) ∧ Keep h0 h [] ∧ h0.size ≤ b ∧ (u = false → ¬ (255 : Int32) < c0) ∧ (u = false → Arv Z h b k .byte (1 : Int32) [(.int (nar .byte (c0.toInt8.toInt32)))] (.int 0)) ∧ (u = true → Arv Z h b k .byte (2 : Int32) [(.int (own_b0 c0)), (.int (own_b1 c0))] (.int 0))) := by
  refine Met.enter (f0 := fun m => mkF m 0 #[vr a1, vi 0, vi 1, .unset, .unset, .unset] []) (plainFor_of_name pn4) (fun m => oe m 3) ?_
  intro p e s m below meth c s₁ hx hby hml hown hnm hret hlk hZ X0 e0
  have dk : Dk B20 c := fun h => hb hby h
  have W := @wd _ _ _ hw
  have N0 := Fr.nil n0
  refine gz X0 1 #[vr a1, vi 0, vi 1, .unset, .unset, .unset] [(.int 1)] (fun _ k => lN X0 hx (dk d6_0) rfl k) ?_
  obtain ⟨T10, h10, k10, X10, e10, E10, A10, st10⟩ := newP X0 hx hZ (W 26 rfl) e0 (g := (mkF m 1 #[vr a1, vi 0, vi 1, .unset, .unset, .unset] [(.int 1)])) rfl (dk d6_1) rfl (by decide) (cap := 1) (by decide) (by decide) (by decide) (by decide)
  obtain ⟨b10, g10⟩ : ∃ z, z = h0.size := ⟨_, rfl⟩
  rw [← g10] at A10 st10
  have sz_b10 : h0.size ≤ b10 := Nat.le_of_eq g10.symm
  have V10 : Arv Z h10 b10 k10 .byte (1 : Int32) [(.int 0)] (.int 0) := (Arv.new A10 (by decide)).pad (pad_rep [] (.int 0) 1)
  have O11 := pr0.ext E10
  have Z11 : n0 ≤ h10.size := Nat.le_trans Z0 E10.1
  refine gz X10 9 #[vr a1, vi 0, vi 1, vr b10, .unset, .unset] [(.int 1), (.int 0), (.ref b10), (.int 0), (.ref a1)] (fun _ k => st10 _ (tN X10 hx (dk d6_3) rfl rfl rfl (.inl rfl) (aN X10 hx (dk d6_4) rfl rfl (lN X10 hx (dk d6_5) rfl (aN X10 hx (dk d6_6) rfl rfl (kC X10 hx (dk d6_7) (lN X10 hx (dk d6_8) rfl k))))))) ?_
  refine goS X10 hx hZ hown (W 27 rfl) (m3 hw) 5 1 1 (rm_cmp5_1 hw a1 b10 ka k10 c0 h10 n0 Z11 O11 (pr4.ext E10) V10 (Nat.le_trans Z0 sz_b10) (Nat.ne_of_lt (Nat.lt_of_lt_of_le pr4.lt sz_b10))) N0 e10 pd_3 hml (dk d6_9) ?_
  rintro _ T12 L12 X12 N12 ⟨r12, rfl, K12, p12_0, p12_1⟩
  have O13 := O11.keep K12 (allS (Nat.le_trans Z0 sz_b10) all0)
  have Z13 : n0 ≤ T12.heap.size := Nat.le_trans Z11 K12.1
  rcases p12_1 with ⟨rfl, e14⟩ | ⟨rfl, e15⟩
  · skip
    have V16 := p12_0 rfl
    refine gz X12 58 #[vr a1, vi 0, vi 1, vr b10, vi 1, .unset] [(.ref b10)] (fun _ k => sI X12 hx (dk d6_12) rfl rfl (.inl rfl) (lI X12 hx (dk d6_14) rfl (lN X12 hx (dk d6_16) rfl (cY X12 hx 17 57 rfl (dk d6_17) rfl (teq (by decide)).1 (aN X12 hx (dk d6_57) rfl rfl k))))) ?_
    refine Go.retA X12 hx hlk (t := (.array .byte)) hret (dk d6_58) ?_
    exact ⟨N12, b10, k10, false, rfl, (((Keep.refl h0 []).ext E10).trans K12 (allS (Or.inr (Nat.le_trans (Nat.le_refl _) sz_b10)) all0)), (Nat.le_trans (Nat.le_refl _) sz_b10), (fun _ => e14), (fun _ => V16), (fun q => nomatch q)⟩
  · skip
    refine gz X12 23 #[vr a1, vi 0, vi 1, vr b10, vi 0, .unset] [(.int 1), (.int 0), (.ref a1)] (fun _ k => sI X12 hx (dk d6_12) rfl rfl (.inl rfl) (lI X12 hx (dk d6_14) rfl (lN X12 hx (dk d6_16) rfl (cN X12 hx (dk d6_17) rfl (feq (by decide)).1 (aN X12 hx (dk d6_20) rfl rfl (lN X12 hx (dk d6_21) rfl (lN X12 hx (dk d6_22) rfl k))))))) ?_
    have f17 := ((pr4.ext E10).keep K12 (ninS (Nat.ne_of_lt (Nat.lt_of_lt_of_le pr4.lt sz_b10)) nin0))
    refine goS X12 hx hZ hown (W 114 rfl) (m4 hw) 3 2 3 (rm_tb_1 hw a1 ka c0 T12.heap n0 Z13 O13 pr1 pr2 pr3 f17) N12 rfl pd_4 hml (dk d6_23) ?_
    rintro _ T18 L18 X18 N18 ⟨b18, k18, rfl, K18, p18_0, p18_1⟩
    have O19 := O13.keep K18 all0
    have Z19 : n0 ≤ T18.heap.size := Nat.le_trans Z13 K18.1
    have sz_b18 : T12.heap.size ≤ b18 := p18_1
    refine gz X18 32 #[vr a1, vi 0, vi 1, vr b10, vi 0, vr b18] [(.int 0), (.ref b18)] (fun _ k => tI X18 hx (dk d6_26) rfl rfl rfl (.inl rfl) (aI X18 hx (dk d6_28) rfl rfl (lI X18 hx (dk d6_30) rfl k))) ?_
    refine goS X18 hx hZ hown (W 130 rfl) (m5 hw) 2 2 3 (rm_get_0 hw b18 k18 c0 (2 : Int32) [(.int (own_b0 c0)), (.int (own_b1 c0))] T18.heap n0 Z19 O19 pr1 pr2 pr3 p18_0 (by decide) (by decide) rfl rfl hr0) N18 rfl pd_5 hml (dk d6_32) ?_
    rintro _ T20 L20 X20 N20 ⟨rfl, hh20⟩
    refine gz X20 56 #[vr a1, vi 0, vi 1, vr b10, vi 0, vr b18] [(.ref b18)] (fun _ k => XS.sipush X20.here hx rfl (dk d6_35) (cY X20 hx 38 54 rfl (dk d6_38) rfl (tlt e15).2.2.1 (aI X20 hx (dk d6_54) rfl rfl k))) ?_
    refine Go.retA X20 hx hlk (t := (.array .byte)) hret (dk d6_56) ?_
    rw [hh20]
    exact ⟨N20, b18, k18, true, rfl, ((((Keep.refl h0 []).ext E10).trans K12 (allS (Or.inr (Nat.le_trans (Nat.le_refl _) sz_b10)) all0)).trans K18 all0), (Nat.le_trans (Nat.le_trans (Nat.le_trans (Nat.le_refl _) E10.1) K12.1) sz_b18), (fun q => nomatch q), (fun q => nomatch q), (fun _ => p18_0)⟩
theorem d4_0 : DK B4 0 (.aload_n 0) 1 := by decide +kernel
theorem d4_1 : DK B4 1 (.invokespecial 1) 3 := by decide +kernel
theorem d4_4 : DK B4 4 (.iload_n 3) 1 := by decide +kernel
theorem d4_5 : DK B4 5 (.ifCond .ne 22) 3 := by decide +kernel
theorem d4_27 : DK B4 27 (.getstatic 38) 3 := by decide +kernel
theorem d4_30 : DK B4 30 (.ifCond .eq 28) 3 := by decide +kernel
theorem d4_33 : DK B4 33 (.aload_n 1) 1 := by decide +kernel
theorem d4_34 : DK B4 34 (.iload_n 2) 1 := by decide +kernel
theorem d4_35 : DK B4 35 (.iload_n 3) 1 := by decide +kernel
theorem d4_36 : DK B4 36 (.invokestatic 177) 3 := by decide +kernel
theorem m6 {Z : State} {a0 : Array Value} (hw : HW a0 Z) : (Jvm.Cond.static Y33).before a0 Z = true ∧ (Jvm.Cond.initialized "java/lang/StringUTF16").before a0 Z = true ∧ (Jvm.Cond.code Y33 B20 (6 : Nat) (Option.some (Jvm.ClassFile.FieldType.array Jvm.ClassFile.FieldType.byte))).before a0 Z = true := ⟨(wd hw 23 rfl), (wd hw 24 rfl), (wd hw 25 rfl)⟩
theorem d4_39 : DK B4 39 (.astore 5) 2 := by decide +kernel
theorem d4_41 : DK B4 41 (.aload_n 0) 1 := by decide +kernel
theorem d4_42 : DK B4 42 (.aload 5) 2 := by decide +kernel
theorem d4_44 : DK B4 44 (.iload_n 3) 1 := by decide +kernel
theorem d4_45 : DK B4 45 (.invokestatic 47) 3 := by decide +kernel
theorem pd_6 : parseMethodDescriptor "([BI)B" = some ⟨[(.array .byte), .int], some .byte⟩ := by decide +kernel
theorem m7 {Z : State} {a0 : Array Value} (hw : HW a0 Z) : (Jvm.Cond.static Y30).before a0 Z = true ∧ (Jvm.Cond.initialized "java/lang/StringUTF16").before a0 Z = true ∧ (Jvm.Cond.code Y30 B19 (2 : Nat) (Option.some Jvm.ClassFile.FieldType.byte)).before a0 Z = true := ⟨(wd hw 31 rfl), (wd hw 24 rfl), (wd hw 32 rfl)⟩
theorem d4_48 : DK B4 48 (.putfield 15) 3 := by decide +kernel
theorem d4_51 : DK B4 51 (.aload_n 0) 1 := by decide +kernel
theorem d4_52 : DK B4 52 (.aload 5) 2 := by decide +kernel
theorem d4_54 : DK B4 54 (.putfield 9) 3 := by decide +kernel
theorem d4_57 : DK B4 57 .return_ 1 := by decide +kernel
theorem pn6 : plainName "java/lang/String" = true := by first | (simp [plainName, overriddenIn]; done) | decide +kernel
theorem rm_sV_1 {l : Launch} {Z : State} {a0 : Array Value} (hw : HW a0 Z) (a1 : Addr) (v1 : Addr) (ka : ClassId) (c0 : Int32) (cs : Int32) (h0 : Heap) (n0 : Nat) (Z0 : n0 ≤ h0.size) (pr0 : Old Z n0 h0) (pr1 : S3 Z cs) (hcs : ¬ (cs = (0 : Int32))) (pr3 : S0 Z) (pr4 : S1 Z) (pr5 : S2 Z) (pr6 : XT Z h0 a1) (pr7 : Fld Z h0 a1 "java/lang/String" "value" "[B" .null) (pr8 : FC Z h0 a1 0) (pr9 : n0 ≤ a1) (pr10 : Arv Z h0 v1 ka .char (1 : Int32) [(.int c0)] (.int 0)) (hr0 : own_rng c0) :
    Met l Z Y13 B4 6 none [] ({ frames := 4, cells := 2, slots := 3, locals := 57 } : Room) #[(.ref a1), (.ref v1), (.int 0), (.int 1), .null] h0 (fun vv h L => Fr n0 L ∧ ∃ t : Addr, ∃ k : ClassId, ∃ u : Bool, vv = none ∧ Keep h0 h [a1] ∧ XT Z h a1 ∧ FV Z h a1 t ∧ h0.size ≤ t ∧ (u = false → ¬ (255 : Int32) < c0) ∧ (u = false → Arv Z h t k .byte (1 : Int32) [(.int (nar .byte (c0.toInt8.toInt32)))] (.int 0)) ∧ (u = true → Arv Z h t k .byte (2 : Int32) [(.int (own_b0 c0)), (.int (own_b1 c0))] (.int 0)) ∧ (u = false → FC Z h a1 0) ∧ (u = true → FC Z h a1 1)) := by
  refine Met.enter (f0 := fun m => mkF m 0 #[vr a1, vr v1, vi 0, vi 1, .val .null, .unset] []) (plainFor_of_name pn6) (fun m => oe m 1) ?_
  intro p e s m below meth c s₁ hx hby hml hown hnm hret hlk hZ X0 e0
  have dk : Dk B4 c := fun h => hb hby h
  have W := @wd _ _ _ hw
  have N0 := Fr.nil n0
  refine gz X0 1 #[vr a1, vr v1, vi 0, vi 1, .val .null, .unset] [(.ref a1)] (fun _ k => aN X0 hx (dk d4_0) rfl rfl k) ?_
  obtain ⟨T10, X10, e10, st10⟩ := initO X0 hx hZ hown (W 18 rfl) (W 19 rfl) (W 20 rfl) e0 (g := (mkF m 1 #[vr a1, vr v1, vi 0, vi 1, .val .null, .unset] [(.ref a1)])) rfl (by rw [hml]; rfl) rfl (dk d4_1) (by decide) (W := 0) (by show 2 * 0 + _ ≤ _; exact Nat.le_of_eq rfl) (by decide)
  refine gz X10 27 #[vr a1, vr v1, vi 0, vi 1, .val .null, .unset] [] (fun _ k => st10 _ (lN X10 hx (dk d4_4) rfl (fY X10 hx 5 27 rfl (dk d4_5) rfl ((if0 _ _).trans (feq (by decide)).2) k))) ?_
  obtain ⟨T11, X11, e11, st11⟩ := getS2 X10 hx hZ hown (host := "") (Or.inl (W 21 rfl)) Via.refl e10 (pr1.ext pr0.2) (g := (mkF m 27 #[vr a1, vr v1, vi 0, vi 1, .val .null, .unset] [])) rfl (dk d4_27)
  refine gz X11 36 #[vr a1, vr v1, vi 0, vi 1, .val .null, .unset] [(.int 1), (.int 0), (.ref v1)] (fun _ k => st11 _ (fN X11 hx (dk d4_30) rfl ((if0 _ _).trans (feq hcs).1) (aN X11 hx (dk d4_33) rfl rfl (lN X11 hx (dk d4_34) rfl (lN X11 hx (dk d4_35) rfl k))))) ?_
  refine goS X11 hx hZ hown (W 22 rfl) (m6 hw) 3 2 3 (rm_cmp3_1 hw v1 ka c0 h0 n0 Z0 pr0 pr3 pr4 pr5 pr10 hr0) N0 e11 pd_4 hml (dk d4_36) ?_
  rintro _ T12 L12 X12 N12 ⟨b12, k12, u12, rfl, K12, p12_0, p12_1, p12_2, p12_3⟩
  have O13 := pr0.keep K12 all0
  have Z13 : n0 ≤ T12.heap.size := Nat.le_trans Z0 K12.1
  have sz_b12 : h0.size ≤ b12 := p12_0
  rcases u12 with _ | _
  · skip
    have V14 := p12_2 rfl
    refine gz X12 45 #[vr a1, vr v1, vi 0, vi 1, .val .null, vr b12] [(.int 1), (.ref b12), (.ref a1)] (fun _ k => tI X12 hx (dk d4_39) rfl rfl rfl (.inl rfl) (aN X12 hx (dk d4_41) rfl rfl (aI X12 hx (dk d4_42) rfl rfl (lN X12 hx (dk d4_44) rfl k)))) ?_
    refine goS X12 hx hZ hown (W 30 rfl) (m7 hw) 2 2 3 (rm_cfal_1_0 hw b12 k12 c0 T12.heap n0 Z13 V14) N12 rfl pd_6 hml (dk d4_45) ?_
    rintro _ T15 L15 X15 N15 ⟨rfl, hh15⟩
    obtain ⟨T16, h16, X16, e16, W16, st16⟩ := putFN X15 hx hZ hown (W 33 rfl) Via.refl hh15 (pr8.keep K12 nin0) (pr6.keep K12) (Or.inr ⟨(W 34 rfl), rfl, hnm⟩) (W 9 rfl) (ty := .byte) (v' := (.int 0)) (by decide) rfl rfl (g := (mkF m 48 #[vr a1, vr v1, vi 0, vi 1, .val .null, vr b12] [(.int 0), (.ref a1)])) rfl rfl (dk d4_48)
    have N16 := Fr.snoc X16 N15 pr9
    have O17 := O13.wr W16 pr9
    have Z17 : n0 ≤ h16.size := Nat.le_trans Z13 (Keep.of_wr W16).1
    have F16 := (pr8.keep K12 nin0).same W16
    refine gz X16 54 #[vr a1, vr v1, vi 0, vi 1, .val .null, vr b12] [(.ref b12), (.ref a1)] (fun _ k => st16 _ (aN X16 hx (dk d4_51) rfl rfl (aI X16 hx (dk d4_52) rfl rfl k))) ?_
    have f18 := ((pr7.keep K12 nin0).other W16 (Or.inr (slot_ne (Or.inr (W 36 rfl)) (Or.inr (W 34 rfl)) (by decide) (t := (.array .byte)) (t' := .byte) (by decide) (by decide))))
    obtain ⟨T19, h19, X19, e19, W19, st19⟩ := putF X16 hx hZ hown (host := "") (Or.inl (W 35 rfl)) Via.refl e16 f18 ((pr6.keep K12).wr W16) (Or.inr ⟨(W 36 rfl), rfl, hnm⟩) (W 9 rfl) (ty := (.array .byte)) (by decide) rfl rfl (g := (mkF m 54 #[vr a1, vr v1, vi 0, vi 1, .val .null, vr b12] [(.ref b12), (.ref a1)])) rfl rfl (dk d4_54)
    have N19 := Fr.snoc X19 N16 pr9
    have O20 := O17.wr W19 pr9
    have Z20 : n0 ≤ h19.size := Nat.le_trans Z17 (Keep.of_wr W19).1
    have F19 := f18.same W19
    refine gz X19 57 #[vr a1, vr v1, vi 0, vi 1, .val .null, vr b12] [] (fun _ k => st19 _ k) ?_
    refine Go.retV X19 hx hlk hret (dk d4_57) (by decide) (by decide) ?_
    rw [e19]
    exact ⟨N19, b12, k12, false, rfl, ((((Keep.refl h0 [a1]).trans K12 all0).wr W16 (Or.inl (List.mem_of_getElem? (i := 0) rfl))).wr W19 (Or.inl (List.mem_of_getElem? (i := 0) rfl))), (((pr6.keep K12).wr W16).wr W19), F19, (Nat.le_trans (Nat.le_refl _) sz_b12), p12_1, (fun _ => ((V14.other W16 (Ne.symm (Nat.ne_of_lt (Nat.lt_of_lt_of_le pr6.lt sz_b12)))).other W19 (Ne.symm (Nat.ne_of_lt (Nat.lt_of_lt_of_le pr6.lt sz_b12))))), (fun q => nomatch q), (fun _ => (F16.other W19 (Or.inr (slot_ne (Or.inr (W 34 rfl)) (Or.inr (W 36 rfl)) (by decide) (t := .byte) (t' := (.array .byte)) (by decide) (by decide))))), (fun q => nomatch q)⟩
  · skip
    have V21 := p12_3 rfl
    refine gz X12 45 #[vr a1, vr v1, vi 0, vi 1, .val .null, vr b12] [(.int 1), (.ref b12), (.ref a1)] (fun _ k => tI X12 hx (dk d4_39) rfl rfl rfl (.inl rfl) (aN X12 hx (dk d4_41) rfl rfl (aI X12 hx (dk d4_42) rfl rfl (lN X12 hx (dk d4_44) rfl k)))) ?_
    refine goS X12 hx hZ hown (W 30 rfl) (m7 hw) 2 2 3 (rm_cfal_1_1 hw b12 k12 c0 T12.heap n0 Z13 V21) N12 rfl pd_6 hml (dk d4_45) ?_
    rintro _ T22 L22 X22 N22 ⟨rfl, hh22⟩
    obtain ⟨T23, h23, X23, e23, W23, st23⟩ := putFN X22 hx hZ hown (W 33 rfl) Via.refl hh22 (pr8.keep K12 nin0) (pr6.keep K12) (Or.inr ⟨(W 34 rfl), rfl, hnm⟩) (W 9 rfl) (ty := .byte) (v' := (.int 1)) (by decide) rfl rfl (g := (mkF m 48 #[vr a1, vr v1, vi 0, vi 1, .val .null, vr b12] [(.int 1), (.ref a1)])) rfl rfl (dk d4_48)
    have N23 := Fr.snoc X23 N22 pr9
    have O24 := O13.wr W23 pr9
    have Z24 : n0 ≤ h23.size := Nat.le_trans Z13 (Keep.of_wr W23).1
    have F23 := (pr8.keep K12 nin0).same W23
    refine gz X23 54 #[vr a1, vr v1, vi 0, vi 1, .val .null, vr b12] [(.ref b12), (.ref a1)] (fun _ k => st23 _ (aN X23 hx (dk d4_51) rfl rfl (aI X23 hx (dk d4_52) rfl rfl k))) ?_
    have f25 := ((pr7.keep K12 nin0).other W23 (Or.inr (slot_ne (Or.inr (W 36 rfl)) (Or.inr (W 34 rfl)) (by decide) (t := (.array .byte)) (t' := .byte) (by decide) (by decide))))
    obtain ⟨T26, h26, X26, e26, W26, st26⟩ := putF X23 hx hZ hown (host := "") (Or.inl (W 35 rfl)) Via.refl e23 f25 ((pr6.keep K12).wr W23) (Or.inr ⟨(W 36 rfl), rfl, hnm⟩) (W 9 rfl) (ty := (.array .byte)) (by decide) rfl rfl (g := (mkF m 54 #[vr a1, vr v1, vi 0, vi 1, .val .null, vr b12] [(.ref b12), (.ref a1)])) rfl rfl (dk d4_54)
    have N26 := Fr.snoc X26 N23 pr9
    have O27 := O24.wr W26 pr9
    have Z27 : n0 ≤ h26.size := Nat.le_trans Z24 (Keep.of_wr W26).1
    have F26 := f25.same W26
    refine gz X26 57 #[vr a1, vr v1, vi 0, vi 1, .val .null, vr b12] [] (fun _ k => st26 _ k) ?_
    refine Go.retV X26 hx hlk hret (dk d4_57) (by decide) (by decide) ?_
    rw [e26]
    exact ⟨N26, b12, k12, true, rfl, ((((Keep.refl h0 [a1]).trans K12 all0).wr W23 (Or.inl (List.mem_of_getElem? (i := 0) rfl))).wr W26 (Or.inl (List.mem_of_getElem? (i := 0) rfl))), (((pr6.keep K12).wr W23).wr W26), F26, (Nat.le_trans (Nat.le_refl _) sz_b12), (fun q => nomatch q), (fun q => nomatch q), (fun _ => ((V21.other W23 (Ne.symm (Nat.ne_of_lt (Nat.lt_of_lt_of_le pr6.lt sz_b12)))).other W26 (Ne.symm (Nat.ne_of_lt (Nat.lt_of_lt_of_le pr6.lt sz_b12))))), (fun q => nomatch q), (fun _ => (F23.other W26 (Or.inr (slot_ne (Or.inr (W 34 rfl)) (Or.inr (W 36 rfl)) (by decide) (t := .byte) (t' := (.array .byte)) (by decide) (by decide)))))⟩
theorem d3_0 : DK B11 0 (.aload_n 0) 1 := by decide +kernel
theorem d3_1 : DK B11 1 (.aload_n 1) 1 := by decide +kernel
theorem d3_2 : DK B11 2 (.iconst 0) 1 := by decide +kernel
theorem d3_3 : DK B11 3 (.aload_n 1) 1 := by decide +kernel
theorem d3_4 : DK B11 4 .arraylength 1 := by decide +kernel
theorem d3_5 : DK B11 5 .aconst_null 1 := by decide +kernel
theorem d3_6 : DK B11 6 (.invokespecial 27) 3 := by decide +kernel
theorem pd_7 : parseMethodDescriptor "([CIILjava/lang/Void;)V" = some ⟨[(.array .char), .int, .int, (.object "java/lang/Void")], none⟩ := by decide +kernel
theorem m8 {Z : State} {a0 : Array Value} (hw : HW a0 Z) : (Jvm.Cond.instanceMethod Y13).before a0 Z = true ∧ (Jvm.Cond.initialized "java/lang/String").before a0 Z = true ∧ (Jvm.Cond.code Y13 B4 (6 : Nat) (Option.none : Option Jvm.ClassFile.FieldType)).before a0 Z = true := ⟨(wd hw 15 rfl), (wd hw 10 rfl), (wd hw 17 rfl)⟩
theorem d3_9 : DK B11 9 .return_ 1 := by decide +kernel
theorem rm_sC_1 {l : Launch} {Z : State} {a0 : Array Value} (hw : HW a0 Z) (a1 : Addr) (v1 : Addr) (ka : ClassId) (c0 : Int32) (cs : Int32) (h0 : Heap) (n0 : Nat) (Z0 : n0 ≤ h0.size) (pr0 : Old Z n0 h0) (pr1 : S3 Z cs) (hcs : ¬ (cs = (0 : Int32))) (pr3 : S0 Z) (pr4 : S1 Z) (pr5 : S2 Z) (pr6 : XT Z h0 a1) (pr7 : Fld Z h0 a1 "java/lang/String" "value" "[B" .null) (pr8 : FC Z h0 a1 0) (pr9 : n0 ≤ a1) (pr10 : Arv Z h0 v1 ka .char (1 : Int32) [(.int c0)] (.int 0)) (hr0 : own_rng c0) :
    Met l Z Y12 B11 2 none [] ({ frames := 5, cells := 2, slots := 3, locals := 74 } : Room) #[(.ref a1), (.ref v1)] h0 (fun vv h L => Fr n0 L ∧ ∃ t : Addr, ∃ k : ClassId, ∃ u : Bool, vv = none ∧ Keep h0 h [a1] ∧ XT Z h a1 ∧ FV Z h a1 t ∧ h0.size ≤ t ∧ (u = false → ¬ (255 : Int32) < c0) ∧ (u = false → Arv Z h t k .byte (1 : Int32) [(.int (nar .byte (c0.toInt8.toInt32)))] (.int 0)) ∧ (u = true → Arv Z h t k .byte (2 : Int32) [(.int (own_b0 c0)), (.int (own_b1 c0))] (.int 0)) ∧ (u = false → FC Z h a1 0) ∧ (u = true → FC Z h a1 1)) := by
  refine Met.enter (f0 := fun m => mkF m 0 #[vr a1, vr v1] []) (plainFor_of_name pn6) (fun m => oe m 0) ?_
  intro p e s m below meth c s₁ hx hby hml hown hnm hret hlk hZ X0 e0
  have dk : Dk B11 c := fun h => hb hby h
  have W := @wd _ _ _ hw
  have N0 := Fr.nil n0
  refine gz X0 4 #[vr a1, vr v1] [(.ref v1), (.int 0), (.ref v1), (.ref a1)] (fun _ k => aN X0 hx (dk d3_0) rfl rfl (aN X0 hx (dk d3_1) rfl rfl (kC X0 hx (dk d3_2) (aN X0 hx (dk d3_3) rfl rfl k)))) ?_
  obtain ⟨cl10, Ar10, q10, S10, N_10, Hs10, G10⟩ := id pr10
  refine gz X0 5 #[vr a1, vr v1] [(.int 1), (.int 0), (.ref v1), (.ref a1)] (fun _ k => X0.arraylength hx (by rw [e0]; exact Ar10.1) (State.isArrayOf_alike hZ.alike Ar10.2.1) (g := (mkF m 4 #[vr a1, vr v1] [(.ref v1), (.int 0), (.ref v1), (.ref a1)])) rfl rfl (dk d3_4) _ (by rw [len_of S10 N_10]; exact k)) ?_
  refine gz X0 6 #[vr a1, vr v1] [.null, (.int 1), (.int 0), (.ref v1), (.ref a1)] (fun _ k => XS.aconstNull X0.here hx rfl (dk d3_5) k) ?_
  refine goI X0 hx hZ hown (W 14 rfl) (m8 hw) 4 2 3 (rm_sV_1 hw a1 v1 ka c0 cs h0 n0 Z0 pr0 pr1 hcs pr3 pr4 pr5 pr6 pr7 pr8 pr9 pr10 hr0) N0 e0 pd_7 hml (dk d3_6) ?_
  rintro _ T11 L11 X11 N11 ⟨t11, k11, u11, rfl, K11, p11_0, p11_1, p11_2, p11_3, p11_4, p11_5, p11_6, p11_7⟩
  have O12 := pr0.keep K11 (allS pr9 all0)
  have Z12 : n0 ≤ T11.heap.size := Nat.le_trans Z0 K11.1
  have sz_t11 : h0.size ≤ t11 := p11_2
  refine gz X11 9 #[vr a1, vr v1] [] (fun _ k => k) ?_
  refine Go.retV X11 hx hlk hret (dk d3_9) (by decide) (by decide) ?_
  exact ⟨N11, t11, k11, u11, rfl, ((Keep.refl h0 [a1]).trans K11 (allS (Or.inl (List.mem_of_getElem? (i := 0) rfl)) all0)), p11_0, p11_1, (Nat.le_trans (Nat.le_refl _) sz_t11), p11_3, p11_4, p11_5, p11_6, p11_7⟩
theorem rm_nbl_2 {l : Launch} {Z : State} {a0 : Array Value} (hw : HW a0 Z)  (h0 : Heap) (n0 : Nat) (Z0 : n0 ≤ h0.size) :
    Met l Z Y38 B25 1 (some .int) [] ({ frames := 0, cells := 0, slots := 0, locals := 0 } : Room) #[(.int 2)] h0 (fun vv h L => Fr n0 L ∧ vv = some (.int 4) ∧ h = h0) := by
  refine Met.enter (f0 := fun m => mkF m 0 #[vi 2] []) (plainFor_of_name pn4) (fun m => oe m 0) ?_
  intro p e s m below meth c s₁ hx hby hml hown hnm hret hlk hZ X0 e0
  have dk : Dk B25 c := fun h => hb hby h
  have W := @wd _ _ _ hw
  have N0 := Fr.nil n0
  refine gz X0 58 #[vi 2] [(.int 4)] (fun _ k => lN X0 hx (dk d28_0) rfl (fY X0 hx 1 12 rfl (dk d28_1) rfl ((if0 _ _).trans (flt (by decide)).2.1) (lN X0 hx (dk d28_12) rfl (X0.ldcInt hx hown (mvT hZ (W 123 rfl)) (g := (mkF m 13 #[vi 2] [(.int 2)])) rfl (dk d28_13) _ (cY X0 hx 15 55 rfl (dk d28_15) rfl (tlt (by decide)).1 (lN X0 hx (dk d28_55) rfl (kC X0 hx (dk d28_56) (XS.ishl X0.here hx rfl (dk d28_57) rfl k)))))))) ?_
  refine Go.retJ X0 hx hlk (t := .int) hret (dk d28_58) ?_
  rw [e0]
  exact ⟨N0, rfl, rfl⟩
theorem rm_nbf_2 {l : Launch} {Z : State} {a0 : Array Value} (hw : HW a0 Z)  (h0 : Heap) (n0 : Nat) (Z0 : n0 ≤ h0.size) (pr0 : Old Z n0 h0) :
    Met l Z Y37 B24 1 (some (.array .byte)) [] ({ frames := 1, cells := 1, slots := 4, locals := 12 } : Room) #[(.int 2)] h0 (fun vv h L => Fr n0 L ∧ ∃ b : Addr, ∃ k : ClassId, vv = some (.ref b) ∧ Keep h0 h [] ∧ Arv Z h b k .byte (4 : Int32) [(.int 0), (.int 0), (.int 0), (.int 0)] (.int 0) ∧ h0.size ≤ b) := by
  refine Met.enter (f0 := fun m => mkF m 0 #[vi 2] []) (plainFor_of_name pn4) (fun m => oe m 0) ?_
  intro p e s m below meth c s₁ hx hby hml hown hnm hret hlk hZ X0 e0
  have dk : Dk B24 c := fun h => hb hby h
  have W := @wd _ _ _ hw
  have N0 := Fr.nil n0
  refine gz X0 1 #[vi 2] [(.int 2)] (fun _ k => lN X0 hx (dk d27_0) rfl k) ?_
  refine goS X0 hx hZ hown (W 120 rfl) (m0 hw) 1 0 0 (rm_nbl_2 hw  h0 n0 Z0 ) N0 e0 pd_0 hml (dk d27_1) ?_
  rintro _ T10 L10 X10 N10 ⟨rfl, hh10⟩
  obtain ⟨T11, h11, k11, X11, e11, E11, A11, st11⟩ := newP X10 hx hZ (W 26 rfl) hh10 (g := (mkF m 4 #[vi 2] [(.int 4)])) rfl (dk d27_4) rfl (by decide) (cap := 4) (by decide) (by decide) (by decide) (by decide)
  obtain ⟨b11, g11⟩ : ∃ z, z = h0.size := ⟨_, rfl⟩
  rw [← g11] at A11 st11
  have sz_b11 : h0.size ≤ b11 := Nat.le_of_eq g11.symm
  have V11 : Arv Z h11 b11 k11 .byte (4 : Int32) [(.int 0), (.int 0), (.int 0), (.int 0)] (.int 0) := (Arv.new A11 (by decide)).pad (pad_rep [] (.int 0) 4)
  have O12 := pr0.ext E11
  have Z12 : n0 ≤ h11.size := Nat.le_trans Z0 E11.1
  refine gz X11 6 #[vi 2] [(.ref b11)] (fun _ k => st11 _ k) ?_
  refine Go.retA X11 hx hlk (t := (.array .byte)) hret (dk d27_6) ?_
  rw [e11]
  exact ⟨N10, b11, k11, rfl, ((Keep.refl h0 []).ext E11), V11, (Nat.le_trans (Nat.le_refl _) sz_b11)⟩
theorem rm_tb_2 {l : Launch} {Z : State} {a0 : Array Value} (hw : HW a0 Z) (a1 : Addr) (ka : ClassId) (c0 : Int32) (c1 : Int32) (h0 : Heap) (n0 : Nat) (Z0 : n0 ≤ h0.size) (pr0 : Old Z n0 h0) (pr1 : S0 Z) (pr2 : S1 Z) (pr3 : S2 Z) (pr4 : Arv Z h0 a1 ka .char (2 : Int32) [(.int c0), (.int c1)] (.int 0)) :
    Met l Z Y41 B18 5 (some (.array .byte)) [] ({ frames := 2, cells := 1, slots := 4, locals := 24 } : Room) #[(.ref a1), (.int 0), (.int 2)] h0 (fun vv h L => Fr n0 L ∧ ∃ b : Addr, ∃ k : ClassId, vv = some (.ref b) ∧ Keep h0 h [] ∧ Arv Z h b k .byte (4 : Int32) [(.int (own_b0 c0)), (.int (own_b1 c0)), (.int (own_b0 c1)), (.int (own_b1 c1))] (.int 0) ∧ h0.size ≤ b) := by
  refine Met.enter (f0 := fun m => mkF m 0 #[vr a1, vi 0, vi 2, .unset, .unset] []) (plainFor_of_name pn4) (fun m => oe m 2) ?_
  intro p e s m below meth c s₁ hx hby hml hown hnm hret hlk hZ X0 e0
  have dk : Dk B18 c := fun h => hb hby h
  have W := @wd _ _ _ hw
  have N0 := Fr.nil n0
  refine gz X0 1 #[vr a1, vi 0, vi 2, .unset, .unset] [(.int 2)] (fun _ k => lN X0 hx (dk d26_0) rfl k) ?_
  refine goS X0 hx hZ hown (W 117 rfl) (m1 hw) 1 1 4 (rm_nbf_2 hw  h0 n0 Z0 pr0) N0 e0 pd_1 hml (dk d26_1) ?_
  rintro _ T10 L10 X10 N10 ⟨b10, k10, rfl, K10, p10_0, p10_1⟩
  have O11 := pr0.keep K10 all0
  have Z11 : n0 ≤ T10.heap.size := Nat.le_trans Z0 K10.1
  have sz_b10 : h0.size ≤ b10 := p10_1
  refine gz X10 19 #[vr a1, vi 0, vi 2, vr b10, vi 0] [(.int 0), (.ref a1), (.int 0), (.ref b10)] (fun _ k => tN X10 hx (dk d26_4) rfl rfl rfl (.inl rfl) (kC X10 hx (dk d26_5) (sI X10 hx (dk d26_6) rfl rfl (.inl rfl) (lI X10 hx (dk d26_8) rfl (lN X10 hx (dk d26_10) rfl (cN X10 hx (dk d26_11) rfl (tlt (by decide)).2.1 (aN X10 hx (dk d26_14) rfl rfl (lI X10 hx (dk d26_15) rfl (aN X10 hx (dk d26_17) rfl rfl (lN X10 hx (dk d26_18) rfl k)))))))))) ?_
  obtain ⟨cl12, Ar12, q12, S12, N_12, Hs12, G12⟩ := id (pr4.keep K10 nin0)
  have hin13 : ¬ ((0 : Int32) < 0 ∨ cl12.slots.size ≤ ((0 : Int32)).toNatClampNeg) := inb_of S12 ⟨by decide, by decide⟩
  have hat13 : cl12.slots[((0 : Int32)).toNatClampNeg]? = some (.int c0) := Hs12.at hin13 rfl
  refine gz X10 20 #[vr a1, vi 0, vi 2, vr b10, vi 0] [(.int c0), (.int 0), (.ref b10)] (fun _ k => X10.caload hx (j := (0 : Int32)) (v := (.int c0)) Ar12.1 (State.isArrayOf_alike hZ.alike Ar12.2.1) Ar12.2.2 hin13 hat13 (g := (mkF m 19 #[vr a1, vi 0, vi 2, vr b10, vi 0] [(.int 0), (.ref a1), (.int 0), (.ref b10)])) rfl rfl (dk d26_19) _ k) ?_
  refine goS X10 hx hZ hown (W 124 rfl) (m2 hw) 3 1 4 (rm_put_0 hw b10 k10 c0 (4 : Int32) [(.int 0), (.int 0), (.int 0), (.int 0)] T10.heap n0 Z11 O11 pr1 pr2 pr3 p10_0 (Nat.le_trans Z0 sz_b10) (by decide) (by decide) (Nat.le_of_ble_eq_true rfl) (Nat.le_of_ble_eq_true rfl)) N10 rfl pd_2 hml (dk d26_20) ?_
  rintro _ T14 L14 X14 N14 ⟨rfl, K14, p14_0⟩
  have O15 := O11.keep K14 (allS (Nat.le_trans Z0 sz_b10) all0)
  have Z15 : n0 ≤ T14.heap.size := Nat.le_trans Z11 K14.1
  have p14_0 : Arv Z T14.heap b10 k10 .byte (4 : Int32) [(.int (own_b0 c0)), (.int (own_b1 c0)), (.int 0), (.int 0)] (.int 0) := p14_0
  refine gz X14 19 #[vr a1, vi 1, vi 2, vr b10, vi 1] [(.int 1), (.ref a1), (.int 1), (.ref b10)] (fun _ k => XS.iinc X14.here hx rfl (dk d26_23) rfl (l' := #[vr a1, vi 1, vi 2, vr b10, vi 0]) rfl (XS.iinc X14.here hx rfl (dk d26_26) rfl (l' := #[vr a1, vi 1, vi 2, vr b10, vi 1]) rfl (gT X14 hx 29 8 rfl (dk d26_29) (lI X14 hx (dk d26_8) rfl (lN X14 hx (dk d26_10) rfl (cN X14 hx (dk d26_11) rfl (tlt (by decide)).2.1 (aN X14 hx (dk d26_14) rfl rfl (lI X14 hx (dk d26_15) rfl (aN X14 hx (dk d26_17) rfl rfl (lN X14 hx (dk d26_18) rfl k)))))))))) ?_
  have f17 := ((pr4.keep K10 nin0).keep K14 (ninS (Nat.ne_of_lt (Nat.lt_of_lt_of_le pr4.lt sz_b10)) nin0))
  obtain ⟨cl16, Ar16, q16, S16, N_16, Hs16, G16⟩ := id f17
  have hin18 : ¬ ((1 : Int32) < 0 ∨ cl16.slots.size ≤ ((1 : Int32)).toNatClampNeg) := inb_of S16 ⟨by decide, by decide⟩
  have hat18 : cl16.slots[((1 : Int32)).toNatClampNeg]? = some (.int c1) := Hs16.at hin18 rfl
  refine gz X14 20 #[vr a1, vi 1, vi 2, vr b10, vi 1] [(.int c1), (.int 1), (.ref b10)] (fun _ k => X14.caload hx (j := (1 : Int32)) (v := (.int c1)) Ar16.1 (State.isArrayOf_alike hZ.alike Ar16.2.1) Ar16.2.2 hin18 hat18 (g := (mkF m 19 #[vr a1, vi 1, vi 2, vr b10, vi 1] [(.int 1), (.ref a1), (.int 1), (.ref b10)])) rfl rfl (dk d26_19) _ k) ?_
  refine goS X14 hx hZ hown (W 124 rfl) (m2 hw) 3 1 4 (rm_put_1 hw b10 k10 c1 (4 : Int32) [(.int (own_b0 c0)), (.int (own_b1 c0)), (.int 0), (.int 0)] T14.heap n0 Z15 O15 pr1 pr2 pr3 p14_0 (Nat.le_trans Z0 sz_b10) (by decide) (by decide) (Nat.le_of_ble_eq_true rfl) (Nat.le_of_ble_eq_true rfl)) N14 rfl pd_2 hml (dk d26_20) ?_
  rintro _ T19 L19 X19 N19 ⟨rfl, K19, p19_0⟩
  have O20 := O15.keep K19 (allS (Nat.le_trans Z0 sz_b10) all0)
  have Z20 : n0 ≤ T19.heap.size := Nat.le_trans Z15 K19.1
  have p19_0 : Arv Z T19.heap b10 k10 .byte (4 : Int32) [(.int (own_b0 c0)), (.int (own_b1 c0)), (.int (own_b0 c1)), (.int (own_b1 c1))] (.int 0) := p19_0
  refine gz X19 33 #[vr a1, vi 2, vi 2, vr b10, vi 2] [(.ref b10)] (fun _ k => XS.iinc X19.here hx rfl (dk d26_23) rfl (l' := #[vr a1, vi 2, vi 2, vr b10, vi 1]) rfl (XS.iinc X19.here hx rfl (dk d26_26) rfl (l' := #[vr a1, vi 2, vi 2, vr b10, vi 2]) rfl (gT X19 hx 29 8 rfl (dk d26_29) (lI X19 hx (dk d26_8) rfl (lN X19 hx (dk d26_10) rfl (cY X19 hx 11 32 rfl (dk d26_11) rfl (flt (by decide)).2.1 (aN X19 hx (dk d26_32) rfl rfl k))))))) ?_
  refine Go.retA X19 hx hlk (t := (.array .byte)) hret (dk d26_33) ?_
  exact ⟨N19, b10, k10, rfl, ((((Keep.refl h0 []).trans K10 all0).trans K14 (allS (Or.inr (Nat.le_trans (Nat.le_refl _) sz_b10)) all0)).trans K19 (allS (Or.inr (Nat.le_trans (Nat.le_refl _) sz_b10)) all0)), p19_0, (Nat.le_trans (Nat.le_refl _) sz_b10)⟩
theorem rm_cfal_2_0 {l : Launch} {Z : State} {a0 : Array Value} (hw : HW a0 Z) (b1 : Addr) (kb : ClassId) (c0 : Int32) (c1 : Int32) (h0 : Heap) (n0 : Nat) (Z0 : n0 ≤ h0.size) (pr0 : Arv Z h0 b1 kb .byte (2 : Int32) [(.int (nar .byte (c0.toInt8.toInt32))), (.int (nar .byte (c1.toInt8.toInt32)))] (.int 0)) :
    Met l Z Y30 B19 2 (some .byte) [] ({ frames := 0, cells := 0, slots := 0, locals := 0 } : Room) #[(.ref b1), (.int 2)] h0 (fun vv h L => Fr n0 L ∧ vv = some (.int 0) ∧ h = h0) := by
  refine Met.enter (f0 := fun m => mkF m 0 #[vr b1, vi 2] []) (plainFor_of_name pn4) (fun m => oe m 0) ?_
  intro p e s m below meth c s₁ hx hby hml hown hnm hret hlk hZ X0 e0
  have dk : Dk B19 c := fun h => hb hby h
  have W := @wd _ _ _ hw
  have N0 := Fr.nil n0
  refine gz X0 2 #[vr b1, vi 2] [(.ref b1), (.int 2)] (fun _ k => lN X0 hx (dk d8_0) rfl (aN X0 hx (dk d8_1) rfl rfl k)) ?_
  obtain ⟨cl10, Ar10, q10, S10, N_10, Hs10, G10⟩ := id pr0
  refine gz X0 3 #[vr b1, vi 2] [(.int 2), (.int 2)] (fun _ k => X0.arraylength hx (by rw [e0]; exact Ar10.1) (State.isArrayOf_alike hZ.alike Ar10.2.1) (g := (mkF m 2 #[vr b1, vi 2] [(.ref b1), (.int 2)])) rfl rfl (dk d8_2) _ (by rw [len_of S10 N_10]; exact k)) ?_
  refine gz X0 8 #[vr b1, vi 2] [(.int 0)] (fun _ k => XS.isub X0.here hx rfl (dk d8_3) rfl (XS.bipush X0.here hx rfl (dk d8_4) (XS.iushr X0.here hx rfl (dk d8_6) rfl (XS.i2b X0.here hx rfl (dk d8_7) rfl k)))) ?_
  refine Go.retJ X0 hx hlk (t := .byte) hret (dk d8_8) ?_
  rw [e0]
  exact ⟨N0, rfl, rfl⟩
theorem rm_cfal_2_1 {l : Launch} {Z : State} {a0 : Array Value} (hw : HW a0 Z) (b1 : Addr) (kb : ClassId) (c0 : Int32) (c1 : Int32) (h0 : Heap) (n0 : Nat) (Z0 : n0 ≤ h0.size) (pr0 : Arv Z h0 b1 kb .byte (4 : Int32) [(.int (own_b0 c0)), (.int (own_b1 c0)), (.int (own_b0 c1)), (.int (own_b1 c1))] (.int 0)) :
    Met l Z Y30 B19 2 (some .byte) [] ({ frames := 0, cells := 0, slots := 0, locals := 0 } : Room) #[(.ref b1), (.int 2)] h0 (fun vv h L => Fr n0 L ∧ vv = some (.int 1) ∧ h = h0) := by
  refine Met.enter (f0 := fun m => mkF m 0 #[vr b1, vi 2] []) (plainFor_of_name pn4) (fun m => oe m 0) ?_
  intro p e s m below meth c s₁ hx hby hml hown hnm hret hlk hZ X0 e0
  have dk : Dk B19 c := fun h => hb hby h
  have W := @wd _ _ _ hw
  have N0 := Fr.nil n0
  refine gz X0 2 #[vr b1, vi 2] [(.ref b1), (.int 2)] (fun _ k => lN X0 hx (dk d8_0) rfl (aN X0 hx (dk d8_1) rfl rfl k)) ?_
  obtain ⟨cl10, Ar10, q10, S10, N_10, Hs10, G10⟩ := id pr0
  refine gz X0 3 #[vr b1, vi 2] [(.int 4), (.int 2)] (fun _ k => X0.arraylength hx (by rw [e0]; exact Ar10.1) (State.isArrayOf_alike hZ.alike Ar10.2.1) (g := (mkF m 2 #[vr b1, vi 2] [(.ref b1), (.int 2)])) rfl rfl (dk d8_2) _ (by rw [len_of S10 N_10]; exact k)) ?_
  refine gz X0 8 #[vr b1, vi 2] [(.int 1)] (fun _ k => XS.isub X0.here hx rfl (dk d8_3) rfl (XS.bipush X0.here hx rfl (dk d8_4) (XS.iushr X0.here hx rfl (dk d8_6) rfl (XS.i2b X0.here hx rfl (dk d8_7) rfl k)))) ?_
  refine Go.retJ X0 hx hlk (t := .byte) hret (dk d8_8) ?_
  rw [e0]
  exact ⟨N0, rfl, rfl⟩
theorem rm_cmp5_2 {l : Launch} {Z : State} {a0 : Array Value} (hw : HW a0 Z) (a1 : Addr) (b1 : Addr) (ka : ClassId) (kb : ClassId) (c0 : Int32) (c1 : Int32) (h0 : Heap) (n0 : Nat) (Z0 : n0 ≤ h0.size) (pr0 : Old Z n0 h0) (pr1 : Arv Z h0 a1 ka .char (2 : Int32) [(.int c0), (.int c1)] (.int 0)) (pr2 : Arv Z h0 b1 kb .byte (2 : Int32) [(.int 0), (.int 0)] (.int 0)) (pr3 : n0 ≤ b1) (pr4 : a1 ≠ b1) :
    Met l Z Y34 B22 7 (some .int) [] ({ frames := 0, cells := 0, slots := 0, locals := 0 } : Room) #[(.ref a1), (.int 0), (.ref b1), (.int 0), (.int 2)] h0 (fun vv h L => Fr n0 L ∧ ∃ r : Int32, vv = some (.int r) ∧ Keep h0 h [b1] ∧ (r = (2 : Int32) → Arv Z h b1 kb .byte (2 : Int32) [(.int (nar .byte (c0.toInt8.toInt32))), (.int (nar .byte (c1.toInt8.toInt32)))] (.int 0)) ∧ ((r = (2 : Int32) ∧ ¬ (255 : Int32) < c0 ∧ ¬ (255 : Int32) < c1) ∨ (r = (0 : Int32) ∧ (255 : Int32) < c0) ∨ (r = (1 : Int32) ∧ (255 : Int32) < c1))) := by
  refine Met.enter (f0 := fun m => mkF m 0 #[vr a1, vi 0, vr b1, vi 0, vi 2, .unset, .unset] []) (plainFor_of_name pn4) (fun m => oe m 2) ?_
  intro p e s m below meth c s₁ hx hby hml hown hnm hret hlk hZ X0 e0
  have dk : Dk B22 c := fun h => hb hby h
  have W := @wd _ _ _ hw
  have N0 := Fr.nil n0
  refine gz X0 12 #[vr a1, vi 0, vr b1, vi 0, vi 2, vi 0, .unset] [(.int 0), (.ref a1)] (fun _ k => kC X0 hx (dk d7_0) (sI X0 hx (dk d7_1) rfl rfl (.inl rfl) (lI X0 hx (dk d7_3) rfl (lI X0 hx (dk d7_5) rfl (cN X0 hx (dk d7_7) rfl (tlt (by decide)).2.1 (aN X0 hx (dk d7_10) rfl rfl (lN X0 hx (dk d7_11) rfl k))))))) ?_
  obtain ⟨cl10, Ar10, q10, S10, N_10, Hs10, G10⟩ := id pr1
  have hin11 : ¬ ((0 : Int32) < 0 ∨ cl10.slots.size ≤ ((0 : Int32)).toNatClampNeg) := inb_of S10 ⟨by decide, by decide⟩
  have hat11 : cl10.slots[((0 : Int32)).toNatClampNeg]? = some (.int c0) := Hs10.at hin11 rfl
  refine gz X0 13 #[vr a1, vi 0, vr b1, vi 0, vi 2, vi 0, .unset] [(.int c0)] (fun _ k => X0.caload hx (j := (0 : Int32)) (v := (.int c0)) (by rw [e0]; exact Ar10.1) (State.isArrayOf_alike hZ.alike Ar10.2.1) Ar10.2.2 hin11 hat11 (g := (mkF m 12 #[vr a1, vi 0, vr b1, vi 0, vi 2, vi 0, .unset] [(.int 0), (.ref a1)])) rfl rfl (dk d7_12) _ k) ?_
  refine gz X0 20 #[vr a1, vi 0, vr b1, vi 0, vi 2, vi 0, vi c0] [(.int 255), (.int c0)] (fun _ k => sI X0 hx (dk d7_13) rfl rfl (.inl rfl) (lI X0 hx (dk d7_15) rfl (XS.sipush X0.here hx rfl (dk d7_17) k))) ?_
  by_cases c12 : (255 : Int32) < c0
  · skip
    refine gz X0 25 #[vr a1, vi 0, vr b1, vi 0, vi 2, vi 0, vi c0] [(.int 0)] (fun _ k => cN X0 hx (dk d7_20) rfl (tlt c12).2.2.2 (lI X0 hx (dk d7_23) rfl k)) ?_
    refine Go.retJ X0 hx hlk (t := .int) hret (dk d7_25) ?_
    rw [e0]
    exact ⟨N0, (0 : Int32), rfl, (Keep.refl h0 [b1]), (fun q => absurd q (by decide)), (Or.inr (Or.inl ⟨rfl, c12⟩))⟩
  · skip
    refine gz X0 31 #[vr a1, vi 0, vr b1, vi 0, vi 2, vi 0, vi c0] [(.int (c0.toInt8.toInt32)), (.int 0), (.ref b1)] (fun _ k => cY X0 hx 20 26 rfl (dk d7_20) rfl (flt c12).2.2.2 (aN X0 hx (dk d7_26) rfl rfl (lN X0 hx (dk d7_27) rfl (lI X0 hx (dk d7_28) rfl (XS.i2b X0.here hx rfl (dk d7_30) rfl k))))) ?_
    obtain ⟨cl13, Ar13, q13, S13, N_13, Hs13, G13⟩ := id pr2
    have hin14 : ¬ ((0 : Int32) < 0 ∨ cl13.slots.size ≤ ((0 : Int32)).toNatClampNeg) := inb_of S13 ⟨by decide, by decide⟩
    obtain ⟨T14, h14, X14, e14, W14, st14⟩ := stB X0 hx hZ e0 Ar13 (j := (0 : Int32)) hin14 (g := (mkF m 31 #[vr a1, vi 0, vr b1, vi 0, vi 2, vi 0, vi c0] [(.int (c0.toInt8.toInt32)), (.int 0), (.ref b1)])) rfl rfl (dk d7_31)
    have O15 := pr0.wr W14 pr3
    have Z15 : n0 ≤ h14.size := Nat.le_trans Z0 (Keep.of_wr W14).1
    have V14 : Arv Z h14 b1 kb .byte (2 : Int32) [(.int (nar .byte (c0.toInt8.toInt32))), (.int 0)] (.int 0) := Arv.set Ar13 q13 S13 N_13 Hs13 G13 (fits_nar_byte _) W14 0 rfl (Nat.le_of_ble_eq_true rfl)
    have N14 := Fr.snoc X14 N0 pr3
    refine gz X14 12 #[vr a1, vi 1, vr b1, vi 1, vi 2, vi 1, vi c0] [(.int 1), (.ref a1)] (fun _ k => st14 _ (XS.iinc X14.here hx rfl (dk d7_32) rfl (l' := #[vr a1, vi 1, vr b1, vi 0, vi 2, vi 0, vi c0]) rfl (XS.iinc X14.here hx rfl (dk d7_35) rfl (l' := #[vr a1, vi 1, vr b1, vi 1, vi 2, vi 0, vi c0]) rfl (XS.iinc X14.here hx rfl (dk d7_38) rfl (l' := #[vr a1, vi 1, vr b1, vi 1, vi 2, vi 1, vi c0]) rfl (gT X14 hx 41 3 rfl (dk d7_41) (lI X14 hx (dk d7_3) rfl (lI X14 hx (dk d7_5) rfl (cN X14 hx (dk d7_7) rfl (tlt (by decide)).2.1 (aN X14 hx (dk d7_10) rfl rfl (lN X14 hx (dk d7_11) rfl k)))))))))) ?_
    obtain ⟨cl16, Ar16, q16, S16, N_16, Hs16, G16⟩ := id (pr1.other W14 pr4)
    have hin17 : ¬ ((1 : Int32) < 0 ∨ cl16.slots.size ≤ ((1 : Int32)).toNatClampNeg) := inb_of S16 ⟨by decide, by decide⟩
    have hat17 : cl16.slots[((1 : Int32)).toNatClampNeg]? = some (.int c1) := Hs16.at hin17 rfl
    refine gz X14 13 #[vr a1, vi 1, vr b1, vi 1, vi 2, vi 1, vi c0] [(.int c1)] (fun _ k => X14.caload hx (j := (1 : Int32)) (v := (.int c1)) (by rw [e14]; exact Ar16.1) (State.isArrayOf_alike hZ.alike Ar16.2.1) Ar16.2.2 hin17 hat17 (g := (mkF m 12 #[vr a1, vi 1, vr b1, vi 1, vi 2, vi 1, vi c0] [(.int 1), (.ref a1)])) rfl rfl (dk d7_12) _ k) ?_
    refine gz X14 20 #[vr a1, vi 1, vr b1, vi 1, vi 2, vi 1, vi c1] [(.int 255), (.int c1)] (fun _ k => sI X14 hx (dk d7_13) rfl rfl (.inr ⟨_, rfl, rfl⟩) (lI X14 hx (dk d7_15) rfl (XS.sipush X14.here hx rfl (dk d7_17) k))) ?_
    by_cases c18 : (255 : Int32) < c1
    · skip
      refine gz X14 25 #[vr a1, vi 1, vr b1, vi 1, vi 2, vi 1, vi c1] [(.int 1)] (fun _ k => cN X14 hx (dk d7_20) rfl (tlt c18).2.2.2 (lI X14 hx (dk d7_23) rfl k)) ?_
      refine Go.retJ X14 hx hlk (t := .int) hret (dk d7_25) ?_
      rw [e14]
      exact ⟨N14, (1 : Int32), rfl, ((Keep.refl h0 [b1]).wr W14 (Or.inl (List.mem_of_getElem? (i := 0) rfl))), (fun q => absurd q (by decide)), (Or.inr (Or.inr ⟨rfl, c18⟩))⟩
    · skip
      refine gz X14 31 #[vr a1, vi 1, vr b1, vi 1, vi 2, vi 1, vi c1] [(.int (c1.toInt8.toInt32)), (.int 1), (.ref b1)] (fun _ k => cY X14 hx 20 26 rfl (dk d7_20) rfl (flt c18).2.2.2 (aN X14 hx (dk d7_26) rfl rfl (lN X14 hx (dk d7_27) rfl (lI X14 hx (dk d7_28) rfl (XS.i2b X14.here hx rfl (dk d7_30) rfl k))))) ?_
      obtain ⟨cl19, Ar19, q19, S19, N_19, Hs19, G19⟩ := id V14
      have hin20 : ¬ ((1 : Int32) < 0 ∨ cl19.slots.size ≤ ((1 : Int32)).toNatClampNeg) := inb_of S19 ⟨by decide, by decide⟩
      obtain ⟨T20, h20, X20, e20, W20, st20⟩ := stB X14 hx hZ e14 Ar19 (j := (1 : Int32)) hin20 (g := (mkF m 31 #[vr a1, vi 1, vr b1, vi 1, vi 2, vi 1, vi c1] [(.int (c1.toInt8.toInt32)), (.int 1), (.ref b1)])) rfl rfl (dk d7_31)
      have O21 := O15.wr W20 pr3
      have Z21 : n0 ≤ h20.size := Nat.le_trans Z15 (Keep.of_wr W20).1
      have V20 : Arv Z h20 b1 kb .byte (2 : Int32) [(.int (nar .byte (c0.toInt8.toInt32))), (.int (nar .byte (c1.toInt8.toInt32)))] (.int 0) := Arv.set Ar19 q19 S19 N_19 Hs19 G19 (fits_nar_byte _) W20 1 rfl (Nat.le_of_ble_eq_true rfl)
      have N20 := Fr.snoc X20 N14 pr3
      refine gz X20 46 #[vr a1, vi 2, vr b1, vi 2, vi 2, vi 2, vi c1] [(.int 2)] (fun _ k => st20 _ (XS.iinc X20.here hx rfl (dk d7_32) rfl (l' := #[vr a1, vi 2, vr b1, vi 1, vi 2, vi 1, vi c1]) rfl (XS.iinc X20.here hx rfl (dk d7_35) rfl (l' := #[vr a1, vi 2, vr b1, vi 2, vi 2, vi 1, vi c1]) rfl (XS.iinc X20.here hx rfl (dk d7_38) rfl (l' := #[vr a1, vi 2, vr b1, vi 2, vi 2, vi 2, vi c1]) rfl (gT X20 hx 41 3 rfl (dk d7_41) (lI X20 hx (dk d7_3) rfl (lI X20 hx (dk d7_5) rfl (cY X20 hx 7 44 rfl (dk d7_7) rfl (flt (by decide)).2.1 (lI X20 hx (dk d7_44) rfl k))))))))) ?_
      refine Go.retJ X20 hx hlk (t := .int) hret (dk d7_46) ?_
      rw [e20]
      exact ⟨N20, (2 : Int32), rfl, (((Keep.refl h0 [b1]).wr W14 (Or.inl (List.mem_of_getElem? (i := 0) rfl))).wr W20 (Or.inl (List.mem_of_getElem? (i := 0) rfl))), (fun _ => V20), (Or.inl ⟨rfl, c12, c18⟩)⟩
theorem rm_cmp3_2 {l : Launch} {Z : State} {a0 : Array Value} (hw : HW a0 Z) (a1 : Addr) (ka : ClassId) (c0 : Int32) (c1 : Int32) (h0 : Heap) (n0 : Nat) (Z0 : n0 ≤ h0.size) (pr0 : Old Z n0 h0) (pr1 : S0 Z) (pr2 : S1 Z) (pr3 : S2 Z) (pr4 : Arv Z h0 a1 ka .char (2 : Int32) [(.int c0), (.int c1)] (.int 0)) (hr0 : own_rng c0) (hr1 : own_rng c1) :
    Met l Z Y33 B20 6 (some (.array .byte)) [] ({ frames := 3, cells := 2, slots := 6, locals := 40 } : Room) #[(.ref a1), (.int 0), (.int 2)] h0 (fun vv h L => Fr n0 L ∧ ∃ b : Addr, ∃ k : ClassId, ∃ u : Bool, vv = some (.ref b) ∧ Keep h0 h [] ∧ h0.size ≤ b ∧ (u = false → ¬ (255 : Int32) < c0 ∧ ¬ (255 : Int32) < c1) ∧ (u = false → Arv Z h b k .byte (2 : Int32) [(.int (nar .byte (c0.toInt8.toInt32))), (.int (nar .byte (c1.toInt8.toInt32)))] (.int 0)) ∧ (u = true → Arv Z h b k .byte (4 : Int32) [(.int (own_b0 c0)), (.int (own_b1 c0)), (.int (own_b0 c1)), (.int (own_b1 c1))] (.int 0))) := by
  refine Met.enter (f0 := fun m => mkF m 0 #[vr a1, vi 0, vi 2, .unset, .unset, .unset] []) (plainFor_of_name pn4) (fun m => oe m 3) ?_
  intro p e s m below meth c s₁ hx hby hml hown hnm hret hlk hZ X0 e0
  have dk : Dk B20 c := fun h => hb hby h
  have W := @wd _ _ _ hw
  have N0 := Fr.nil n0
  refine gz X0 1 #[vr a1, vi 0, vi 2, .unset, .unset, .unset] [(.int 2)] (fun _ k => lN X0 hx (dk d6_0) rfl k) ?_
  obtain ⟨T10, h10, k10, X10, e10, E10, A10, st10⟩ := newP X0 hx hZ (W 26 rfl) e0 (g := (mkF m 1 #[vr a1, vi 0, vi 2, .unset, .unset, .unset] [(.int 2)])) rfl (dk d6_1) rfl (by decide) (cap := 2) (by decide) (by decide) (by decide) (by decide)
  obtain ⟨b10, g10⟩ : ∃ z, z = h0.size := ⟨_, rfl⟩
  rw [← g10] at A10 st10
  have sz_b10 : h0.size ≤ b10 := Nat.le_of_eq g10.symm
  have V10 : Arv Z h10 b10 k10 .byte (2 : Int32) [(.int 0), (.int 0)] (.int 0) := (Arv.new A10 (by decide)).pad (pad_rep [] (.int 0) 2)
  have O11 := pr0.ext E10
  have Z11 : n0 ≤ h10.size := Nat.le_trans Z0 E10.1
  refine gz X10 9 #[vr a1, vi 0, vi 2, vr b10, .unset, .unset] [(.int 2), (.int 0), (.ref b10), (.int 0), (.ref a1)] (fun _ k => st10 _ (tN X10 hx (dk d6_3) rfl rfl rfl (.inl rfl) (aN X10 hx (dk d6_4) rfl rfl (lN X10 hx (dk d6_5) rfl (aN X10 hx (dk d6_6) rfl rfl (kC X10 hx (dk d6_7) (lN X10 hx (dk d6_8) rfl k))))))) ?_
  refine goS X10 hx hZ hown (W 27 rfl) (m3 hw) 5 1 2 (rm_cmp5_2 hw a1 b10 ka k10 c0 c1 h10 n0 Z11 O11 (pr4.ext E10) V10 (Nat.le_trans Z0 sz_b10) (Nat.ne_of_lt (Nat.lt_of_lt_of_le pr4.lt sz_b10))) N0 e10 pd_3 hml (dk d6_9) ?_
  rintro _ T12 L12 X12 N12 ⟨r12, rfl, K12, p12_0, p12_1⟩
  have O13 := O11.keep K12 (allS (Nat.le_trans Z0 sz_b10) all0)
  have Z13 : n0 ≤ T12.heap.size := Nat.le_trans Z11 K12.1
  rcases p12_1 with ⟨rfl, e14, e15⟩ | ⟨rfl, e16⟩ | ⟨rfl, e17⟩
  · skip
    have V18 := p12_0 rfl
    refine gz X12 58 #[vr a1, vi 0, vi 2, vr b10, vi 2, .unset] [(.ref b10)] (fun _ k => sI X12 hx (dk d6_12) rfl rfl (.inl rfl) (lI X12 hx (dk d6_14) rfl (lN X12 hx (dk d6_16) rfl (cY X12 hx 17 57 rfl (dk d6_17) rfl (teq (by decide)).1 (aN X12 hx (dk d6_57) rfl rfl k))))) ?_
    refine Go.retA X12 hx hlk (t := (.array .byte)) hret (dk d6_58) ?_
    exact ⟨N12, b10, k10, false, rfl, (((Keep.refl h0 []).ext E10).trans K12 (allS (Or.inr (Nat.le_trans (Nat.le_refl _) sz_b10)) all0)), (Nat.le_trans (Nat.le_refl _) sz_b10), (fun _ => ⟨e14, e15⟩), (fun _ => V18), (fun q => nomatch q)⟩
  · skip
    refine gz X12 23 #[vr a1, vi 0, vi 2, vr b10, vi 0, .unset] [(.int 2), (.int 0), (.ref a1)] (fun _ k => sI X12 hx (dk d6_12) rfl rfl (.inl rfl) (lI X12 hx (dk d6_14) rfl (lN X12 hx (dk d6_16) rfl (cN X12 hx (dk d6_17) rfl (feq (by decide)).1 (aN X12 hx (dk d6_20) rfl rfl (lN X12 hx (dk d6_21) rfl (lN X12 hx (dk d6_22) rfl k))))))) ?_
    have f19 := ((pr4.ext E10).keep K12 (ninS (Nat.ne_of_lt (Nat.lt_of_lt_of_le pr4.lt sz_b10)) nin0))
    refine goS X12 hx hZ hown (W 114 rfl) (m4 hw) 3 2 6 (rm_tb_2 hw a1 ka c0 c1 T12.heap n0 Z13 O13 pr1 pr2 pr3 f19) N12 rfl pd_4 hml (dk d6_23) ?_
    rintro _ T20 L20 X20 N20 ⟨b20, k20, rfl, K20, p20_0, p20_1⟩
    have O21 := O13.keep K20 all0
    have Z21 : n0 ≤ T20.heap.size := Nat.le_trans Z13 K20.1
    have sz_b20 : T12.heap.size ≤ b20 := p20_1
    refine gz X20 32 #[vr a1, vi 0, vi 2, vr b10, vi 0, vr b20] [(.int 0), (.ref b20)] (fun _ k => tI X20 hx (dk d6_26) rfl rfl rfl (.inl rfl) (aI X20 hx (dk d6_28) rfl rfl (lI X20 hx (dk d6_30) rfl k))) ?_
    refine goS X20 hx hZ hown (W 130 rfl) (m5 hw) 2 2 6 (rm_get_0 hw b20 k20 c0 (4 : Int32) [(.int (own_b0 c0)), (.int (own_b1 c0)), (.int (own_b0 c1)), (.int (own_b1 c1))] T20.heap n0 Z21 O21 pr1 pr2 pr3 p20_0 (by decide) (by decide) rfl rfl hr0) N20 rfl pd_5 hml (dk d6_32) ?_
    rintro _ T22 L22 X22 N22 ⟨rfl, hh22⟩
    refine gz X22 56 #[vr a1, vi 0, vi 2, vr b10, vi 0, vr b20] [(.ref b20)] (fun _ k => XS.sipush X22.here hx rfl (dk d6_35) (cY X22 hx 38 54 rfl (dk d6_38) rfl (tlt e16).2.2.1 (aI X22 hx (dk d6_54) rfl rfl k))) ?_
    refine Go.retA X22 hx hlk (t := (.array .byte)) hret (dk d6_56) ?_
    rw [hh22]
    exact ⟨N22, b20, k20, true, rfl, ((((Keep.refl h0 []).ext E10).trans K12 (allS (Or.inr (Nat.le_trans (Nat.le_refl _) sz_b10)) all0)).trans K20 all0), (Nat.le_trans (Nat.le_trans (Nat.le_trans (Nat.le_refl _) E10.1) K12.1) sz_b20), (fun q => nomatch q), (fun q => nomatch q), (fun _ => p20_0)⟩
  · skip
    refine gz X12 23 #[vr a1, vi 0, vi 2, vr b10, vi 1, .unset] [(.int 2), (.int 0), (.ref a1)] (fun _ k => sI X12 hx (dk d6_12) rfl rfl (.inl rfl) (lI X12 hx (dk d6_14) rfl (lN X12 hx (dk d6_16) rfl (cN X12 hx (dk d6_17) rfl (feq (by decide)).1 (aN X12 hx (dk d6_20) rfl rfl (lN X12 hx (dk d6_21) rfl (lN X12 hx (dk d6_22) rfl k))))))) ?_
    have f23 := ((pr4.ext E10).keep K12 (ninS (Nat.ne_of_lt (Nat.lt_of_lt_of_le pr4.lt sz_b10)) nin0))
    refine goS X12 hx hZ hown (W 114 rfl) (m4 hw) 3 2 6 (rm_tb_2 hw a1 ka c0 c1 T12.heap n0 Z13 O13 pr1 pr2 pr3 f23) N12 rfl pd_4 hml (dk d6_23) ?_
    rintro _ T24 L24 X24 N24 ⟨b24, k24, rfl, K24, p24_0, p24_1⟩
    have O25 := O13.keep K24 all0
    have Z25 : n0 ≤ T24.heap.size := Nat.le_trans Z13 K24.1
    have sz_b24 : T12.heap.size ≤ b24 := p24_1
    refine gz X24 32 #[vr a1, vi 0, vi 2, vr b10, vi 1, vr b24] [(.int 1), (.ref b24)] (fun _ k => tI X24 hx (dk d6_26) rfl rfl rfl (.inl rfl) (aI X24 hx (dk d6_28) rfl rfl (lI X24 hx (dk d6_30) rfl k))) ?_
    refine goS X24 hx hZ hown (W 130 rfl) (m5 hw) 2 2 6 (rm_get_1 hw b24 k24 c1 (4 : Int32) [(.int (own_b0 c0)), (.int (own_b1 c0)), (.int (own_b0 c1)), (.int (own_b1 c1))] T24.heap n0 Z25 O25 pr1 pr2 pr3 p24_0 (by decide) (by decide) rfl rfl hr1) N24 rfl pd_5 hml (dk d6_32) ?_
    rintro _ T26 L26 X26 N26 ⟨rfl, hh26⟩
    refine gz X26 56 #[vr a1, vi 0, vi 2, vr b10, vi 1, vr b24] [(.ref b24)] (fun _ k => XS.sipush X26.here hx rfl (dk d6_35) (cY X26 hx 38 54 rfl (dk d6_38) rfl (tlt e17).2.2.1 (aI X26 hx (dk d6_54) rfl rfl k))) ?_
    refine Go.retA X26 hx hlk (t := (.array .byte)) hret (dk d6_56) ?_
    rw [hh26]
    exact ⟨N26, b24, k24, true, rfl, ((((Keep.refl h0 []).ext E10).trans K12 (allS (Or.inr (Nat.le_trans (Nat.le_refl _) sz_b10)) all0)).trans K24 all0), (Nat.le_trans (Nat.le_trans (Nat.le_trans (Nat.le_refl _) E10.1) K12.1) sz_b24), (fun q => nomatch q), (fun q => nomatch q), (fun _ => p24_0)⟩
theorem rm_sV_2 {l : Launch} {Z : State} {a0 : Array Value} (hw : HW a0 Z) (a1 : Addr) (v1 : Addr) (ka : ClassId) (c0 : Int32) (c1 : Int32) (cs : Int32) (h0 : Heap) (n0 : Nat) (Z0 : n0 ≤ h0.size) (pr0 : Old Z n0 h0) (pr1 : S3 Z cs) (hcs : ¬ (cs = (0 : Int32))) (pr3 : S0 Z) (pr4 : S1 Z) (pr5 : S2 Z) (pr6 : XT Z h0 a1) (pr7 : Fld Z h0 a1 "java/lang/String" "value" "[B" .null) (pr8 : FC Z h0 a1 0) (pr9 : n0 ≤ a1) (pr10 : Arv Z h0 v1 ka .char (2 : Int32) [(.int c0), (.int c1)] (.int 0)) (hr0 : own_rng c0) (hr1 : own_rng c1) :
    Met l Z Y13 B4 6 none [] ({ frames := 4, cells := 2, slots := 6, locals := 57 } : Room) #[(.ref a1), (.ref v1), (.int 0), (.int 2), .null] h0 (fun vv h L => Fr n0 L ∧ ∃ t : Addr, ∃ k : ClassId, ∃ u : Bool, vv = none ∧ Keep h0 h [a1] ∧ XT Z h a1 ∧ FV Z h a1 t ∧ h0.size ≤ t ∧ (u = false → ¬ (255 : Int32) < c0 ∧ ¬ (255 : Int32) < c1) ∧ (u = false → Arv Z h t k .byte (2 : Int32) [(.int (nar .byte (c0.toInt8.toInt32))), (.int (nar .byte (c1.toInt8.toInt32)))] (.int 0)) ∧ (u = true → Arv Z h t k .byte (4 : Int32) [(.int (own_b0 c0)), (.int (own_b1 c0)), (.int (own_b0 c1)), (.int (own_b1 c1))] (.int 0)) ∧ (u = false → FC Z h a1 0) ∧ (u = true → FC Z h a1 1)) := by
  refine Met.enter (f0 := fun m => mkF m 0 #[vr a1, vr v1, vi 0, vi 2, .val .null, .unset] []) (plainFor_of_name pn6) (fun m => oe m 1) ?_
  intro p e s m below meth c s₁ hx hby hml hown hnm hret hlk hZ X0 e0
  have dk : Dk B4 c := fun h => hb hby h
  have W := @wd _ _ _ hw
  have N0 := Fr.nil n0
  refine gz X0 1 #[vr a1, vr v1, vi 0, vi 2, .val .null, .unset] [(.ref a1)] (fun _ k => aN X0 hx (dk d4_0) rfl rfl k) ?_
  obtain ⟨T10, X10, e10, st10⟩ := initO X0 hx hZ hown (W 18 rfl) (W 19 rfl) (W 20 rfl) e0 (g := (mkF m 1 #[vr a1, vr v1, vi 0, vi 2, .val .null, .unset] [(.ref a1)])) rfl (by rw [hml]; rfl) rfl (dk d4_1) (by decide) (W := 0) (by show 2 * 0 + _ ≤ _; exact Nat.le_of_eq rfl) (by decide)
  refine gz X10 27 #[vr a1, vr v1, vi 0, vi 2, .val .null, .unset] [] (fun _ k => st10 _ (lN X10 hx (dk d4_4) rfl (fY X10 hx 5 27 rfl (dk d4_5) rfl ((if0 _ _).trans (feq (by decide)).2) k))) ?_
  obtain ⟨T11, X11, e11, st11⟩ := getS2 X10 hx hZ hown (host := "") (Or.inl (W 21 rfl)) Via.refl e10 (pr1.ext pr0.2) (g := (mkF m 27 #[vr a1, vr v1, vi 0, vi 2, .val .null, .unset] [])) rfl (dk d4_27)
  refine gz X11 36 #[vr a1, vr v1, vi 0, vi 2, .val .null, .unset] [(.int 2), (.int 0), (.ref v1)] (fun _ k => st11 _ (fN X11 hx (dk d4_30) rfl ((if0 _ _).trans (feq hcs).1) (aN X11 hx (dk d4_33) rfl rfl (lN X11 hx (dk d4_34) rfl (lN X11 hx (dk d4_35) rfl k))))) ?_
  refine goS X11 hx hZ hown (W 22 rfl) (m6 hw) 3 2 6 (rm_cmp3_2 hw v1 ka c0 c1 h0 n0 Z0 pr0 pr3 pr4 pr5 pr10 hr0 hr1) N0 e11 pd_4 hml (dk d4_36) ?_
  rintro _ T12 L12 X12 N12 ⟨b12, k12, u12, rfl, K12, p12_0, p12_1, p12_2, p12_3⟩
  have O13 := pr0.keep K12 all0
  have Z13 : n0 ≤ T12.heap.size := Nat.le_trans Z0 K12.1
  have sz_b12 : h0.size ≤ b12 := p12_0
  rcases u12 with _ | _
  · skip
    have V14 := p12_2 rfl
    refine gz X12 45 #[vr a1, vr v1, vi 0, vi 2, .val .null, vr b12] [(.int 2), (.ref b12), (.ref a1)] (fun _ k => tI X12 hx (dk d4_39) rfl rfl rfl (.inl rfl) (aN X12 hx (dk d4_41) rfl rfl (aI X12 hx (dk d4_42) rfl rfl (lN X12 hx (dk d4_44) rfl k)))) ?_
    refine goS X12 hx hZ hown (W 30 rfl) (m7 hw) 2 2 6 (rm_cfal_2_0 hw b12 k12 c0 c1 T12.heap n0 Z13 V14) N12 rfl pd_6 hml (dk d4_45) ?_
    rintro _ T15 L15 X15 N15 ⟨rfl, hh15⟩
    obtain ⟨T16, h16, X16, e16, W16, st16⟩ := putFN X15 hx hZ hown (W 33 rfl) Via.refl hh15 (pr8.keep K12 nin0) (pr6.keep K12) (Or.inr ⟨(W 34 rfl), rfl, hnm⟩) (W 9 rfl) (ty := .byte) (v' := (.int 0)) (by decide) rfl rfl (g := (mkF m 48 #[vr a1, vr v1, vi 0, vi 2, .val .null, vr b12] [(.int 0), (.ref a1)])) rfl rfl (dk d4_48)
    have N16 := Fr.snoc X16 N15 pr9
    have O17 := O13.wr W16 pr9
    have Z17 : n0 ≤ h16.size := Nat.le_trans Z13 (Keep.of_wr W16).1
    have F16 := (pr8.keep K12 nin0).same W16
    refine gz X16 54 #[vr a1, vr v1, vi 0, vi 2, .val .null, vr b12] [(.ref b12), (.ref a1)] (fun _ k => st16 _ (aN X16 hx (dk d4_51) rfl rfl (aI X16 hx (dk d4_52) rfl rfl k))) ?_
    have f18 := ((pr7.keep K12 nin0).other W16 (Or.inr (slot_ne (Or.inr (W 36 rfl)) (Or.inr (W 34 rfl)) (by decide) (t := (.array .byte)) (t' := .byte) (by decide) (by decide))))
    obtain ⟨T19, h19, X19, e19, W19, st19⟩ := putF X16 hx hZ hown (host := "") (Or.inl (W 35 rfl)) Via.refl e16 f18 ((pr6.keep K12).wr W16) (Or.inr ⟨(W 36 rfl), rfl, hnm⟩) (W 9 rfl) (ty := (.array .byte)) (by decide) rfl rfl (g := (mkF m 54 #[vr a1, vr v1, vi 0, vi 2, .val .null, vr b12] [(.ref b12), (.ref a1)])) rfl rfl (dk d4_54)
    have N19 := Fr.snoc X19 N16 pr9
    have O20 := O17.wr W19 pr9
    have Z20 : n0 ≤ h19.size := Nat.le_trans Z17 (Keep.of_wr W19).1
    have F19 := f18.same W19
    refine gz X19 57 #[vr a1, vr v1, vi 0, vi 2, .val .null, vr b12] [] (fun _ k => st19 _ k) ?_
    refine Go.retV X19 hx hlk hret (dk d4_57) (by decide) (by decide) ?_
    rw [e19]
    exact ⟨N19, b12, k12, false, rfl, ((((Keep.refl h0 [a1]).trans K12 all0).wr W16 (Or.inl (List.mem_of_getElem? (i := 0) rfl))).wr W19 (Or.inl (List.mem_of_getElem? (i := 0) rfl))), (((pr6.keep K12).wr W16).wr W19), F19, (Nat.le_trans (Nat.le_refl _) sz_b12), p12_1, (fun _ => ((V14.other W16 (Ne.symm (Nat.ne_of_lt (Nat.lt_of_lt_of_le pr6.lt sz_b12)))).other W19 (Ne.symm (Nat.ne_of_lt (Nat.lt_of_lt_of_le pr6.lt sz_b12))))), (fun q => nomatch q), (fun _ => (F16.other W19 (Or.inr (slot_ne (Or.inr (W 34 rfl)) (Or.inr (W 36 rfl)) (by decide) (t := .byte) (t' := (.array .byte)) (by decide) (by decide))))), (fun q => nomatch q)⟩
  · skip
    have V21 := p12_3 rfl
    refine gz X12 45 #[vr a1, vr v1, vi 0, vi 2, .val .null, vr b12] [(.int 2), (.ref b12), (.ref a1)] (fun _ k => tI X12 hx (dk d4_39) rfl rfl rfl (.inl rfl) (aN X12 hx (dk d4_41) rfl rfl (aI X12 hx (dk d4_42) rfl rfl (lN X12 hx (dk d4_44) rfl k)))) ?_
    refine goS X12 hx hZ hown (W 30 rfl) (m7 hw) 2 2 6 (rm_cfal_2_1 hw b12 k12 c0 c1 T12.heap n0 Z13 V21) N12 rfl pd_6 hml (dk d4_45) ?_
    rintro _ T22 L22 X22 N22 ⟨rfl, hh22⟩
    obtain ⟨T23, h23, X23, e23, W23, st23⟩ := putFN X22 hx hZ hown (W 33 rfl) Via.refl hh22 (pr8.keep K12 nin0) (pr6.keep K12) (Or.inr ⟨(W 34 rfl), rfl, hnm⟩) (W 9 rfl) (ty := .byte) (v' := (.int 1)) (by decide) rfl rfl (g := (mkF m 48 #[vr a1, vr v1, vi 0, vi 2, .val .null, vr b12] [(.int 1), (.ref a1)])) rfl rfl (dk d4_48)
    have N23 := Fr.snoc X23 N22 pr9
    have O24 := O13.wr W23 pr9
    have Z24 : n0 ≤ h23.size := Nat.le_trans Z13 (Keep.of_wr W23).1
    have F23 := (pr8.keep K12 nin0).same W23
    refine gz X23 54 #[vr a1, vr v1, vi 0, vi 2, .val .null, vr b12] [(.ref b12), (.ref a1)] (fun _ k => st23 _ (aN X23 hx (dk d4_51) rfl rfl (aI X23 hx (dk d4_52) rfl rfl k))) ?_
    have f25 := ((pr7.keep K12 nin0).other W23 (Or.inr (slot_ne (Or.inr (W 36 rfl)) (Or.inr (W 34 rfl)) (by decide) (t := (.array .byte)) (t' := .byte) (by decide) (by decide))))
    obtain ⟨T26, h26, X26, e26, W26, st26⟩ := putF X23 hx hZ hown (host := "") (Or.inl (W 35 rfl)) Via.refl e23 f25 ((pr6.keep K12).wr W23) (Or.inr ⟨(W 36 rfl), rfl, hnm⟩) (W 9 rfl) (ty := (.array .byte)) (by decide) rfl rfl (g := (mkF m 54 #[vr a1, vr v1, vi 0, vi 2, .val .null, vr b12] [(.ref b12), (.ref a1)])) rfl rfl (dk d4_54)
    have N26 := Fr.snoc X26 N23 pr9
    have O27 := O24.wr W26 pr9
    have Z27 : n0 ≤ h26.size := Nat.le_trans Z24 (Keep.of_wr W26).1
    have F26 := f25.same W26
    refine gz X26 57 #[vr a1, vr v1, vi 0, vi 2, .val .null, vr b12] [] (fun _ k => st26 _ k) ?_
    refine Go.retV X26 hx hlk hret (dk d4_57) (by decide) (by decide) ?_
    rw [e26]
    exact ⟨N26, b12, k12, true, rfl, ((((Keep.refl h0 [a1]).trans K12 all0).wr W23 (Or.inl (List.mem_of_getElem? (i := 0) rfl))).wr W26 (Or.inl (List.mem_of_getElem? (i := 0) rfl))), (((pr6.keep K12).wr W23).wr W26), F26, (Nat.le_trans (Nat.le_refl _) sz_b12), (fun q => nomatch q), (fun q => nomatch q), (fun _ => ((V21.other W23 (Ne.symm (Nat.ne_of_lt (Nat.lt_of_lt_of_le pr6.lt sz_b12)))).other W26 (Ne.symm (Nat.ne_of_lt (Nat.lt_of_lt_of_le pr6.lt sz_b12))))), (fun q => nomatch q), (fun _ => (F23.other W26 (Or.inr (slot_ne (Or.inr (W 34 rfl)) (Or.inr (W 36 rfl)) (by decide) (t := .byte) (t' := (.array .byte)) (by decide) (by decide)))))⟩
theorem rm_sC_2 {l : Launch} {Z : State} {a0 : Array Value} (hw : HW a0 Z) (a1 : Addr) (v1 : Addr) (ka : ClassId) (c0 : Int32) (c1 : Int32) (cs : Int32) (h0 : Heap) (n0 : Nat) (Z0 : n0 ≤ h0.size) (pr0 : Old Z n0 h0) (pr1 : S3 Z cs) (hcs : ¬ (cs = (0 : Int32))) (pr3 : S0 Z) (pr4 : S1 Z) (pr5 : S2 Z) (pr6 : XT Z h0 a1) (pr7 : Fld Z h0 a1 "java/lang/String" "value" "[B" .null) (pr8 : FC Z h0 a1 0) (pr9 : n0 ≤ a1) (pr10 : Arv Z h0 v1 ka .char (2 : Int32) [(.int c0), (.int c1)] (.int 0)) (hr0 : own_rng c0) (hr1 : own_rng c1) :
    Met l Z Y12 B11 2 none [] ({ frames := 5, cells := 2, slots := 6, locals := 74 } : Room) #[(.ref a1), (.ref v1)] h0 (fun vv h L => Fr n0 L ∧ ∃ t : Addr, ∃ k : ClassId, ∃ u : Bool, vv = none ∧ Keep h0 h [a1] ∧ XT Z h a1 ∧ FV Z h a1 t ∧ h0.size ≤ t ∧ (u = false → ¬ (255 : Int32) < c0 ∧ ¬ (255 : Int32) < c1) ∧ (u = false → Arv Z h t k .byte (2 : Int32) [(.int (nar .byte (c0.toInt8.toInt32))), (.int (nar .byte (c1.toInt8.toInt32)))] (.int 0)) ∧ (u = true → Arv Z h t k .byte (4 : Int32) [(.int (own_b0 c0)), (.int (own_b1 c0)), (.int (own_b0 c1)), (.int (own_b1 c1))] (.int 0)) ∧ (u = false → FC Z h a1 0) ∧ (u = true → FC Z h a1 1)) := by
  refine Met.enter (f0 := fun m => mkF m 0 #[vr a1, vr v1] []) (plainFor_of_name pn6) (fun m => oe m 0) ?_
  intro p e s m below meth c s₁ hx hby hml hown hnm hret hlk hZ X0 e0
  have dk : Dk B11 c := fun h => hb hby h
  have W := @wd _ _ _ hw
  have N0 := Fr.nil n0
  refine gz X0 4 #[vr a1, vr v1] [(.ref v1), (.int 0), (.ref v1), (.ref a1)] (fun _ k => aN X0 hx (dk d3_0) rfl rfl (aN X0 hx (dk d3_1) rfl rfl (kC X0 hx (dk d3_2) (aN X0 hx (dk d3_3) rfl rfl k)))) ?_
  obtain ⟨cl10, Ar10, q10, S10, N_10, Hs10, G10⟩ := id pr10
  refine gz X0 5 #[vr a1, vr v1] [(.int 2), (.int 0), (.ref v1), (.ref a1)] (fun _ k => X0.arraylength hx (by rw [e0]; exact Ar10.1) (State.isArrayOf_alike hZ.alike Ar10.2.1) (g := (mkF m 4 #[vr a1, vr v1] [(.ref v1), (.int 0), (.ref v1), (.ref a1)])) rfl rfl (dk d3_4) _ (by rw [len_of S10 N_10]; exact k)) ?_
  refine gz X0 6 #[vr a1, vr v1] [.null, (.int 2), (.int 0), (.ref v1), (.ref a1)] (fun _ k => XS.aconstNull X0.here hx rfl (dk d3_5) k) ?_
  refine goI X0 hx hZ hown (W 14 rfl) (m8 hw) 4 2 6 (rm_sV_2 hw a1 v1 ka c0 c1 cs h0 n0 Z0 pr0 pr1 hcs pr3 pr4 pr5 pr6 pr7 pr8 pr9 pr10 hr0 hr1) N0 e0 pd_7 hml (dk d3_6) ?_
  rintro _ T11 L11 X11 N11 ⟨t11, k11, u11, rfl, K11, p11_0, p11_1, p11_2, p11_3, p11_4, p11_5, p11_6, p11_7⟩
  have O12 := pr0.keep K11 (allS pr9 all0)
  have Z12 : n0 ≤ T11.heap.size := Nat.le_trans Z0 K11.1
  have sz_t11 : h0.size ≤ t11 := p11_2
  refine gz X11 9 #[vr a1, vr v1] [] (fun _ k => k) ?_
  refine Go.retV X11 hx hlk hret (dk d3_9) (by decide) (by decide) ?_
  exact ⟨N11, t11, k11, u11, rfl, ((Keep.refl h0 [a1]).trans K11 (allS (Or.inl (List.mem_of_getElem? (i := 0) rfl)) all0)), p11_0, p11_1, (Nat.le_trans (Nat.le_refl _) sz_t11), p11_3, p11_4, p11_5, p11_6, p11_7⟩
theorem rm_nbl_3 {l : Launch} {Z : State} {a0 : Array Value} (hw : HW a0 Z)  (h0 : Heap) (n0 : Nat) (Z0 : n0 ≤ h0.size) :
    Met l Z Y38 B25 1 (some .int) [] ({ frames := 0, cells := 0, slots := 0, locals := 0 } : Room) #[(.int 3)] h0 (fun vv h L => Fr n0 L ∧ vv = some (.int 6) ∧ h = h0) := by
  refine Met.enter (f0 := fun m => mkF m 0 #[vi 3] []) (plainFor_of_name pn4) (fun m => oe m 0) ?_
  intro p e s m below meth c s₁ hx hby hml hown hnm hret hlk hZ X0 e0
  have dk : Dk B25 c := fun h => hb hby h
  have W := @wd _ _ _ hw
  have N0 := Fr.nil n0
  refine gz X0 58 #[vi 3] [(.int 6)] (fun _ k => lN X0 hx (dk d28_0) rfl (fY X0 hx 1 12 rfl (dk d28_1) rfl ((if0 _ _).trans (flt (by decide)).2.1) (lN X0 hx (dk d28_12) rfl (X0.ldcInt hx hown (mvT hZ (W 123 rfl)) (g := (mkF m 13 #[vi 3] [(.int 3)])) rfl (dk d28_13) _ (cY X0 hx 15 55 rfl (dk d28_15) rfl (tlt (by decide)).1 (lN X0 hx (dk d28_55) rfl (kC X0 hx (dk d28_56) (XS.ishl X0.here hx rfl (dk d28_57) rfl k)))))))) ?_
  refine Go.retJ X0 hx hlk (t := .int) hret (dk d28_58) ?_
  rw [e0]
  exact ⟨N0, rfl, rfl⟩
theorem rm_nbf_3 {l : Launch} {Z : State} {a0 : Array Value} (hw : HW a0 Z)  (h0 : Heap) (n0 : Nat) (Z0 : n0 ≤ h0.size) (pr0 : Old Z n0 h0) :
    Met l Z Y37 B24 1 (some (.array .byte)) [] ({ frames := 1, cells := 1, slots := 6, locals := 12 } : Room) #[(.int 3)] h0 (fun vv h L => Fr n0 L ∧ ∃ b : Addr, ∃ k : ClassId, vv = some (.ref b) ∧ Keep h0 h [] ∧ Arv Z h b k .byte (6 : Int32) [(.int 0), (.int 0), (.int 0), (.int 0), (.int 0), (.int 0)] (.int 0) ∧ h0.size ≤ b) := by
  refine Met.enter (f0 := fun m => mkF m 0 #[vi 3] []) (plainFor_of_name pn4) (fun m => oe m 0) ?_
  intro p e s m below meth c s₁ hx hby hml hown hnm hret hlk hZ X0 e0
  have dk : Dk B24 c := fun h => hb hby h
  have W := @wd _ _ _ hw
  have N0 := Fr.nil n0
  refine gz X0 1 #[vi 3] [(.int 3)] (fun _ k => lN X0 hx (dk d27_0) rfl k) ?_
  refine goS X0 hx hZ hown (W 120 rfl) (m0 hw) 1 0 0 (rm_nbl_3 hw  h0 n0 Z0 ) N0 e0 pd_0 hml (dk d27_1) ?_
  rintro _ T10 L10 X10 N10 ⟨rfl, hh10⟩
  obtain ⟨T11, h11, k11, X11, e11, E11, A11, st11⟩ := newP X10 hx hZ (W 26 rfl) hh10 (g := (mkF m 4 #[vi 3] [(.int 6)])) rfl (dk d27_4) rfl (by decide) (cap := 6) (by decide) (by decide) (by decide) (by decide)
  obtain ⟨b11, g11⟩ : ∃ z, z = h0.size := ⟨_, rfl⟩
  rw [← g11] at A11 st11
  have sz_b11 : h0.size ≤ b11 := Nat.le_of_eq g11.symm
  have V11 : Arv Z h11 b11 k11 .byte (6 : Int32) [(.int 0), (.int 0), (.int 0), (.int 0), (.int 0), (.int 0)] (.int 0) := (Arv.new A11 (by decide)).pad (pad_rep [] (.int 0) 6)
  have O12 := pr0.ext E11
  have Z12 : n0 ≤ h11.size := Nat.le_trans Z0 E11.1
  refine gz X11 6 #[vi 3] [(.ref b11)] (fun _ k => st11 _ k) ?_
  refine Go.retA X11 hx hlk (t := (.array .byte)) hret (dk d27_6) ?_
  rw [e11]
  exact ⟨N10, b11, k11, rfl, ((Keep.refl h0 []).ext E11), V11, (Nat.le_trans (Nat.le_refl _) sz_b11)⟩
theorem rm_tb_3 {l : Launch} {Z : State} {a0 : Array Value} (hw : HW a0 Z) (a1 : Addr) (ka : ClassId) (c0 : Int32) (c1 : Int32) (c2 : Int32) (h0 : Heap) (n0 : Nat) (Z0 : n0 ≤ h0.size) (pr0 : Old Z n0 h0) (pr1 : S0 Z) (pr2 : S1 Z) (pr3 : S2 Z) (pr4 : Arv Z h0 a1 ka .char (3 : Int32) [(.int c0), (.int c1), (.int c2)] (.int 0)) :
    Met l Z Y41 B18 5 (some (.array .byte)) [] ({ frames := 2, cells := 1, slots := 6, locals := 24 } : Room) #[(.ref a1), (.int 0), (.int 3)] h0 (fun vv h L => Fr n0 L ∧ ∃ b : Addr, ∃ k : ClassId, vv = some (.ref b) ∧ Keep h0 h [] ∧ Arv Z h b k .byte (6 : Int32) [(.int (own_b0 c0)), (.int (own_b1 c0)), (.int (own_b0 c1)), (.int (own_b1 c1)), (.int (own_b0 c2)), (.int (own_b1 c2))] (.int 0) ∧ h0.size ≤ b) := by
  refine Met.enter (f0 := fun m => mkF m 0 #[vr a1, vi 0, vi 3, .unset, .unset] []) (plainFor_of_name pn4) (fun m => oe m 2) ?_
  intro p e s m below meth c s₁ hx hby hml hown hnm hret hlk hZ X0 e0
  have dk : Dk B18 c := fun h => hb hby h
  have W := @wd _ _ _ hw
  have N0 := Fr.nil n0
  refine gz X0 1 #[vr a1, vi 0, vi 3, .unset, .unset] [(.int 3)] (fun _ k => lN X0 hx (dk d26_0) rfl k) ?_
  refine goS X0 hx hZ hown (W 117 rfl) (m1 hw) 1 1 6 (rm_nbf_3 hw  h0 n0 Z0 pr0) N0 e0 pd_1 hml (dk d26_1) ?_
  rintro _ T10 L10 X10 N10 ⟨b10, k10, rfl, K10, p10_0, p10_1⟩
  have O11 := pr0.keep K10 all0
  have Z11 : n0 ≤ T10.heap.size := Nat.le_trans Z0 K10.1
  have sz_b10 : h0.size ≤ b10 := p10_1
  refine gz X10 19 #[vr a1, vi 0, vi 3, vr b10, vi 0] [(.int 0), (.ref a1), (.int 0), (.ref b10)] (fun _ k => tN X10 hx (dk d26_4) rfl rfl rfl (.inl rfl) (kC X10 hx (dk d26_5) (sI X10 hx (dk d26_6) rfl rfl (.inl rfl) (lI X10 hx (dk d26_8) rfl (lN X10 hx (dk d26_10) rfl (cN X10 hx (dk d26_11) rfl (tlt (by decide)).2.1 (aN X10 hx (dk d26_14) rfl rfl (lI X10 hx (dk d26_15) rfl (aN X10 hx (dk d26_17) rfl rfl (lN X10 hx (dk d26_18) rfl k)))))))))) ?_
  obtain ⟨cl12, Ar12, q12, S12, N_12, Hs12, G12⟩ := id (pr4.keep K10 nin0)
  have hin13 : ¬ ((0 : Int32) < 0 ∨ cl12.slots.size ≤ ((0 : Int32)).toNatClampNeg) := inb_of S12 ⟨by decide, by decide⟩
  have hat13 : cl12.slots[((0 : Int32)).toNatClampNeg]? = some (.int c0) := Hs12.at hin13 rfl
  refine gz X10 20 #[vr a1, vi 0, vi 3, vr b10, vi 0] [(.int c0), (.int 0), (.ref b10)] (fun _ k => X10.caload hx (j := (0 : Int32)) (v := (.int c0)) Ar12.1 (State.isArrayOf_alike hZ.alike Ar12.2.1) Ar12.2.2 hin13 hat13 (g := (mkF m 19 #[vr a1, vi 0, vi 3, vr b10, vi 0] [(.int 0), (.ref a1), (.int 0), (.ref b10)])) rfl rfl (dk d26_19) _ k) ?_
  refine goS X10 hx hZ hown (W 124 rfl) (m2 hw) 3 1 6 (rm_put_0 hw b10 k10 c0 (6 : Int32) [(.int 0), (.int 0), (.int 0), (.int 0), (.int 0), (.int 0)] T10.heap n0 Z11 O11 pr1 pr2 pr3 p10_0 (Nat.le_trans Z0 sz_b10) (by decide) (by decide) (Nat.le_of_ble_eq_true rfl) (Nat.le_of_ble_eq_true rfl)) N10 rfl pd_2 hml (dk d26_20) ?_
  rintro _ T14 L14 X14 N14 ⟨rfl, K14, p14_0⟩
  have O15 := O11.keep K14 (allS (Nat.le_trans Z0 sz_b10) all0)
  have Z15 : n0 ≤ T14.heap.size := Nat.le_trans Z11 K14.1
  have p14_0 : Arv Z T14.heap b10 k10 .byte (6 : Int32) [(.int (own_b0 c0)), (.int (own_b1 c0)), (.int 0), (.int 0), (.int 0), (.int 0)] (.int 0) := p14_0
  refine gz X14 19 #[vr a1, vi 1, vi 3, vr b10, vi 1] [(.int 1), (.ref a1), (.int 1), (.ref b10)] (fun _ k => XS.iinc X14.here hx rfl (dk d26_23) rfl (l' := #[vr a1, vi 1, vi 3, vr b10, vi 0]) rfl (XS.iinc X14.here hx rfl (dk d26_26) rfl (l' := #[vr a1, vi 1, vi 3, vr b10, vi 1]) rfl (gT X14 hx 29 8 rfl (dk d26_29) (lI X14 hx (dk d26_8) rfl (lN X14 hx (dk d26_10) rfl (cN X14 hx (dk d26_11) rfl (tlt (by decide)).2.1 (aN X14 hx (dk d26_14) rfl rfl (lI X14 hx (dk d26_15) rfl (aN X14 hx (dk d26_17) rfl rfl (lN X14 hx (dk d26_18) rfl k)))))))))) ?_
  have f17 := ((pr4.keep K10 nin0).keep K14 (ninS (Nat.ne_of_lt (Nat.lt_of_lt_of_le pr4.lt sz_b10)) nin0))
  obtain ⟨cl16, Ar16, q16, S16, N_16, Hs16, G16⟩ := id f17
  have hin18 : ¬ ((1 : Int32) < 0 ∨ cl16.slots.size ≤ ((1 : Int32)).toNatClampNeg) := inb_of S16 ⟨by decide, by decide⟩
  have hat18 : cl16.slots[((1 : Int32)).toNatClampNeg]? = some (.int c1) := Hs16.at hin18 rfl
  refine gz X14 20 #[vr a1, vi 1, vi 3, vr b10, vi 1] [(.int c1), (.int 1), (.ref b10)] (fun _ k => X14.caload hx (j := (1 : Int32)) (v := (.int c1)) Ar16.1 (State.isArrayOf_alike hZ.alike Ar16.2.1) Ar16.2.2 hin18 hat18 (g := (mkF m 19 #[vr a1, vi 1, vi 3, vr b10, vi 1] [(.int 1), (.ref a1), (.int 1), (.ref b10)])) rfl rfl (dk d26_19) _ k) ?_
  refine goS X14 hx hZ hown (W 124 rfl) (m2 hw) 3 1 6 (rm_put_1 hw b10 k10 c1 (6 : Int32) [(.int (own_b0 c0)), (.int (own_b1 c0)), (.int 0), (.int 0), (.int 0), (.int 0)] T14.heap n0 Z15 O15 pr1 pr2 pr3 p14_0 (Nat.le_trans Z0 sz_b10) (by decide) (by decide) (Nat.le_of_ble_eq_true rfl) (Nat.le_of_ble_eq_true rfl)) N14 rfl pd_2 hml (dk d26_20) ?_
  rintro _ T19 L19 X19 N19 ⟨rfl, K19, p19_0⟩
  have O20 := O15.keep K19 (allS (Nat.le_trans Z0 sz_b10) all0)
  have Z20 : n0 ≤ T19.heap.size := Nat.le_trans Z15 K19.1
  have p19_0 : Arv Z T19.heap b10 k10 .byte (6 : Int32) [(.int (own_b0 c0)), (.int (own_b1 c0)), (.int (own_b0 c1)), (.int (own_b1 c1)), (.int 0), (.int 0)] (.int 0) := p19_0
  refine gz X19 19 #[vr a1, vi 2, vi 3, vr b10, vi 2] [(.int 2), (.ref a1), (.int 2), (.ref b10)] (fun _ k => XS.iinc X19.here hx rfl (dk d26_23) rfl (l' := #[vr a1, vi 2, vi 3, vr b10, vi 1]) rfl (XS.iinc X19.here hx rfl (dk d26_26) rfl (l' := #[vr a1, vi 2, vi 3, vr b10, vi 2]) rfl (gT X19 hx 29 8 rfl (dk d26_29) (lI X19 hx (dk d26_8) rfl (lN X19 hx (dk d26_10) rfl (cN X19 hx (dk d26_11) rfl (tlt (by decide)).2.1 (aN X19 hx (dk d26_14) rfl rfl (lI X19 hx (dk d26_15) rfl (aN X19 hx (dk d26_17) rfl rfl (lN X19 hx (dk d26_18) rfl k)))))))))) ?_
  have f22 := (f17.keep K19 (ninS (Nat.ne_of_lt (Nat.lt_of_lt_of_le pr4.lt sz_b10)) nin0))
  obtain ⟨cl21, Ar21, q21, S21, N_21, Hs21, G21⟩ := id f22
  have hin23 : ¬ ((2 : Int32) < 0 ∨ cl21.slots.size ≤ ((2 : Int32)).toNatClampNeg) := inb_of S21 ⟨by decide, by decide⟩
  have hat23 : cl21.slots[((2 : Int32)).toNatClampNeg]? = some (.int c2) := Hs21.at hin23 rfl
  refine gz X19 20 #[vr a1, vi 2, vi 3, vr b10, vi 2] [(.int c2), (.int 2), (.ref b10)] (fun _ k => X19.caload hx (j := (2 : Int32)) (v := (.int c2)) Ar21.1 (State.isArrayOf_alike hZ.alike Ar21.2.1) Ar21.2.2 hin23 hat23 (g := (mkF m 19 #[vr a1, vi 2, vi 3, vr b10, vi 2] [(.int 2), (.ref a1), (.int 2), (.ref b10)])) rfl rfl (dk d26_19) _ k) ?_
  refine goS X19 hx hZ hown (W 124 rfl) (m2 hw) 3 1 6 (rm_put_2 hw b10 k10 c2 (6 : Int32) [(.int (own_b0 c0)), (.int (own_b1 c0)), (.int (own_b0 c1)), (.int (own_b1 c1)), (.int 0), (.int 0)] T19.heap n0 Z20 O20 pr1 pr2 pr3 p19_0 (Nat.le_trans Z0 sz_b10) (by decide) (by decide) (Nat.le_of_ble_eq_true rfl) (Nat.le_of_ble_eq_true rfl)) N19 rfl pd_2 hml (dk d26_20) ?_
  rintro _ T24 L24 X24 N24 ⟨rfl, K24, p24_0⟩
  have O25 := O20.keep K24 (allS (Nat.le_trans Z0 sz_b10) all0)
  have Z25 : n0 ≤ T24.heap.size := Nat.le_trans Z20 K24.1
  have p24_0 : Arv Z T24.heap b10 k10 .byte (6 : Int32) [(.int (own_b0 c0)), (.int (own_b1 c0)), (.int (own_b0 c1)), (.int (own_b1 c1)), (.int (own_b0 c2)), (.int (own_b1 c2))] (.int 0) := p24_0
  refine gz X24 33 #[vr a1, vi 3, vi 3, vr b10, vi 3] [(.ref b10)] (fun _ k => XS.iinc X24.here hx rfl (dk d26_23) rfl (l' := #[vr a1, vi 3, vi 3, vr b10, vi 2]) rfl (XS.iinc X24.here hx rfl (dk d26_26) rfl (l' := #[vr a1, vi 3, vi 3, vr b10, vi 3]) rfl (gT X24 hx 29 8 rfl (dk d26_29) (lI X24 hx (dk d26_8) rfl (lN X24 hx (dk d26_10) rfl (cY X24 hx 11 32 rfl (dk d26_11) rfl (flt (by decide)).2.1 (aN X24 hx (dk d26_32) rfl rfl k))))))) ?_
  refine Go.retA X24 hx hlk (t := (.array .byte)) hret (dk d26_33) ?_
  exact ⟨N24, b10, k10, rfl, (((((Keep.refl h0 []).trans K10 all0).trans K14 (allS (Or.inr (Nat.le_trans (Nat.le_refl _) sz_b10)) all0)).trans K19 (allS (Or.inr (Nat.le_trans (Nat.le_refl _) sz_b10)) all0)).trans K24 (allS (Or.inr (Nat.le_trans (Nat.le_refl _) sz_b10)) all0)), p24_0, (Nat.le_trans (Nat.le_refl _) sz_b10)⟩
theorem rm_cfal_3_0 {l : Launch} {Z : State} {a0 : Array Value} (hw : HW a0 Z) (b1 : Addr) (kb : ClassId) (c0 : Int32) (c1 : Int32) (c2 : Int32) (h0 : Heap) (n0 : Nat) (Z0 : n0 ≤ h0.size) (pr0 : Arv Z h0 b1 kb .byte (3 : Int32) [(.int (nar .byte (c0.toInt8.toInt32))), (.int (nar .byte (c1.toInt8.toInt32))), (.int (nar .byte (c2.toInt8.toInt32)))] (.int 0)) :
    Met l Z Y30 B19 2 (some .byte) [] ({ frames := 0, cells := 0, slots := 0, locals := 0 } : Room) #[(.ref b1), (.int 3)] h0 (fun vv h L => Fr n0 L ∧ vv = some (.int 0) ∧ h = h0) := by
  refine Met.enter (f0 := fun m => mkF m 0 #[vr b1, vi 3] []) (plainFor_of_name pn4) (fun m => oe m 0) ?_
  intro p e s m below meth c s₁ hx hby hml hown hnm hret hlk hZ X0 e0
  have dk : Dk B19 c := fun h => hb hby h
  have W := @wd _ _ _ hw
  have N0 := Fr.nil n0
  refine gz X0 2 #[vr b1, vi 3] [(.ref b1), (.int 3)] (fun _ k => lN X0 hx (dk d8_0) rfl (aN X0 hx (dk d8_1) rfl rfl k)) ?_
  obtain ⟨cl10, Ar10, q10, S10, N_10, Hs10, G10⟩ := id pr0
  refine gz X0 3 #[vr b1, vi 3] [(.int 3), (.int 3)] (fun _ k => X0.arraylength hx (by rw [e0]; exact Ar10.1) (State.isArrayOf_alike hZ.alike Ar10.2.1) (g := (mkF m 2 #[vr b1, vi 3] [(.ref b1), (.int 3)])) rfl rfl (dk d8_2) _ (by rw [len_of S10 N_10]; exact k)) ?_
  refine gz X0 8 #[vr b1, vi 3] [(.int 0)] (fun _ k => XS.isub X0.here hx rfl (dk d8_3) rfl (XS.bipush X0.here hx rfl (dk d8_4) (XS.iushr X0.here hx rfl (dk d8_6) rfl (XS.i2b X0.here hx rfl (dk d8_7) rfl k)))) ?_
  refine Go.retJ X0 hx hlk (t := .byte) hret (dk d8_8) ?_
  rw [e0]
  exact ⟨N0, rfl, rfl⟩
theorem rm_cfal_3_1 {l : Launch} {Z : State} {a0 : Array Value} (hw : HW a0 Z) (b1 : Addr) (kb : ClassId) (c0 : Int32) (c1 : Int32) (c2 : Int32) (h0 : Heap) (n0 : Nat) (Z0 : n0 ≤ h0.size) (pr0 : Arv Z h0 b1 kb .byte (6 : Int32) [(.int (own_b0 c0)), (.int (own_b1 c0)), (.int (own_b0 c1)), (.int (own_b1 c1)), (.int (own_b0 c2)), (.int (own_b1 c2))] (.int 0)) :
    Met l Z Y30 B19 2 (some .byte) [] ({ frames := 0, cells := 0, slots := 0, locals := 0 } : Room) #[(.ref b1), (.int 3)] h0 (fun vv h L => Fr n0 L ∧ vv = some (.int 1) ∧ h = h0) := by
  refine Met.enter (f0 := fun m => mkF m 0 #[vr b1, vi 3] []) (plainFor_of_name pn4) (fun m => oe m 0) ?_
  intro p e s m below meth c s₁ hx hby hml hown hnm hret hlk hZ X0 e0
  have dk : Dk B19 c := fun h => hb hby h
  have W := @wd _ _ _ hw
  have N0 := Fr.nil n0
  refine gz X0 2 #[vr b1, vi 3] [(.ref b1), (.int 3)] (fun _ k => lN X0 hx (dk d8_0) rfl (aN X0 hx (dk d8_1) rfl rfl k)) ?_
  obtain ⟨cl10, Ar10, q10, S10, N_10, Hs10, G10⟩ := id pr0
  refine gz X0 3 #[vr b1, vi 3] [(.int 6), (.int 3)] (fun _ k => X0.arraylength hx (by rw [e0]; exact Ar10.1) (State.isArrayOf_alike hZ.alike Ar10.2.1) (g := (mkF m 2 #[vr b1, vi 3] [(.ref b1), (.int 3)])) rfl rfl (dk d8_2) _ (by rw [len_of S10 N_10]; exact k)) ?_
  refine gz X0 8 #[vr b1, vi 3] [(.int 1)] (fun _ k => XS.isub X0.here hx rfl (dk d8_3) rfl (XS.bipush X0.here hx rfl (dk d8_4) (XS.iushr X0.here hx rfl (dk d8_6) rfl (XS.i2b X0.here hx rfl (dk d8_7) rfl k)))) ?_
  refine Go.retJ X0 hx hlk (t := .byte) hret (dk d8_8) ?_
  rw [e0]
  exact ⟨N0, rfl, rfl⟩
theorem rm_cmp5_3 {l : Launch} {Z : State} {a0 : Array Value} (hw : HW a0 Z) (a1 : Addr) (b1 : Addr) (ka : ClassId) (kb : ClassId) (c0 : Int32) (c1 : Int32) (c2 : Int32) (h0 : Heap) (n0 : Nat) (Z0 : n0 ≤ h0.size) (pr0 : Old Z n0 h0) (pr1 : Arv Z h0 a1 ka .char (3 : Int32) [(.int c0), (.int c1), (.int c2)] (.int 0)) (pr2 : Arv Z h0 b1 kb .byte (3 : Int32) [(.int 0), (.int 0), (.int 0)] (.int 0)) (pr3 : n0 ≤ b1) (pr4 : a1 ≠ b1) :
    Met l Z Y34 B22 7 (some .int) [] ({ frames := 0, cells := 0, slots := 0, locals := 0 } : Room) #[(.ref a1), (.int 0), (.ref b1), (.int 0), (.int 3)] h0 (fun vv h L => Fr n0 L ∧ ∃ r : Int32, vv = some (.int r) ∧ Keep h0 h [b1] ∧ (r = (3 : Int32) → Arv Z h b1 kb .byte (3 : Int32) [(.int (nar .byte (c0.toInt8.toInt32))), (.int (nar .byte (c1.toInt8.toInt32))), (.int (nar .byte (c2.toInt8.toInt32)))] (.int 0)) ∧ ((r = (3 : Int32) ∧ ¬ (255 : Int32) < c0 ∧ ¬ (255 : Int32) < c1 ∧ ¬ (255 : Int32) < c2) ∨ (r = (0 : Int32) ∧ (255 : Int32) < c0) ∨ (r = (1 : Int32) ∧ (255 : Int32) < c1) ∨ (r = (2 : Int32) ∧ (255 : Int32) < c2))) := by
  refine Met.enter (f0 := fun m => mkF m 0 #[vr a1, vi 0, vr b1, vi 0, vi 3, .unset, .unset] []) (plainFor_of_name pn4) (fun m => oe m 2) ?_
  intro p e s m below meth c s₁ hx hby hml hown hnm hret hlk hZ X0 e0
  have dk : Dk B22 c := fun h => hb hby h
  have W := @wd _ _ _ hw
  have N0 := Fr.nil n0
  refine gz X0 12 #[vr a1, vi 0, vr b1, vi 0, vi 3, vi 0, .unset] [(.int 0), (.ref a1)] (fun _ k => kC X0 hx (dk d7_0) (sI X0 hx (dk d7_1) rfl rfl (.inl rfl) (lI X0 hx (dk d7_3) rfl (lI X0 hx (dk d7_5) rfl (cN X0 hx (dk d7_7) rfl (tlt (by decide)).2.1 (aN X0 hx (dk d7_10) rfl rfl (lN X0 hx (dk d7_11) rfl k))))))) ?_
  obtain ⟨cl10, Ar10, q10, S10, N_10, Hs10, G10⟩ := id pr1
  have hin11 : ¬ ((0 : Int32) < 0 ∨ cl10.slots.size ≤ ((0 : Int32)).toNatClampNeg) := inb_of S10 ⟨by decide, by decide⟩
  have hat11 : cl10.slots[((0 : Int32)).toNatClampNeg]? = some (.int c0) := Hs10.at hin11 rfl
  refine gz X0 13 #[vr a1, vi 0, vr b1, vi 0, vi 3, vi 0, .unset] [(.int c0)] (fun _ k => X0.caload hx (j := (0 : Int32)) (v := (.int c0)) (by rw [e0]; exact Ar10.1) (State.isArrayOf_alike hZ.alike Ar10.2.1) Ar10.2.2 hin11 hat11 (g := (mkF m 12 #[vr a1, vi 0, vr b1, vi 0, vi 3, vi 0, .unset] [(.int 0), (.ref a1)])) rfl rfl (dk d7_12) _ k) ?_
  refine gz X0 20 #[vr a1, vi 0, vr b1, vi 0, vi 3, vi 0, vi c0] [(.int 255), (.int c0)] (fun _ k => sI X0 hx (dk d7_13) rfl rfl (.inl rfl) (lI X0 hx (dk d7_15) rfl (XS.sipush X0.here hx rfl (dk d7_17) k))) ?_
  by_cases c12 : (255 : Int32) < c0
  · skip
    refine gz X0 25 #[vr a1, vi 0, vr b1, vi 0, vi 3, vi 0, vi c0] [(.int 0)] (fun _ k => cN X0 hx (dk d7_20) rfl (tlt c12).2.2.2 (lI X0 hx (dk d7_23) rfl k)) ?_
    refine Go.retJ X0 hx hlk (t := .int) hret (dk d7_25) ?_
    rw [e0]
    exact ⟨N0, (0 : Int32), rfl, (Keep.refl h0 [b1]), (fun q => absurd q (by decide)), (Or.inr (Or.inl ⟨rfl, c12⟩))⟩
  · skip
    refine gz X0 31 #[vr a1, vi 0, vr b1, vi 0, vi 3, vi 0, vi c0] [(.int (c0.toInt8.toInt32)), (.int 0), (.ref b1)] (fun _ k => cY X0 hx 20 26 rfl (dk d7_20) rfl (flt c12).2.2.2 (aN X0 hx (dk d7_26) rfl rfl (lN X0 hx (dk d7_27) rfl (lI X0 hx (dk d7_28) rfl (XS.i2b X0.here hx rfl (dk d7_30) rfl k))))) ?_
    obtain ⟨cl13, Ar13, q13, S13, N_13, Hs13, G13⟩ := id pr2
    have hin14 : ¬ ((0 : Int32) < 0 ∨ cl13.slots.size ≤ ((0 : Int32)).toNatClampNeg) := inb_of S13 ⟨by decide, by decide⟩
    obtain ⟨T14, h14, X14, e14, W14, st14⟩ := stB X0 hx hZ e0 Ar13 (j := (0 : Int32)) hin14 (g := (mkF m 31 #[vr a1, vi 0, vr b1, vi 0, vi 3, vi 0, vi c0] [(.int (c0.toInt8.toInt32)), (.int 0), (.ref b1)])) rfl rfl (dk d7_31)
    have O15 := pr0.wr W14 pr3
    have Z15 : n0 ≤ h14.size := Nat.le_trans Z0 (Keep.of_wr W14).1
    have V14 : Arv Z h14 b1 kb .byte (3 : Int32) [(.int (nar .byte (c0.toInt8.toInt32))), (.int 0), (.int 0)] (.int 0) := Arv.set Ar13 q13 S13 N_13 Hs13 G13 (fits_nar_byte _) W14 0 rfl (Nat.le_of_ble_eq_true rfl)
    have N14 := Fr.snoc X14 N0 pr3
    refine gz X14 12 #[vr a1, vi 1, vr b1, vi 1, vi 3, vi 1, vi c0] [(.int 1), (.ref a1)] (fun _ k => st14 _ (XS.iinc X14.here hx rfl (dk d7_32) rfl (l' := #[vr a1, vi 1, vr b1, vi 0, vi 3, vi 0, vi c0]) rfl (XS.iinc X14.here hx rfl (dk d7_35) rfl (l' := #[vr a1, vi 1, vr b1, vi 1, vi 3, vi 0, vi c0]) rfl (XS.iinc X14.here hx rfl (dk d7_38) rfl (l' := #[vr a1, vi 1, vr b1, vi 1, vi 3, vi 1, vi c0]) rfl (gT X14 hx 41 3 rfl (dk d7_41) (lI X14 hx (dk d7_3) rfl (lI X14 hx (dk d7_5) rfl (cN X14 hx (dk d7_7) rfl (tlt (by decide)).2.1 (aN X14 hx (dk d7_10) rfl rfl (lN X14 hx (dk d7_11) rfl k)))))))))) ?_
    obtain ⟨cl16, Ar16, q16, S16, N_16, Hs16, G16⟩ := id (pr1.other W14 pr4)
    have hin17 : ¬ ((1 : Int32) < 0 ∨ cl16.slots.size ≤ ((1 : Int32)).toNatClampNeg) := inb_of S16 ⟨by decide, by decide⟩
    have hat17 : cl16.slots[((1 : Int32)).toNatClampNeg]? = some (.int c1) := Hs16.at hin17 rfl
    refine gz X14 13 #[vr a1, vi 1, vr b1, vi 1, vi 3, vi 1, vi c0] [(.int c1)] (fun _ k => X14.caload hx (j := (1 : Int32)) (v := (.int c1)) (by rw [e14]; exact Ar16.1) (State.isArrayOf_alike hZ.alike Ar16.2.1) Ar16.2.2 hin17 hat17 (g := (mkF m 12 #[vr a1, vi 1, vr b1, vi 1, vi 3, vi 1, vi c0] [(.int 1), (.ref a1)])) rfl rfl (dk d7_12) _ k) ?_
    refine gz X14 20 #[vr a1, vi 1, vr b1, vi 1, vi 3, vi 1, vi c1] [(.int 255), (.int c1)] (fun _ k => sI X14 hx (dk d7_13) rfl rfl (.inr ⟨_, rfl, rfl⟩) (lI X14 hx (dk d7_15) rfl (XS.sipush X14.here hx rfl (dk d7_17) k))) ?_
    by_cases c18 : (255 : Int32) < c1
    · skip
      refine gz X14 25 #[vr a1, vi 1, vr b1, vi 1, vi 3, vi 1, vi c1] [(.int 1)] (fun _ k => cN X14 hx (dk d7_20) rfl (tlt c18).2.2.2 (lI X14 hx (dk d7_23) rfl k)) ?_
      refine Go.retJ X14 hx hlk (t := .int) hret (dk d7_25) ?_
      rw [e14]
      exact ⟨N14, (1 : Int32), rfl, ((Keep.refl h0 [b1]).wr W14 (Or.inl (List.mem_of_getElem? (i := 0) rfl))), (fun q => absurd q (by decide)), (Or.inr (Or.inr (Or.inl ⟨rfl, c18⟩)))⟩
    · skip
      refine gz X14 31 #[vr a1, vi 1, vr b1, vi 1, vi 3, vi 1, vi c1] [(.int (c1.toInt8.toInt32)), (.int 1), (.ref b1)] (fun _ k => cY X14 hx 20 26 rfl (dk d7_20) rfl (flt c18).2.2.2 (aN X14 hx (dk d7_26) rfl rfl (lN X14 hx (dk d7_27) rfl (lI X14 hx (dk d7_28) rfl (XS.i2b X14.here hx rfl (dk d7_30) rfl k))))) ?_
      obtain ⟨cl19, Ar19, q19, S19, N_19, Hs19, G19⟩ := id V14
      have hin20 : ¬ ((1 : Int32) < 0 ∨ cl19.slots.size ≤ ((1 : Int32)).toNatClampNeg) := inb_of S19 ⟨by decide, by decide⟩
      obtain ⟨T20, h20, X20, e20, W20, st20⟩ := stB X14 hx hZ e14 Ar19 (j := (1 : Int32)) hin20 (g := (mkF m 31 #[vr a1, vi 1, vr b1, vi 1, vi 3, vi 1, vi c1] [(.int (c1.toInt8.toInt32)), (.int 1), (.ref b1)])) rfl rfl (dk d7_31)
      have O21 := O15.wr W20 pr3
      have Z21 : n0 ≤ h20.size := Nat.le_trans Z15 (Keep.of_wr W20).1
      have V20 : Arv Z h20 b1 kb .byte (3 : Int32) [(.int (nar .byte (c0.toInt8.toInt32))), (.int (nar .byte (c1.toInt8.toInt32))), (.int 0)] (.int 0) := Arv.set Ar19 q19 S19 N_19 Hs19 G19 (fits_nar_byte _) W20 1 rfl (Nat.le_of_ble_eq_true rfl)
      have N20 := Fr.snoc X20 N14 pr3
      refine gz X20 12 #[vr a1, vi 2, vr b1, vi 2, vi 3, vi 2, vi c1] [(.int 2), (.ref a1)] (fun _ k => st20 _ (XS.iinc X20.here hx rfl (dk d7_32) rfl (l' := #[vr a1, vi 2, vr b1, vi 1, vi 3, vi 1, vi c1]) rfl (XS.iinc X20.here hx rfl (dk d7_35) rfl (l' := #[vr a1, vi 2, vr b1, vi 2, vi 3, vi 1, vi c1]) rfl (XS.iinc X20.here hx rfl (dk d7_38) rfl (l' := #[vr a1, vi 2, vr b1, vi 2, vi 3, vi 2, vi c1]) rfl (gT X20 hx 41 3 rfl (dk d7_41) (lI X20 hx (dk d7_3) rfl (lI X20 hx (dk d7_5) rfl (cN X20 hx (dk d7_7) rfl (tlt (by decide)).2.1 (aN X20 hx (dk d7_10) rfl rfl (lN X20 hx (dk d7_11) rfl k)))))))))) ?_
      have f23 := ((pr1.other W14 pr4).other W20 pr4)
      obtain ⟨cl22, Ar22, q22, S22, N_22, Hs22, G22⟩ := id f23
      have hin24 : ¬ ((2 : Int32) < 0 ∨ cl22.slots.size ≤ ((2 : Int32)).toNatClampNeg) := inb_of S22 ⟨by decide, by decide⟩
      have hat24 : cl22.slots[((2 : Int32)).toNatClampNeg]? = some (.int c2) := Hs22.at hin24 rfl
      refine gz X20 13 #[vr a1, vi 2, vr b1, vi 2, vi 3, vi 2, vi c1] [(.int c2)] (fun _ k => X20.caload hx (j := (2 : Int32)) (v := (.int c2)) (by rw [e20]; exact Ar22.1) (State.isArrayOf_alike hZ.alike Ar22.2.1) Ar22.2.2 hin24 hat24 (g := (mkF m 12 #[vr a1, vi 2, vr b1, vi 2, vi 3, vi 2, vi c1] [(.int 2), (.ref a1)])) rfl rfl (dk d7_12) _ k) ?_
      refine gz X20 20 #[vr a1, vi 2, vr b1, vi 2, vi 3, vi 2, vi c2] [(.int 255), (.int c2)] (fun _ k => sI X20 hx (dk d7_13) rfl rfl (.inr ⟨_, rfl, rfl⟩) (lI X20 hx (dk d7_15) rfl (XS.sipush X20.here hx rfl (dk d7_17) k))) ?_
      by_cases c25 : (255 : Int32) < c2
      · skip
        refine gz X20 25 #[vr a1, vi 2, vr b1, vi 2, vi 3, vi 2, vi c2] [(.int 2)] (fun _ k => cN X20 hx (dk d7_20) rfl (tlt c25).2.2.2 (lI X20 hx (dk d7_23) rfl k)) ?_
        refine Go.retJ X20 hx hlk (t := .int) hret (dk d7_25) ?_
        rw [e20]
        exact ⟨N20, (2 : Int32), rfl, (((Keep.refl h0 [b1]).wr W14 (Or.inl (List.mem_of_getElem? (i := 0) rfl))).wr W20 (Or.inl (List.mem_of_getElem? (i := 0) rfl))), (fun q => absurd q (by decide)), (Or.inr (Or.inr (Or.inr ⟨rfl, c25⟩)))⟩
      · skip
        refine gz X20 31 #[vr a1, vi 2, vr b1, vi 2, vi 3, vi 2, vi c2] [(.int (c2.toInt8.toInt32)), (.int 2), (.ref b1)] (fun _ k => cY X20 hx 20 26 rfl (dk d7_20) rfl (flt c25).2.2.2 (aN X20 hx (dk d7_26) rfl rfl (lN X20 hx (dk d7_27) rfl (lI X20 hx (dk d7_28) rfl (XS.i2b X20.here hx rfl (dk d7_30) rfl k))))) ?_
        obtain ⟨cl26, Ar26, q26, S26, N_26, Hs26, G26⟩ := id V20
        have hin27 : ¬ ((2 : Int32) < 0 ∨ cl26.slots.size ≤ ((2 : Int32)).toNatClampNeg) := inb_of S26 ⟨by decide, by decide⟩
        obtain ⟨T27, h27, X27, e27, W27, st27⟩ := stB X20 hx hZ e20 Ar26 (j := (2 : Int32)) hin27 (g := (mkF m 31 #[vr a1, vi 2, vr b1, vi 2, vi 3, vi 2, vi c2] [(.int (c2.toInt8.toInt32)), (.int 2), (.ref b1)])) rfl rfl (dk d7_31)
        have O28 := O21.wr W27 pr3
        have Z28 : n0 ≤ h27.size := Nat.le_trans Z21 (Keep.of_wr W27).1
        have V27 : Arv Z h27 b1 kb .byte (3 : Int32) [(.int (nar .byte (c0.toInt8.toInt32))), (.int (nar .byte (c1.toInt8.toInt32))), (.int (nar .byte (c2.toInt8.toInt32)))] (.int 0) := Arv.set Ar26 q26 S26 N_26 Hs26 G26 (fits_nar_byte _) W27 2 rfl (Nat.le_of_ble_eq_true rfl)
        have N27 := Fr.snoc X27 N20 pr3
        refine gz X27 46 #[vr a1, vi 3, vr b1, vi 3, vi 3, vi 3, vi c2] [(.int 3)] (fun _ k => st27 _ (XS.iinc X27.here hx rfl (dk d7_32) rfl (l' := #[vr a1, vi 3, vr b1, vi 2, vi 3, vi 2, vi c2]) rfl (XS.iinc X27.here hx rfl (dk d7_35) rfl (l' := #[vr a1, vi 3, vr b1, vi 3, vi 3, vi 2, vi c2]) rfl (XS.iinc X27.here hx rfl (dk d7_38) rfl (l' := #[vr a1, vi 3, vr b1, vi 3, vi 3, vi 3, vi c2]) rfl (gT X27 hx 41 3 rfl (dk d7_41) (lI X27 hx (dk d7_3) rfl (lI X27 hx (dk d7_5) rfl (cY X27 hx 7 44 rfl (dk d7_7) rfl (flt (by decide)).2.1 (lI X27 hx (dk d7_44) rfl k))))))))) ?_
        refine Go.retJ X27 hx hlk (t := .int) hret (dk d7_46) ?_
        rw [e27]
        exact ⟨N27, (3 : Int32), rfl, ((((Keep.refl h0 [b1]).wr W14 (Or.inl (List.mem_of_getElem? (i := 0) rfl))).wr W20 (Or.inl (List.mem_of_getElem? (i := 0) rfl))).wr W27 (Or.inl (List.mem_of_getElem? (i := 0) rfl))), (fun _ => V27), (Or.inl ⟨rfl, c12, c18, c25⟩)⟩
theorem rm_cmp3_3 {l : Launch} {Z : State} {a0 : Array Value} (hw : HW a0 Z) (a1 : Addr) (ka : ClassId) (c0 : Int32) (c1 : Int32) (c2 : Int32) (h0 : Heap) (n0 : Nat) (Z0 : n0 ≤ h0.size) (pr0 : Old Z n0 h0) (pr1 : S0 Z) (pr2 : S1 Z) (pr3 : S2 Z) (pr4 : Arv Z h0 a1 ka .char (3 : Int32) [(.int c0), (.int c1), (.int c2)] (.int 0)) (hr0 : own_rng c0) (hr1 : own_rng c1) (hr2 : own_rng c2) :
    Met l Z Y33 B20 6 (some (.array .byte)) [] ({ frames := 3, cells := 2, slots := 9, locals := 40 } : Room) #[(.ref a1), (.int 0), (.int 3)] h0 (fun vv h L => Fr n0 L ∧ ∃ b : Addr, ∃ k : ClassId, ∃ u : Bool, vv = some (.ref b) ∧ Keep h0 h [] ∧ h0.size ≤ b ∧ (u = false → ¬ (255 : Int32) < c0 ∧ ¬ (255 : Int32) < c1 ∧ ¬ (255 : Int32) < c2) ∧ (u = false → Arv Z h b k .byte (3 : Int32) [(.int (nar .byte (c0.toInt8.toInt32))), (.int (nar .byte (c1.toInt8.toInt32))), (.int (nar .byte (c2.toInt8.toInt32)))] (.int 0)) ∧ (u = true → Arv Z h b k .byte (6 : Int32) [(.int (own_b0 c0)), (.int (own_b1 c0)), (.int (own_b0 c1)), (.int (own_b1 c1)), (.int (own_b0 c2)), (.int (own_b1 c2))] (.int 0))) := by
  refine Met.enter (f0 := fun m => mkF m 0 #[vr a1, vi 0, vi 3, .unset, .unset, .unset] []) (plainFor_of_name pn4) (fun m => oe m 3) ?_
  intro p e s m below meth c s₁ hx hby hml hown hnm hret hlk hZ X0 e0
  have dk : Dk B20 c := fun h => hb hby h
  have W := @wd _ _ _ hw
  have N0 := Fr.nil n0
  refine gz X0 1 #[vr a1, vi 0, vi 3, .unset, .unset, .unset] [(.int 3)] (fun _ k => lN X0 hx (dk d6_0) rfl k) ?_
  obtain ⟨T10, h10, k10, X10, e10, E10, A10, st10⟩ := newP X0 hx hZ (W 26 rfl) e0 (g := (mkF m 1 #[vr a1, vi 0, vi 3, .unset, .unset, .unset] [(.int 3)])) rfl (dk d6_1) rfl (by decide) (cap := 3) (by decide) (by decide) (by decide) (by decide)
  obtain ⟨b10, g10⟩ : ∃ z, z = h0.size := ⟨_, rfl⟩
  rw [← g10] at A10 st10
  have sz_b10 : h0.size ≤ b10 := Nat.le_of_eq g10.symm
  have V10 : Arv Z h10 b10 k10 .byte (3 : Int32) [(.int 0), (.int 0), (.int 0)] (.int 0) := (Arv.new A10 (by decide)).pad (pad_rep [] (.int 0) 3)
  have O11 := pr0.ext E10
  have Z11 : n0 ≤ h10.size := Nat.le_trans Z0 E10.1
  refine gz X10 9 #[vr a1, vi 0, vi 3, vr b10, .unset, .unset] [(.int 3), (.int 0), (.ref b10), (.int 0), (.ref a1)] (fun _ k => st10 _ (tN X10 hx (dk d6_3) rfl rfl rfl (.inl rfl) (aN X10 hx (dk d6_4) rfl rfl (lN X10 hx (dk d6_5) rfl (aN X10 hx (dk d6_6) rfl rfl (kC X10 hx (dk d6_7) (lN X10 hx (dk d6_8) rfl k))))))) ?_
  refine goS X10 hx hZ hown (W 27 rfl) (m3 hw) 5 1 3 (rm_cmp5_3 hw a1 b10 ka k10 c0 c1 c2 h10 n0 Z11 O11 (pr4.ext E10) V10 (Nat.le_trans Z0 sz_b10) (Nat.ne_of_lt (Nat.lt_of_lt_of_le pr4.lt sz_b10))) N0 e10 pd_3 hml (dk d6_9) ?_
  rintro _ T12 L12 X12 N12 ⟨r12, rfl, K12, p12_0, p12_1⟩
  have O13 := O11.keep K12 (allS (Nat.le_trans Z0 sz_b10) all0)
  have Z13 : n0 ≤ T12.heap.size := Nat.le_trans Z11 K12.1
  rcases p12_1 with ⟨rfl, e14, e15, e16⟩ | ⟨rfl, e17⟩ | ⟨rfl, e18⟩ | ⟨rfl, e19⟩
  · skip
    have V20 := p12_0 rfl
    refine gz X12 58 #[vr a1, vi 0, vi 3, vr b10, vi 3, .unset] [(.ref b10)] (fun _ k => sI X12 hx (dk d6_12) rfl rfl (.inl rfl) (lI X12 hx (dk d6_14) rfl (lN X12 hx (dk d6_16) rfl (cY X12 hx 17 57 rfl (dk d6_17) rfl (teq (by decide)).1 (aN X12 hx (dk d6_57) rfl rfl k))))) ?_
    refine Go.retA X12 hx hlk (t := (.array .byte)) hret (dk d6_58) ?_
    exact ⟨N12, b10, k10, false, rfl, (((Keep.refl h0 []).ext E10).trans K12 (allS (Or.inr (Nat.le_trans (Nat.le_refl _) sz_b10)) all0)), (Nat.le_trans (Nat.le_refl _) sz_b10), (fun _ => ⟨e14, e15, e16⟩), (fun _ => V20), (fun q => nomatch q)⟩
  · skip
    refine gz X12 23 #[vr a1, vi 0, vi 3, vr b10, vi 0, .unset] [(.int 3), (.int 0), (.ref a1)] (fun _ k => sI X12 hx (dk d6_12) rfl rfl (.inl rfl) (lI X12 hx (dk d6_14) rfl (lN X12 hx (dk d6_16) rfl (cN X12 hx (dk d6_17) rfl (feq (by decide)).1 (aN X12 hx (dk d6_20) rfl rfl (lN X12 hx (dk d6_21) rfl (lN X12 hx (dk d6_22) rfl k))))))) ?_
    have f21 := ((pr4.ext E10).keep K12 (ninS (Nat.ne_of_lt (Nat.lt_of_lt_of_le pr4.lt sz_b10)) nin0))
    refine goS X12 hx hZ hown (W 114 rfl) (m4 hw) 3 2 9 (rm_tb_3 hw a1 ka c0 c1 c2 T12.heap n0 Z13 O13 pr1 pr2 pr3 f21) N12 rfl pd_4 hml (dk d6_23) ?_
    rintro _ T22 L22 X22 N22 ⟨b22, k22, rfl, K22, p22_0, p22_1⟩
    have O23 := O13.keep K22 all0
    have Z23 : n0 ≤ T22.heap.size := Nat.le_trans Z13 K22.1
    have sz_b22 : T12.heap.size ≤ b22 := p22_1
    refine gz X22 32 #[vr a1, vi 0, vi 3, vr b10, vi 0, vr b22] [(.int 0), (.ref b22)] (fun _ k => tI X22 hx (dk d6_26) rfl rfl rfl (.inl rfl) (aI X22 hx (dk d6_28) rfl rfl (lI X22 hx (dk d6_30) rfl k))) ?_
    refine goS X22 hx hZ hown (W 130 rfl) (m5 hw) 2 2 9 (rm_get_0 hw b22 k22 c0 (6 : Int32) [(.int (own_b0 c0)), (.int (own_b1 c0)), (.int (own_b0 c1)), (.int (own_b1 c1)), (.int (own_b0 c2)), (.int (own_b1 c2))] T22.heap n0 Z23 O23 pr1 pr2 pr3 p22_0 (by decide) (by decide) rfl rfl hr0) N22 rfl pd_5 hml (dk d6_32) ?_
    rintro _ T24 L24 X24 N24 ⟨rfl, hh24⟩
    refine gz X24 56 #[vr a1, vi 0, vi 3, vr b10, vi 0, vr b22] [(.ref b22)] (fun _ k => XS.sipush X24.here hx rfl (dk d6_35) (cY X24 hx 38 54 rfl (dk d6_38) rfl (tlt e17).2.2.1 (aI X24 hx (dk d6_54) rfl rfl k))) ?_
    refine Go.retA X24 hx hlk (t := (.array .byte)) hret (dk d6_56) ?_
    rw [hh24]
    exact ⟨N24, b22, k22, true, rfl, ((((Keep.refl h0 []).ext E10).trans K12 (allS (Or.inr (Nat.le_trans (Nat.le_refl _) sz_b10)) all0)).trans K22 all0), (Nat.le_trans (Nat.le_trans (Nat.le_trans (Nat.le_refl _) E10.1) K12.1) sz_b22), (fun q => nomatch q), (fun q => nomatch q), (fun _ => p22_0)⟩
  · skip
    refine gz X12 23 #[vr a1, vi 0, vi 3, vr b10, vi 1, .unset] [(.int 3), (.int 0), (.ref a1)] (fun _ k => sI X12 hx (dk d6_12) rfl rfl (.inl rfl) (lI X12 hx (dk d6_14) rfl (lN X12 hx (dk d6_16) rfl (cN X12 hx (dk d6_17) rfl (feq (by decide)).1 (aN X12 hx (dk d6_20) rfl rfl (lN X12 hx (dk d6_21) rfl (lN X12 hx (dk d6_22) rfl k))))))) ?_
    have f25 := ((pr4.ext E10).keep K12 (ninS (Nat.ne_of_lt (Nat.lt_of_lt_of_le pr4.lt sz_b10)) nin0))
    refine goS X12 hx hZ hown (W 114 rfl) (m4 hw) 3 2 9 (rm_tb_3 hw a1 ka c0 c1 c2 T12.heap n0 Z13 O13 pr1 pr2 pr3 f25) N12 rfl pd_4 hml (dk d6_23) ?_
    rintro _ T26 L26 X26 N26 ⟨b26, k26, rfl, K26, p26_0, p26_1⟩
    have O27 := O13.keep K26 all0
    have Z27 : n0 ≤ T26.heap.size := Nat.le_trans Z13 K26.1
    have sz_b26 : T12.heap.size ≤ b26 := p26_1
    refine gz X26 32 #[vr a1, vi 0, vi 3, vr b10, vi 1, vr b26] [(.int 1), (.ref b26)] (fun _ k => tI X26 hx (dk d6_26) rfl rfl rfl (.inl rfl) (aI X26 hx (dk d6_28) rfl rfl (lI X26 hx (dk d6_30) rfl k))) ?_
    refine goS X26 hx hZ hown (W 130 rfl) (m5 hw) 2 2 9 (rm_get_1 hw b26 k26 c1 (6 : Int32) [(.int (own_b0 c0)), (.int (own_b1 c0)), (.int (own_b0 c1)), (.int (own_b1 c1)), (.int (own_b0 c2)), (.int (own_b1 c2))] T26.heap n0 Z27 O27 pr1 pr2 pr3 p26_0 (by decide) (by decide) rfl rfl hr1) N26 rfl pd_5 hml (dk d6_32) ?_
    rintro _ T28 L28 X28 N28 ⟨rfl, hh28⟩
    refine gz X28 56 #[vr a1, vi 0, vi 3, vr b10, vi 1, vr b26] [(.ref b26)] (fun _ k => XS.sipush X28.here hx rfl (dk d6_35) (cY X28 hx 38 54 rfl (dk d6_38) rfl (tlt e18).2.2.1 (aI X28 hx (dk d6_54) rfl rfl k))) ?_
    refine Go.retA X28 hx hlk (t := (.array .byte)) hret (dk d6_56) ?_
    rw [hh28]
    exact ⟨N28, b26, k26, true, rfl, ((((Keep.refl h0 []).ext E10).trans K12 (allS (Or.inr (Nat.le_trans (Nat.le_refl _) sz_b10)) all0)).trans K26 all0), (Nat.le_trans (Nat.le_trans (Nat.le_trans (Nat.le_refl _) E10.1) K12.1) sz_b26), (fun q => nomatch q), (fun q => nomatch q), (fun _ => p26_0)⟩
  · skip
    refine gz X12 23 #[vr a1, vi 0, vi 3, vr b10, vi 2, .unset] [(.int 3), (.int 0), (.ref a1)] (fun _ k => sI X12 hx (dk d6_12) rfl rfl (.inl rfl) (lI X12 hx (dk d6_14) rfl (lN X12 hx (dk d6_16) rfl (cN X12 hx (dk d6_17) rfl (feq (by decide)).1 (aN X12 hx (dk d6_20) rfl rfl (lN X12 hx (dk d6_21) rfl (lN X12 hx (dk d6_22) rfl k))))))) ?_
    have f29 := ((pr4.ext E10).keep K12 (ninS (Nat.ne_of_lt (Nat.lt_of_lt_of_le pr4.lt sz_b10)) nin0))
    refine goS X12 hx hZ hown (W 114 rfl) (m4 hw) 3 2 9 (rm_tb_3 hw a1 ka c0 c1 c2 T12.heap n0 Z13 O13 pr1 pr2 pr3 f29) N12 rfl pd_4 hml (dk d6_23) ?_
    rintro _ T30 L30 X30 N30 ⟨b30, k30, rfl, K30, p30_0, p30_1⟩
    have O31 := O13.keep K30 all0
    have Z31 : n0 ≤ T30.heap.size := Nat.le_trans Z13 K30.1
    have sz_b30 : T12.heap.size ≤ b30 := p30_1
    refine gz X30 32 #[vr a1, vi 0, vi 3, vr b10, vi 2, vr b30] [(.int 2), (.ref b30)] (fun _ k => tI X30 hx (dk d6_26) rfl rfl rfl (.inl rfl) (aI X30 hx (dk d6_28) rfl rfl (lI X30 hx (dk d6_30) rfl k))) ?_
    refine goS X30 hx hZ hown (W 130 rfl) (m5 hw) 2 2 9 (rm_get_2 hw b30 k30 c2 (6 : Int32) [(.int (own_b0 c0)), (.int (own_b1 c0)), (.int (own_b0 c1)), (.int (own_b1 c1)), (.int (own_b0 c2)), (.int (own_b1 c2))] T30.heap n0 Z31 O31 pr1 pr2 pr3 p30_0 (by decide) (by decide) rfl rfl hr2) N30 rfl pd_5 hml (dk d6_32) ?_
    rintro _ T32 L32 X32 N32 ⟨rfl, hh32⟩
    refine gz X32 56 #[vr a1, vi 0, vi 3, vr b10, vi 2, vr b30] [(.ref b30)] (fun _ k => XS.sipush X32.here hx rfl (dk d6_35) (cY X32 hx 38 54 rfl (dk d6_38) rfl (tlt e19).2.2.1 (aI X32 hx (dk d6_54) rfl rfl k))) ?_
    refine Go.retA X32 hx hlk (t := (.array .byte)) hret (dk d6_56) ?_
    rw [hh32]
    exact ⟨N32, b30, k30, true, rfl, ((((Keep.refl h0 []).ext E10).trans K12 (allS (Or.inr (Nat.le_trans (Nat.le_refl _) sz_b10)) all0)).trans K30 all0), (Nat.le_trans (Nat.le_trans (Nat.le_trans (Nat.le_refl _) E10.1) K12.1) sz_b30), (fun q => nomatch q), (fun q => nomatch q), (fun _ => p30_0)⟩
theorem rm_sV_3 {l : Launch} {Z : State} {a0 : Array Value} (hw : HW a0 Z) (a1 : Addr) (v1 : Addr) (ka : ClassId) (c0 : Int32) (c1 : Int32) (c2 : Int32) (cs : Int32) (h0 : Heap) (n0 : Nat) (Z0 : n0 ≤ h0.size) (pr0 : Old Z n0 h0) (pr1 : S3 Z cs) (hcs : ¬ (cs = (0 : Int32))) (pr3 : S0 Z) (pr4 : S1 Z) (pr5 : S2 Z) (pr6 : XT Z h0 a1) (pr7 : Fld Z h0 a1 "java/lang/String" "value" "[B" .null) (pr8 : FC Z h0 a1 0) (pr9 : n0 ≤ a1) (pr10 : Arv Z h0 v1 ka .char (3 : Int32) [(.int c0), (.int c1), (.int c2)] (.int 0)) (hr0 : own_rng c0) (hr1 : own_rng c1) (hr2 : own_rng c2) :
    Met l Z Y13 B4 6 none [] ({ frames := 4, cells := 2, slots := 9, locals := 57 } : Room) #[(.ref a1), (.ref v1), (.int 0), (.int 3), .null] h0 (fun vv h L => Fr n0 L ∧ ∃ t : Addr, ∃ k : ClassId, ∃ u : Bool, vv = none ∧ Keep h0 h [a1] ∧ XT Z h a1 ∧ FV Z h a1 t ∧ h0.size ≤ t ∧ (u = false → ¬ (255 : Int32) < c0 ∧ ¬ (255 : Int32) < c1 ∧ ¬ (255 : Int32) < c2) ∧ (u = false → Arv Z h t k .byte (3 : Int32) [(.int (nar .byte (c0.toInt8.toInt32))), (.int (nar .byte (c1.toInt8.toInt32))), (.int (nar .byte (c2.toInt8.toInt32)))] (.int 0)) ∧ (u = true → Arv Z h t k .byte (6 : Int32) [(.int (own_b0 c0)), (.int (own_b1 c0)), (.int (own_b0 c1)), (.int (own_b1 c1)), (.int (own_b0 c2)), (.int (own_b1 c2))] (.int 0)) ∧ (u = false → FC Z h a1 0) ∧ (u = true → FC Z h a1 1)) := by
  refine Met.enter (f0 := fun m => mkF m 0 #[vr a1, vr v1, vi 0, vi 3, .val .null, .unset] []) (plainFor_of_name pn6) (fun m => oe m 1) ?_
  intro p e s m below meth c s₁ hx hby hml hown hnm hret hlk hZ X0 e0
  have dk : Dk B4 c := fun h => hb hby h
  have W := @wd _ _ _ hw
  have N0 := Fr.nil n0
  refine gz X0 1 #[vr a1, vr v1, vi 0, vi 3, .val .null, .unset] [(.ref a1)] (fun _ k => aN X0 hx (dk d4_0) rfl rfl k) ?_
  obtain ⟨T10, X10, e10, st10⟩ := initO X0 hx hZ hown (W 18 rfl) (W 19 rfl) (W 20 rfl) e0 (g := (mkF m 1 #[vr a1, vr v1, vi 0, vi 3, .val .null, .unset] [(.ref a1)])) rfl (by rw [hml]; rfl) rfl (dk d4_1) (by decide) (W := 0) (by show 2 * 0 + _ ≤ _; exact Nat.le_of_eq rfl) (by decide)
  refine gz X10 27 #[vr a1, vr v1, vi 0, vi 3, .val .null, .unset] [] (fun _ k => st10 _ (lN X10 hx (dk d4_4) rfl (fY X10 hx 5 27 rfl (dk d4_5) rfl ((if0 _ _).trans (feq (by decide)).2) k))) ?_
  obtain ⟨T11, X11, e11, st11⟩ := getS2 X10 hx hZ hown (host := "") (Or.inl (W 21 rfl)) Via.refl e10 (pr1.ext pr0.2) (g := (mkF m 27 #[vr a1, vr v1, vi 0, vi 3, .val .null, .unset] [])) rfl (dk d4_27)
  refine gz X11 36 #[vr a1, vr v1, vi 0, vi 3, .val .null, .unset] [(.int 3), (.int 0), (.ref v1)] (fun _ k => st11 _ (fN X11 hx (dk d4_30) rfl ((if0 _ _).trans (feq hcs).1) (aN X11 hx (dk d4_33) rfl rfl (lN X11 hx (dk d4_34) rfl (lN X11 hx (dk d4_35) rfl k))))) ?_
  refine goS X11 hx hZ hown (W 22 rfl) (m6 hw) 3 2 9 (rm_cmp3_3 hw v1 ka c0 c1 c2 h0 n0 Z0 pr0 pr3 pr4 pr5 pr10 hr0 hr1 hr2) N0 e11 pd_4 hml (dk d4_36) ?_
  rintro _ T12 L12 X12 N12 ⟨b12, k12, u12, rfl, K12, p12_0, p12_1, p12_2, p12_3⟩
  have O13 := pr0.keep K12 all0
  have Z13 : n0 ≤ T12.heap.size := Nat.le_trans Z0 K12.1
  have sz_b12 : h0.size ≤ b12 := p12_0
  rcases u12 with _ | _
  · skip
    have V14 := p12_2 rfl
    refine gz X12 45 #[vr a1, vr v1, vi 0, vi 3, .val .null, vr b12] [(.int 3), (.ref b12), (.ref a1)] (fun _ k => tI X12 hx (dk d4_39) rfl rfl rfl (.inl rfl) (aN X12 hx (dk d4_41) rfl rfl (aI X12 hx (dk d4_42) rfl rfl (lN X12 hx (dk d4_44) rfl k)))) ?_
    refine goS X12 hx hZ hown (W 30 rfl) (m7 hw) 2 2 9 (rm_cfal_3_0 hw b12 k12 c0 c1 c2 T12.heap n0 Z13 V14) N12 rfl pd_6 hml (dk d4_45) ?_
    rintro _ T15 L15 X15 N15 ⟨rfl, hh15⟩
    obtain ⟨T16, h16, X16, e16, W16, st16⟩ := putFN X15 hx hZ hown (W 33 rfl) Via.refl hh15 (pr8.keep K12 nin0) (pr6.keep K12) (Or.inr ⟨(W 34 rfl), rfl, hnm⟩) (W 9 rfl) (ty := .byte) (v' := (.int 0)) (by decide) rfl rfl (g := (mkF m 48 #[vr a1, vr v1, vi 0, vi 3, .val .null, vr b12] [(.int 0), (.ref a1)])) rfl rfl (dk d4_48)
    have N16 := Fr.snoc X16 N15 pr9
    have O17 := O13.wr W16 pr9
    have Z17 : n0 ≤ h16.size := Nat.le_trans Z13 (Keep.of_wr W16).1
    have F16 := (pr8.keep K12 nin0).same W16
    refine gz X16 54 #[vr a1, vr v1, vi 0, vi 3, .val .null, vr b12] [(.ref b12), (.ref a1)] (fun _ k => st16 _ (aN X16 hx (dk d4_51) rfl rfl (aI X16 hx (dk d4_52) rfl rfl k))) ?_
    have f18 := ((pr7.keep K12 nin0).other W16 (Or.inr (slot_ne (Or.inr (W 36 rfl)) (Or.inr (W 34 rfl)) (by decide) (t := (.array .byte)) (t' := .byte) (by decide) (by decide))))
    obtain ⟨T19, h19, X19, e19, W19, st19⟩ := putF X16 hx hZ hown (host := "") (Or.inl (W 35 rfl)) Via.refl e16 f18 ((pr6.keep K12).wr W16) (Or.inr ⟨(W 36 rfl), rfl, hnm⟩) (W 9 rfl) (ty := (.array .byte)) (by decide) rfl rfl (g := (mkF m 54 #[vr a1, vr v1, vi 0, vi 3, .val .null, vr b12] [(.ref b12), (.ref a1)])) rfl rfl (dk d4_54)
    have N19 := Fr.snoc X19 N16 pr9
    have O20 := O17.wr W19 pr9
    have Z20 : n0 ≤ h19.size := Nat.le_trans Z17 (Keep.of_wr W19).1
    have F19 := f18.same W19
    refine gz X19 57 #[vr a1, vr v1, vi 0, vi 3, .val .null, vr b12] [] (fun _ k => st19 _ k) ?_
    refine Go.retV X19 hx hlk hret (dk d4_57) (by decide) (by decide) ?_
    rw [e19]
    exact ⟨N19, b12, k12, false, rfl, ((((Keep.refl h0 [a1]).trans K12 all0).wr W16 (Or.inl (List.mem_of_getElem? (i := 0) rfl))).wr W19 (Or.inl (List.mem_of_getElem? (i := 0) rfl))), (((pr6.keep K12).wr W16).wr W19), F19, (Nat.le_trans (Nat.le_refl _) sz_b12), p12_1, (fun _ => ((V14.other W16 (Ne.symm (Nat.ne_of_lt (Nat.lt_of_lt_of_le pr6.lt sz_b12)))).other W19 (Ne.symm (Nat.ne_of_lt (Nat.lt_of_lt_of_le pr6.lt sz_b12))))), (fun q => nomatch q), (fun _ => (F16.other W19 (Or.inr (slot_ne (Or.inr (W 34 rfl)) (Or.inr (W 36 rfl)) (by decide) (t := .byte) (t' := (.array .byte)) (by decide) (by decide))))), (fun q => nomatch q)⟩
  · skip
    have V21 := p12_3 rfl
    refine gz X12 45 #[vr a1, vr v1, vi 0, vi 3, .val .null, vr b12] [(.int 3), (.ref b12), (.ref a1)] (fun _ k => tI X12 hx (dk d4_39) rfl rfl rfl (.inl rfl) (aN X12 hx (dk d4_41) rfl rfl (aI X12 hx (dk d4_42) rfl rfl (lN X12 hx (dk d4_44) rfl k)))) ?_
    refine goS X12 hx hZ hown (W 30 rfl) (m7 hw) 2 2 9 (rm_cfal_3_1 hw b12 k12 c0 c1 c2 T12.heap n0 Z13 V21) N12 rfl pd_6 hml (dk d4_45) ?_
    rintro _ T22 L22 X22 N22 ⟨rfl, hh22⟩
    obtain ⟨T23, h23, X23, e23, W23, st23⟩ := putFN X22 hx hZ hown (W 33 rfl) Via.refl hh22 (pr8.keep K12 nin0) (pr6.keep K12) (Or.inr ⟨(W 34 rfl), rfl, hnm⟩) (W 9 rfl) (ty := .byte) (v' := (.int 1)) (by decide) rfl rfl (g := (mkF m 48 #[vr a1, vr v1, vi 0, vi 3, .val .null, vr b12] [(.int 1), (.ref a1)])) rfl rfl (dk d4_48)
    have N23 := Fr.snoc X23 N22 pr9
    have O24 := O13.wr W23 pr9
    have Z24 : n0 ≤ h23.size := Nat.le_trans Z13 (Keep.of_wr W23).1
    have F23 := (pr8.keep K12 nin0).same W23
    refine gz X23 54 #[vr a1, vr v1, vi 0, vi 3, .val .null, vr b12] [(.ref b12), (.ref a1)] (fun _ k => st23 _ (aN X23 hx (dk d4_51) rfl rfl (aI X23 hx (dk d4_52) rfl rfl k))) ?_
    have f25 := ((pr7.keep K12 nin0).other W23 (Or.inr (slot_ne (Or.inr (W 36 rfl)) (Or.inr (W 34 rfl)) (by decide) (t := (.array .byte)) (t' := .byte) (by decide) (by decide))))
    obtain ⟨T26, h26, X26, e26, W26, st26⟩ := putF X23 hx hZ hown (host := "") (Or.inl (W 35 rfl)) Via.refl e23 f25 ((pr6.keep K12).wr W23) (Or.inr ⟨(W 36 rfl), rfl, hnm⟩) (W 9 rfl) (ty := (.array .byte)) (by decide) rfl rfl (g := (mkF m 54 #[vr a1, vr v1, vi 0, vi 3, .val .null, vr b12] [(.ref b12), (.ref a1)])) rfl rfl (dk d4_54)
    have N26 := Fr.snoc X26 N23 pr9
    have O27 := O24.wr W26 pr9
    have Z27 : n0 ≤ h26.size := Nat.le_trans Z24 (Keep.of_wr W26).1
    have F26 := f25.same W26
    refine gz X26 57 #[vr a1, vr v1, vi 0, vi 3, .val .null, vr b12] [] (fun _ k => st26 _ k) ?_
    refine Go.retV X26 hx hlk hret (dk d4_57) (by decide) (by decide) ?_
    rw [e26]
    exact ⟨N26, b12, k12, true, rfl, ((((Keep.refl h0 [a1]).trans K12 all0).wr W23 (Or.inl (List.mem_of_getElem? (i := 0) rfl))).wr W26 (Or.inl (List.mem_of_getElem? (i := 0) rfl))), (((pr6.keep K12).wr W23).wr W26), F26, (Nat.le_trans (Nat.le_refl _) sz_b12), (fun q => nomatch q), (fun q => nomatch q), (fun _ => ((V21.other W23 (Ne.symm (Nat.ne_of_lt (Nat.lt_of_lt_of_le pr6.lt sz_b12)))).other W26 (Ne.symm (Nat.ne_of_lt (Nat.lt_of_lt_of_le pr6.lt sz_b12))))), (fun q => nomatch q), (fun _ => (F23.other W26 (Or.inr (slot_ne (Or.inr (W 34 rfl)) (Or.inr (W 36 rfl)) (by decide) (t := .byte) (t' := (.array .byte)) (by decide) (by decide)))))⟩
theorem rm_sC_3 {l : Launch} {Z : State} {a0 : Array Value} (hw : HW a0 Z) (a1 : Addr) (v1 : Addr) (ka : ClassId) (c0 : Int32) (c1 : Int32) (c2 : Int32) (cs : Int32) (h0 : Heap) (n0 : Nat) (Z0 : n0 ≤ h0.size) (pr0 : Old Z n0 h0) (pr1 : S3 Z cs) (hcs : ¬ (cs = (0 : Int32))) (pr3 : S0 Z) (pr4 : S1 Z) (pr5 : S2 Z) (pr6 : XT Z h0 a1) (pr7 : Fld Z h0 a1 "java/lang/String" "value" "[B" .null) (pr8 : FC Z h0 a1 0) (pr9 : n0 ≤ a1) (pr10 : Arv Z h0 v1 ka .char (3 : Int32) [(.int c0), (.int c1), (.int c2)] (.int 0)) (hr0 : own_rng c0) (hr1 : own_rng c1) (hr2 : own_rng c2) :
    Met l Z Y12 B11 2 none [] ({ frames := 5, cells := 2, slots := 9, locals := 74 } : Room) #[(.ref a1), (.ref v1)] h0 (fun vv h L => Fr n0 L ∧ ∃ t : Addr, ∃ k : ClassId, ∃ u : Bool, vv = none ∧ Keep h0 h [a1] ∧ XT Z h a1 ∧ FV Z h a1 t ∧ h0.size ≤ t ∧ (u = false → ¬ (255 : Int32) < c0 ∧ ¬ (255 : Int32) < c1 ∧ ¬ (255 : Int32) < c2) ∧ (u = false → Arv Z h t k .byte (3 : Int32) [(.int (nar .byte (c0.toInt8.toInt32))), (.int (nar .byte (c1.toInt8.toInt32))), (.int (nar .byte (c2.toInt8.toInt32)))] (.int 0)) ∧ (u = true → Arv Z h t k .byte (6 : Int32) [(.int (own_b0 c0)), (.int (own_b1 c0)), (.int (own_b0 c1)), (.int (own_b1 c1)), (.int (own_b0 c2)), (.int (own_b1 c2))] (.int 0)) ∧ (u = false → FC Z h a1 0) ∧ (u = true → FC Z h a1 1)) := by
  refine Met.enter (f0 := fun m => mkF m 0 #[vr a1, vr v1] []) (plainFor_of_name pn6) (fun m => oe m 0) ?_
  intro p e s m below meth c s₁ hx hby hml hown hnm hret hlk hZ X0 e0
  have dk : Dk B11 c := fun h => hb hby h
  have W := @wd _ _ _ hw
  have N0 := Fr.nil n0
  refine gz X0 4 #[vr a1, vr v1] [(.ref v1), (.int 0), (.ref v1), (.ref a1)] (fun _ k => aN X0 hx (dk d3_0) rfl rfl (aN X0 hx (dk d3_1) rfl rfl (kC X0 hx (dk d3_2) (aN X0 hx (dk d3_3) rfl rfl k)))) ?_
  obtain ⟨cl10, Ar10, q10, S10, N_10, Hs10, G10⟩ := id pr10
  refine gz X0 5 #[vr a1, vr v1] [(.int 3), (.int 0), (.ref v1), (.ref a1)] (fun _ k => X0.arraylength hx (by rw [e0]; exact Ar10.1) (State.isArrayOf_alike hZ.alike Ar10.2.1) (g := (mkF m 4 #[vr a1, vr v1] [(.ref v1), (.int 0), (.ref v1), (.ref a1)])) rfl rfl (dk d3_4) _ (by rw [len_of S10 N_10]; exact k)) ?_
  refine gz X0 6 #[vr a1, vr v1] [.null, (.int 3), (.int 0), (.ref v1), (.ref a1)] (fun _ k => XS.aconstNull X0.here hx rfl (dk d3_5) k) ?_
  refine goI X0 hx hZ hown (W 14 rfl) (m8 hw) 4 2 9 (rm_sV_3 hw a1 v1 ka c0 c1 c2 cs h0 n0 Z0 pr0 pr1 hcs pr3 pr4 pr5 pr6 pr7 pr8 pr9 pr10 hr0 hr1 hr2) N0 e0 pd_7 hml (dk d3_6) ?_
  rintro _ T11 L11 X11 N11 ⟨t11, k11, u11, rfl, K11, p11_0, p11_1, p11_2, p11_3, p11_4, p11_5, p11_6, p11_7⟩
  have O12 := pr0.keep K11 (allS pr9 all0)
  have Z12 : n0 ≤ T11.heap.size := Nat.le_trans Z0 K11.1
  have sz_t11 : h0.size ≤ t11 := p11_2
  refine gz X11 9 #[vr a1, vr v1] [] (fun _ k => k) ?_
  refine Go.retV X11 hx hlk hret (dk d3_9) (by decide) (by decide) ?_
  exact ⟨N11, t11, k11, u11, rfl, ((Keep.refl h0 [a1]).trans K11 (allS (Or.inl (List.mem_of_getElem? (i := 0) rfl)) all0)), p11_0, p11_1, (Nat.le_trans (Nat.le_refl _) sz_t11), p11_3, p11_4, p11_5, p11_6, p11_7⟩
theorem d4_8 : DK B4 8 (.aload_n 0) 1 := by decide +kernel
theorem d4_9 : DK B4 9 (.ldc 7) 2 := by decide +kernel
theorem d4_11 : DK B4 11 (.getfield 9) 3 := by decide +kernel
theorem d4_14 : DK B4 14 (.putfield 9) 3 := by decide +kernel
theorem d4_17 : DK B4 17 (.aload_n 0) 1 := by decide +kernel
theorem d4_18 : DK B4 18 (.ldc 7) 2 := by decide +kernel
theorem d4_20 : DK B4 20 (.getfield 15) 3 := by decide +kernel
theorem d4_23 : DK B4 23 (.putfield 15) 3 := by decide +kernel
theorem d4_26 : DK B4 26 .return_ 1 := by decide +kernel
def Q_rm_sV_0 (Z : State) (a1 : Addr) (v1 : Addr) (h0 : Heap) (n0 : Nat) (vv : Option Value) (h : Heap) (L : List Loc) : Prop := Fr n0 L ∧ ∃ t : Addr, ∃ k : ClassId, vv = none ∧ Keep h0 h [a1] ∧ XT Z h a1 ∧ FV Z h a1 t ∧ FC Z h a1 0 ∧ Arv Z h t k .byte (0 : Int32) [] (.int 0)
theorem rm_sV_0 {l : Launch} {Z : State} {a0 : Array Value} (hw : HW a0 Z) (a1 : Addr) (v1 : Addr) (h0 : Heap) (n0 : Nat) (Z0 : n0 ≤ h0.size) (pr0 : Old Z n0 h0) (pr1 : XT Z h0 a1) (pr2 : Fld Z h0 a1 "java/lang/String" "value" "[B" .null) (pr3 : FC Z h0 a1 0) (pr4 : n0 ≤ a1) :
    MetS l Z own_EL Y13 B4 6 none [] ({ frames := 1, cells := 2, slots := 4, locals := 12 } : Room) #[(.ref a1), (.ref v1), (.int 0), (.int 0), .null] h0 (Q_rm_sV_0 Z a1 v1 h0 n0) := by
  refine MetS.enter (f0 := fun m => mkF m 0 #[vr a1, vr v1, vi 0, vi 0, .val .null, .unset] []) (plainFor_of_name pn6) (fun m => oe m 1) ?_
  intro p e s m below meth c s₁ hx hby hml hown hnm hret hlk hZ X0 e0 hS C0
  have dk : Dk B4 c := fun h => hb hby h
  have W := @wd _ _ _ hw
  have N0 := Fr.nil n0
  have hk : h0.size ≤ h0.size := Nat.le_refl _
  have hEL : EW Z a0 own_EL := own_hEL hw
  have wS : ∀ a ∈ Bundle.stringAtoms, a.before a0 Z = true := own_wS hw
  have Sf0_a1 : Safe Z own_EL s.vm h0 a1 := own_safe0 hZ.alike pr1 pr2
  refine gz X0 1 #[vr a1, vr v1, vi 0, vi 0, .val .null, .unset] [(.ref a1)] (fun _ k => aN X0 hx (dk d4_0) rfl rfl k) ?_
  obtain ⟨T10, X10, e10, st10⟩ := initO X0 hx hZ hown (W 18 rfl) (W 19 rfl) (W 20 rfl) e0 (g := (mkF m 1 #[vr a1, vr v1, vi 0, vi 0, .val .null, .unset] [(.ref a1)])) rfl (by rw [hml]; rfl) rfl (dk d4_1) (by decide) (W := 0) (by show 2 * 0 + _ ≤ _; exact Nat.le_of_eq rfl) (by decide)
  refine gz X10 9 #[vr a1, vr v1, vi 0, vi 0, .val .null, .unset] [(.ref a1)] (fun _ k => st10 _ (lN X10 hx (dk d4_4) rfl (fN X10 hx (dk d4_5) rfl ((if0 _ _).trans (teq (by decide)).2) (aN X10 hx (dk d4_8) rfl rfl k)))) ?_
  obtain ⟨la11, T11, h11, k111, lb11, kk11, X11, e11, E11, hS, hk, hZ, hown, EA11, FC11, FV11, VA11, -, -, CS11, LI11, SN11, st11⟩ := ldcCH (vs := []) (z := (0 : Int32)) X10 hx hZ hown (W 113 rfl) wS e10 hS hk hEL (by decide) C0.1 ⟨by decide, by decide⟩ (by decide) rfl (g := (mkF m 9 #[vr a1, vr v1, vi 0, vi 0, .val .null, .unset] [(.ref a1)])) rfl (dk d4_9) (n := 0) (by decide) (by decide) (by decide) (by decide)
  have Sf12_a1 := CHr.safe CS11 pr1.lt Sf0_a1
  have C12 := C0.trans CS11
  have O12 := pr0.ext E11
  have Z12 : n0 ≤ h11.size := Nat.le_trans Z0 E11.1
  refine gz X11 11 #[vr a1, vr v1, vi 0, vi 0, .val .null, .unset] [(.ref la11), (.ref a1)] (fun _ k => st11 _ k) ?_
  obtain ⟨T13, X13, e13, st13⟩ := getF X11 hx hZ hown (host := "") (Or.inl (W 35 rfl)) Via.refl e11 FV11 (g := (mkF m 11 #[vr a1, vr v1, vi 0, vi 0, .val .null, .unset] [(.ref la11), (.ref a1)])) rfl rfl (dk d4_11)
  refine gz X13 14 #[vr a1, vr v1, vi 0, vi 0, .val .null, .unset] [(.ref lb11), (.ref a1)] (fun _ k => st13 _ k) ?_
  obtain ⟨T14, h14, X14, e14, W14, st14⟩ := putF X13 hx hZ hown (host := "") (Or.inl (W 35 rfl)) Via.refl e13 (pr2.ext E11) (pr1.ext E11) (Or.inr ⟨(W 36 rfl), rfl, hnm⟩) (W 9 rfl) (ty := (.array .byte)) (by decide) rfl rfl (g := (mkF m 14 #[vr a1, vr v1, vi 0, vi 0, .val .null, .unset] [(.ref lb11), (.ref a1)])) rfl rfl (dk d4_14)
  have N14 := Fr.snoc X14 N0 pr4
  have Sf15_a1 := Safe.wr W14 Sf12_a1 C12.1 Sf12_a1
  have C15 := C12.trans (CHr.wr W14 Sf12_a1 C12.1)
  have O15 := O12.wr W14 pr4
  have Z15 : n0 ≤ h14.size := Nat.le_trans Z12 (Keep.of_wr W14).1
  have F14 := (pr2.ext E11).same W14
  refine gz X14 18 #[vr a1, vr v1, vi 0, vi 0, .val .null, .unset] [(.ref a1)] (fun _ k => st14 _ (aN X14 hx (dk d4_17) rfl rfl k)) ?_
  refine Go.by (B := (T14.setTop (mkF m 20 #[vr a1, vr v1, vi 0, vi 0, .val .null, .unset] [(.ref la11), (.ref a1)]))) (ldcAgain X14 hx hZ hown (W 113 rfl) LI11 (g := (mkF m 18 #[vr a1, vr v1, vi 0, vi 0, .val .null, .unset] [(.ref a1)])) rfl (dk d4_18)) ?_
  have f16 := (FC11.other W14 (Or.inl (Ne.symm (SN11 _ Sf12_a1).1)))
  obtain ⟨T17, X17, e17, st17⟩ := getF X14 hx hZ hown (host := "") (Or.inl (W 33 rfl)) Via.refl e14 f16 (g := (mkF m 20 #[vr a1, vr v1, vi 0, vi 0, .val .null, .unset] [(.ref la11), (.ref a1)])) rfl rfl (dk d4_20)
  refine gz X17 23 #[vr a1, vr v1, vi 0, vi 0, .val .null, .unset] [(.int 0), (.ref a1)] (fun _ k => st17 _ k) ?_
  have f18 := ((pr3.ext E11).other W14 (Or.inr (slot_ne (Or.inr (W 34 rfl)) (Or.inr (W 36 rfl)) (by decide) (t := .byte) (t' := (.array .byte)) (by decide) (by decide))))
  obtain ⟨T19, h19, X19, e19, W19, st19⟩ := putFN X17 hx hZ hown (W 33 rfl) Via.refl e17 f18 ((pr1.ext E11).wr W14) (Or.inr ⟨(W 34 rfl), rfl, hnm⟩) (W 9 rfl) (ty := .byte) (v' := (.int 0)) (by decide) rfl rfl (g := (mkF m 23 #[vr a1, vr v1, vi 0, vi 0, .val .null, .unset] [(.int 0), (.ref a1)])) rfl rfl (dk d4_23)
  have N19 := Fr.snoc X19 N14 pr4
  have Sf20_a1 := Safe.wr W19 Sf15_a1 C15.1 Sf15_a1
  have C20 := C15.trans (CHr.wr W19 Sf15_a1 C15.1)
  have O20 := O15.wr W19 pr4
  have Z20 : n0 ≤ h19.size := Nat.le_trans Z15 (Keep.of_wr W19).1
  have F19 := f18.same W19
  refine gz X19 26 #[vr a1, vr v1, vi 0, vi 0, .val .null, .unset] [] (fun _ k => st19 _ k) ?_
  have hkE21 : _ ≤ T19.heap.size := (by rw [e19]; exact (Nat.le_trans (Nat.le_trans hk (Keep.of_wr W14).1) (Keep.of_wr W19).1))
  have CE21 : CHr Z own_EL s.vm s.heap T11.vm T19.heap := (by rw [e19]; exact C20)
  refine Go.retVS X19 hx hlk hS hkE21 hZ hEL CE21 hret (dk d4_26) (by decide) (by decide) ?_
  rw [e19]
  exact ⟨N19, lb11, kk11, rfl, ((((Keep.refl h0 [a1]).ext E11).wr W14 (Or.inl (List.mem_of_getElem? (i := 0) rfl))).wr W19 (Or.inl (List.mem_of_getElem? (i := 0) rfl))), (((pr1.ext E11).wr W14).wr W19), (F14.other W19 (Or.inr (slot_ne (Or.inr (W 36 rfl)) (Or.inr (W 34 rfl)) (by decide) (t := (.array .byte)) (t' := .byte) (by decide) (by decide)))), F19, ((VA11.other W14 (Ne.symm (SN11 _ Sf12_a1).2)).other W19 (Ne.symm (SN11 _ Sf12_a1).2))⟩
def Q_rm_sC_0 (Z : State) (a1 : Addr) (v1 : Addr) (ka : ClassId) (h0 : Heap) (n0 : Nat) (vv : Option Value) (h : Heap) (L : List Loc) : Prop := Fr n0 L ∧ ∃ t : Addr, ∃ k : ClassId, vv = none ∧ Keep h0 h [a1] ∧ XT Z h a1 ∧ FV Z h a1 t ∧ FC Z h a1 0 ∧ Arv Z h t k .byte (0 : Int32) [] (.int 0)
theorem rm_sC_0 {l : Launch} {Z : State} {a0 : Array Value} (hw : HW a0 Z) (a1 : Addr) (v1 : Addr) (ka : ClassId) (h0 : Heap) (n0 : Nat) (Z0 : n0 ≤ h0.size) (pr0 : Old Z n0 h0) (pr1 : XT Z h0 a1) (pr2 : Fld Z h0 a1 "java/lang/String" "value" "[B" .null) (pr3 : FC Z h0 a1 0) (pr4 : n0 ≤ a1) (pr5 : Arv Z h0 v1 ka .char (0 : Int32) [] (.int 0)) :
    MetS l Z own_EL Y12 B11 2 none [] ({ frames := 2, cells := 2, slots := 4, locals := 29 } : Room) #[(.ref a1), (.ref v1)] h0 (Q_rm_sC_0 Z a1 v1 ka h0 n0) := by
  refine MetS.enter (f0 := fun m => mkF m 0 #[vr a1, vr v1] []) (plainFor_of_name pn6) (fun m => oe m 0) ?_
  intro p e s m below meth c s₁ hx hby hml hown hnm hret hlk hZ X0 e0 hS C0
  have dk : Dk B11 c := fun h => hb hby h
  have W := @wd _ _ _ hw
  have N0 := Fr.nil n0
  have hk : h0.size ≤ h0.size := Nat.le_refl _
  have hEL : EW Z a0 own_EL := own_hEL hw
  have wS : ∀ a ∈ Bundle.stringAtoms, a.before a0 Z = true := own_wS hw
  refine gz X0 4 #[vr a1, vr v1] [(.ref v1), (.int 0), (.ref v1), (.ref a1)] (fun _ k => aN X0 hx (dk d3_0) rfl rfl (aN X0 hx (dk d3_1) rfl rfl (kC X0 hx (dk d3_2) (aN X0 hx (dk d3_3) rfl rfl k)))) ?_
  obtain ⟨cl10, Ar10, q10, S10, N_10, Hs10, G10⟩ := id pr5
  refine gz X0 5 #[vr a1, vr v1] [(.int 0), (.int 0), (.ref v1), (.ref a1)] (fun _ k => X0.arraylength hx (by rw [e0]; exact Ar10.1) (State.isArrayOf_alike hZ.alike Ar10.2.1) (g := (mkF m 4 #[vr a1, vr v1] [(.ref v1), (.int 0), (.ref v1), (.ref a1)])) rfl rfl (dk d3_4) _ (by rw [len_of S10 N_10]; exact k)) ?_
  refine gz X0 6 #[vr a1, vr v1] [.null, (.int 0), (.int 0), (.ref v1), (.ref a1)] (fun _ k => XS.aconstNull X0.here hx rfl (dk d3_5) k) ?_
  have hkT11 : _ ≤ s₁.heap.size := (by rw [e0]; exact hk)
  obtain ⟨_, _, ⟨T11, L11, k11, n11⟩, -, X11, hSn11, hgr11, ⟨Lc11, hQ11, l11, y11, z11, CS11⟩, st11⟩ := X0.specialBackS hx (y := Y13) rfl hown (mvT hZ (W 14 rfl)) (mvT hZ (W 15 rfl)) (mvT hZ (W 17 rfl)) (by decide) (backOfSH (W := 0) (rm_sV_0 hw a1 v1 h0 n0 Z0 pr0 pr1 pr2 pr3 pr4) hZ (W 17 rfl) (W 10 rfl) (by decide) (by decide) hEL C0.1) (g := (mkF m 6 #[vr a1, vr v1] [.null, (.int 0), (.int 0), (.ref v1), (.ref a1)])) rfl (by rw [hml]; rfl) (Steps.refl _) (a := a1) (argsL := [(.ref v1), (.int 0), (.int 0), .null]) (rest := []) (lenOf pd_7 rfl) rfl (by show 2 * 0 + _ ≤ _; exact Nat.le_of_eq rfl) (dk d3_6) (fun _ _ => ⟨rfl, e0, Nat.le_of_ble_eq_true rfl, Nat.le_of_ble_eq_true rfl⟩)
  dsimp only [Pt.U, Pt.locs, Pt.cells, Pt.slots] at X11 l11 y11 z11 st11 hQ11 hSn11 hgr11 CS11
  subst l11 y11 z11
  obtain ⟨X11, hS, hZ, hown⟩ := rebS hS hkT11 X11 hSn11 hgr11 hZ hown
  have hk : T11.heap.size ≤ T11.heap.size := Nat.le_refl _
  obtain ⟨Nq11, t11, k11, rfl, K11, p11_0, p11_1, p11_2, p11_3⟩ := hQ11
  have N11 := Fr.app N0 Nq11
  have X11 : Stand p l e _ _ m _ below meth c T11 _ 2 4 := X11
  have C12 := C0.trans CS11
  have O12 := pr0.keep K11 (allS pr4 all0)
  have Z12 : n0 ≤ T11.heap.size := Nat.le_trans Z0 K11.1
  refine gz X11 9 #[vr a1, vr v1] [] (fun _ k => st11.trans k) ?_
  have hkE13 : _ ≤ T11.heap.size := hk
  have CE13 : CHr Z own_EL s.vm s.heap T11.vm T11.heap := C12
  refine Go.retVS X11 hx hlk hS hkE13 hZ hEL CE13 hret (dk d3_9) (by decide) (by decide) ?_
  exact ⟨N11, t11, k11, rfl, ((Keep.refl h0 [a1]).trans K11 (allS (Or.inl (List.mem_of_getElem? (i := 0) rfl)) all0)), p11_0, p11_1, p11_2, p11_3⟩
theorem d2_0 : DK B43 0 (.iload_n 1) 1 := by decide +kernel
theorem d2_1 : DK B43 1 (.ifCond .ne 14) 3 := by decide +kernel
theorem d2_4 : DK B43 4 (.new 31) 3 := by decide +kernel
theorem d2_7 : DK B43 7 .dup 1 := by decide +kernel
theorem d2_8 : DK B43 8 (.iconst 0) 1 := by decide +kernel
theorem d2_9 : DK B43 9 (.newarray .char) 2 := by decide +kernel
theorem d2_11 : DK B43 11 (.invokespecial 40) 3 := by decide +kernel
theorem pd_8 : parseMethodDescriptor "([C)V" = some ⟨[(.array .char)], none⟩ := by decide +kernel
theorem d2_14 : DK B43 14 .areturn 1 := by decide +kernel
def Q_rm_text_0 (Z : State) (a1 : Addr) (ka : ClassId) (c0 : Int32) (c1 : Int32) (c2 : Int32) (h0 : Heap) (n0 : Nat) (vv : Option Value) (h : Heap) (L : List Loc) : Prop := Fr n0 L ∧ ∃ b : Addr, ∃ t : Addr, ∃ k : ClassId, vv = some (.ref b) ∧ Keep h0 h [] ∧ XT Z h b ∧ FV Z h b t ∧ FC Z h b 0 ∧ Arv Z h t k .byte (0 : Int32) [] (.int 0) ∧ h0.size ≤ b
theorem rm_text_0 {l : Launch} {Z : State} {a0 : Array Value} (hw : HW a0 Z) (a1 : Addr) (ka : ClassId) (c0 : Int32) (c1 : Int32) (c2 : Int32) (h0 : Heap) (n0 : Nat) (Z0 : n0 ≤ h0.size) (pr0 : Old Z n0 h0) (pr1 : Arv Z h0 a1 ka .char (3 : Int32) [(.int c0), (.int c1), (.int c2)] (.int 0)) :
    MetS l Z own_EL Y4 B43 2 (some (.object "java/lang/String")) [] ({ frames := 3, cells := 4, slots := 8, locals := 43 } : Room) #[(.ref a1), (.int 0)] h0 (Q_rm_text_0 Z a1 ka c0 c1 c2 h0 n0) := by
  refine MetS.enter (f0 := fun m => mkF m 0 #[vr a1, vi 0] []) (plainFor_of_name pn0) (fun m => oe m 0) ?_
  intro p e s m below meth c s₁ hx hby hml hown hnm hret hlk hZ X0 e0 hS C0
  have dk : Dk B43 c := fun h => hb hby h
  have W := @wd _ _ _ hw
  have N0 := Fr.nil n0
  have hk : h0.size ≤ h0.size := Nat.le_refl _
  have hEL : EW Z a0 own_EL := own_hEL hw
  have wS : ∀ a ∈ Bundle.stringAtoms, a.before a0 Z = true := own_wS hw
  refine gz X0 4 #[vr a1, vi 0] [] (fun _ k => lN X0 hx (dk d2_0) rfl (fN X0 hx (dk d2_1) rfl ((if0 _ _).trans (teq (by decide)).2) k)) ?_
  obtain ⟨T10, h10, X10, e10, E10, A10, D10, -, st10⟩ := newO X0 hx hZ hown (W 8 rfl) (W 9 rfl) (W 10 rfl) e0 (g := (mkF m 4 #[vr a1, vi 0] [])) rfl (dk d2_4) (by decide) (by decide)
  obtain ⟨b10, g10⟩ : ∃ z, z = h0.size := ⟨_, rfl⟩
  rw [← g10] at A10 D10 st10
  have sz_b10 : h0.size ≤ b10 := Nat.le_of_eq g10.symm
  have C11 := C0.trans (CHr.ext E10 C0.1)
  have O11 := pr0.ext E10
  have Z11 : n0 ≤ h10.size := Nat.le_trans Z0 E10.1
  have Sf12_b10 : Safe Z own_EL s.vm h10 b10 := Safe.ext E10 C0.1 (Safe.new sz_b10)
  have F13 : FC Z h10 b10 0 := D10 (Or.inr (W 34 rfl)) (ty := .byte) (by decide)
  have F14 : Fld Z h10 b10 "java/lang/String" "value" "[B" .null := D10 (Or.inr (W 36 rfl)) (ty := (.array .byte)) (by decide)
  refine gz X10 9 #[vr a1, vi 0] [(.int 0), (.ref b10), (.ref b10)] (fun _ k => st10 _ (XS.dup X10.here hx rfl (dk d2_7) rfl rfl (kC X10 hx (dk d2_8) k))) ?_
  obtain ⟨T15, h15, k15, X15, e15, E15, A15, st15⟩ := newP X10 hx hZ (W 0 rfl) e10 (g := (mkF m 9 #[vr a1, vi 0] [(.int 0), (.ref b10), (.ref b10)])) rfl (dk d2_9) rfl (by decide) (cap := 0) (by decide) (by decide) (by decide) (by decide)
  obtain ⟨b15, g15⟩ : ∃ z, z = h10.size := ⟨_, rfl⟩
  rw [← g15] at A15 st15
  have sz_b15 : h10.size ≤ b15 := Nat.le_of_eq g15.symm
  have V15 : Arv Z h15 b15 k15 .char (0 : Int32) [] (.int 0) := (Arv.new A15 (by decide)).pad (pad_rep [] (.int 0) 0)
  have Sf16_b10 := Safe.ext E15 C11.1 Sf12_b10
  have C16 := C11.trans (CHr.ext E15 C11.1)
  have O16 := O11.ext E15
  have Z16 : n0 ≤ h15.size := Nat.le_trans Z11 E15.1
  refine gz X15 11 #[vr a1, vi 0] [(.ref b15), (.ref b10), (.ref b10)] (fun _ k => st15 _ k) ?_
  have hkT17 : _ ≤ T15.heap.size := (by rw [e15]; exact (Nat.le_trans (Nat.le_trans hk E10.1) E15.1))
  obtain ⟨_, _, ⟨T17, L17, k17, n17⟩, -, X17, hSn17, hgr17, ⟨Lc17, hQ17, l17, y17, z17, CS17⟩, st17⟩ := X15.specialBackS hx (y := Y12) rfl hown (mvT hZ (W 11 rfl)) (mvT hZ (W 12 rfl)) (mvT hZ (W 13 rfl)) (by decide) (backOfSH (W := 1) (rm_sC_0 hw b10 b15 k15 h15 n0 Z16 O16 (A10.ext E15) (F14.ext E15) (F13.ext E15) (Nat.le_trans Z0 sz_b10) V15) hZ (W 13 rfl) (W 10 rfl) (by decide) (by decide) hEL C16.1) (g := (mkF m 11 #[vr a1, vi 0] [(.ref b15), (.ref b10), (.ref b10)])) rfl (by rw [hml]; rfl) (Steps.refl _) (a := b10) (argsL := [(.ref b15)]) (rest := [(.ref b10)]) (lenOf pd_8 rfl) rfl (by show 2 * 0 + _ ≤ _; exact Nat.le_of_eq rfl) (dk d2_11) (fun _ _ => ⟨rfl, e15, Nat.le_of_ble_eq_true rfl, Nat.le_of_ble_eq_true rfl⟩)
  dsimp only [Pt.U, Pt.locs, Pt.cells, Pt.slots] at X17 l17 y17 z17 st17 hQ17 hSn17 hgr17 CS17
  subst l17 y17 z17
  obtain ⟨X17, hS, hZ, hown⟩ := rebS hS hkT17 X17 hSn17 hgr17 hZ hown
  have hk : T17.heap.size ≤ T17.heap.size := Nat.le_refl _
  obtain ⟨Nq17, t17, k17, rfl, K17, p17_0, p17_1, p17_2, p17_3⟩ := hQ17
  have N17 := Fr.app N0 Nq17
  have X17 : Stand p l e _ _ m _ below meth c T17 _ 4 8 := X17
  have Sf18_b10 := CHr.safe CS17 (A10.ext E15).lt Sf16_b10
  have C18 := C16.trans CS17
  have O18 := O16.keep K17 (allS (Nat.le_trans Z0 sz_b10) all0)
  have Z18 : n0 ≤ T17.heap.size := Nat.le_trans Z16 K17.1
  refine gz X17 14 #[vr a1, vi 0] [(.ref b10)] (fun _ k => st17.trans k) ?_
  have hkE19 : _ ≤ T17.heap.size := hk
  have CE19 : CHr Z own_EL s.vm s.heap T17.vm T17.heap := C18
  refine Go.retS X17 hx hlk hS hkE19 hZ hEL CE19 (t := (.object "java/lang/String")) hret rfl (Or.inr (Or.inr (Or.inr (Or.inr ⟨rfl, rfl, rfl⟩)))) (dk d2_14) (by decide) (by decide) ?_
  exact ⟨N17, b10, t17, k17, rfl, ((((Keep.refl h0 []).ext E10).ext E15).trans K17 (allS (Or.inr (Nat.le_trans (Nat.le_refl _) sz_b10)) all0)), p17_0, p17_1, p17_2, p17_3, (Nat.le_trans (Nat.le_refl _) sz_b10)⟩
theorem d2_15 : DK B43 15 (.iload_n 1) 1 := by decide +kernel
theorem d2_16 : DK B43 16 (.iconst 1) 1 := by decide +kernel
theorem d2_17 : DK B43 17 (.if_icmp .ne 20) 3 := by decide +kernel
theorem d2_20 : DK B43 20 (.new 31) 3 := by decide +kernel
theorem d2_23 : DK B43 23 .dup 1 := by decide +kernel
theorem d2_24 : DK B43 24 (.iconst 1) 1 := by decide +kernel
theorem d2_25 : DK B43 25 (.newarray .char) 2 := by decide +kernel
theorem d2_27 : DK B43 27 .dup 1 := by decide +kernel
theorem d2_28 : DK B43 28 (.iconst 0) 1 := by decide +kernel
theorem d2_29 : DK B43 29 (.aload_n 0) 1 := by decide +kernel
theorem d2_30 : DK B43 30 (.iconst 0) 1 := by decide +kernel
theorem d2_31 : DK B43 31 .caload 1 := by decide +kernel
theorem d2_32 : DK B43 32 .castore 1 := by decide +kernel
theorem d2_33 : DK B43 33 (.invokespecial 40) 3 := by decide +kernel
theorem m9 {Z : State} {a0 : Array Value} (hw : HW a0 Z) : (Jvm.Cond.instanceMethod Y12).before a0 Z = true ∧ (Jvm.Cond.initialized "java/lang/String").before a0 Z = true ∧ (Jvm.Cond.code Y12 B11 (2 : Nat) (Option.none : Option Jvm.ClassFile.FieldType)).before a0 Z = true := ⟨(wd hw 12 rfl), (wd hw 10 rfl), (wd hw 13 rfl)⟩
theorem d2_36 : DK B43 36 .areturn 1 := by decide +kernel
theorem rm_text_1 {l : Launch} {Z : State} {a0 : Array Value} (hw : HW a0 Z) (a1 : Addr) (ka : ClassId) (c0 : Int32) (c1 : Int32) (c2 : Int32) (cs : Int32) (h0 : Heap) (n0 : Nat) (Z0 : n0 ≤ h0.size) (pr0 : Old Z n0 h0) (pr1 : S3 Z cs) (hcs : ¬ (cs = (0 : Int32))) (pr3 : S0 Z) (pr4 : S1 Z) (pr5 : S2 Z) (pr6 : Arv Z h0 a1 ka .char (3 : Int32) [(.int c0), (.int c1), (.int c2)] (.int 0)) (hr0 : own_rng c0) (hr1 : own_rng c1) (hr2 : own_rng c2) :
    Met l Z Y4 B43 2 (some (.object "java/lang/String")) [] ({ frames := 6, cells := 4, slots := 8, locals := 88 } : Room) #[(.ref a1), (.int 1)] h0 (fun vv h L => Fr n0 L ∧ ∃ b : Addr, ∃ t : Addr, ∃ k : ClassId, vv = some (.ref b) ∧ Keep h0 h [] ∧ XT Z h b ∧ FV Z h b t ∧ h0.size ≤ b ∧ ((FC Z h b 0 ∧ Arv Z h t k .byte (1 : Int32) [(.int (nar .byte (c0.toInt8.toInt32)))] (.int 0) ∧ ¬ (255 : Int32) < c0) ∨ (FC Z h b 1 ∧ Arv Z h t k .byte (2 : Int32) [(.int (own_b0 c0)), (.int (own_b1 c0))] (.int 0)))) := by
  refine Met.enter (f0 := fun m => mkF m 0 #[vr a1, vi 1] []) (plainFor_of_name pn0) (fun m => oe m 0) ?_
  intro p e s m below meth c s₁ hx hby hml hown hnm hret hlk hZ X0 e0
  have dk : Dk B43 c := fun h => hb hby h
  have W := @wd _ _ _ hw
  have N0 := Fr.nil n0
  refine gz X0 20 #[vr a1, vi 1] [] (fun _ k => lN X0 hx (dk d2_0) rfl (fY X0 hx 1 15 rfl (dk d2_1) rfl ((if0 _ _).trans (feq (by decide)).2) (lN X0 hx (dk d2_15) rfl (kC X0 hx (dk d2_16) (cN X0 hx (dk d2_17) rfl (teq (by decide)).2 k))))) ?_
  obtain ⟨T10, h10, X10, e10, E10, A10, D10, -, st10⟩ := newO X0 hx hZ hown (W 8 rfl) (W 9 rfl) (W 10 rfl) e0 (g := (mkF m 20 #[vr a1, vi 1] [])) rfl (dk d2_20) (by decide) (by decide)
  obtain ⟨b10, g10⟩ : ∃ z, z = h0.size := ⟨_, rfl⟩
  rw [← g10] at A10 D10 st10
  have sz_b10 : h0.size ≤ b10 := Nat.le_of_eq g10.symm
  have O11 := pr0.ext E10
  have Z11 : n0 ≤ h10.size := Nat.le_trans Z0 E10.1
  have F12 : FC Z h10 b10 0 := D10 (Or.inr (W 34 rfl)) (ty := .byte) (by decide)
  have F13 : Fld Z h10 b10 "java/lang/String" "value" "[B" .null := D10 (Or.inr (W 36 rfl)) (ty := (.array .byte)) (by decide)
  refine gz X10 25 #[vr a1, vi 1] [(.int 1), (.ref b10), (.ref b10)] (fun _ k => st10 _ (XS.dup X10.here hx rfl (dk d2_23) rfl rfl (kC X10 hx (dk d2_24) k))) ?_
  obtain ⟨T14, h14, k14, X14, e14, E14, A14, st14⟩ := newP X10 hx hZ (W 0 rfl) e10 (g := (mkF m 25 #[vr a1, vi 1] [(.int 1), (.ref b10), (.ref b10)])) rfl (dk d2_25) rfl (by decide) (cap := 1) (by decide) (by decide) (by decide) (by decide)
  obtain ⟨b14, g14⟩ : ∃ z, z = h10.size := ⟨_, rfl⟩
  rw [← g14] at A14 st14
  have sz_b14 : h10.size ≤ b14 := Nat.le_of_eq g14.symm
  have V14 : Arv Z h14 b14 k14 .char (1 : Int32) [(.int 0)] (.int 0) := (Arv.new A14 (by decide)).pad (pad_rep [] (.int 0) 1)
  have O15 := O11.ext E14
  have Z15 : n0 ≤ h14.size := Nat.le_trans Z11 E14.1
  refine gz X14 31 #[vr a1, vi 1] [(.int 0), (.ref a1), (.int 0), (.ref b14), (.ref b14), (.ref b10), (.ref b10)] (fun _ k => st14 _ (XS.dup X14.here hx rfl (dk d2_27) rfl rfl (kC X14 hx (dk d2_28) (aN X14 hx (dk d2_29) rfl rfl (kC X14 hx (dk d2_30) k))))) ?_
  obtain ⟨cl16, Ar16, q16, S16, N_16, Hs16, G16⟩ := id ((pr6.ext E10).ext E14)
  have hin17 : ¬ ((0 : Int32) < 0 ∨ cl16.slots.size ≤ ((0 : Int32)).toNatClampNeg) := inb_of S16 ⟨by decide, by decide⟩
  have hat17 : cl16.slots[((0 : Int32)).toNatClampNeg]? = some (.int c0) := Hs16.at hin17 rfl
  refine gz X14 32 #[vr a1, vi 1] [(.int c0), (.int 0), (.ref b14), (.ref b14), (.ref b10), (.ref b10)] (fun _ k => X14.caload hx (j := (0 : Int32)) (v := (.int c0)) (by rw [e14]; exact Ar16.1) (State.isArrayOf_alike hZ.alike Ar16.2.1) Ar16.2.2 hin17 hat17 (g := (mkF m 31 #[vr a1, vi 1] [(.int 0), (.ref a1), (.int 0), (.ref b14), (.ref b14), (.ref b10), (.ref b10)])) rfl rfl (dk d2_31) _ k) ?_
  obtain ⟨cl18, Ar18, q18, S18, N_18, Hs18, G18⟩ := id V14
  have hin19 : ¬ ((0 : Int32) < 0 ∨ cl18.slots.size ≤ ((0 : Int32)).toNatClampNeg) := inb_of S18 ⟨by decide, by decide⟩
  obtain ⟨T19, h19, X19, e19, W19, st19⟩ := stC X14 hx hZ e14 Ar18 (j := (0 : Int32)) hin19 (g := (mkF m 32 #[vr a1, vi 1] [(.int c0), (.int 0), (.ref b14), (.ref b14), (.ref b10), (.ref b10)])) rfl rfl (dk d2_32)
  rw [own_nc hr0] at W19
  have O20 := O15.wr W19 (Nat.le_trans Z11 sz_b14)
  have Z20 : n0 ≤ h19.size := Nat.le_trans Z15 (Keep.of_wr W19).1
  have V19 : Arv Z h19 b14 k14 .char (1 : Int32) [(.int c0)] (.int 0) := Arv.set Ar18 q18 S18 N_18 Hs18 G18 (own_fc hr0) W19 0 rfl (Nat.le_of_ble_eq_true rfl)
  have N19 := Fr.snoc X19 N0 (Nat.le_trans Z11 sz_b14)
  refine gz X19 33 #[vr a1, vi 1] [(.ref b14), (.ref b10), (.ref b10)] (fun _ k => st19 _ k) ?_
  have f21 := ((F13.ext E14).other W19 (Or.inl (Nat.ne_of_lt (Nat.lt_of_lt_of_le A10.lt sz_b14))))
  have f22 := ((F12.ext E14).other W19 (Or.inl (Nat.ne_of_lt (Nat.lt_of_lt_of_le A10.lt sz_b14))))
  refine goI X19 hx hZ hown (W 11 rfl) (m9 hw) 1 4 8 (rm_sC_1 hw b10 b14 k14 c0 cs h19 n0 Z20 O20 pr1 hcs pr3 pr4 pr5 ((A10.ext E14).wr W19) f21 f22 (Nat.le_trans Z0 sz_b10) V19 hr0) N19 e19 pd_8 hml (dk d2_33) ?_
  rintro _ T23 L23 X23 N23 ⟨t23, k23, u23, rfl, K23, p23_0, p23_1, p23_2, p23_3, p23_4, p23_5, p23_6, p23_7⟩
  have O24 := O20.keep K23 (allS (Nat.le_trans Z0 sz_b10) all0)
  have Z24 : n0 ≤ T23.heap.size := Nat.le_trans Z20 K23.1
  have sz_t23 : h19.size ≤ t23 := p23_2
  refine gz X23 36 #[vr a1, vi 1] [(.ref b10)] (fun _ k => k) ?_
  refine Go.retA X23 hx hlk (t := (.object "java/lang/String")) hret (dk d2_36) ?_
  have say25 : (FC Z T23.heap b10 0 ∧ Arv Z T23.heap t23 k23 .byte (1 : Int32) [(.int (nar .byte (c0.toInt8.toInt32)))] (.int 0) ∧ ¬ (255 : Int32) < c0) ∨ (FC Z T23.heap b10 1 ∧ Arv Z T23.heap t23 k23 .byte (2 : Int32) [(.int (own_b0 c0)), (.int (own_b1 c0))] (.int 0)) := by
    rcases u23 with _ | _
    · exact Or.inl ⟨p23_6 rfl, p23_4 rfl, p23_3 rfl⟩
    · exact Or.inr ⟨p23_7 rfl, p23_5 rfl⟩
  exact ⟨N23, b10, t23, k23, rfl, (((((Keep.refl h0 []).ext E10).ext E14).wr W19 (Or.inr (Nat.le_trans (Nat.le_trans (Nat.le_refl _) E10.1) sz_b14))).trans K23 (allS (Or.inr (Nat.le_trans (Nat.le_refl _) sz_b10)) all0)), p23_0, p23_1, (Nat.le_trans (Nat.le_refl _) sz_b10), say25⟩
theorem d2_37 : DK B43 37 (.iload_n 1) 1 := by decide +kernel
theorem d2_38 : DK B43 38 (.iconst 2) 1 := by decide +kernel
theorem d2_39 : DK B43 39 (.if_icmp .ne 26) 3 := by decide +kernel
theorem d2_42 : DK B43 42 (.new 31) 3 := by decide +kernel
theorem d2_45 : DK B43 45 .dup 1 := by decide +kernel
theorem d2_46 : DK B43 46 (.iconst 2) 1 := by decide +kernel
theorem d2_47 : DK B43 47 (.newarray .char) 2 := by decide +kernel
theorem d2_49 : DK B43 49 .dup 1 := by decide +kernel
theorem d2_50 : DK B43 50 (.iconst 0) 1 := by decide +kernel
theorem d2_51 : DK B43 51 (.aload_n 0) 1 := by decide +kernel
theorem d2_52 : DK B43 52 (.iconst 0) 1 := by decide +kernel
theorem d2_53 : DK B43 53 .caload 1 := by decide +kernel
theorem d2_54 : DK B43 54 .castore 1 := by decide +kernel
theorem d2_55 : DK B43 55 .dup 1 := by decide +kernel
theorem d2_56 : DK B43 56 (.iconst 1) 1 := by decide +kernel
theorem d2_57 : DK B43 57 (.aload_n 0) 1 := by decide +kernel
theorem d2_58 : DK B43 58 (.iconst 1) 1 := by decide +kernel
theorem d2_59 : DK B43 59 .caload 1 := by decide +kernel
theorem d2_60 : DK B43 60 .castore 1 := by decide +kernel
theorem d2_61 : DK B43 61 (.invokespecial 40) 3 := by decide +kernel
theorem d2_64 : DK B43 64 .areturn 1 := by decide +kernel
theorem rm_text_2 {l : Launch} {Z : State} {a0 : Array Value} (hw : HW a0 Z) (a1 : Addr) (ka : ClassId) (c0 : Int32) (c1 : Int32) (c2 : Int32) (cs : Int32) (h0 : Heap) (n0 : Nat) (Z0 : n0 ≤ h0.size) (pr0 : Old Z n0 h0) (pr1 : S3 Z cs) (hcs : ¬ (cs = (0 : Int32))) (pr3 : S0 Z) (pr4 : S1 Z) (pr5 : S2 Z) (pr6 : Arv Z h0 a1 ka .char (3 : Int32) [(.int c0), (.int c1), (.int c2)] (.int 0)) (hr0 : own_rng c0) (hr1 : own_rng c1) (hr2 : own_rng c2) :
    Met l Z Y4 B43 2 (some (.object "java/lang/String")) [] ({ frames := 6, cells := 4, slots := 12, locals := 88 } : Room) #[(.ref a1), (.int 2)] h0 (fun vv h L => Fr n0 L ∧ ∃ b : Addr, ∃ t : Addr, ∃ k : ClassId, vv = some (.ref b) ∧ Keep h0 h [] ∧ XT Z h b ∧ FV Z h b t ∧ h0.size ≤ b ∧ ((FC Z h b 0 ∧ Arv Z h t k .byte (2 : Int32) [(.int (nar .byte (c0.toInt8.toInt32))), (.int (nar .byte (c1.toInt8.toInt32)))] (.int 0) ∧ ¬ (255 : Int32) < c0 ∧ ¬ (255 : Int32) < c1) ∨ (FC Z h b 1 ∧ Arv Z h t k .byte (4 : Int32) [(.int (own_b0 c0)), (.int (own_b1 c0)), (.int (own_b0 c1)), (.int (own_b1 c1))] (.int 0)))) := by
  refine Met.enter (f0 := fun m => mkF m 0 #[vr a1, vi 2] []) (plainFor_of_name pn0) (fun m => oe m 0) ?_
  intro p e s m below meth c s₁ hx hby hml hown hnm hret hlk hZ X0 e0
  have dk : Dk B43 c := fun h => hb hby h
  have W := @wd _ _ _ hw
  have N0 := Fr.nil n0
  refine gz X0 42 #[vr a1, vi 2] [] (fun _ k => lN X0 hx (dk d2_0) rfl (fY X0 hx 1 15 rfl (dk d2_1) rfl ((if0 _ _).trans (feq (by decide)).2) (lN X0 hx (dk d2_15) rfl (kC X0 hx (dk d2_16) (cY X0 hx 17 37 rfl (dk d2_17) rfl (feq (by decide)).2 (lN X0 hx (dk d2_37) rfl (kC X0 hx (dk d2_38) (cN X0 hx (dk d2_39) rfl (teq (by decide)).2 k)))))))) ?_
  obtain ⟨T10, h10, X10, e10, E10, A10, D10, -, st10⟩ := newO X0 hx hZ hown (W 8 rfl) (W 9 rfl) (W 10 rfl) e0 (g := (mkF m 42 #[vr a1, vi 2] [])) rfl (dk d2_42) (by decide) (by decide)
  obtain ⟨b10, g10⟩ : ∃ z, z = h0.size := ⟨_, rfl⟩
  rw [← g10] at A10 D10 st10
  have sz_b10 : h0.size ≤ b10 := Nat.le_of_eq g10.symm
  have O11 := pr0.ext E10
  have Z11 : n0 ≤ h10.size := Nat.le_trans Z0 E10.1
  have F12 : FC Z h10 b10 0 := D10 (Or.inr (W 34 rfl)) (ty := .byte) (by decide)
  have F13 : Fld Z h10 b10 "java/lang/String" "value" "[B" .null := D10 (Or.inr (W 36 rfl)) (ty := (.array .byte)) (by decide)
  refine gz X10 47 #[vr a1, vi 2] [(.int 2), (.ref b10), (.ref b10)] (fun _ k => st10 _ (XS.dup X10.here hx rfl (dk d2_45) rfl rfl (kC X10 hx (dk d2_46) k))) ?_
  obtain ⟨T14, h14, k14, X14, e14, E14, A14, st14⟩ := newP X10 hx hZ (W 0 rfl) e10 (g := (mkF m 47 #[vr a1, vi 2] [(.int 2), (.ref b10), (.ref b10)])) rfl (dk d2_47) rfl (by decide) (cap := 2) (by decide) (by decide) (by decide) (by decide)
  obtain ⟨b14, g14⟩ : ∃ z, z = h10.size := ⟨_, rfl⟩
  rw [← g14] at A14 st14
  have sz_b14 : h10.size ≤ b14 := Nat.le_of_eq g14.symm
  have V14 : Arv Z h14 b14 k14 .char (2 : Int32) [(.int 0), (.int 0)] (.int 0) := (Arv.new A14 (by decide)).pad (pad_rep [] (.int 0) 2)
  have O15 := O11.ext E14
  have Z15 : n0 ≤ h14.size := Nat.le_trans Z11 E14.1
  refine gz X14 53 #[vr a1, vi 2] [(.int 0), (.ref a1), (.int 0), (.ref b14), (.ref b14), (.ref b10), (.ref b10)] (fun _ k => st14 _ (XS.dup X14.here hx rfl (dk d2_49) rfl rfl (kC X14 hx (dk d2_50) (aN X14 hx (dk d2_51) rfl rfl (kC X14 hx (dk d2_52) k))))) ?_
  obtain ⟨cl16, Ar16, q16, S16, N_16, Hs16, G16⟩ := id ((pr6.ext E10).ext E14)
  have hin17 : ¬ ((0 : Int32) < 0 ∨ cl16.slots.size ≤ ((0 : Int32)).toNatClampNeg) := inb_of S16 ⟨by decide, by decide⟩
  have hat17 : cl16.slots[((0 : Int32)).toNatClampNeg]? = some (.int c0) := Hs16.at hin17 rfl
  refine gz X14 54 #[vr a1, vi 2] [(.int c0), (.int 0), (.ref b14), (.ref b14), (.ref b10), (.ref b10)] (fun _ k => X14.caload hx (j := (0 : Int32)) (v := (.int c0)) (by rw [e14]; exact Ar16.1) (State.isArrayOf_alike hZ.alike Ar16.2.1) Ar16.2.2 hin17 hat17 (g := (mkF m 53 #[vr a1, vi 2] [(.int 0), (.ref a1), (.int 0), (.ref b14), (.ref b14), (.ref b10), (.ref b10)])) rfl rfl (dk d2_53) _ k) ?_
  obtain ⟨cl18, Ar18, q18, S18, N_18, Hs18, G18⟩ := id V14
  have hin19 : ¬ ((0 : Int32) < 0 ∨ cl18.slots.size ≤ ((0 : Int32)).toNatClampNeg) := inb_of S18 ⟨by decide, by decide⟩
  obtain ⟨T19, h19, X19, e19, W19, st19⟩ := stC X14 hx hZ e14 Ar18 (j := (0 : Int32)) hin19 (g := (mkF m 54 #[vr a1, vi 2] [(.int c0), (.int 0), (.ref b14), (.ref b14), (.ref b10), (.ref b10)])) rfl rfl (dk d2_54)
  rw [own_nc hr0] at W19
  have O20 := O15.wr W19 (Nat.le_trans Z11 sz_b14)
  have Z20 : n0 ≤ h19.size := Nat.le_trans Z15 (Keep.of_wr W19).1
  have V19 : Arv Z h19 b14 k14 .char (2 : Int32) [(.int c0), (.int 0)] (.int 0) := Arv.set Ar18 q18 S18 N_18 Hs18 G18 (own_fc hr0) W19 0 rfl (Nat.le_of_ble_eq_true rfl)
  have N19 := Fr.snoc X19 N0 (Nat.le_trans Z11 sz_b14)
  refine gz X19 59 #[vr a1, vi 2] [(.int 1), (.ref a1), (.int 1), (.ref b14), (.ref b14), (.ref b10), (.ref b10)] (fun _ k => st19 _ (XS.dup X19.here hx rfl (dk d2_55) rfl rfl (kC X19 hx (dk d2_56) (aN X19 hx (dk d2_57) rfl rfl (kC X19 hx (dk d2_58) k))))) ?_
  have f22 := (((pr6.ext E10).ext E14).other W19 (Nat.ne_of_lt (Nat.lt_of_lt_of_le (pr6.ext E10).lt sz_b14)))
  obtain ⟨cl21, Ar21, q21, S21, N_21, Hs21, G21⟩ := id f22
  have hin23 : ¬ ((1 : Int32) < 0 ∨ cl21.slots.size ≤ ((1 : Int32)).toNatClampNeg) := inb_of S21 ⟨by decide, by decide⟩
  have hat23 : cl21.slots[((1 : Int32)).toNatClampNeg]? = some (.int c1) := Hs21.at hin23 rfl
  refine gz X19 60 #[vr a1, vi 2] [(.int c1), (.int 1), (.ref b14), (.ref b14), (.ref b10), (.ref b10)] (fun _ k => X19.caload hx (j := (1 : Int32)) (v := (.int c1)) (by rw [e19]; exact Ar21.1) (State.isArrayOf_alike hZ.alike Ar21.2.1) Ar21.2.2 hin23 hat23 (g := (mkF m 59 #[vr a1, vi 2] [(.int 1), (.ref a1), (.int 1), (.ref b14), (.ref b14), (.ref b10), (.ref b10)])) rfl rfl (dk d2_59) _ k) ?_
  obtain ⟨cl24, Ar24, q24, S24, N_24, Hs24, G24⟩ := id V19
  have hin25 : ¬ ((1 : Int32) < 0 ∨ cl24.slots.size ≤ ((1 : Int32)).toNatClampNeg) := inb_of S24 ⟨by decide, by decide⟩
  obtain ⟨T25, h25, X25, e25, W25, st25⟩ := stC X19 hx hZ e19 Ar24 (j := (1 : Int32)) hin25 (g := (mkF m 60 #[vr a1, vi 2] [(.int c1), (.int 1), (.ref b14), (.ref b14), (.ref b10), (.ref b10)])) rfl rfl (dk d2_60)
  rw [own_nc hr1] at W25
  have O26 := O20.wr W25 (Nat.le_trans Z11 sz_b14)
  have Z26 : n0 ≤ h25.size := Nat.le_trans Z20 (Keep.of_wr W25).1
  have V25 : Arv Z h25 b14 k14 .char (2 : Int32) [(.int c0), (.int c1)] (.int 0) := Arv.set Ar24 q24 S24 N_24 Hs24 G24 (own_fc hr1) W25 1 rfl (Nat.le_of_ble_eq_true rfl)
  have N25 := Fr.snoc X25 N19 (Nat.le_trans Z11 sz_b14)
  refine gz X25 61 #[vr a1, vi 2] [(.ref b14), (.ref b10), (.ref b10)] (fun _ k => st25 _ k) ?_
  have f27 := (((A10.ext E14).wr W19).wr W25)
  have f28 := (((F13.ext E14).other W19 (Or.inl (Nat.ne_of_lt (Nat.lt_of_lt_of_le A10.lt sz_b14)))).other W25 (Or.inl (Nat.ne_of_lt (Nat.lt_of_lt_of_le A10.lt sz_b14))))
  have f29 := (((F12.ext E14).other W19 (Or.inl (Nat.ne_of_lt (Nat.lt_of_lt_of_le A10.lt sz_b14)))).other W25 (Or.inl (Nat.ne_of_lt (Nat.lt_of_lt_of_le A10.lt sz_b14))))
  refine goI X25 hx hZ hown (W 11 rfl) (m9 hw) 1 4 12 (rm_sC_2 hw b10 b14 k14 c0 c1 cs h25 n0 Z26 O26 pr1 hcs pr3 pr4 pr5 f27 f28 f29 (Nat.le_trans Z0 sz_b10) V25 hr0 hr1) N25 e25 pd_8 hml (dk d2_61) ?_
  rintro _ T30 L30 X30 N30 ⟨t30, k30, u30, rfl, K30, p30_0, p30_1, p30_2, p30_3, p30_4, p30_5, p30_6, p30_7⟩
  have O31 := O26.keep K30 (allS (Nat.le_trans Z0 sz_b10) all0)
  have Z31 : n0 ≤ T30.heap.size := Nat.le_trans Z26 K30.1
  have sz_t30 : h25.size ≤ t30 := p30_2
  refine gz X30 64 #[vr a1, vi 2] [(.ref b10)] (fun _ k => k) ?_
  refine Go.retA X30 hx hlk (t := (.object "java/lang/String")) hret (dk d2_64) ?_
  have say32 : (FC Z T30.heap b10 0 ∧ Arv Z T30.heap t30 k30 .byte (2 : Int32) [(.int (nar .byte (c0.toInt8.toInt32))), (.int (nar .byte (c1.toInt8.toInt32)))] (.int 0) ∧ ¬ (255 : Int32) < c0 ∧ ¬ (255 : Int32) < c1) ∨ (FC Z T30.heap b10 1 ∧ Arv Z T30.heap t30 k30 .byte (4 : Int32) [(.int (own_b0 c0)), (.int (own_b1 c0)), (.int (own_b0 c1)), (.int (own_b1 c1))] (.int 0)) := by
    rcases u30 with _ | _
    · exact Or.inl ⟨p30_6 rfl, p30_4 rfl, p30_3 rfl⟩
    · exact Or.inr ⟨p30_7 rfl, p30_5 rfl⟩
  exact ⟨N30, b10, t30, k30, rfl, ((((((Keep.refl h0 []).ext E10).ext E14).wr W19 (Or.inr (Nat.le_trans (Nat.le_trans (Nat.le_refl _) E10.1) sz_b14))).wr W25 (Or.inr (Nat.le_trans (Nat.le_trans (Nat.le_refl _) E10.1) sz_b14))).trans K30 (allS (Or.inr (Nat.le_trans (Nat.le_refl _) sz_b10)) all0)), p30_0, p30_1, (Nat.le_trans (Nat.le_refl _) sz_b10), say32⟩
theorem d2_65 : DK B43 65 (.new 31) 3 := by decide +kernel
theorem d2_68 : DK B43 68 .dup 1 := by decide +kernel
theorem d2_69 : DK B43 69 (.iconst 3) 1 := by decide +kernel
theorem d2_70 : DK B43 70 (.newarray .char) 2 := by decide +kernel
theorem d2_72 : DK B43 72 .dup 1 := by decide +kernel
theorem d2_73 : DK B43 73 (.iconst 0) 1 := by decide +kernel
theorem d2_74 : DK B43 74 (.aload_n 0) 1 := by decide +kernel
theorem d2_75 : DK B43 75 (.iconst 0) 1 := by decide +kernel
theorem d2_76 : DK B43 76 .caload 1 := by decide +kernel
theorem d2_77 : DK B43 77 .castore 1 := by decide +kernel
theorem d2_78 : DK B43 78 .dup 1 := by decide +kernel
theorem d2_79 : DK B43 79 (.iconst 1) 1 := by decide +kernel
theorem d2_80 : DK B43 80 (.aload_n 0) 1 := by decide +kernel
theorem d2_81 : DK B43 81 (.iconst 1) 1 := by decide +kernel
theorem d2_82 : DK B43 82 .caload 1 := by decide +kernel
theorem d2_83 : DK B43 83 .castore 1 := by decide +kernel
theorem d2_84 : DK B43 84 .dup 1 := by decide +kernel
theorem d2_85 : DK B43 85 (.iconst 2) 1 := by decide +kernel
theorem d2_86 : DK B43 86 (.aload_n 0) 1 := by decide +kernel
theorem d2_87 : DK B43 87 (.iconst 2) 1 := by decide +kernel
theorem d2_88 : DK B43 88 .caload 1 := by decide +kernel
theorem d2_89 : DK B43 89 .castore 1 := by decide +kernel
theorem d2_90 : DK B43 90 (.invokespecial 40) 3 := by decide +kernel
theorem d2_93 : DK B43 93 .areturn 1 := by decide +kernel
theorem rm_text_3 {l : Launch} {Z : State} {a0 : Array Value} (hw : HW a0 Z) (a1 : Addr) (ka : ClassId) (c0 : Int32) (c1 : Int32) (c2 : Int32) (cs : Int32) (h0 : Heap) (n0 : Nat) (Z0 : n0 ≤ h0.size) (pr0 : Old Z n0 h0) (pr1 : S3 Z cs) (hcs : ¬ (cs = (0 : Int32))) (pr3 : S0 Z) (pr4 : S1 Z) (pr5 : S2 Z) (pr6 : Arv Z h0 a1 ka .char (3 : Int32) [(.int c0), (.int c1), (.int c2)] (.int 0)) (hr0 : own_rng c0) (hr1 : own_rng c1) (hr2 : own_rng c2) :
    Met l Z Y4 B43 2 (some (.object "java/lang/String")) [] ({ frames := 6, cells := 4, slots := 16, locals := 88 } : Room) #[(.ref a1), (.int 3)] h0 (fun vv h L => Fr n0 L ∧ ∃ b : Addr, ∃ t : Addr, ∃ k : ClassId, vv = some (.ref b) ∧ Keep h0 h [] ∧ XT Z h b ∧ FV Z h b t ∧ h0.size ≤ b ∧ ((FC Z h b 0 ∧ Arv Z h t k .byte (3 : Int32) [(.int (nar .byte (c0.toInt8.toInt32))), (.int (nar .byte (c1.toInt8.toInt32))), (.int (nar .byte (c2.toInt8.toInt32)))] (.int 0) ∧ ¬ (255 : Int32) < c0 ∧ ¬ (255 : Int32) < c1 ∧ ¬ (255 : Int32) < c2) ∨ (FC Z h b 1 ∧ Arv Z h t k .byte (6 : Int32) [(.int (own_b0 c0)), (.int (own_b1 c0)), (.int (own_b0 c1)), (.int (own_b1 c1)), (.int (own_b0 c2)), (.int (own_b1 c2))] (.int 0)))) := by
  refine Met.enter (f0 := fun m => mkF m 0 #[vr a1, vi 3] []) (plainFor_of_name pn0) (fun m => oe m 0) ?_
  intro p e s m below meth c s₁ hx hby hml hown hnm hret hlk hZ X0 e0
  have dk : Dk B43 c := fun h => hb hby h
  have W := @wd _ _ _ hw
  have N0 := Fr.nil n0
  refine gz X0 65 #[vr a1, vi 3] [] (fun _ k => lN X0 hx (dk d2_0) rfl (fY X0 hx 1 15 rfl (dk d2_1) rfl ((if0 _ _).trans (feq (by decide)).2) (lN X0 hx (dk d2_15) rfl (kC X0 hx (dk d2_16) (cY X0 hx 17 37 rfl (dk d2_17) rfl (feq (by decide)).2 (lN X0 hx (dk d2_37) rfl (kC X0 hx (dk d2_38) (cY X0 hx 39 65 rfl (dk d2_39) rfl (feq (by decide)).2 k)))))))) ?_
  obtain ⟨T10, h10, X10, e10, E10, A10, D10, -, st10⟩ := newO X0 hx hZ hown (W 8 rfl) (W 9 rfl) (W 10 rfl) e0 (g := (mkF m 65 #[vr a1, vi 3] [])) rfl (dk d2_65) (by decide) (by decide)
  obtain ⟨b10, g10⟩ : ∃ z, z = h0.size := ⟨_, rfl⟩
  rw [← g10] at A10 D10 st10
  have sz_b10 : h0.size ≤ b10 := Nat.le_of_eq g10.symm
  have O11 := pr0.ext E10
  have Z11 : n0 ≤ h10.size := Nat.le_trans Z0 E10.1
  have F12 : FC Z h10 b10 0 := D10 (Or.inr (W 34 rfl)) (ty := .byte) (by decide)
  have F13 : Fld Z h10 b10 "java/lang/String" "value" "[B" .null := D10 (Or.inr (W 36 rfl)) (ty := (.array .byte)) (by decide)
  refine gz X10 70 #[vr a1, vi 3] [(.int 3), (.ref b10), (.ref b10)] (fun _ k => st10 _ (XS.dup X10.here hx rfl (dk d2_68) rfl rfl (kC X10 hx (dk d2_69) k))) ?_
  obtain ⟨T14, h14, k14, X14, e14, E14, A14, st14⟩ := newP X10 hx hZ (W 0 rfl) e10 (g := (mkF m 70 #[vr a1, vi 3] [(.int 3), (.ref b10), (.ref b10)])) rfl (dk d2_70) rfl (by decide) (cap := 3) (by decide) (by decide) (by decide) (by decide)
  obtain ⟨b14, g14⟩ : ∃ z, z = h10.size := ⟨_, rfl⟩
  rw [← g14] at A14 st14
  have sz_b14 : h10.size ≤ b14 := Nat.le_of_eq g14.symm
  have V14 : Arv Z h14 b14 k14 .char (3 : Int32) [(.int 0), (.int 0), (.int 0)] (.int 0) := (Arv.new A14 (by decide)).pad (pad_rep [] (.int 0) 3)
  have O15 := O11.ext E14
  have Z15 : n0 ≤ h14.size := Nat.le_trans Z11 E14.1
  refine gz X14 76 #[vr a1, vi 3] [(.int 0), (.ref a1), (.int 0), (.ref b14), (.ref b14), (.ref b10), (.ref b10)] (fun _ k => st14 _ (XS.dup X14.here hx rfl (dk d2_72) rfl rfl (kC X14 hx (dk d2_73) (aN X14 hx (dk d2_74) rfl rfl (kC X14 hx (dk d2_75) k))))) ?_
  obtain ⟨cl16, Ar16, q16, S16, N_16, Hs16, G16⟩ := id ((pr6.ext E10).ext E14)
  have hin17 : ¬ ((0 : Int32) < 0 ∨ cl16.slots.size ≤ ((0 : Int32)).toNatClampNeg) := inb_of S16 ⟨by decide, by decide⟩
  have hat17 : cl16.slots[((0 : Int32)).toNatClampNeg]? = some (.int c0) := Hs16.at hin17 rfl
  refine gz X14 77 #[vr a1, vi 3] [(.int c0), (.int 0), (.ref b14), (.ref b14), (.ref b10), (.ref b10)] (fun _ k => X14.caload hx (j := (0 : Int32)) (v := (.int c0)) (by rw [e14]; exact Ar16.1) (State.isArrayOf_alike hZ.alike Ar16.2.1) Ar16.2.2 hin17 hat17 (g := (mkF m 76 #[vr a1, vi 3] [(.int 0), (.ref a1), (.int 0), (.ref b14), (.ref b14), (.ref b10), (.ref b10)])) rfl rfl (dk d2_76) _ k) ?_
  obtain ⟨cl18, Ar18, q18, S18, N_18, Hs18, G18⟩ := id V14
  have hin19 : ¬ ((0 : Int32) < 0 ∨ cl18.slots.size ≤ ((0 : Int32)).toNatClampNeg) := inb_of S18 ⟨by decide, by decide⟩
  obtain ⟨T19, h19, X19, e19, W19, st19⟩ := stC X14 hx hZ e14 Ar18 (j := (0 : Int32)) hin19 (g := (mkF m 77 #[vr a1, vi 3] [(.int c0), (.int 0), (.ref b14), (.ref b14), (.ref b10), (.ref b10)])) rfl rfl (dk d2_77)
  rw [own_nc hr0] at W19
  have O20 := O15.wr W19 (Nat.le_trans Z11 sz_b14)
  have Z20 : n0 ≤ h19.size := Nat.le_trans Z15 (Keep.of_wr W19).1
  have V19 : Arv Z h19 b14 k14 .char (3 : Int32) [(.int c0), (.int 0), (.int 0)] (.int 0) := Arv.set Ar18 q18 S18 N_18 Hs18 G18 (own_fc hr0) W19 0 rfl (Nat.le_of_ble_eq_true rfl)
  have N19 := Fr.snoc X19 N0 (Nat.le_trans Z11 sz_b14)
  refine gz X19 82 #[vr a1, vi 3] [(.int 1), (.ref a1), (.int 1), (.ref b14), (.ref b14), (.ref b10), (.ref b10)] (fun _ k => st19 _ (XS.dup X19.here hx rfl (dk d2_78) rfl rfl (kC X19 hx (dk d2_79) (aN X19 hx (dk d2_80) rfl rfl (kC X19 hx (dk d2_81) k))))) ?_
  have f22 := (((pr6.ext E10).ext E14).other W19 (Nat.ne_of_lt (Nat.lt_of_lt_of_le (pr6.ext E10).lt sz_b14)))
  obtain ⟨cl21, Ar21, q21, S21, N_21, Hs21, G21⟩ := id f22
  have hin23 : ¬ ((1 : Int32) < 0 ∨ cl21.slots.size ≤ ((1 : Int32)).toNatClampNeg) := inb_of S21 ⟨by decide, by decide⟩
  have hat23 : cl21.slots[((1 : Int32)).toNatClampNeg]? = some (.int c1) := Hs21.at hin23 rfl
  refine gz X19 83 #[vr a1, vi 3] [(.int c1), (.int 1), (.ref b14), (.ref b14), (.ref b10), (.ref b10)] (fun _ k => X19.caload hx (j := (1 : Int32)) (v := (.int c1)) (by rw [e19]; exact Ar21.1) (State.isArrayOf_alike hZ.alike Ar21.2.1) Ar21.2.2 hin23 hat23 (g := (mkF m 82 #[vr a1, vi 3] [(.int 1), (.ref a1), (.int 1), (.ref b14), (.ref b14), (.ref b10), (.ref b10)])) rfl rfl (dk d2_82) _ k) ?_
  obtain ⟨cl24, Ar24, q24, S24, N_24, Hs24, G24⟩ := id V19
  have hin25 : ¬ ((1 : Int32) < 0 ∨ cl24.slots.size ≤ ((1 : Int32)).toNatClampNeg) := inb_of S24 ⟨by decide, by decide⟩
  obtain ⟨T25, h25, X25, e25, W25, st25⟩ := stC X19 hx hZ e19 Ar24 (j := (1 : Int32)) hin25 (g := (mkF m 83 #[vr a1, vi 3] [(.int c1), (.int 1), (.ref b14), (.ref b14), (.ref b10), (.ref b10)])) rfl rfl (dk d2_83)
  rw [own_nc hr1] at W25
  have O26 := O20.wr W25 (Nat.le_trans Z11 sz_b14)
  have Z26 : n0 ≤ h25.size := Nat.le_trans Z20 (Keep.of_wr W25).1
  have V25 : Arv Z h25 b14 k14 .char (3 : Int32) [(.int c0), (.int c1), (.int 0)] (.int 0) := Arv.set Ar24 q24 S24 N_24 Hs24 G24 (own_fc hr1) W25 1 rfl (Nat.le_of_ble_eq_true rfl)
  have N25 := Fr.snoc X25 N19 (Nat.le_trans Z11 sz_b14)
  refine gz X25 88 #[vr a1, vi 3] [(.int 2), (.ref a1), (.int 2), (.ref b14), (.ref b14), (.ref b10), (.ref b10)] (fun _ k => st25 _ (XS.dup X25.here hx rfl (dk d2_84) rfl rfl (kC X25 hx (dk d2_85) (aN X25 hx (dk d2_86) rfl rfl (kC X25 hx (dk d2_87) k))))) ?_
  have f28 := (f22.other W25 (Nat.ne_of_lt (Nat.lt_of_lt_of_le (pr6.ext E10).lt sz_b14)))
  obtain ⟨cl27, Ar27, q27, S27, N_27, Hs27, G27⟩ := id f28
  have hin29 : ¬ ((2 : Int32) < 0 ∨ cl27.slots.size ≤ ((2 : Int32)).toNatClampNeg) := inb_of S27 ⟨by decide, by decide⟩
  have hat29 : cl27.slots[((2 : Int32)).toNatClampNeg]? = some (.int c2) := Hs27.at hin29 rfl
  refine gz X25 89 #[vr a1, vi 3] [(.int c2), (.int 2), (.ref b14), (.ref b14), (.ref b10), (.ref b10)] (fun _ k => X25.caload hx (j := (2 : Int32)) (v := (.int c2)) (by rw [e25]; exact Ar27.1) (State.isArrayOf_alike hZ.alike Ar27.2.1) Ar27.2.2 hin29 hat29 (g := (mkF m 88 #[vr a1, vi 3] [(.int 2), (.ref a1), (.int 2), (.ref b14), (.ref b14), (.ref b10), (.ref b10)])) rfl rfl (dk d2_88) _ k) ?_
  obtain ⟨cl30, Ar30, q30, S30, N_30, Hs30, G30⟩ := id V25
  have hin31 : ¬ ((2 : Int32) < 0 ∨ cl30.slots.size ≤ ((2 : Int32)).toNatClampNeg) := inb_of S30 ⟨by decide, by decide⟩
  obtain ⟨T31, h31, X31, e31, W31, st31⟩ := stC X25 hx hZ e25 Ar30 (j := (2 : Int32)) hin31 (g := (mkF m 89 #[vr a1, vi 3] [(.int c2), (.int 2), (.ref b14), (.ref b14), (.ref b10), (.ref b10)])) rfl rfl (dk d2_89)
  rw [own_nc hr2] at W31
  have O32 := O26.wr W31 (Nat.le_trans Z11 sz_b14)
  have Z32 : n0 ≤ h31.size := Nat.le_trans Z26 (Keep.of_wr W31).1
  have V31 : Arv Z h31 b14 k14 .char (3 : Int32) [(.int c0), (.int c1), (.int c2)] (.int 0) := Arv.set Ar30 q30 S30 N_30 Hs30 G30 (own_fc hr2) W31 2 rfl (Nat.le_of_ble_eq_true rfl)
  have N31 := Fr.snoc X31 N25 (Nat.le_trans Z11 sz_b14)
  refine gz X31 90 #[vr a1, vi 3] [(.ref b14), (.ref b10), (.ref b10)] (fun _ k => st31 _ k) ?_
  have f33 := ((((A10.ext E14).wr W19).wr W25).wr W31)
  have f34 := ((((F13.ext E14).other W19 (Or.inl (Nat.ne_of_lt (Nat.lt_of_lt_of_le A10.lt sz_b14)))).other W25 (Or.inl (Nat.ne_of_lt (Nat.lt_of_lt_of_le A10.lt sz_b14)))).other W31 (Or.inl (Nat.ne_of_lt (Nat.lt_of_lt_of_le A10.lt sz_b14))))
  have f35 := ((((F12.ext E14).other W19 (Or.inl (Nat.ne_of_lt (Nat.lt_of_lt_of_le A10.lt sz_b14)))).other W25 (Or.inl (Nat.ne_of_lt (Nat.lt_of_lt_of_le A10.lt sz_b14)))).other W31 (Or.inl (Nat.ne_of_lt (Nat.lt_of_lt_of_le A10.lt sz_b14))))
  refine goI X31 hx hZ hown (W 11 rfl) (m9 hw) 1 4 16 (rm_sC_3 hw b10 b14 k14 c0 c1 c2 cs h31 n0 Z32 O32 pr1 hcs pr3 pr4 pr5 f33 f34 f35 (Nat.le_trans Z0 sz_b10) V31 hr0 hr1 hr2) N31 e31 pd_8 hml (dk d2_90) ?_
  rintro _ T36 L36 X36 N36 ⟨t36, k36, u36, rfl, K36, p36_0, p36_1, p36_2, p36_3, p36_4, p36_5, p36_6, p36_7⟩
  have O37 := O32.keep K36 (allS (Nat.le_trans Z0 sz_b10) all0)
  have Z37 : n0 ≤ T36.heap.size := Nat.le_trans Z32 K36.1
  have sz_t36 : h31.size ≤ t36 := p36_2
  refine gz X36 93 #[vr a1, vi 3] [(.ref b10)] (fun _ k => k) ?_
  refine Go.retA X36 hx hlk (t := (.object "java/lang/String")) hret (dk d2_93) ?_
  have say38 : (FC Z T36.heap b10 0 ∧ Arv Z T36.heap t36 k36 .byte (3 : Int32) [(.int (nar .byte (c0.toInt8.toInt32))), (.int (nar .byte (c1.toInt8.toInt32))), (.int (nar .byte (c2.toInt8.toInt32)))] (.int 0) ∧ ¬ (255 : Int32) < c0 ∧ ¬ (255 : Int32) < c1 ∧ ¬ (255 : Int32) < c2) ∨ (FC Z T36.heap b10 1 ∧ Arv Z T36.heap t36 k36 .byte (6 : Int32) [(.int (own_b0 c0)), (.int (own_b1 c0)), (.int (own_b0 c1)), (.int (own_b1 c1)), (.int (own_b0 c2)), (.int (own_b1 c2))] (.int 0)) := by
    rcases u36 with _ | _
    · exact Or.inl ⟨p36_6 rfl, p36_4 rfl, p36_3 rfl⟩
    · exact Or.inr ⟨p36_7 rfl, p36_5 rfl⟩
  exact ⟨N36, b10, t36, k36, rfl, (((((((Keep.refl h0 []).ext E10).ext E14).wr W19 (Or.inr (Nat.le_trans (Nat.le_trans (Nat.le_refl _) E10.1) sz_b14))).wr W25 (Or.inr (Nat.le_trans (Nat.le_trans (Nat.le_refl _) E10.1) sz_b14))).wr W31 (Or.inr (Nat.le_trans (Nat.le_trans (Nat.le_refl _) E10.1) sz_b14))).trans K36 (allS (Or.inr (Nat.le_trans (Nat.le_refl _) sz_b10)) all0)), p36_0, p36_1, (Nat.le_trans (Nat.le_refl _) sz_b10), say38⟩
theorem d11_0 : DK B6 0 (.getstatic 38) 3 := by decide +kernel
theorem d11_3 : DK B6 3 (.ifCond .eq 10) 3 := by decide +kernel
theorem d11_6 : DK B6 6 (.aload_n 0) 1 := by decide +kernel
theorem d11_7 : DK B6 7 (.getfield 15) 3 := by decide +kernel
theorem d11_10 : DK B6 10 (.goto 4) 3 := by decide +kernel
theorem d11_14 : DK B6 14 .ireturn 1 := by decide +kernel
theorem rm_coder0 {l : Launch} {Z : State} {a0 : Array Value} (hw : HW a0 Z) (a1 : Addr) (cs : Int32) (h0 : Heap) (n0 : Nat) (Z0 : n0 ≤ h0.size) (pr0 : Old Z n0 h0) (pr1 : S3 Z cs) (hcs : ¬ (cs = (0 : Int32))) (pr3 : FC Z h0 a1 0) :
    Met l Z Y19 B6 1 (some .byte) [] ({ frames := 0, cells := 0, slots := 0, locals := 0 } : Room) #[(.ref a1)] h0 (fun vv h L => Fr n0 L ∧ vv = some (.int 0) ∧ h = h0) := by
  refine Met.enter (f0 := fun m => mkF m 0 #[vr a1] []) (plainFor_of_name pn6) (fun m => oe m 0) ?_
  intro p e s m below meth c s₁ hx hby hml hown hnm hret hlk hZ X0 e0
  have dk : Dk B6 c := fun h => hb hby h
  have W := @wd _ _ _ hw
  have N0 := Fr.nil n0
  obtain ⟨T10, X10, e10, st10⟩ := getS2 X0 hx hZ hown (host := "") (Or.inl (W 21 rfl)) Via.refl e0 (pr1.ext pr0.2) (g := (mkF m 0 #[vr a1] [])) rfl (dk d11_0)
  refine gz X10 7 #[vr a1] [(.ref a1)] (fun _ k => st10 _ (fN X10 hx (dk d11_3) rfl ((if0 _ _).trans (feq hcs).1) (aN X10 hx (dk d11_6) rfl rfl k))) ?_
  obtain ⟨T11, X11, e11, st11⟩ := getF X10 hx hZ hown (host := "") (Or.inl (W 33 rfl)) Via.refl e10 pr3 (g := (mkF m 7 #[vr a1] [(.ref a1)])) rfl rfl (dk d11_7)
  refine gz X11 14 #[vr a1] [(.int 0)] (fun _ k => st11 _ (gT X11 hx 10 14 rfl (dk d11_10) k)) ?_
  refine Go.retJ X11 hx hlk (t := .byte) hret (dk d11_14) ?_
  rw [e11]
  exact ⟨N0, rfl, rfl⟩
theorem d13_0 : DK B7 0 (.getstatic 38) 3 := by decide +kernel
theorem d13_3 : DK B7 3 (.ifCond .eq 14) 3 := by decide +kernel
theorem d13_6 : DK B7 6 (.aload_n 0) 1 := by decide +kernel
theorem d13_7 : DK B7 7 (.getfield 15) 3 := by decide +kernel
theorem d13_10 : DK B7 10 (.ifCond .ne 7) 3 := by decide +kernel
theorem d13_13 : DK B7 13 (.iconst 1) 1 := by decide +kernel
theorem d13_14 : DK B7 14 (.goto 4) 3 := by decide +kernel
theorem d13_18 : DK B7 18 .ireturn 1 := by decide +kernel
theorem rm_isLatin10 {l : Launch} {Z : State} {a0 : Array Value} (hw : HW a0 Z) (a1 : Addr) (cs : Int32) (h0 : Heap) (n0 : Nat) (Z0 : n0 ≤ h0.size) (pr0 : Old Z n0 h0) (pr1 : S3 Z cs) (hcs : ¬ (cs = (0 : Int32))) (pr3 : FC Z h0 a1 0) :
    Met l Z Y20 B7 1 (some .boolean) [] ({ frames := 0, cells := 0, slots := 0, locals := 0 } : Room) #[(.ref a1)] h0 (fun vv h L => Fr n0 L ∧ vv = some (.int 1) ∧ h = h0) := by
  refine Met.enter (f0 := fun m => mkF m 0 #[vr a1] []) (plainFor_of_name pn6) (fun m => oe m 0) ?_
  intro p e s m below meth c s₁ hx hby hml hown hnm hret hlk hZ X0 e0
  have dk : Dk B7 c := fun h => hb hby h
  have W := @wd _ _ _ hw
  have N0 := Fr.nil n0
  obtain ⟨T10, X10, e10, st10⟩ := getS2 X0 hx hZ hown (host := "") (Or.inl (W 21 rfl)) Via.refl e0 (pr1.ext pr0.2) (g := (mkF m 0 #[vr a1] [])) rfl (dk d13_0)
  refine gz X10 7 #[vr a1] [(.ref a1)] (fun _ k => st10 _ (fN X10 hx (dk d13_3) rfl ((if0 _ _).trans (feq hcs).1) (aN X10 hx (dk d13_6) rfl rfl k))) ?_
  obtain ⟨T11, X11, e11, st11⟩ := getF X10 hx hZ hown (host := "") (Or.inl (W 33 rfl)) Via.refl e10 pr3 (g := (mkF m 7 #[vr a1] [(.ref a1)])) rfl rfl (dk d13_7)
  refine gz X11 18 #[vr a1] [(.int 1)] (fun _ k => st11 _ (fN X11 hx (dk d13_10) rfl ((if0 _ _).trans (teq (by decide)).2) (kC X11 hx (dk d13_13) (gT X11 hx 14 18 rfl (dk d13_14) k)))) ?_
  refine Go.retJ X11 hx hlk (t := .boolean) hret (dk d13_18) ?_
  rw [e11]
  exact ⟨N0, rfl, rfl⟩
theorem rm_coder1 {l : Launch} {Z : State} {a0 : Array Value} (hw : HW a0 Z) (a1 : Addr) (cs : Int32) (h0 : Heap) (n0 : Nat) (Z0 : n0 ≤ h0.size) (pr0 : Old Z n0 h0) (pr1 : S3 Z cs) (hcs : ¬ (cs = (0 : Int32))) (pr3 : FC Z h0 a1 1) :
    Met l Z Y19 B6 1 (some .byte) [] ({ frames := 0, cells := 0, slots := 0, locals := 0 } : Room) #[(.ref a1)] h0 (fun vv h L => Fr n0 L ∧ vv = some (.int 1) ∧ h = h0) := by
  refine Met.enter (f0 := fun m => mkF m 0 #[vr a1] []) (plainFor_of_name pn6) (fun m => oe m 0) ?_
  intro p e s m below meth c s₁ hx hby hml hown hnm hret hlk hZ X0 e0
  have dk : Dk B6 c := fun h => hb hby h
  have W := @wd _ _ _ hw
  have N0 := Fr.nil n0
  obtain ⟨T10, X10, e10, st10⟩ := getS2 X0 hx hZ hown (host := "") (Or.inl (W 21 rfl)) Via.refl e0 (pr1.ext pr0.2) (g := (mkF m 0 #[vr a1] [])) rfl (dk d11_0)
  refine gz X10 7 #[vr a1] [(.ref a1)] (fun _ k => st10 _ (fN X10 hx (dk d11_3) rfl ((if0 _ _).trans (feq hcs).1) (aN X10 hx (dk d11_6) rfl rfl k))) ?_
  obtain ⟨T11, X11, e11, st11⟩ := getF X10 hx hZ hown (host := "") (Or.inl (W 33 rfl)) Via.refl e10 pr3 (g := (mkF m 7 #[vr a1] [(.ref a1)])) rfl rfl (dk d11_7)
  refine gz X11 14 #[vr a1] [(.int 1)] (fun _ k => st11 _ (gT X11 hx 10 14 rfl (dk d11_10) k)) ?_
  refine Go.retJ X11 hx hlk (t := .byte) hret (dk d11_14) ?_
  rw [e11]
  exact ⟨N0, rfl, rfl⟩
theorem d13_17 : DK B7 17 (.iconst 0) 1 := by decide +kernel
theorem rm_isLatin11 {l : Launch} {Z : State} {a0 : Array Value} (hw : HW a0 Z) (a1 : Addr) (cs : Int32) (h0 : Heap) (n0 : Nat) (Z0 : n0 ≤ h0.size) (pr0 : Old Z n0 h0) (pr1 : S3 Z cs) (hcs : ¬ (cs = (0 : Int32))) (pr3 : FC Z h0 a1 1) :
    Met l Z Y20 B7 1 (some .boolean) [] ({ frames := 0, cells := 0, slots := 0, locals := 0 } : Room) #[(.ref a1)] h0 (fun vv h L => Fr n0 L ∧ vv = some (.int 0) ∧ h = h0) := by
  refine Met.enter (f0 := fun m => mkF m 0 #[vr a1] []) (plainFor_of_name pn6) (fun m => oe m 0) ?_
  intro p e s m below meth c s₁ hx hby hml hown hnm hret hlk hZ X0 e0
  have dk : Dk B7 c := fun h => hb hby h
  have W := @wd _ _ _ hw
  have N0 := Fr.nil n0
  obtain ⟨T10, X10, e10, st10⟩ := getS2 X0 hx hZ hown (host := "") (Or.inl (W 21 rfl)) Via.refl e0 (pr1.ext pr0.2) (g := (mkF m 0 #[vr a1] [])) rfl (dk d13_0)
  refine gz X10 7 #[vr a1] [(.ref a1)] (fun _ k => st10 _ (fN X10 hx (dk d13_3) rfl ((if0 _ _).trans (feq hcs).1) (aN X10 hx (dk d13_6) rfl rfl k))) ?_
  obtain ⟨T11, X11, e11, st11⟩ := getF X10 hx hZ hown (host := "") (Or.inl (W 33 rfl)) Via.refl e10 pr3 (g := (mkF m 7 #[vr a1] [(.ref a1)])) rfl rfl (dk d13_7)
  refine gz X11 18 #[vr a1] [(.int 0)] (fun _ k => st11 _ (fY X11 hx 10 17 rfl (dk d13_10) rfl ((if0 _ _).trans (feq (by decide)).2) (kC X11 hx (dk d13_17) k))) ?_
  refine Go.retJ X11 hx hlk (t := .boolean) hret (dk d13_18) ?_
  rw [e11]
  exact ⟨N0, rfl, rfl⟩
theorem d10_0 : DK B12 0 (.aload_n 0) 1 := by decide +kernel
theorem d10_1 : DK B12 1 (.getfield 9) 3 := by decide +kernel
theorem d10_4 : DK B12 4 .arraylength 1 := by decide +kernel
theorem d10_5 : DK B12 5 (.aload_n 0) 1 := by decide +kernel
theorem d10_6 : DK B12 6 (.invokevirtual 335) 3 := by decide +kernel
theorem pd_9 : parseMethodDescriptor "()B" = some ⟨[], some .byte⟩ := by decide +kernel
theorem m10 {Z : State} {a0 : Array Value} (hw : HW a0 Z) : (Jvm.Cond.declares Y19).before a0 Z = true ∧ (Jvm.Cond.selects "java/lang/String" Y19 Y19).before a0 Z = true ∧ (Jvm.Cond.instanceMethod Y19).before a0 Z = true ∧ (Jvm.Cond.initialized "java/lang/String").before a0 Z = true ∧ (Jvm.Cond.code Y19 B6 (1 : Nat) (Option.some Jvm.ClassFile.FieldType.byte)).before a0 Z = true := ⟨(wd hw 47 rfl), (wd hw 49 rfl), (wd hw 48 rfl), (wd hw 10 rfl), (wd hw 50 rfl)⟩
theorem d10_9 : DK B12 9 .ishr 1 := by decide +kernel
theorem d10_10 : DK B12 10 .ireturn 1 := by decide +kernel
theorem rm_len_0_0 {l : Launch} {Z : State} {a0 : Array Value} (hw : HW a0 Z) (a1 : Addr) (t1 : Addr) (k1 : ClassId) (cs : Int32) (vs : List Value) (h0 : Heap) (n0 : Nat) (Z0 : n0 ≤ h0.size) (pr0 : Old Z n0 h0) (pr1 : S3 Z cs) (hcs : ¬ (cs = (0 : Int32))) (pr3 : XT Z h0 a1) (pr4 : FV Z h0 a1 t1) (pr5 : FC Z h0 a1 0) (pr6 : Arv Z h0 t1 k1 .byte (0 : Int32) vs (.int 0)) :
    Met l Z Y21 B12 1 (some .int) [] ({ frames := 1, cells := 0, slots := 0, locals := 13 } : Room) #[(.ref a1)] h0 (fun vv h L => Fr n0 L ∧ vv = some (.int 0) ∧ h = h0) := by
  refine Met.enter (f0 := fun m => mkF m 0 #[vr a1] []) (plainFor_of_name pn6) (fun m => oe m 0) ?_
  intro p e s m below meth c s₁ hx hby hml hown hnm hret hlk hZ X0 e0
  have dk : Dk B12 c := fun h => hb hby h
  have W := @wd _ _ _ hw
  have N0 := Fr.nil n0
  refine gz X0 1 #[vr a1] [(.ref a1)] (fun _ k => aN X0 hx (dk d10_0) rfl rfl k) ?_
  obtain ⟨T10, X10, e10, st10⟩ := getF X0 hx hZ hown (host := "") (Or.inl (W 35 rfl)) Via.refl e0 pr4 (g := (mkF m 1 #[vr a1] [(.ref a1)])) rfl rfl (dk d10_1)
  refine gz X10 4 #[vr a1] [(.ref t1)] (fun _ k => st10 _ k) ?_
  obtain ⟨cl11, Ar11, q11, S11, N_11, Hs11, G11⟩ := id pr6
  refine gz X10 5 #[vr a1] [(.int 0)] (fun _ k => X10.arraylength hx (by rw [e10]; exact Ar11.1) (State.isArrayOf_alike hZ.alike Ar11.2.1) (g := (mkF m 4 #[vr a1] [(.ref t1)])) rfl rfl (dk d10_4) _ (by rw [len_of S11 N_11]; exact k)) ?_
  refine gz X10 6 #[vr a1] [(.ref a1), (.int 0)] (fun _ k => aN X10 hx (dk d10_5) rfl rfl k) ?_
  refine goV X10 hx hZ hown (W 46 rfl) (m10 hw) pr3 0 0 0 (rm_coder0 hw a1 cs h0 n0 Z0 pr0 pr1 hcs pr5) N0 e10 pd_9 hml (dk d10_6) ?_
  rintro _ T12 L12 X12 N12 ⟨rfl, hh12⟩
  refine gz X12 10 #[vr a1] [(.int 0)] (fun _ k => XS.ishr X12.here hx rfl (dk d10_9) rfl k) ?_
  refine Go.retJ X12 hx hlk (t := .int) hret (dk d10_10) ?_
  rw [hh12]
  exact ⟨N12, rfl, rfl⟩
theorem rm_lenS_1 {l : Launch} {Z : State} {a0 : Array Value} (hw : HW a0 Z) (a1 : Addr) (t1 : Addr) (k1 : ClassId) (c0 : Int32) (cs : Int32) (h0 : Heap) (n0 : Nat) (Z0 : n0 ≤ h0.size) (pr0 : Old Z n0 h0) (pr1 : S3 Z cs) (hcs : ¬ (cs = (0 : Int32))) (pr3 : XT Z h0 a1) (pr4 : FV Z h0 a1 t1) (say : (FC Z h0 a1 0 ∧ Arv Z h0 t1 k1 .byte (1 : Int32) [(.int (nar .byte (c0.toInt8.toInt32)))] (.int 0) ∧ ¬ (255 : Int32) < c0) ∨ (FC Z h0 a1 1 ∧ Arv Z h0 t1 k1 .byte (2 : Int32) [(.int (own_b0 c0)), (.int (own_b1 c0))] (.int 0))) :
    Met l Z Y21 B12 1 (some .int) [] ({ frames := 1, cells := 0, slots := 0, locals := 13 } : Room) #[(.ref a1)] h0 (fun vv h L => Fr n0 L ∧ vv = some (.int 1) ∧ h = h0) := by
  refine Met.enter (f0 := fun m => mkF m 0 #[vr a1] []) (plainFor_of_name pn6) (fun m => oe m 0) ?_
  intro p e s m below meth c s₁ hx hby hml hown hnm hret hlk hZ X0 e0
  have dk : Dk B12 c := fun h => hb hby h
  have W := @wd _ _ _ hw
  have N0 := Fr.nil n0
  rcases say with ⟨FC10, VA10, U10⟩ | ⟨FC10, VA10⟩
  · skip
    refine gz X0 1 #[vr a1] [(.ref a1)] (fun _ k => aN X0 hx (dk d10_0) rfl rfl k) ?_
    obtain ⟨T11, X11, e11, st11⟩ := getF X0 hx hZ hown (host := "") (Or.inl (W 35 rfl)) Via.refl e0 pr4 (g := (mkF m 1 #[vr a1] [(.ref a1)])) rfl rfl (dk d10_1)
    refine gz X11 4 #[vr a1] [(.ref t1)] (fun _ k => st11 _ k) ?_
    obtain ⟨cl12, Ar12, q12, S12, N_12, Hs12, G12⟩ := id VA10
    refine gz X11 5 #[vr a1] [(.int 1)] (fun _ k => X11.arraylength hx (by rw [e11]; exact Ar12.1) (State.isArrayOf_alike hZ.alike Ar12.2.1) (g := (mkF m 4 #[vr a1] [(.ref t1)])) rfl rfl (dk d10_4) _ (by rw [len_of S12 N_12]; exact k)) ?_
    refine gz X11 6 #[vr a1] [(.ref a1), (.int 1)] (fun _ k => aN X11 hx (dk d10_5) rfl rfl k) ?_
    refine goV X11 hx hZ hown (W 46 rfl) (m10 hw) pr3 0 0 0 (rm_coder0 hw a1 cs h0 n0 Z0 pr0 pr1 hcs FC10) N0 e11 pd_9 hml (dk d10_6) ?_
    rintro _ T13 L13 X13 N13 ⟨rfl, hh13⟩
    refine gz X13 10 #[vr a1] [(.int 1)] (fun _ k => XS.ishr X13.here hx rfl (dk d10_9) rfl k) ?_
    refine Go.retJ X13 hx hlk (t := .int) hret (dk d10_10) ?_
    rw [hh13]
    exact ⟨N13, rfl, rfl⟩
  · skip
    refine gz X0 1 #[vr a1] [(.ref a1)] (fun _ k => aN X0 hx (dk d10_0) rfl rfl k) ?_
    obtain ⟨T14, X14, e14, st14⟩ := getF X0 hx hZ hown (host := "") (Or.inl (W 35 rfl)) Via.refl e0 pr4 (g := (mkF m 1 #[vr a1] [(.ref a1)])) rfl rfl (dk d10_1)
    refine gz X14 4 #[vr a1] [(.ref t1)] (fun _ k => st14 _ k) ?_
    obtain ⟨cl15, Ar15, q15, S15, N_15, Hs15, G15⟩ := id VA10
    refine gz X14 5 #[vr a1] [(.int 2)] (fun _ k => X14.arraylength hx (by rw [e14]; exact Ar15.1) (State.isArrayOf_alike hZ.alike Ar15.2.1) (g := (mkF m 4 #[vr a1] [(.ref t1)])) rfl rfl (dk d10_4) _ (by rw [len_of S15 N_15]; exact k)) ?_
    refine gz X14 6 #[vr a1] [(.ref a1), (.int 2)] (fun _ k => aN X14 hx (dk d10_5) rfl rfl k) ?_
    refine goV X14 hx hZ hown (W 46 rfl) (m10 hw) pr3 0 0 0 (rm_coder1 hw a1 cs h0 n0 Z0 pr0 pr1 hcs FC10) N0 e14 pd_9 hml (dk d10_6) ?_
    rintro _ T16 L16 X16 N16 ⟨rfl, hh16⟩
    refine gz X16 10 #[vr a1] [(.int 1)] (fun _ k => XS.ishr X16.here hx rfl (dk d10_9) rfl k) ?_
    refine Go.retJ X16 hx hlk (t := .int) hret (dk d10_10) ?_
    rw [hh16]
    exact ⟨N16, rfl, rfl⟩
theorem rm_lenS_2 {l : Launch} {Z : State} {a0 : Array Value} (hw : HW a0 Z) (a1 : Addr) (t1 : Addr) (k1 : ClassId) (c0 : Int32) (c1 : Int32) (cs : Int32) (h0 : Heap) (n0 : Nat) (Z0 : n0 ≤ h0.size) (pr0 : Old Z n0 h0) (pr1 : S3 Z cs) (hcs : ¬ (cs = (0 : Int32))) (pr3 : XT Z h0 a1) (pr4 : FV Z h0 a1 t1) (say : (FC Z h0 a1 0 ∧ Arv Z h0 t1 k1 .byte (2 : Int32) [(.int (nar .byte (c0.toInt8.toInt32))), (.int (nar .byte (c1.toInt8.toInt32)))] (.int 0) ∧ ¬ (255 : Int32) < c0 ∧ ¬ (255 : Int32) < c1) ∨ (FC Z h0 a1 1 ∧ Arv Z h0 t1 k1 .byte (4 : Int32) [(.int (own_b0 c0)), (.int (own_b1 c0)), (.int (own_b0 c1)), (.int (own_b1 c1))] (.int 0))) :
    Met l Z Y21 B12 1 (some .int) [] ({ frames := 1, cells := 0, slots := 0, locals := 13 } : Room) #[(.ref a1)] h0 (fun vv h L => Fr n0 L ∧ vv = some (.int 2) ∧ h = h0) := by
  refine Met.enter (f0 := fun m => mkF m 0 #[vr a1] []) (plainFor_of_name pn6) (fun m => oe m 0) ?_
  intro p e s m below meth c s₁ hx hby hml hown hnm hret hlk hZ X0 e0
  have dk : Dk B12 c := fun h => hb hby h
  have W := @wd _ _ _ hw
  have N0 := Fr.nil n0
  rcases say with ⟨FC10, VA10, U10⟩ | ⟨FC10, VA10⟩
  · skip
    refine gz X0 1 #[vr a1] [(.ref a1)] (fun _ k => aN X0 hx (dk d10_0) rfl rfl k) ?_
    obtain ⟨T11, X11, e11, st11⟩ := getF X0 hx hZ hown (host := "") (Or.inl (W 35 rfl)) Via.refl e0 pr4 (g := (mkF m 1 #[vr a1] [(.ref a1)])) rfl rfl (dk d10_1)
    refine gz X11 4 #[vr a1] [(.ref t1)] (fun _ k => st11 _ k) ?_
    obtain ⟨cl12, Ar12, q12, S12, N_12, Hs12, G12⟩ := id VA10
    refine gz X11 5 #[vr a1] [(.int 2)] (fun _ k => X11.arraylength hx (by rw [e11]; exact Ar12.1) (State.isArrayOf_alike hZ.alike Ar12.2.1) (g := (mkF m 4 #[vr a1] [(.ref t1)])) rfl rfl (dk d10_4) _ (by rw [len_of S12 N_12]; exact k)) ?_
    refine gz X11 6 #[vr a1] [(.ref a1), (.int 2)] (fun _ k => aN X11 hx (dk d10_5) rfl rfl k) ?_
    refine goV X11 hx hZ hown (W 46 rfl) (m10 hw) pr3 0 0 0 (rm_coder0 hw a1 cs h0 n0 Z0 pr0 pr1 hcs FC10) N0 e11 pd_9 hml (dk d10_6) ?_
    rintro _ T13 L13 X13 N13 ⟨rfl, hh13⟩
    refine gz X13 10 #[vr a1] [(.int 2)] (fun _ k => XS.ishr X13.here hx rfl (dk d10_9) rfl k) ?_
    refine Go.retJ X13 hx hlk (t := .int) hret (dk d10_10) ?_
    rw [hh13]
    exact ⟨N13, rfl, rfl⟩
  · skip
    refine gz X0 1 #[vr a1] [(.ref a1)] (fun _ k => aN X0 hx (dk d10_0) rfl rfl k) ?_
    obtain ⟨T14, X14, e14, st14⟩ := getF X0 hx hZ hown (host := "") (Or.inl (W 35 rfl)) Via.refl e0 pr4 (g := (mkF m 1 #[vr a1] [(.ref a1)])) rfl rfl (dk d10_1)
    refine gz X14 4 #[vr a1] [(.ref t1)] (fun _ k => st14 _ k) ?_
    obtain ⟨cl15, Ar15, q15, S15, N_15, Hs15, G15⟩ := id VA10
    refine gz X14 5 #[vr a1] [(.int 4)] (fun _ k => X14.arraylength hx (by rw [e14]; exact Ar15.1) (State.isArrayOf_alike hZ.alike Ar15.2.1) (g := (mkF m 4 #[vr a1] [(.ref t1)])) rfl rfl (dk d10_4) _ (by rw [len_of S15 N_15]; exact k)) ?_
    refine gz X14 6 #[vr a1] [(.ref a1), (.int 4)] (fun _ k => aN X14 hx (dk d10_5) rfl rfl k) ?_
    refine goV X14 hx hZ hown (W 46 rfl) (m10 hw) pr3 0 0 0 (rm_coder1 hw a1 cs h0 n0 Z0 pr0 pr1 hcs FC10) N0 e14 pd_9 hml (dk d10_6) ?_
    rintro _ T16 L16 X16 N16 ⟨rfl, hh16⟩
    refine gz X16 10 #[vr a1] [(.int 2)] (fun _ k => XS.ishr X16.here hx rfl (dk d10_9) rfl k) ?_
    refine Go.retJ X16 hx hlk (t := .int) hret (dk d10_10) ?_
    rw [hh16]
    exact ⟨N16, rfl, rfl⟩
theorem rm_lenS_3 {l : Launch} {Z : State} {a0 : Array Value} (hw : HW a0 Z) (a1 : Addr) (t1 : Addr) (k1 : ClassId) (c0 : Int32) (c1 : Int32) (c2 : Int32) (cs : Int32) (h0 : Heap) (n0 : Nat) (Z0 : n0 ≤ h0.size) (pr0 : Old Z n0 h0) (pr1 : S3 Z cs) (hcs : ¬ (cs = (0 : Int32))) (pr3 : XT Z h0 a1) (pr4 : FV Z h0 a1 t1) (say : (FC Z h0 a1 0 ∧ Arv Z h0 t1 k1 .byte (3 : Int32) [(.int (nar .byte (c0.toInt8.toInt32))), (.int (nar .byte (c1.toInt8.toInt32))), (.int (nar .byte (c2.toInt8.toInt32)))] (.int 0) ∧ ¬ (255 : Int32) < c0 ∧ ¬ (255 : Int32) < c1 ∧ ¬ (255 : Int32) < c2) ∨ (FC Z h0 a1 1 ∧ Arv Z h0 t1 k1 .byte (6 : Int32) [(.int (own_b0 c0)), (.int (own_b1 c0)), (.int (own_b0 c1)), (.int (own_b1 c1)), (.int (own_b0 c2)), (.int (own_b1 c2))] (.int 0))) :
    Met l Z Y21 B12 1 (some .int) [] ({ frames := 1, cells := 0, slots := 0, locals := 13 } : Room) #[(.ref a1)] h0 (fun vv h L => Fr n0 L ∧ vv = some (.int 3) ∧ h = h0) := by
  refine Met.enter (f0 := fun m => mkF m 0 #[vr a1] []) (plainFor_of_name pn6) (fun m => oe m 0) ?_
  intro p e s m below meth c s₁ hx hby hml hown hnm hret hlk hZ X0 e0
  have dk : Dk B12 c := fun h => hb hby h
  have W := @wd _ _ _ hw
  have N0 := Fr.nil n0
  rcases say with ⟨FC10, VA10, U10⟩ | ⟨FC10, VA10⟩
  · skip
    refine gz X0 1 #[vr a1] [(.ref a1)] (fun _ k => aN X0 hx (dk d10_0) rfl rfl k) ?_
    obtain ⟨T11, X11, e11, st11⟩ := getF X0 hx hZ hown (host := "") (Or.inl (W 35 rfl)) Via.refl e0 pr4 (g := (mkF m 1 #[vr a1] [(.ref a1)])) rfl rfl (dk d10_1)
    refine gz X11 4 #[vr a1] [(.ref t1)] (fun _ k => st11 _ k) ?_
    obtain ⟨cl12, Ar12, q12, S12, N_12, Hs12, G12⟩ := id VA10
    refine gz X11 5 #[vr a1] [(.int 3)] (fun _ k => X11.arraylength hx (by rw [e11]; exact Ar12.1) (State.isArrayOf_alike hZ.alike Ar12.2.1) (g := (mkF m 4 #[vr a1] [(.ref t1)])) rfl rfl (dk d10_4) _ (by rw [len_of S12 N_12]; exact k)) ?_
    refine gz X11 6 #[vr a1] [(.ref a1), (.int 3)] (fun _ k => aN X11 hx (dk d10_5) rfl rfl k) ?_
    refine goV X11 hx hZ hown (W 46 rfl) (m10 hw) pr3 0 0 0 (rm_coder0 hw a1 cs h0 n0 Z0 pr0 pr1 hcs FC10) N0 e11 pd_9 hml (dk d10_6) ?_
    rintro _ T13 L13 X13 N13 ⟨rfl, hh13⟩
    refine gz X13 10 #[vr a1] [(.int 3)] (fun _ k => XS.ishr X13.here hx rfl (dk d10_9) rfl k) ?_
    refine Go.retJ X13 hx hlk (t := .int) hret (dk d10_10) ?_
    rw [hh13]
    exact ⟨N13, rfl, rfl⟩
  · skip
    refine gz X0 1 #[vr a1] [(.ref a1)] (fun _ k => aN X0 hx (dk d10_0) rfl rfl k) ?_
    obtain ⟨T14, X14, e14, st14⟩ := getF X0 hx hZ hown (host := "") (Or.inl (W 35 rfl)) Via.refl e0 pr4 (g := (mkF m 1 #[vr a1] [(.ref a1)])) rfl rfl (dk d10_1)
    refine gz X14 4 #[vr a1] [(.ref t1)] (fun _ k => st14 _ k) ?_
    obtain ⟨cl15, Ar15, q15, S15, N_15, Hs15, G15⟩ := id VA10
    refine gz X14 5 #[vr a1] [(.int 6)] (fun _ k => X14.arraylength hx (by rw [e14]; exact Ar15.1) (State.isArrayOf_alike hZ.alike Ar15.2.1) (g := (mkF m 4 #[vr a1] [(.ref t1)])) rfl rfl (dk d10_4) _ (by rw [len_of S15 N_15]; exact k)) ?_
    refine gz X14 6 #[vr a1] [(.ref a1), (.int 6)] (fun _ k => aN X14 hx (dk d10_5) rfl rfl k) ?_
    refine goV X14 hx hZ hown (W 46 rfl) (m10 hw) pr3 0 0 0 (rm_coder1 hw a1 cs h0 n0 Z0 pr0 pr1 hcs FC10) N0 e14 pd_9 hml (dk d10_6) ?_
    rintro _ T16 L16 X16 N16 ⟨rfl, hh16⟩
    refine gz X16 10 #[vr a1] [(.int 3)] (fun _ k => XS.ishr X16.here hx rfl (dk d10_9) rfl k) ?_
    refine Go.retJ X16 hx hlk (t := .int) hret (dk d10_10) ?_
    rw [hh16]
    exact ⟨N16, rfl, rfl⟩
theorem ef_rm_pci (m : MethodId) (x0 : Int32) (x1 : Int32) (x2 : Value) (hx2 : x2.category = 1) : entryFrame m #[(.int x0), (.int x1), x2] 3 = mkF m 0 #[vi x0, vi x1, .val x2] [] := own_ent m (xs := [(.int x0), (.int x1), x2]) (k := 0) (own_a rfl (own_a rfl (own_a hx2 (fun _ q => nomatch q)))) rfl
theorem d15_0 : DK B1 0 (.iload_n 0) 1 := by decide +kernel
theorem d15_1 : DK B1 1 (.ifCond .lt 8) 3 := by decide +kernel
theorem d15_4 : DK B1 4 (.iload_n 0) 1 := by decide +kernel
theorem d15_5 : DK B1 5 (.iload_n 1) 1 := by decide +kernel
theorem d15_6 : DK B1 6 (.if_icmp .lt 10) 3 := by decide +kernel
theorem d15_16 : DK B1 16 (.iload_n 0) 1 := by decide +kernel
theorem d15_17 : DK B1 17 .ireturn 1 := by decide +kernel
theorem pn2 : plainName "jdk/internal/util/Preconditions" = true := by first | (simp [plainName, overriddenIn]; done) | decide +kernel
theorem rm_pci {l : Launch} {Z : State} {a0 : Array Value} (hw : HW a0 Z) (p1 : Int32) (p2 : Int32) (fm : Value) (h0 : Heap) (n0 : Nat) (Z0 : n0 ≤ h0.size) (hr_fm : fm.isRef = true) (q0 : ¬ (p1 < (0 : Int32))) (q1 : p1 < p2) :
    Met l Z Y47 B1 3 (some .int) [] ({ frames := 0, cells := 0, slots := 0, locals := 0 } : Room) #[(.int p1), (.int p2), fm] h0 (fun vv h L => Fr n0 L ∧ vv = some (.int p1) ∧ h = h0) := by
  refine Met.enter (f0 := fun m => mkF m 0 #[vi p1, vi p2, .val fm] []) (plainFor_of_name pn2) (fun m => ef_rm_pci m p1 p2 fm (own_cat hr_fm)) ?_
  intro p e s m below meth c s₁ hx hby hml hown hnm hret hlk hZ X0 e0
  have dk : Dk B1 c := fun h => hb hby h
  have W := @wd _ _ _ hw
  have N0 := Fr.nil n0
  refine gz X0 17 #[vi p1, vi p2, .val fm] [(.int p1)] (fun _ k => lN X0 hx (dk d15_0) rfl (fN X0 hx (dk d15_1) rfl ((if0 _ _).trans (flt q0).1) (lN X0 hx (dk d15_4) rfl (lN X0 hx (dk d15_5) rfl (cY X0 hx 6 16 rfl (dk d15_6) rfl (tlt q1).1 (lN X0 hx (dk d15_16) rfl k)))))) ?_
  refine Go.retJ X0 hx hlk (t := .int) hret (dk d15_17) ?_
  rw [e0]
  exact ⟨N0, rfl, rfl⟩
theorem d14_0 : DK B8 0 (.iload_n 0) 1 := by decide +kernel
theorem d14_1 : DK B8 1 (.iload_n 1) 1 := by decide +kernel
theorem d14_2 : DK B8 2 (.getstatic 1053) 3 := by decide +kernel
theorem d14_5 : DK B8 5 (.invokestatic 1059) 3 := by decide +kernel
theorem pd_10 : parseMethodDescriptor "(IILjava/util/function/BiFunction;)I" = some ⟨[.int, .int, (.object "java/util/function/BiFunction")], some .int⟩ := by decide +kernel
theorem m11 {Z : State} {a0 : Array Value} (hw : HW a0 Z) : (Jvm.Cond.static Y47).before a0 Z = true ∧ (Jvm.Cond.initialized "jdk/internal/util/Preconditions").before a0 Z = true ∧ (Jvm.Cond.code Y47 B1 (3 : Nat) (Option.some Jvm.ClassFile.FieldType.int)).before a0 Z = true := ⟨(wd hw 67 rfl), (wd hw 65 rfl), (wd hw 68 rfl)⟩
theorem d14_8 : DK B8 8 .pop 1 := by decide +kernel
theorem d14_9 : DK B8 9 .return_ 1 := by decide +kernel
theorem rm_sci {l : Launch} {Z : State} {a0 : Array Value} (hw : HW a0 Z) (p1 : Int32) (p2 : Int32) (fm : Value) (h0 : Heap) (n0 : Nat) (Z0 : n0 ≤ h0.size) (pr0 : Old Z n0 h0) (pr1 : S4 Z fm) (hr_fm : fm.isRef = true) (q0 : ¬ (p1 < (0 : Int32))) (q1 : p1 < p2) :
    Met l Z Y17 B8 2 none [] ({ frames := 1, cells := 0, slots := 0, locals := 14 } : Room) #[(.int p1), (.int p2)] h0 (fun vv h L => Fr n0 L ∧ vv = none ∧ h = h0) := by
  refine Met.enter (f0 := fun m => mkF m 0 #[vi p1, vi p2] []) (plainFor_of_name pn6) (fun m => oe m 0) ?_
  intro p e s m below meth c s₁ hx hby hml hown hnm hret hlk hZ X0 e0
  have dk : Dk B8 c := fun h => hb hby h
  have W := @wd _ _ _ hw
  have N0 := Fr.nil n0
  refine gz X0 2 #[vi p1, vi p2] [(.int p2), (.int p1)] (fun _ k => lN X0 hx (dk d14_0) rfl (lN X0 hx (dk d14_1) rfl k)) ?_
  obtain ⟨T10, X10, e10, st10⟩ := getS2 X0 hx hZ hown (host := "") (Or.inl (W 64 rfl)) Via.refl e0 (pr1.ext pr0.2) (g := (mkF m 2 #[vi p1, vi p2] [(.int p2), (.int p1)])) rfl (dk d14_2)
  refine gz X10 5 #[vi p1, vi p2] [fm, (.int p2), (.int p1)] (fun _ k => st10 _ k) ?_
  refine goS X10 hx hZ hown (W 66 rfl) (m11 hw) 3 0 0 (rm_pci hw p1 p2 fm h0 n0 Z0 hr_fm q0 q1) N0 e10 pd_10 hml (dk d14_5) ?_
  rintro _ T11 L11 X11 N11 ⟨rfl, hh11⟩
  refine gz X11 9 #[vi p1, vi p2] [] (fun _ k => XS.pop X11.here hx rfl (dk d14_8) rfl rfl k) ?_
  refine Go.retV X11 hx hlk hret (dk d14_9) (by decide) (by decide) ?_
  rw [hh11]
  exact ⟨N11, rfl, rfl⟩
theorem d42_0 : DK B29 0 (.aload_n 0) 1 := by decide +kernel
theorem d42_1 : DK B29 1 .arraylength 1 := by decide +kernel
theorem d42_2 : DK B29 2 (.iconst 1) 1 := by decide +kernel
theorem d42_3 : DK B29 3 .ishr 1 := by decide +kernel
theorem d42_4 : DK B29 4 .ireturn 1 := by decide +kernel
theorem rm_ulen {l : Launch} {Z : State} {a0 : Array Value} (hw : HW a0 Z) (b1 : Addr) (kb : ClassId) (z : Int32) (vs : List Value) (h0 : Heap) (n0 : Nat) (Z0 : n0 ≤ h0.size) (pr0 : Arv Z h0 b1 kb .byte z vs (.int 0)) :
    Met l Z Y36 B29 1 (some .int) [] ({ frames := 0, cells := 0, slots := 0, locals := 0 } : Room) #[(.ref b1)] h0 (fun vv h L => Fr n0 L ∧ vv = some (.int (z >>> ((1 : Int32) &&& 31))) ∧ h = h0) := by
  refine Met.enter (f0 := fun m => mkF m 0 #[vr b1] []) (plainFor_of_name pn4) (fun m => oe m 0) ?_
  intro p e s m below meth c s₁ hx hby hml hown hnm hret hlk hZ X0 e0
  have dk : Dk B29 c := fun h => hb hby h
  have W := @wd _ _ _ hw
  have N0 := Fr.nil n0
  refine gz X0 1 #[vr b1] [(.ref b1)] (fun _ k => aN X0 hx (dk d42_0) rfl rfl k) ?_
  obtain ⟨cl10, Ar10, q10, S10, N_10, Hs10, G10⟩ := id pr0
  refine gz X0 2 #[vr b1] [(.int z)] (fun _ k => X0.arraylength hx (by rw [e0]; exact Ar10.1) (State.isArrayOf_alike hZ.alike Ar10.2.1) (g := (mkF m 1 #[vr b1] [(.ref b1)])) rfl rfl (dk d42_1) _ (by rw [len_of S10 N_10]; exact k)) ?_
  refine gz X0 4 #[vr b1] [(.int (z >>> ((1 : Int32) &&& 31)))] (fun _ k => kC X0 hx (dk d42_2) (XS.ishr X0.here hx rfl (dk d42_3) rfl k)) ?_
  refine Go.retJ X0 hx hlk (t := .int) hret (dk d42_4) ?_
  rw [e0]
  exact ⟨N0, rfl, rfl⟩
theorem d25_0 : DK B16 0 (.iload_n 1) 1 := by decide +kernel
theorem d25_1 : DK B16 1 (.aload_n 0) 1 := by decide +kernel
theorem d25_2 : DK B16 2 .arraylength 1 := by decide +kernel
theorem d25_3 : DK B16 3 (.invokestatic 9) 3 := by decide +kernel
theorem pd_11 : parseMethodDescriptor "(II)V" = some ⟨[.int, .int], none⟩ := by decide +kernel
theorem m12 {Z : State} {a0 : Array Value} (hw : HW a0 Z) : (Jvm.Cond.static Y17).before a0 Z = true ∧ (Jvm.Cond.initialized "java/lang/String").before a0 Z = true ∧ (Jvm.Cond.code Y17 B8 (2 : Nat) (Option.none : Option Jvm.ClassFile.FieldType)).before a0 Z = true := ⟨(wd hw 62 rfl), (wd hw 10 rfl), (wd hw 63 rfl)⟩
theorem d25_6 : DK B16 6 (.aload_n 0) 1 := by decide +kernel
theorem d25_7 : DK B16 7 (.iload_n 1) 1 := by decide +kernel
theorem d25_8 : DK B16 8 .baload 1 := by decide +kernel
theorem d25_9 : DK B16 9 (.sipush 255) 3 := by decide +kernel
theorem d25_12 : DK B16 12 .iand 1 := by decide +kernel
theorem d25_13 : DK B16 13 .i2c 1 := by decide +kernel
theorem d25_14 : DK B16 14 .ireturn 1 := by decide +kernel
theorem pn3 : plainName "java/lang/StringLatin1" = true := by first | (simp [plainName, overriddenIn]; done) | decide +kernel
theorem rm_lca0 {l : Launch} {Z : State} {a0 : Array Value} (hw : HW a0 Z) (b1 : Addr) (kb : ClassId) (z : Int32) (vs : List Value) (cc : Int32) (fm : Value) (h0 : Heap) (n0 : Nat) (Z0 : n0 ≤ h0.size) (pr0 : Old Z n0 h0) (pr1 : S4 Z fm) (hr_fm : fm.isRef = true) (pr3 : Arv Z h0 b1 kb .byte z vs (.int 0)) (hz0 : (0 : Int32) < z) (he0 : vs.getD 0 (.int 0) = .int (nar .byte (cc.toInt8.toInt32))) (hrc : own_rng cc) (hnc : ¬ ((255 : Int32) < cc)) :
    Met l Z Y23 B16 2 (some .char) [] ({ frames := 2, cells := 0, slots := 0, locals := 27 } : Room) #[(.ref b1), (.int 0)] h0 (fun vv h L => Fr n0 L ∧ vv = some (.int cc) ∧ h = h0) := by
  refine Met.enter (f0 := fun m => mkF m 0 #[vr b1, vi 0] []) (plainFor_of_name pn3) (fun m => oe m 0) ?_
  intro p e s m below meth c s₁ hx hby hml hown hnm hret hlk hZ X0 e0
  have dk : Dk B16 c := fun h => hb hby h
  have W := @wd _ _ _ hw
  have N0 := Fr.nil n0
  refine gz X0 2 #[vr b1, vi 0] [(.ref b1), (.int 0)] (fun _ k => lN X0 hx (dk d25_0) rfl (aN X0 hx (dk d25_1) rfl rfl k)) ?_
  obtain ⟨cl10, Ar10, q10, S10, N_10, Hs10, G10⟩ := id pr3
  refine gz X0 3 #[vr b1, vi 0] [(.int z), (.int 0)] (fun _ k => X0.arraylength hx (by rw [e0]; exact Ar10.1) (State.isArrayOf_alike hZ.alike Ar10.2.1) (g := (mkF m 2 #[vr b1, vi 0] [(.ref b1), (.int 0)])) rfl rfl (dk d25_2) _ (by rw [len_of S10 N_10]; exact k)) ?_
  refine goS X0 hx hZ hown (W 112 rfl) (m12 hw) 2 0 0 (rm_sci hw (0 : Int32) z fm h0 n0 Z0 pr0 pr1 hr_fm (by decide) hz0) N0 e0 pd_11 hml (dk d25_3) ?_
  rintro _ T11 L11 X11 N11 ⟨rfl, hh11⟩
  refine gz X11 8 #[vr b1, vi 0] [(.int 0), (.ref b1)] (fun _ k => aN X11 hx (dk d25_6) rfl rfl (lN X11 hx (dk d25_7) rfl k)) ?_
  obtain ⟨cl12, Ar12, q12, S12, N_12, Hs12, G12⟩ := id pr3
  have hin13 : ¬ ((0 : Int32) < 0 ∨ cl12.slots.size ≤ ((0 : Int32)).toNatClampNeg) := inb_of S12 ⟨by decide, hz0⟩
  have hat13 : cl12.slots[((0 : Int32)).toNatClampNeg]? = some (.int (nar .byte (cc.toInt8.toInt32))) := Hs12.at hin13 he0
  refine gz X11 9 #[vr b1, vi 0] [(.int (nar .byte (cc.toInt8.toInt32)))] (fun _ k => X11.baloadBytes hx (j := (0 : Int32)) (v := (.int (nar .byte (cc.toInt8.toInt32)))) (by rw [hh11]; exact Ar12.1) (State.isArrayOf_alike hZ.alike Ar12.2.1) Ar12.2.2 hin13 hat13 (g := (mkF m 8 #[vr b1, vi 0] [(.int 0), (.ref b1)])) rfl rfl (dk d25_8) _ k) ?_
  refine gz X11 14 #[vr b1, vi 0] [(.int (((nar .byte (cc.toInt8.toInt32)) &&& (255 : Int32)).toUInt32.toUInt16.toUInt32.toInt32))] (fun _ k => XS.sipush X11.here hx rfl (dk d25_9) (XS.iand X11.here hx rfl (dk d25_12) rfl (XS.i2c X11.here hx rfl (dk d25_13) rfl k))) ?_
  refine Go.retZ X11 hx hlk (t := .char) hret (by simp) (dk d25_14) (by decide) (by decide) ?_
  rw [hh11]
  exact ⟨N11, (congrArg (fun q => some (Value.int q)) (own_lc hrc hnc)), rfl⟩
theorem d41_0 : DK B33 0 (.iload_n 0) 1 := by decide +kernel
theorem d41_1 : DK B33 1 (.aload_n 1) 1 := by decide +kernel
theorem d41_2 : DK B33 2 (.invokestatic 48) 3 := by decide +kernel
theorem pd_12 : parseMethodDescriptor "([B)I" = some ⟨[(.array .byte)], some .int⟩ := by decide +kernel
theorem m13 {Z : State} {a0 : Array Value} (hw : HW a0 Z) : (Jvm.Cond.static Y36).before a0 Z = true ∧ (Jvm.Cond.initialized "java/lang/StringUTF16").before a0 Z = true ∧ (Jvm.Cond.code Y36 B29 (1 : Nat) (Option.some Jvm.ClassFile.FieldType.int)).before a0 Z = true := ⟨(wd hw 179 rfl), (wd hw 24 rfl), (wd hw 180 rfl)⟩
theorem d41_5 : DK B33 5 (.invokestatic 414) 3 := by decide +kernel
theorem d41_8 : DK B33 8 .return_ 1 := by decide +kernel
theorem rm_uci0 {l : Launch} {Z : State} {a0 : Array Value} (hw : HW a0 Z) (b1 : Addr) (kb : ClassId) (z : Int32) (vs : List Value) (fm : Value) (h0 : Heap) (n0 : Nat) (Z0 : n0 ≤ h0.size) (pr0 : Old Z n0 h0) (pr1 : S4 Z fm) (hr_fm : fm.isRef = true) (pr3 : Arv Z h0 b1 kb .byte z vs (.int 0)) (hu0 : (0 : Int32) < (z >>> ((1 : Int32) &&& 31))) :
    Met l Z Y27 B33 2 none [] ({ frames := 2, cells := 0, slots := 0, locals := 27 } : Room) #[(.int 0), (.ref b1)] h0 (fun vv h L => Fr n0 L ∧ vv = none ∧ h = h0) := by
  refine Met.enter (f0 := fun m => mkF m 0 #[vi 0, vr b1] []) (plainFor_of_name pn4) (fun m => oe m 0) ?_
  intro p e s m below meth c s₁ hx hby hml hown hnm hret hlk hZ X0 e0
  have dk : Dk B33 c := fun h => hb hby h
  have W := @wd _ _ _ hw
  have N0 := Fr.nil n0
  refine gz X0 2 #[vi 0, vr b1] [(.ref b1), (.int 0)] (fun _ k => lN X0 hx (dk d41_0) rfl (aN X0 hx (dk d41_1) rfl rfl k)) ?_
  refine goS X0 hx hZ hown (W 178 rfl) (m13 hw) 1 0 0 (rm_ulen hw b1 kb z vs h0 n0 Z0 pr3) N0 e0 pd_12 hml (dk d41_2) ?_
  rintro _ T10 L10 X10 N10 ⟨rfl, hh10⟩
  refine goS X10 hx hZ hown (W 181 rfl) (m12 hw) 2 0 0 (rm_sci hw (0 : Int32) (z >>> ((1 : Int32) &&& 31)) fm h0 n0 Z0 pr0 pr1 hr_fm (by decide) hu0) N10 hh10 pd_11 hml (dk d41_5) ?_
  rintro _ T11 L11 X11 N11 ⟨rfl, hh11⟩
  refine gz X11 8 #[vi 0, vr b1] [] (fun _ k => k) ?_
  refine Go.retV X11 hx hlk hret (dk d41_8) (by decide) (by decide) ?_
  rw [hh11]
  exact ⟨N11, rfl, rfl⟩
theorem d40_0 : DK B31 0 (.iload_n 1) 1 := by decide +kernel
theorem d40_1 : DK B31 1 (.aload_n 0) 1 := by decide +kernel
theorem d40_2 : DK B31 2 (.invokestatic 67) 3 := by decide +kernel
theorem pd_13 : parseMethodDescriptor "(I[B)V" = some ⟨[.int, (.array .byte)], none⟩ := by decide +kernel
theorem m14 {Z : State} {a0 : Array Value} (hw : HW a0 Z) : (Jvm.Cond.static Y27).before a0 Z = true ∧ (Jvm.Cond.initialized "java/lang/StringUTF16").before a0 Z = true ∧ (Jvm.Cond.code Y27 B33 (2 : Nat) (Option.none : Option Jvm.ClassFile.FieldType)).before a0 Z = true := ⟨(wd hw 176 rfl), (wd hw 24 rfl), (wd hw 177 rfl)⟩
theorem d40_5 : DK B31 5 (.aload_n 0) 1 := by decide +kernel
theorem d40_6 : DK B31 6 (.iload_n 1) 1 := by decide +kernel
theorem d40_7 : DK B31 7 (.invokestatic 71) 3 := by decide +kernel
theorem d40_10 : DK B31 10 .ireturn 1 := by decide +kernel
theorem rm_uca0 {l : Launch} {Z : State} {a0 : Array Value} (hw : HW a0 Z) (b1 : Addr) (kb : ClassId) (z : Int32) (vs : List Value) (cc : Int32) (fm : Value) (h0 : Heap) (n0 : Nat) (Z0 : n0 ≤ h0.size) (pr0 : Old Z n0 h0) (pr1 : S4 Z fm) (hr_fm : fm.isRef = true) (pr3 : S0 Z) (pr4 : S1 Z) (pr5 : S2 Z) (pr6 : Arv Z h0 b1 kb .byte z vs (.int 0)) (hz0 : (0 : Int32) < z) (hz1 : (1 : Int32) < z) (hu0 : (0 : Int32) < (z >>> ((1 : Int32) &&& 31))) (he0 : vs.getD 0 (.int 0) = .int (own_b0 cc)) (he1 : vs.getD 1 (.int 0) = .int (own_b1 cc)) (hrc : own_rng cc) :
    Met l Z Y25 B31 2 (some .char) [] ({ frames := 3, cells := 0, slots := 0, locals := 40 } : Room) #[(.ref b1), (.int 0)] h0 (fun vv h L => Fr n0 L ∧ vv = some (.int cc) ∧ h = h0) := by
  refine Met.enter (f0 := fun m => mkF m 0 #[vr b1, vi 0] []) (plainFor_of_name pn4) (fun m => oe m 0) ?_
  intro p e s m below meth c s₁ hx hby hml hown hnm hret hlk hZ X0 e0
  have dk : Dk B31 c := fun h => hb hby h
  have W := @wd _ _ _ hw
  have N0 := Fr.nil n0
  refine gz X0 2 #[vr b1, vi 0] [(.ref b1), (.int 0)] (fun _ k => lN X0 hx (dk d40_0) rfl (aN X0 hx (dk d40_1) rfl rfl k)) ?_
  refine goS X0 hx hZ hown (W 175 rfl) (m14 hw) 2 0 0 (rm_uci0 hw b1 kb z vs fm h0 n0 Z0 pr0 pr1 hr_fm pr6 hu0) N0 e0 pd_13 hml (dk d40_2) ?_
  rintro _ T10 L10 X10 N10 ⟨rfl, hh10⟩
  refine gz X10 7 #[vr b1, vi 0] [(.int 0), (.ref b1)] (fun _ k => aN X10 hx (dk d40_5) rfl rfl (lN X10 hx (dk d40_6) rfl k)) ?_
  refine goS X10 hx hZ hown (W 130 rfl) (m5 hw) 2 0 0 (rm_get_0 hw b1 kb cc z vs h0 n0 Z0 pr0 pr3 pr4 pr5 pr6 hz0 hz1 he0 he1 hrc) N10 hh10 pd_5 hml (dk d40_7) ?_
  rintro _ T11 L11 X11 N11 ⟨rfl, hh11⟩
  refine gz X11 10 #[vr b1, vi 0] [(.int cc)] (fun _ k => k) ?_
  refine Go.retZ X11 hx hlk (t := .char) hret (by simp) (dk d40_10) (by decide) (by decide) ?_
  rw [hh11]
  exact ⟨N11, (congrArg (fun q => some (Value.int q)) (own_nc hrc)), rfl⟩
theorem rm_lca1 {l : Launch} {Z : State} {a0 : Array Value} (hw : HW a0 Z) (b1 : Addr) (kb : ClassId) (z : Int32) (vs : List Value) (cc : Int32) (fm : Value) (h0 : Heap) (n0 : Nat) (Z0 : n0 ≤ h0.size) (pr0 : Old Z n0 h0) (pr1 : S4 Z fm) (hr_fm : fm.isRef = true) (pr3 : Arv Z h0 b1 kb .byte z vs (.int 0)) (hz1 : (1 : Int32) < z) (he1 : vs.getD 1 (.int 0) = .int (nar .byte (cc.toInt8.toInt32))) (hrc : own_rng cc) (hnc : ¬ ((255 : Int32) < cc)) :
    Met l Z Y23 B16 2 (some .char) [] ({ frames := 2, cells := 0, slots := 0, locals := 27 } : Room) #[(.ref b1), (.int 1)] h0 (fun vv h L => Fr n0 L ∧ vv = some (.int cc) ∧ h = h0) := by
  refine Met.enter (f0 := fun m => mkF m 0 #[vr b1, vi 1] []) (plainFor_of_name pn3) (fun m => oe m 0) ?_
  intro p e s m below meth c s₁ hx hby hml hown hnm hret hlk hZ X0 e0
  have dk : Dk B16 c := fun h => hb hby h
  have W := @wd _ _ _ hw
  have N0 := Fr.nil n0
  refine gz X0 2 #[vr b1, vi 1] [(.ref b1), (.int 1)] (fun _ k => lN X0 hx (dk d25_0) rfl (aN X0 hx (dk d25_1) rfl rfl k)) ?_
  obtain ⟨cl10, Ar10, q10, S10, N_10, Hs10, G10⟩ := id pr3
  refine gz X0 3 #[vr b1, vi 1] [(.int z), (.int 1)] (fun _ k => X0.arraylength hx (by rw [e0]; exact Ar10.1) (State.isArrayOf_alike hZ.alike Ar10.2.1) (g := (mkF m 2 #[vr b1, vi 1] [(.ref b1), (.int 1)])) rfl rfl (dk d25_2) _ (by rw [len_of S10 N_10]; exact k)) ?_
  refine goS X0 hx hZ hown (W 112 rfl) (m12 hw) 2 0 0 (rm_sci hw (1 : Int32) z fm h0 n0 Z0 pr0 pr1 hr_fm (by decide) hz1) N0 e0 pd_11 hml (dk d25_3) ?_
  rintro _ T11 L11 X11 N11 ⟨rfl, hh11⟩
  refine gz X11 8 #[vr b1, vi 1] [(.int 1), (.ref b1)] (fun _ k => aN X11 hx (dk d25_6) rfl rfl (lN X11 hx (dk d25_7) rfl k)) ?_
  obtain ⟨cl12, Ar12, q12, S12, N_12, Hs12, G12⟩ := id pr3
  have hin13 : ¬ ((1 : Int32) < 0 ∨ cl12.slots.size ≤ ((1 : Int32)).toNatClampNeg) := inb_of S12 ⟨by decide, hz1⟩
  have hat13 : cl12.slots[((1 : Int32)).toNatClampNeg]? = some (.int (nar .byte (cc.toInt8.toInt32))) := Hs12.at hin13 he1
  refine gz X11 9 #[vr b1, vi 1] [(.int (nar .byte (cc.toInt8.toInt32)))] (fun _ k => X11.baloadBytes hx (j := (1 : Int32)) (v := (.int (nar .byte (cc.toInt8.toInt32)))) (by rw [hh11]; exact Ar12.1) (State.isArrayOf_alike hZ.alike Ar12.2.1) Ar12.2.2 hin13 hat13 (g := (mkF m 8 #[vr b1, vi 1] [(.int 1), (.ref b1)])) rfl rfl (dk d25_8) _ k) ?_
  refine gz X11 14 #[vr b1, vi 1] [(.int (((nar .byte (cc.toInt8.toInt32)) &&& (255 : Int32)).toUInt32.toUInt16.toUInt32.toInt32))] (fun _ k => XS.sipush X11.here hx rfl (dk d25_9) (XS.iand X11.here hx rfl (dk d25_12) rfl (XS.i2c X11.here hx rfl (dk d25_13) rfl k))) ?_
  refine Go.retZ X11 hx hlk (t := .char) hret (by simp) (dk d25_14) (by decide) (by decide) ?_
  rw [hh11]
  exact ⟨N11, (congrArg (fun q => some (Value.int q)) (own_lc hrc hnc)), rfl⟩
theorem rm_uci1 {l : Launch} {Z : State} {a0 : Array Value} (hw : HW a0 Z) (b1 : Addr) (kb : ClassId) (z : Int32) (vs : List Value) (fm : Value) (h0 : Heap) (n0 : Nat) (Z0 : n0 ≤ h0.size) (pr0 : Old Z n0 h0) (pr1 : S4 Z fm) (hr_fm : fm.isRef = true) (pr3 : Arv Z h0 b1 kb .byte z vs (.int 0)) (hu1 : (1 : Int32) < (z >>> ((1 : Int32) &&& 31))) :
    Met l Z Y27 B33 2 none [] ({ frames := 2, cells := 0, slots := 0, locals := 27 } : Room) #[(.int 1), (.ref b1)] h0 (fun vv h L => Fr n0 L ∧ vv = none ∧ h = h0) := by
  refine Met.enter (f0 := fun m => mkF m 0 #[vi 1, vr b1] []) (plainFor_of_name pn4) (fun m => oe m 0) ?_
  intro p e s m below meth c s₁ hx hby hml hown hnm hret hlk hZ X0 e0
  have dk : Dk B33 c := fun h => hb hby h
  have W := @wd _ _ _ hw
  have N0 := Fr.nil n0
  refine gz X0 2 #[vi 1, vr b1] [(.ref b1), (.int 1)] (fun _ k => lN X0 hx (dk d41_0) rfl (aN X0 hx (dk d41_1) rfl rfl k)) ?_
  refine goS X0 hx hZ hown (W 178 rfl) (m13 hw) 1 0 0 (rm_ulen hw b1 kb z vs h0 n0 Z0 pr3) N0 e0 pd_12 hml (dk d41_2) ?_
  rintro _ T10 L10 X10 N10 ⟨rfl, hh10⟩
  refine goS X10 hx hZ hown (W 181 rfl) (m12 hw) 2 0 0 (rm_sci hw (1 : Int32) (z >>> ((1 : Int32) &&& 31)) fm h0 n0 Z0 pr0 pr1 hr_fm (by decide) hu1) N10 hh10 pd_11 hml (dk d41_5) ?_
  rintro _ T11 L11 X11 N11 ⟨rfl, hh11⟩
  refine gz X11 8 #[vi 1, vr b1] [] (fun _ k => k) ?_
  refine Go.retV X11 hx hlk hret (dk d41_8) (by decide) (by decide) ?_
  rw [hh11]
  exact ⟨N11, rfl, rfl⟩
theorem rm_uca1 {l : Launch} {Z : State} {a0 : Array Value} (hw : HW a0 Z) (b1 : Addr) (kb : ClassId) (z : Int32) (vs : List Value) (cc : Int32) (fm : Value) (h0 : Heap) (n0 : Nat) (Z0 : n0 ≤ h0.size) (pr0 : Old Z n0 h0) (pr1 : S4 Z fm) (hr_fm : fm.isRef = true) (pr3 : S0 Z) (pr4 : S1 Z) (pr5 : S2 Z) (pr6 : Arv Z h0 b1 kb .byte z vs (.int 0)) (hz2 : (2 : Int32) < z) (hz3 : (3 : Int32) < z) (hu1 : (1 : Int32) < (z >>> ((1 : Int32) &&& 31))) (he2 : vs.getD 2 (.int 0) = .int (own_b0 cc)) (he3 : vs.getD 3 (.int 0) = .int (own_b1 cc)) (hrc : own_rng cc) :
    Met l Z Y25 B31 2 (some .char) [] ({ frames := 3, cells := 0, slots := 0, locals := 40 } : Room) #[(.ref b1), (.int 1)] h0 (fun vv h L => Fr n0 L ∧ vv = some (.int cc) ∧ h = h0) := by
  refine Met.enter (f0 := fun m => mkF m 0 #[vr b1, vi 1] []) (plainFor_of_name pn4) (fun m => oe m 0) ?_
  intro p e s m below meth c s₁ hx hby hml hown hnm hret hlk hZ X0 e0
  have dk : Dk B31 c := fun h => hb hby h
  have W := @wd _ _ _ hw
  have N0 := Fr.nil n0
  refine gz X0 2 #[vr b1, vi 1] [(.ref b1), (.int 1)] (fun _ k => lN X0 hx (dk d40_0) rfl (aN X0 hx (dk d40_1) rfl rfl k)) ?_
  refine goS X0 hx hZ hown (W 175 rfl) (m14 hw) 2 0 0 (rm_uci1 hw b1 kb z vs fm h0 n0 Z0 pr0 pr1 hr_fm pr6 hu1) N0 e0 pd_13 hml (dk d40_2) ?_
  rintro _ T10 L10 X10 N10 ⟨rfl, hh10⟩
  refine gz X10 7 #[vr b1, vi 1] [(.int 1), (.ref b1)] (fun _ k => aN X10 hx (dk d40_5) rfl rfl (lN X10 hx (dk d40_6) rfl k)) ?_
  refine goS X10 hx hZ hown (W 130 rfl) (m5 hw) 2 0 0 (rm_get_1 hw b1 kb cc z vs h0 n0 Z0 pr0 pr3 pr4 pr5 pr6 hz2 hz3 he2 he3 hrc) N10 hh10 pd_5 hml (dk d40_7) ?_
  rintro _ T11 L11 X11 N11 ⟨rfl, hh11⟩
  refine gz X11 10 #[vr b1, vi 1] [(.int cc)] (fun _ k => k) ?_
  refine Go.retZ X11 hx hlk (t := .char) hret (by simp) (dk d40_10) (by decide) (by decide) ?_
  rw [hh11]
  exact ⟨N11, (congrArg (fun q => some (Value.int q)) (own_nc hrc)), rfl⟩
theorem rm_lca2 {l : Launch} {Z : State} {a0 : Array Value} (hw : HW a0 Z) (b1 : Addr) (kb : ClassId) (z : Int32) (vs : List Value) (cc : Int32) (fm : Value) (h0 : Heap) (n0 : Nat) (Z0 : n0 ≤ h0.size) (pr0 : Old Z n0 h0) (pr1 : S4 Z fm) (hr_fm : fm.isRef = true) (pr3 : Arv Z h0 b1 kb .byte z vs (.int 0)) (hz2 : (2 : Int32) < z) (he2 : vs.getD 2 (.int 0) = .int (nar .byte (cc.toInt8.toInt32))) (hrc : own_rng cc) (hnc : ¬ ((255 : Int32) < cc)) :
    Met l Z Y23 B16 2 (some .char) [] ({ frames := 2, cells := 0, slots := 0, locals := 27 } : Room) #[(.ref b1), (.int 2)] h0 (fun vv h L => Fr n0 L ∧ vv = some (.int cc) ∧ h = h0) := by
  refine Met.enter (f0 := fun m => mkF m 0 #[vr b1, vi 2] []) (plainFor_of_name pn3) (fun m => oe m 0) ?_
  intro p e s m below meth c s₁ hx hby hml hown hnm hret hlk hZ X0 e0
  have dk : Dk B16 c := fun h => hb hby h
  have W := @wd _ _ _ hw
  have N0 := Fr.nil n0
  refine gz X0 2 #[vr b1, vi 2] [(.ref b1), (.int 2)] (fun _ k => lN X0 hx (dk d25_0) rfl (aN X0 hx (dk d25_1) rfl rfl k)) ?_
  obtain ⟨cl10, Ar10, q10, S10, N_10, Hs10, G10⟩ := id pr3
  refine gz X0 3 #[vr b1, vi 2] [(.int z), (.int 2)] (fun _ k => X0.arraylength hx (by rw [e0]; exact Ar10.1) (State.isArrayOf_alike hZ.alike Ar10.2.1) (g := (mkF m 2 #[vr b1, vi 2] [(.ref b1), (.int 2)])) rfl rfl (dk d25_2) _ (by rw [len_of S10 N_10]; exact k)) ?_
  refine goS X0 hx hZ hown (W 112 rfl) (m12 hw) 2 0 0 (rm_sci hw (2 : Int32) z fm h0 n0 Z0 pr0 pr1 hr_fm (by decide) hz2) N0 e0 pd_11 hml (dk d25_3) ?_
  rintro _ T11 L11 X11 N11 ⟨rfl, hh11⟩
  refine gz X11 8 #[vr b1, vi 2] [(.int 2), (.ref b1)] (fun _ k => aN X11 hx (dk d25_6) rfl rfl (lN X11 hx (dk d25_7) rfl k)) ?_
  obtain ⟨cl12, Ar12, q12, S12, N_12, Hs12, G12⟩ := id pr3
  have hin13 : ¬ ((2 : Int32) < 0 ∨ cl12.slots.size ≤ ((2 : Int32)).toNatClampNeg) := inb_of S12 ⟨by decide, hz2⟩
  have hat13 : cl12.slots[((2 : Int32)).toNatClampNeg]? = some (.int (nar .byte (cc.toInt8.toInt32))) := Hs12.at hin13 he2
  refine gz X11 9 #[vr b1, vi 2] [(.int (nar .byte (cc.toInt8.toInt32)))] (fun _ k => X11.baloadBytes hx (j := (2 : Int32)) (v := (.int (nar .byte (cc.toInt8.toInt32)))) (by rw [hh11]; exact Ar12.1) (State.isArrayOf_alike hZ.alike Ar12.2.1) Ar12.2.2 hin13 hat13 (g := (mkF m 8 #[vr b1, vi 2] [(.int 2), (.ref b1)])) rfl rfl (dk d25_8) _ k) ?_
  refine gz X11 14 #[vr b1, vi 2] [(.int (((nar .byte (cc.toInt8.toInt32)) &&& (255 : Int32)).toUInt32.toUInt16.toUInt32.toInt32))] (fun _ k => XS.sipush X11.here hx rfl (dk d25_9) (XS.iand X11.here hx rfl (dk d25_12) rfl (XS.i2c X11.here hx rfl (dk d25_13) rfl k))) ?_
  refine Go.retZ X11 hx hlk (t := .char) hret (by simp) (dk d25_14) (by decide) (by decide) ?_
  rw [hh11]
  exact ⟨N11, (congrArg (fun q => some (Value.int q)) (own_lc hrc hnc)), rfl⟩
theorem rm_uci2 {l : Launch} {Z : State} {a0 : Array Value} (hw : HW a0 Z) (b1 : Addr) (kb : ClassId) (z : Int32) (vs : List Value) (fm : Value) (h0 : Heap) (n0 : Nat) (Z0 : n0 ≤ h0.size) (pr0 : Old Z n0 h0) (pr1 : S4 Z fm) (hr_fm : fm.isRef = true) (pr3 : Arv Z h0 b1 kb .byte z vs (.int 0)) (hu2 : (2 : Int32) < (z >>> ((1 : Int32) &&& 31))) :
    Met l Z Y27 B33 2 none [] ({ frames := 2, cells := 0, slots := 0, locals := 27 } : Room) #[(.int 2), (.ref b1)] h0 (fun vv h L => Fr n0 L ∧ vv = none ∧ h = h0) := by
  refine Met.enter (f0 := fun m => mkF m 0 #[vi 2, vr b1] []) (plainFor_of_name pn4) (fun m => oe m 0) ?_
  intro p e s m below meth c s₁ hx hby hml hown hnm hret hlk hZ X0 e0
  have dk : Dk B33 c := fun h => hb hby h
  have W := @wd _ _ _ hw
  have N0 := Fr.nil n0
  refine gz X0 2 #[vi 2, vr b1] [(.ref b1), (.int 2)] (fun _ k => lN X0 hx (dk d41_0) rfl (aN X0 hx (dk d41_1) rfl rfl k)) ?_
  refine goS X0 hx hZ hown (W 178 rfl) (m13 hw) 1 0 0 (rm_ulen hw b1 kb z vs h0 n0 Z0 pr3) N0 e0 pd_12 hml (dk d41_2) ?_
  rintro _ T10 L10 X10 N10 ⟨rfl, hh10⟩
  refine goS X10 hx hZ hown (W 181 rfl) (m12 hw) 2 0 0 (rm_sci hw (2 : Int32) (z >>> ((1 : Int32) &&& 31)) fm h0 n0 Z0 pr0 pr1 hr_fm (by decide) hu2) N10 hh10 pd_11 hml (dk d41_5) ?_
  rintro _ T11 L11 X11 N11 ⟨rfl, hh11⟩
  refine gz X11 8 #[vi 2, vr b1] [] (fun _ k => k) ?_
  refine Go.retV X11 hx hlk hret (dk d41_8) (by decide) (by decide) ?_
  rw [hh11]
  exact ⟨N11, rfl, rfl⟩
theorem rm_uca2 {l : Launch} {Z : State} {a0 : Array Value} (hw : HW a0 Z) (b1 : Addr) (kb : ClassId) (z : Int32) (vs : List Value) (cc : Int32) (fm : Value) (h0 : Heap) (n0 : Nat) (Z0 : n0 ≤ h0.size) (pr0 : Old Z n0 h0) (pr1 : S4 Z fm) (hr_fm : fm.isRef = true) (pr3 : S0 Z) (pr4 : S1 Z) (pr5 : S2 Z) (pr6 : Arv Z h0 b1 kb .byte z vs (.int 0)) (hz4 : (4 : Int32) < z) (hz5 : (5 : Int32) < z) (hu2 : (2 : Int32) < (z >>> ((1 : Int32) &&& 31))) (he4 : vs.getD 4 (.int 0) = .int (own_b0 cc)) (he5 : vs.getD 5 (.int 0) = .int (own_b1 cc)) (hrc : own_rng cc) :
    Met l Z Y25 B31 2 (some .char) [] ({ frames := 3, cells := 0, slots := 0, locals := 40 } : Room) #[(.ref b1), (.int 2)] h0 (fun vv h L => Fr n0 L ∧ vv = some (.int cc) ∧ h = h0) := by
  refine Met.enter (f0 := fun m => mkF m 0 #[vr b1, vi 2] []) (plainFor_of_name pn4) (fun m => oe m 0) ?_
  intro p e s m below meth c s₁ hx hby hml hown hnm hret hlk hZ X0 e0
  have dk : Dk B31 c := fun h => hb hby h
  have W := @wd _ _ _ hw
  have N0 := Fr.nil n0
  refine gz X0 2 #[vr b1, vi 2] [(.ref b1), (.int 2)] (fun _ k => lN X0 hx (dk d40_0) rfl (aN X0 hx (dk d40_1) rfl rfl k)) ?_
  refine goS X0 hx hZ hown (W 175 rfl) (m14 hw) 2 0 0 (rm_uci2 hw b1 kb z vs fm h0 n0 Z0 pr0 pr1 hr_fm pr6 hu2) N0 e0 pd_13 hml (dk d40_2) ?_
  rintro _ T10 L10 X10 N10 ⟨rfl, hh10⟩
  refine gz X10 7 #[vr b1, vi 2] [(.int 2), (.ref b1)] (fun _ k => aN X10 hx (dk d40_5) rfl rfl (lN X10 hx (dk d40_6) rfl k)) ?_
  refine goS X10 hx hZ hown (W 130 rfl) (m5 hw) 2 0 0 (rm_get_2 hw b1 kb cc z vs h0 n0 Z0 pr0 pr3 pr4 pr5 pr6 hz4 hz5 he4 he5 hrc) N10 hh10 pd_5 hml (dk d40_7) ?_
  rintro _ T11 L11 X11 N11 ⟨rfl, hh11⟩
  refine gz X11 10 #[vr b1, vi 2] [(.int cc)] (fun _ k => k) ?_
  refine Go.retZ X11 hx hlk (t := .char) hret (by simp) (dk d40_10) (by decide) (by decide) ?_
  rw [hh11]
  exact ⟨N11, (congrArg (fun q => some (Value.int q)) (own_nc hrc)), rfl⟩
theorem d24_0 : DK B13 0 (.aload_n 0) 1 := by decide +kernel
theorem d24_1 : DK B13 1 (.invokevirtual 492) 3 := by decide +kernel
theorem pd_14 : parseMethodDescriptor "()Z" = some ⟨[], some .boolean⟩ := by decide +kernel
theorem m15 {Z : State} {a0 : Array Value} (hw : HW a0 Z) : (Jvm.Cond.declares Y20).before a0 Z = true ∧ (Jvm.Cond.selects "java/lang/String" Y20 Y20).before a0 Z = true ∧ (Jvm.Cond.instanceMethod Y20).before a0 Z = true ∧ (Jvm.Cond.initialized "java/lang/String").before a0 Z = true ∧ (Jvm.Cond.code Y20 B7 (1 : Nat) (Option.some Jvm.ClassFile.FieldType.boolean)).before a0 Z = true := ⟨(wd hw 57 rfl), (wd hw 59 rfl), (wd hw 58 rfl), (wd hw 10 rfl), (wd hw 60 rfl)⟩
theorem d24_4 : DK B13 4 (.ifCond .eq 12) 3 := by decide +kernel
theorem d24_7 : DK B13 7 (.aload_n 0) 1 := by decide +kernel
theorem d24_8 : DK B13 8 (.getfield 9) 3 := by decide +kernel
theorem d24_11 : DK B13 11 (.iload_n 1) 1 := by decide +kernel
theorem d24_12 : DK B13 12 (.invokestatic 495) 3 := by decide +kernel
theorem m16 {Z : State} {a0 : Array Value} (hw : HW a0 Z) : (Jvm.Cond.static Y23).before a0 Z = true ∧ (Jvm.Cond.initialized "java/lang/StringLatin1").before a0 Z = true ∧ (Jvm.Cond.code Y23 B16 (2 : Nat) (Option.some Jvm.ClassFile.FieldType.char)).before a0 Z = true := ⟨(wd hw 110 rfl), (wd hw 86 rfl), (wd hw 111 rfl)⟩
theorem d24_15 : DK B13 15 .ireturn 1 := by decide +kernel
theorem d24_16 : DK B13 16 (.aload_n 0) 1 := by decide +kernel
theorem d24_17 : DK B13 17 (.getfield 9) 3 := by decide +kernel
theorem d24_20 : DK B13 20 (.iload_n 1) 1 := by decide +kernel
theorem d24_21 : DK B13 21 (.invokestatic 498) 3 := by decide +kernel
theorem m17 {Z : State} {a0 : Array Value} (hw : HW a0 Z) : (Jvm.Cond.static Y25).before a0 Z = true ∧ (Jvm.Cond.initialized "java/lang/StringUTF16").before a0 Z = true ∧ (Jvm.Cond.code Y25 B31 (2 : Nat) (Option.some Jvm.ClassFile.FieldType.char)).before a0 Z = true := ⟨(wd hw 173 rfl), (wd hw 24 rfl), (wd hw 174 rfl)⟩
theorem d24_24 : DK B13 24 .ireturn 1 := by decide +kernel
theorem rm_caS_1_0 {l : Launch} {Z : State} {a0 : Array Value} (hw : HW a0 Z) (a1 : Addr) (t1 : Addr) (k1 : ClassId) (c0 : Int32) (cs : Int32) (fm : Value) (h0 : Heap) (n0 : Nat) (Z0 : n0 ≤ h0.size) (pr0 : Old Z n0 h0) (pr1 : S3 Z cs) (hcs : ¬ (cs = (0 : Int32))) (pr3 : S4 Z fm) (hr_fm : fm.isRef = true) (pr5 : S0 Z) (pr6 : S1 Z) (pr7 : S2 Z) (pr8 : XT Z h0 a1) (pr9 : FV Z h0 a1 t1) (say : (FC Z h0 a1 0 ∧ Arv Z h0 t1 k1 .byte (1 : Int32) [(.int (nar .byte (c0.toInt8.toInt32)))] (.int 0) ∧ ¬ (255 : Int32) < c0) ∨ (FC Z h0 a1 1 ∧ Arv Z h0 t1 k1 .byte (2 : Int32) [(.int (own_b0 c0)), (.int (own_b1 c0))] (.int 0))) (hr0 : own_rng c0) :
    Met l Z Y14 B13 2 (some .char) [] ({ frames := 4, cells := 0, slots := 0, locals := 53 } : Room) #[(.ref a1), (.int 0)] h0 (fun vv h L => Fr n0 L ∧ vv = some (.int c0) ∧ h = h0) := by
  refine Met.enter (f0 := fun m => mkF m 0 #[vr a1, vi 0] []) (plainFor_of_name pn6) (fun m => oe m 0) ?_
  intro p e s m below meth c s₁ hx hby hml hown hnm hret hlk hZ X0 e0
  have dk : Dk B13 c := fun h => hb hby h
  have W := @wd _ _ _ hw
  have N0 := Fr.nil n0
  rcases say with ⟨FC10, VA10, U10⟩ | ⟨FC10, VA10⟩
  · skip
    refine gz X0 1 #[vr a1, vi 0] [(.ref a1)] (fun _ k => aN X0 hx (dk d24_0) rfl rfl k) ?_
    refine goV X0 hx hZ hown (W 56 rfl) (m15 hw) pr8 0 0 0 (rm_isLatin10 hw a1 cs h0 n0 Z0 pr0 pr1 hcs FC10) N0 e0 pd_14 hml (dk d24_1) ?_
    rintro _ T11 L11 X11 N11 ⟨rfl, hh11⟩
    refine gz X11 8 #[vr a1, vi 0] [(.ref a1)] (fun _ k => fN X11 hx (dk d24_4) rfl ((if0 _ _).trans (feq (by decide)).1) (aN X11 hx (dk d24_7) rfl rfl k)) ?_
    obtain ⟨T12, X12, e12, st12⟩ := getF X11 hx hZ hown (host := "") (Or.inl (W 35 rfl)) Via.refl hh11 pr9 (g := (mkF m 8 #[vr a1, vi 0] [(.ref a1)])) rfl rfl (dk d24_8)
    refine gz X12 12 #[vr a1, vi 0] [(.int 0), (.ref t1)] (fun _ k => st12 _ (lN X12 hx (dk d24_11) rfl k)) ?_
    refine goS X12 hx hZ hown (W 109 rfl) (m16 hw) 2 0 0 (rm_lca0 hw t1 k1 (1 : Int32) [(.int (nar .byte (c0.toInt8.toInt32)))] c0 fm h0 n0 Z0 pr0 pr3 hr_fm VA10 (by decide) rfl hr0 U10) N11 e12 pd_5 hml (dk d24_12) ?_
    rintro _ T13 L13 X13 N13 ⟨rfl, hh13⟩
    refine gz X13 15 #[vr a1, vi 0] [(.int c0)] (fun _ k => k) ?_
    refine Go.retZ X13 hx hlk (t := .char) hret (by simp) (dk d24_15) (by decide) (by decide) ?_
    rw [hh13]
    exact ⟨N13, (congrArg (fun q => some (Value.int q)) (own_nc hr0)), rfl⟩
  · skip
    refine gz X0 1 #[vr a1, vi 0] [(.ref a1)] (fun _ k => aN X0 hx (dk d24_0) rfl rfl k) ?_
    refine goV X0 hx hZ hown (W 56 rfl) (m15 hw) pr8 0 0 0 (rm_isLatin11 hw a1 cs h0 n0 Z0 pr0 pr1 hcs FC10) N0 e0 pd_14 hml (dk d24_1) ?_
    rintro _ T14 L14 X14 N14 ⟨rfl, hh14⟩
    refine gz X14 17 #[vr a1, vi 0] [(.ref a1)] (fun _ k => fY X14 hx 4 16 rfl (dk d24_4) rfl ((if0 _ _).trans (teq (by decide)).1) (aN X14 hx (dk d24_16) rfl rfl k)) ?_
    obtain ⟨T15, X15, e15, st15⟩ := getF X14 hx hZ hown (host := "") (Or.inl (W 35 rfl)) Via.refl hh14 pr9 (g := (mkF m 17 #[vr a1, vi 0] [(.ref a1)])) rfl rfl (dk d24_17)
    refine gz X15 21 #[vr a1, vi 0] [(.int 0), (.ref t1)] (fun _ k => st15 _ (lN X15 hx (dk d24_20) rfl k)) ?_
    refine goS X15 hx hZ hown (W 172 rfl) (m17 hw) 2 0 0 (rm_uca0 hw t1 k1 (2 : Int32) [(.int (own_b0 c0)), (.int (own_b1 c0))] c0 fm h0 n0 Z0 pr0 pr3 hr_fm pr5 pr6 pr7 VA10 (by decide) (by decide) (by decide) rfl rfl hr0) N14 e15 pd_5 hml (dk d24_21) ?_
    rintro _ T16 L16 X16 N16 ⟨rfl, hh16⟩
    refine gz X16 24 #[vr a1, vi 0] [(.int c0)] (fun _ k => k) ?_
    refine Go.retZ X16 hx hlk (t := .char) hret (by simp) (dk d24_24) (by decide) (by decide) ?_
    rw [hh16]
    exact ⟨N16, (congrArg (fun q => some (Value.int q)) (own_nc hr0)), rfl⟩
theorem rm_caS_2_0 {l : Launch} {Z : State} {a0 : Array Value} (hw : HW a0 Z) (a1 : Addr) (t1 : Addr) (k1 : ClassId) (c0 : Int32) (c1 : Int32) (cs : Int32) (fm : Value) (h0 : Heap) (n0 : Nat) (Z0 : n0 ≤ h0.size) (pr0 : Old Z n0 h0) (pr1 : S3 Z cs) (hcs : ¬ (cs = (0 : Int32))) (pr3 : S4 Z fm) (hr_fm : fm.isRef = true) (pr5 : S0 Z) (pr6 : S1 Z) (pr7 : S2 Z) (pr8 : XT Z h0 a1) (pr9 : FV Z h0 a1 t1) (say : (FC Z h0 a1 0 ∧ Arv Z h0 t1 k1 .byte (2 : Int32) [(.int (nar .byte (c0.toInt8.toInt32))), (.int (nar .byte (c1.toInt8.toInt32)))] (.int 0) ∧ ¬ (255 : Int32) < c0 ∧ ¬ (255 : Int32) < c1) ∨ (FC Z h0 a1 1 ∧ Arv Z h0 t1 k1 .byte (4 : Int32) [(.int (own_b0 c0)), (.int (own_b1 c0)), (.int (own_b0 c1)), (.int (own_b1 c1))] (.int 0))) (hr0 : own_rng c0) (hr1 : own_rng c1) :
    Met l Z Y14 B13 2 (some .char) [] ({ frames := 4, cells := 0, slots := 0, locals := 53 } : Room) #[(.ref a1), (.int 0)] h0 (fun vv h L => Fr n0 L ∧ vv = some (.int c0) ∧ h = h0) := by
  refine Met.enter (f0 := fun m => mkF m 0 #[vr a1, vi 0] []) (plainFor_of_name pn6) (fun m => oe m 0) ?_
  intro p e s m below meth c s₁ hx hby hml hown hnm hret hlk hZ X0 e0
  have dk : Dk B13 c := fun h => hb hby h
  have W := @wd _ _ _ hw
  have N0 := Fr.nil n0
  rcases say with ⟨FC10, VA10, U10⟩ | ⟨FC10, VA10⟩
  · skip
    refine gz X0 1 #[vr a1, vi 0] [(.ref a1)] (fun _ k => aN X0 hx (dk d24_0) rfl rfl k) ?_
    refine goV X0 hx hZ hown (W 56 rfl) (m15 hw) pr8 0 0 0 (rm_isLatin10 hw a1 cs h0 n0 Z0 pr0 pr1 hcs FC10) N0 e0 pd_14 hml (dk d24_1) ?_
    rintro _ T11 L11 X11 N11 ⟨rfl, hh11⟩
    refine gz X11 8 #[vr a1, vi 0] [(.ref a1)] (fun _ k => fN X11 hx (dk d24_4) rfl ((if0 _ _).trans (feq (by decide)).1) (aN X11 hx (dk d24_7) rfl rfl k)) ?_
    obtain ⟨T12, X12, e12, st12⟩ := getF X11 hx hZ hown (host := "") (Or.inl (W 35 rfl)) Via.refl hh11 pr9 (g := (mkF m 8 #[vr a1, vi 0] [(.ref a1)])) rfl rfl (dk d24_8)
    refine gz X12 12 #[vr a1, vi 0] [(.int 0), (.ref t1)] (fun _ k => st12 _ (lN X12 hx (dk d24_11) rfl k)) ?_
    refine goS X12 hx hZ hown (W 109 rfl) (m16 hw) 2 0 0 (rm_lca0 hw t1 k1 (2 : Int32) [(.int (nar .byte (c0.toInt8.toInt32))), (.int (nar .byte (c1.toInt8.toInt32)))] c0 fm h0 n0 Z0 pr0 pr3 hr_fm VA10 (by decide) rfl hr0 U10.1) N11 e12 pd_5 hml (dk d24_12) ?_
    rintro _ T13 L13 X13 N13 ⟨rfl, hh13⟩
    refine gz X13 15 #[vr a1, vi 0] [(.int c0)] (fun _ k => k) ?_
    refine Go.retZ X13 hx hlk (t := .char) hret (by simp) (dk d24_15) (by decide) (by decide) ?_
    rw [hh13]
    exact ⟨N13, (congrArg (fun q => some (Value.int q)) (own_nc hr0)), rfl⟩
  · skip
    refine gz X0 1 #[vr a1, vi 0] [(.ref a1)] (fun _ k => aN X0 hx (dk d24_0) rfl rfl k) ?_
    refine goV X0 hx hZ hown (W 56 rfl) (m15 hw) pr8 0 0 0 (rm_isLatin11 hw a1 cs h0 n0 Z0 pr0 pr1 hcs FC10) N0 e0 pd_14 hml (dk d24_1) ?_
    rintro _ T14 L14 X14 N14 ⟨rfl, hh14⟩
    refine gz X14 17 #[vr a1, vi 0] [(.ref a1)] (fun _ k => fY X14 hx 4 16 rfl (dk d24_4) rfl ((if0 _ _).trans (teq (by decide)).1) (aN X14 hx (dk d24_16) rfl rfl k)) ?_
    obtain ⟨T15, X15, e15, st15⟩ := getF X14 hx hZ hown (host := "") (Or.inl (W 35 rfl)) Via.refl hh14 pr9 (g := (mkF m 17 #[vr a1, vi 0] [(.ref a1)])) rfl rfl (dk d24_17)
    refine gz X15 21 #[vr a1, vi 0] [(.int 0), (.ref t1)] (fun _ k => st15 _ (lN X15 hx (dk d24_20) rfl k)) ?_
    refine goS X15 hx hZ hown (W 172 rfl) (m17 hw) 2 0 0 (rm_uca0 hw t1 k1 (4 : Int32) [(.int (own_b0 c0)), (.int (own_b1 c0)), (.int (own_b0 c1)), (.int (own_b1 c1))] c0 fm h0 n0 Z0 pr0 pr3 hr_fm pr5 pr6 pr7 VA10 (by decide) (by decide) (by decide) rfl rfl hr0) N14 e15 pd_5 hml (dk d24_21) ?_
    rintro _ T16 L16 X16 N16 ⟨rfl, hh16⟩
    refine gz X16 24 #[vr a1, vi 0] [(.int c0)] (fun _ k => k) ?_
    refine Go.retZ X16 hx hlk (t := .char) hret (by simp) (dk d24_24) (by decide) (by decide) ?_
    rw [hh16]
    exact ⟨N16, (congrArg (fun q => some (Value.int q)) (own_nc hr0)), rfl⟩
theorem rm_caS_2_1 {l : Launch} {Z : State} {a0 : Array Value} (hw : HW a0 Z) (a1 : Addr) (t1 : Addr) (k1 : ClassId) (c0 : Int32) (c1 : Int32) (cs : Int32) (fm : Value) (h0 : Heap) (n0 : Nat) (Z0 : n0 ≤ h0.size) (pr0 : Old Z n0 h0) (pr1 : S3 Z cs) (hcs : ¬ (cs = (0 : Int32))) (pr3 : S4 Z fm) (hr_fm : fm.isRef = true) (pr5 : S0 Z) (pr6 : S1 Z) (pr7 : S2 Z) (pr8 : XT Z h0 a1) (pr9 : FV Z h0 a1 t1) (say : (FC Z h0 a1 0 ∧ Arv Z h0 t1 k1 .byte (2 : Int32) [(.int (nar .byte (c0.toInt8.toInt32))), (.int (nar .byte (c1.toInt8.toInt32)))] (.int 0) ∧ ¬ (255 : Int32) < c0 ∧ ¬ (255 : Int32) < c1) ∨ (FC Z h0 a1 1 ∧ Arv Z h0 t1 k1 .byte (4 : Int32) [(.int (own_b0 c0)), (.int (own_b1 c0)), (.int (own_b0 c1)), (.int (own_b1 c1))] (.int 0))) (hr0 : own_rng c0) (hr1 : own_rng c1) :
    Met l Z Y14 B13 2 (some .char) [] ({ frames := 4, cells := 0, slots := 0, locals := 53 } : Room) #[(.ref a1), (.int 1)] h0 (fun vv h L => Fr n0 L ∧ vv = some (.int c1) ∧ h = h0) := by
  refine Met.enter (f0 := fun m => mkF m 0 #[vr a1, vi 1] []) (plainFor_of_name pn6) (fun m => oe m 0) ?_
  intro p e s m below meth c s₁ hx hby hml hown hnm hret hlk hZ X0 e0
  have dk : Dk B13 c := fun h => hb hby h
  have W := @wd _ _ _ hw
  have N0 := Fr.nil n0
  rcases say with ⟨FC10, VA10, U10⟩ | ⟨FC10, VA10⟩
  · skip
    refine gz X0 1 #[vr a1, vi 1] [(.ref a1)] (fun _ k => aN X0 hx (dk d24_0) rfl rfl k) ?_
    refine goV X0 hx hZ hown (W 56 rfl) (m15 hw) pr8 0 0 0 (rm_isLatin10 hw a1 cs h0 n0 Z0 pr0 pr1 hcs FC10) N0 e0 pd_14 hml (dk d24_1) ?_
    rintro _ T11 L11 X11 N11 ⟨rfl, hh11⟩
    refine gz X11 8 #[vr a1, vi 1] [(.ref a1)] (fun _ k => fN X11 hx (dk d24_4) rfl ((if0 _ _).trans (feq (by decide)).1) (aN X11 hx (dk d24_7) rfl rfl k)) ?_
    obtain ⟨T12, X12, e12, st12⟩ := getF X11 hx hZ hown (host := "") (Or.inl (W 35 rfl)) Via.refl hh11 pr9 (g := (mkF m 8 #[vr a1, vi 1] [(.ref a1)])) rfl rfl (dk d24_8)
    refine gz X12 12 #[vr a1, vi 1] [(.int 1), (.ref t1)] (fun _ k => st12 _ (lN X12 hx (dk d24_11) rfl k)) ?_
    refine goS X12 hx hZ hown (W 109 rfl) (m16 hw) 2 0 0 (rm_lca1 hw t1 k1 (2 : Int32) [(.int (nar .byte (c0.toInt8.toInt32))), (.int (nar .byte (c1.toInt8.toInt32)))] c1 fm h0 n0 Z0 pr0 pr3 hr_fm VA10 (by decide) rfl hr1 U10.2) N11 e12 pd_5 hml (dk d24_12) ?_
    rintro _ T13 L13 X13 N13 ⟨rfl, hh13⟩
    refine gz X13 15 #[vr a1, vi 1] [(.int c1)] (fun _ k => k) ?_
    refine Go.retZ X13 hx hlk (t := .char) hret (by simp) (dk d24_15) (by decide) (by decide) ?_
    rw [hh13]
    exact ⟨N13, (congrArg (fun q => some (Value.int q)) (own_nc hr1)), rfl⟩
  · skip
    refine gz X0 1 #[vr a1, vi 1] [(.ref a1)] (fun _ k => aN X0 hx (dk d24_0) rfl rfl k) ?_
    refine goV X0 hx hZ hown (W 56 rfl) (m15 hw) pr8 0 0 0 (rm_isLatin11 hw a1 cs h0 n0 Z0 pr0 pr1 hcs FC10) N0 e0 pd_14 hml (dk d24_1) ?_
    rintro _ T14 L14 X14 N14 ⟨rfl, hh14⟩
    refine gz X14 17 #[vr a1, vi 1] [(.ref a1)] (fun _ k => fY X14 hx 4 16 rfl (dk d24_4) rfl ((if0 _ _).trans (teq (by decide)).1) (aN X14 hx (dk d24_16) rfl rfl k)) ?_
    obtain ⟨T15, X15, e15, st15⟩ := getF X14 hx hZ hown (host := "") (Or.inl (W 35 rfl)) Via.refl hh14 pr9 (g := (mkF m 17 #[vr a1, vi 1] [(.ref a1)])) rfl rfl (dk d24_17)
    refine gz X15 21 #[vr a1, vi 1] [(.int 1), (.ref t1)] (fun _ k => st15 _ (lN X15 hx (dk d24_20) rfl k)) ?_
    refine goS X15 hx hZ hown (W 172 rfl) (m17 hw) 2 0 0 (rm_uca1 hw t1 k1 (4 : Int32) [(.int (own_b0 c0)), (.int (own_b1 c0)), (.int (own_b0 c1)), (.int (own_b1 c1))] c1 fm h0 n0 Z0 pr0 pr3 hr_fm pr5 pr6 pr7 VA10 (by decide) (by decide) (by decide) rfl rfl hr1) N14 e15 pd_5 hml (dk d24_21) ?_
    rintro _ T16 L16 X16 N16 ⟨rfl, hh16⟩
    refine gz X16 24 #[vr a1, vi 1] [(.int c1)] (fun _ k => k) ?_
    refine Go.retZ X16 hx hlk (t := .char) hret (by simp) (dk d24_24) (by decide) (by decide) ?_
    rw [hh16]
    exact ⟨N16, (congrArg (fun q => some (Value.int q)) (own_nc hr1)), rfl⟩
theorem rm_caS_3_0 {l : Launch} {Z : State} {a0 : Array Value} (hw : HW a0 Z) (a1 : Addr) (t1 : Addr) (k1 : ClassId) (c0 : Int32) (c1 : Int32) (c2 : Int32) (cs : Int32) (fm : Value) (h0 : Heap) (n0 : Nat) (Z0 : n0 ≤ h0.size) (pr0 : Old Z n0 h0) (pr1 : S3 Z cs) (hcs : ¬ (cs = (0 : Int32))) (pr3 : S4 Z fm) (hr_fm : fm.isRef = true) (pr5 : S0 Z) (pr6 : S1 Z) (pr7 : S2 Z) (pr8 : XT Z h0 a1) (pr9 : FV Z h0 a1 t1) (say : (FC Z h0 a1 0 ∧ Arv Z h0 t1 k1 .byte (3 : Int32) [(.int (nar .byte (c0.toInt8.toInt32))), (.int (nar .byte (c1.toInt8.toInt32))), (.int (nar .byte (c2.toInt8.toInt32)))] (.int 0) ∧ ¬ (255 : Int32) < c0 ∧ ¬ (255 : Int32) < c1 ∧ ¬ (255 : Int32) < c2) ∨ (FC Z h0 a1 1 ∧ Arv Z h0 t1 k1 .byte (6 : Int32) [(.int (own_b0 c0)), (.int (own_b1 c0)), (.int (own_b0 c1)), (.int (own_b1 c1)), (.int (own_b0 c2)), (.int (own_b1 c2))] (.int 0))) (hr0 : own_rng c0) (hr1 : own_rng c1) (hr2 : own_rng c2) :
    Met l Z Y14 B13 2 (some .char) [] ({ frames := 4, cells := 0, slots := 0, locals := 53 } : Room) #[(.ref a1), (.int 0)] h0 (fun vv h L => Fr n0 L ∧ vv = some (.int c0) ∧ h = h0) := by
  refine Met.enter (f0 := fun m => mkF m 0 #[vr a1, vi 0] []) (plainFor_of_name pn6) (fun m => oe m 0) ?_
  intro p e s m below meth c s₁ hx hby hml hown hnm hret hlk hZ X0 e0
  have dk : Dk B13 c := fun h => hb hby h
  have W := @wd _ _ _ hw
  have N0 := Fr.nil n0
  rcases say with ⟨FC10, VA10, U10⟩ | ⟨FC10, VA10⟩
  · skip
    refine gz X0 1 #[vr a1, vi 0] [(.ref a1)] (fun _ k => aN X0 hx (dk d24_0) rfl rfl k) ?_
    refine goV X0 hx hZ hown (W 56 rfl) (m15 hw) pr8 0 0 0 (rm_isLatin10 hw a1 cs h0 n0 Z0 pr0 pr1 hcs FC10) N0 e0 pd_14 hml (dk d24_1) ?_
    rintro _ T11 L11 X11 N11 ⟨rfl, hh11⟩
    refine gz X11 8 #[vr a1, vi 0] [(.ref a1)] (fun _ k => fN X11 hx (dk d24_4) rfl ((if0 _ _).trans (feq (by decide)).1) (aN X11 hx (dk d24_7) rfl rfl k)) ?_
    obtain ⟨T12, X12, e12, st12⟩ := getF X11 hx hZ hown (host := "") (Or.inl (W 35 rfl)) Via.refl hh11 pr9 (g := (mkF m 8 #[vr a1, vi 0] [(.ref a1)])) rfl rfl (dk d24_8)
    refine gz X12 12 #[vr a1, vi 0] [(.int 0), (.ref t1)] (fun _ k => st12 _ (lN X12 hx (dk d24_11) rfl k)) ?_
    refine goS X12 hx hZ hown (W 109 rfl) (m16 hw) 2 0 0 (rm_lca0 hw t1 k1 (3 : Int32) [(.int (nar .byte (c0.toInt8.toInt32))), (.int (nar .byte (c1.toInt8.toInt32))), (.int (nar .byte (c2.toInt8.toInt32)))] c0 fm h0 n0 Z0 pr0 pr3 hr_fm VA10 (by decide) rfl hr0 U10.1) N11 e12 pd_5 hml (dk d24_12) ?_
    rintro _ T13 L13 X13 N13 ⟨rfl, hh13⟩
    refine gz X13 15 #[vr a1, vi 0] [(.int c0)] (fun _ k => k) ?_
    refine Go.retZ X13 hx hlk (t := .char) hret (by simp) (dk d24_15) (by decide) (by decide) ?_
    rw [hh13]
    exact ⟨N13, (congrArg (fun q => some (Value.int q)) (own_nc hr0)), rfl⟩
  · skip
    refine gz X0 1 #[vr a1, vi 0] [(.ref a1)] (fun _ k => aN X0 hx (dk d24_0) rfl rfl k) ?_
    refine goV X0 hx hZ hown (W 56 rfl) (m15 hw) pr8 0 0 0 (rm_isLatin11 hw a1 cs h0 n0 Z0 pr0 pr1 hcs FC10) N0 e0 pd_14 hml (dk d24_1) ?_
    rintro _ T14 L14 X14 N14 ⟨rfl, hh14⟩
    refine gz X14 17 #[vr a1, vi 0] [(.ref a1)] (fun _ k => fY X14 hx 4 16 rfl (dk d24_4) rfl ((if0 _ _).trans (teq (by decide)).1) (aN X14 hx (dk d24_16) rfl rfl k)) ?_
    obtain ⟨T15, X15, e15, st15⟩ := getF X14 hx hZ hown (host := "") (Or.inl (W 35 rfl)) Via.refl hh14 pr9 (g := (mkF m 17 #[vr a1, vi 0] [(.ref a1)])) rfl rfl (dk d24_17)
    refine gz X15 21 #[vr a1, vi 0] [(.int 0), (.ref t1)] (fun _ k => st15 _ (lN X15 hx (dk d24_20) rfl k)) ?_
    refine goS X15 hx hZ hown (W 172 rfl) (m17 hw) 2 0 0 (rm_uca0 hw t1 k1 (6 : Int32) [(.int (own_b0 c0)), (.int (own_b1 c0)), (.int (own_b0 c1)), (.int (own_b1 c1)), (.int (own_b0 c2)), (.int (own_b1 c2))] c0 fm h0 n0 Z0 pr0 pr3 hr_fm pr5 pr6 pr7 VA10 (by decide) (by decide) (by decide) rfl rfl hr0) N14 e15 pd_5 hml (dk d24_21) ?_
    rintro _ T16 L16 X16 N16 ⟨rfl, hh16⟩
    refine gz X16 24 #[vr a1, vi 0] [(.int c0)] (fun _ k => k) ?_
    refine Go.retZ X16 hx hlk (t := .char) hret (by simp) (dk d24_24) (by decide) (by decide) ?_
    rw [hh16]
    exact ⟨N16, (congrArg (fun q => some (Value.int q)) (own_nc hr0)), rfl⟩
theorem rm_caS_3_1 {l : Launch} {Z : State} {a0 : Array Value} (hw : HW a0 Z) (a1 : Addr) (t1 : Addr) (k1 : ClassId) (c0 : Int32) (c1 : Int32) (c2 : Int32) (cs : Int32) (fm : Value) (h0 : Heap) (n0 : Nat) (Z0 : n0 ≤ h0.size) (pr0 : Old Z n0 h0) (pr1 : S3 Z cs) (hcs : ¬ (cs = (0 : Int32))) (pr3 : S4 Z fm) (hr_fm : fm.isRef = true) (pr5 : S0 Z) (pr6 : S1 Z) (pr7 : S2 Z) (pr8 : XT Z h0 a1) (pr9 : FV Z h0 a1 t1) (say : (FC Z h0 a1 0 ∧ Arv Z h0 t1 k1 .byte (3 : Int32) [(.int (nar .byte (c0.toInt8.toInt32))), (.int (nar .byte (c1.toInt8.toInt32))), (.int (nar .byte (c2.toInt8.toInt32)))] (.int 0) ∧ ¬ (255 : Int32) < c0 ∧ ¬ (255 : Int32) < c1 ∧ ¬ (255 : Int32) < c2) ∨ (FC Z h0 a1 1 ∧ Arv Z h0 t1 k1 .byte (6 : Int32) [(.int (own_b0 c0)), (.int (own_b1 c0)), (.int (own_b0 c1)), (.int (own_b1 c1)), (.int (own_b0 c2)), (.int (own_b1 c2))] (.int 0))) (hr0 : own_rng c0) (hr1 : own_rng c1) (hr2 : own_rng c2) :
    Met l Z Y14 B13 2 (some .char) [] ({ frames := 4, cells := 0, slots := 0, locals := 53 } : Room) #[(.ref a1), (.int 1)] h0 (fun vv h L => Fr n0 L ∧ vv = some (.int c1) ∧ h = h0) := by
  refine Met.enter (f0 := fun m => mkF m 0 #[vr a1, vi 1] []) (plainFor_of_name pn6) (fun m => oe m 0) ?_
  intro p e s m below meth c s₁ hx hby hml hown hnm hret hlk hZ X0 e0
  have dk : Dk B13 c := fun h => hb hby h
  have W := @wd _ _ _ hw
  have N0 := Fr.nil n0
  rcases say with ⟨FC10, VA10, U10⟩ | ⟨FC10, VA10⟩
  · skip
    refine gz X0 1 #[vr a1, vi 1] [(.ref a1)] (fun _ k => aN X0 hx (dk d24_0) rfl rfl k) ?_
    refine goV X0 hx hZ hown (W 56 rfl) (m15 hw) pr8 0 0 0 (rm_isLatin10 hw a1 cs h0 n0 Z0 pr0 pr1 hcs FC10) N0 e0 pd_14 hml (dk d24_1) ?_
    rintro _ T11 L11 X11 N11 ⟨rfl, hh11⟩
    refine gz X11 8 #[vr a1, vi 1] [(.ref a1)] (fun _ k => fN X11 hx (dk d24_4) rfl ((if0 _ _).trans (feq (by decide)).1) (aN X11 hx (dk d24_7) rfl rfl k)) ?_
    obtain ⟨T12, X12, e12, st12⟩ := getF X11 hx hZ hown (host := "") (Or.inl (W 35 rfl)) Via.refl hh11 pr9 (g := (mkF m 8 #[vr a1, vi 1] [(.ref a1)])) rfl rfl (dk d24_8)
    refine gz X12 12 #[vr a1, vi 1] [(.int 1), (.ref t1)] (fun _ k => st12 _ (lN X12 hx (dk d24_11) rfl k)) ?_
    refine goS X12 hx hZ hown (W 109 rfl) (m16 hw) 2 0 0 (rm_lca1 hw t1 k1 (3 : Int32) [(.int (nar .byte (c0.toInt8.toInt32))), (.int (nar .byte (c1.toInt8.toInt32))), (.int (nar .byte (c2.toInt8.toInt32)))] c1 fm h0 n0 Z0 pr0 pr3 hr_fm VA10 (by decide) rfl hr1 U10.2.1) N11 e12 pd_5 hml (dk d24_12) ?_
    rintro _ T13 L13 X13 N13 ⟨rfl, hh13⟩
    refine gz X13 15 #[vr a1, vi 1] [(.int c1)] (fun _ k => k) ?_
    refine Go.retZ X13 hx hlk (t := .char) hret (by simp) (dk d24_15) (by decide) (by decide) ?_
    rw [hh13]
    exact ⟨N13, (congrArg (fun q => some (Value.int q)) (own_nc hr1)), rfl⟩
  · skip
    refine gz X0 1 #[vr a1, vi 1] [(.ref a1)] (fun _ k => aN X0 hx (dk d24_0) rfl rfl k) ?_
    refine goV X0 hx hZ hown (W 56 rfl) (m15 hw) pr8 0 0 0 (rm_isLatin11 hw a1 cs h0 n0 Z0 pr0 pr1 hcs FC10) N0 e0 pd_14 hml (dk d24_1) ?_
    rintro _ T14 L14 X14 N14 ⟨rfl, hh14⟩
    refine gz X14 17 #[vr a1, vi 1] [(.ref a1)] (fun _ k => fY X14 hx 4 16 rfl (dk d24_4) rfl ((if0 _ _).trans (teq (by decide)).1) (aN X14 hx (dk d24_16) rfl rfl k)) ?_
    obtain ⟨T15, X15, e15, st15⟩ := getF X14 hx hZ hown (host := "") (Or.inl (W 35 rfl)) Via.refl hh14 pr9 (g := (mkF m 17 #[vr a1, vi 1] [(.ref a1)])) rfl rfl (dk d24_17)
    refine gz X15 21 #[vr a1, vi 1] [(.int 1), (.ref t1)] (fun _ k => st15 _ (lN X15 hx (dk d24_20) rfl k)) ?_
    refine goS X15 hx hZ hown (W 172 rfl) (m17 hw) 2 0 0 (rm_uca1 hw t1 k1 (6 : Int32) [(.int (own_b0 c0)), (.int (own_b1 c0)), (.int (own_b0 c1)), (.int (own_b1 c1)), (.int (own_b0 c2)), (.int (own_b1 c2))] c1 fm h0 n0 Z0 pr0 pr3 hr_fm pr5 pr6 pr7 VA10 (by decide) (by decide) (by decide) rfl rfl hr1) N14 e15 pd_5 hml (dk d24_21) ?_
    rintro _ T16 L16 X16 N16 ⟨rfl, hh16⟩
    refine gz X16 24 #[vr a1, vi 1] [(.int c1)] (fun _ k => k) ?_
    refine Go.retZ X16 hx hlk (t := .char) hret (by simp) (dk d24_24) (by decide) (by decide) ?_
    rw [hh16]
    exact ⟨N16, (congrArg (fun q => some (Value.int q)) (own_nc hr1)), rfl⟩
theorem rm_caS_3_2 {l : Launch} {Z : State} {a0 : Array Value} (hw : HW a0 Z) (a1 : Addr) (t1 : Addr) (k1 : ClassId) (c0 : Int32) (c1 : Int32) (c2 : Int32) (cs : Int32) (fm : Value) (h0 : Heap) (n0 : Nat) (Z0 : n0 ≤ h0.size) (pr0 : Old Z n0 h0) (pr1 : S3 Z cs) (hcs : ¬ (cs = (0 : Int32))) (pr3 : S4 Z fm) (hr_fm : fm.isRef = true) (pr5 : S0 Z) (pr6 : S1 Z) (pr7 : S2 Z) (pr8 : XT Z h0 a1) (pr9 : FV Z h0 a1 t1) (say : (FC Z h0 a1 0 ∧ Arv Z h0 t1 k1 .byte (3 : Int32) [(.int (nar .byte (c0.toInt8.toInt32))), (.int (nar .byte (c1.toInt8.toInt32))), (.int (nar .byte (c2.toInt8.toInt32)))] (.int 0) ∧ ¬ (255 : Int32) < c0 ∧ ¬ (255 : Int32) < c1 ∧ ¬ (255 : Int32) < c2) ∨ (FC Z h0 a1 1 ∧ Arv Z h0 t1 k1 .byte (6 : Int32) [(.int (own_b0 c0)), (.int (own_b1 c0)), (.int (own_b0 c1)), (.int (own_b1 c1)), (.int (own_b0 c2)), (.int (own_b1 c2))] (.int 0))) (hr0 : own_rng c0) (hr1 : own_rng c1) (hr2 : own_rng c2) :
    Met l Z Y14 B13 2 (some .char) [] ({ frames := 4, cells := 0, slots := 0, locals := 53 } : Room) #[(.ref a1), (.int 2)] h0 (fun vv h L => Fr n0 L ∧ vv = some (.int c2) ∧ h = h0) := by
  refine Met.enter (f0 := fun m => mkF m 0 #[vr a1, vi 2] []) (plainFor_of_name pn6) (fun m => oe m 0) ?_
  intro p e s m below meth c s₁ hx hby hml hown hnm hret hlk hZ X0 e0
  have dk : Dk B13 c := fun h => hb hby h
  have W := @wd _ _ _ hw
  have N0 := Fr.nil n0
  rcases say with ⟨FC10, VA10, U10⟩ | ⟨FC10, VA10⟩
  · skip
    refine gz X0 1 #[vr a1, vi 2] [(.ref a1)] (fun _ k => aN X0 hx (dk d24_0) rfl rfl k) ?_
    refine goV X0 hx hZ hown (W 56 rfl) (m15 hw) pr8 0 0 0 (rm_isLatin10 hw a1 cs h0 n0 Z0 pr0 pr1 hcs FC10) N0 e0 pd_14 hml (dk d24_1) ?_
    rintro _ T11 L11 X11 N11 ⟨rfl, hh11⟩
    refine gz X11 8 #[vr a1, vi 2] [(.ref a1)] (fun _ k => fN X11 hx (dk d24_4) rfl ((if0 _ _).trans (feq (by decide)).1) (aN X11 hx (dk d24_7) rfl rfl k)) ?_
    obtain ⟨T12, X12, e12, st12⟩ := getF X11 hx hZ hown (host := "") (Or.inl (W 35 rfl)) Via.refl hh11 pr9 (g := (mkF m 8 #[vr a1, vi 2] [(.ref a1)])) rfl rfl (dk d24_8)
    refine gz X12 12 #[vr a1, vi 2] [(.int 2), (.ref t1)] (fun _ k => st12 _ (lN X12 hx (dk d24_11) rfl k)) ?_
    refine goS X12 hx hZ hown (W 109 rfl) (m16 hw) 2 0 0 (rm_lca2 hw t1 k1 (3 : Int32) [(.int (nar .byte (c0.toInt8.toInt32))), (.int (nar .byte (c1.toInt8.toInt32))), (.int (nar .byte (c2.toInt8.toInt32)))] c2 fm h0 n0 Z0 pr0 pr3 hr_fm VA10 (by decide) rfl hr2 U10.2.2) N11 e12 pd_5 hml (dk d24_12) ?_
    rintro _ T13 L13 X13 N13 ⟨rfl, hh13⟩
    refine gz X13 15 #[vr a1, vi 2] [(.int c2)] (fun _ k => k) ?_
    refine Go.retZ X13 hx hlk (t := .char) hret (by simp) (dk d24_15) (by decide) (by decide) ?_
    rw [hh13]
    exact ⟨N13, (congrArg (fun q => some (Value.int q)) (own_nc hr2)), rfl⟩
  · skip
    refine gz X0 1 #[vr a1, vi 2] [(.ref a1)] (fun _ k => aN X0 hx (dk d24_0) rfl rfl k) ?_
    refine goV X0 hx hZ hown (W 56 rfl) (m15 hw) pr8 0 0 0 (rm_isLatin11 hw a1 cs h0 n0 Z0 pr0 pr1 hcs FC10) N0 e0 pd_14 hml (dk d24_1) ?_
    rintro _ T14 L14 X14 N14 ⟨rfl, hh14⟩
    refine gz X14 17 #[vr a1, vi 2] [(.ref a1)] (fun _ k => fY X14 hx 4 16 rfl (dk d24_4) rfl ((if0 _ _).trans (teq (by decide)).1) (aN X14 hx (dk d24_16) rfl rfl k)) ?_
    obtain ⟨T15, X15, e15, st15⟩ := getF X14 hx hZ hown (host := "") (Or.inl (W 35 rfl)) Via.refl hh14 pr9 (g := (mkF m 17 #[vr a1, vi 2] [(.ref a1)])) rfl rfl (dk d24_17)
    refine gz X15 21 #[vr a1, vi 2] [(.int 2), (.ref t1)] (fun _ k => st15 _ (lN X15 hx (dk d24_20) rfl k)) ?_
    refine goS X15 hx hZ hown (W 172 rfl) (m17 hw) 2 0 0 (rm_uca2 hw t1 k1 (6 : Int32) [(.int (own_b0 c0)), (.int (own_b1 c0)), (.int (own_b0 c1)), (.int (own_b1 c1)), (.int (own_b0 c2)), (.int (own_b1 c2))] c2 fm h0 n0 Z0 pr0 pr3 hr_fm pr5 pr6 pr7 VA10 (by decide) (by decide) (by decide) rfl rfl hr2) N14 e15 pd_5 hml (dk d24_21) ?_
    rintro _ T16 L16 X16 N16 ⟨rfl, hh16⟩
    refine gz X16 24 #[vr a1, vi 2] [(.int c2)] (fun _ k => k) ?_
    refine Go.retZ X16 hx hlk (t := .char) hret (by simp) (dk d24_24) (by decide) (by decide) ?_
    rw [hh16]
    exact ⟨N16, (congrArg (fun q => some (Value.int q)) (own_nc hr2)), rfl⟩
theorem d33_0 : DK B38 0 (.iload_n 0) 1 := by decide +kernel
theorem d33_1 : DK B38 1 (.ldc 75) 2 := by decide +kernel
theorem d33_3 : DK B38 3 (.if_icmp .lt 13) 3 := by decide +kernel
theorem d33_16 : DK B38 16 (.iconst 0) 1 := by decide +kernel
theorem d33_17 : DK B38 17 .ireturn 1 := by decide +kernel
theorem d33_6 : DK B38 6 (.iload_n 0) 1 := by decide +kernel
theorem d33_7 : DK B38 7 (.ldc 76) 2 := by decide +kernel
theorem d33_9 : DK B38 9 (.if_icmp .ge 7) 3 := by decide +kernel
theorem d33_12 : DK B38 12 (.iconst 1) 1 := by decide +kernel
theorem d33_13 : DK B38 13 (.goto 4) 3 := by decide +kernel
theorem pn5 : plainName "java/lang/Character" = true := by first | (simp [plainName, overriddenIn]; done) | decide +kernel
theorem rm_hi {l : Launch} {Z : State} {a0 : Array Value} (hw : HW a0 Z) (p1 : Int32) (h0 : Heap) (n0 : Nat) (Z0 : n0 ≤ h0.size) :
    Met l Z Y7 B38 1 (some .boolean) [] ({ frames := 0, cells := 0, slots := 0, locals := 0 } : Room) #[(.int p1)] h0 (fun vv h L => Fr n0 L ∧ vv = some (.int (own_hi p1)) ∧ h = h0) := by
  refine Met.enter (f0 := fun m => mkF m 0 #[vi p1] []) (plainFor_of_name pn5) (fun m => oe m 0) ?_
  intro p e s m below meth c s₁ hx hby hml hown hnm hret hlk hZ X0 e0
  have dk : Dk B38 c := fun h => hb hby h
  have W := @wd _ _ _ hw
  have N0 := Fr.nil n0
  refine gz X0 3 #[vi p1] [(.int 55296), (.int p1)] (fun _ k => lN X0 hx (dk d33_0) rfl (X0.ldcInt hx hown (mvT hZ (W 142 rfl)) (g := (mkF m 1 #[vi p1] [(.int p1)])) rfl (dk d33_1) _ k)) ?_
  by_cases c10 : p1 < (55296 : Int32)
  · skip
    refine gz X0 17 #[vi p1] [(.int 0)] (fun _ k => cY X0 hx 3 16 rfl (dk d33_3) rfl (tlt c10).1 (kC X0 hx (dk d33_16) k)) ?_
    refine Go.retJ X0 hx hlk (t := .boolean) hret (dk d33_17) ?_
    rw [e0]
    exact ⟨N0, (congrArg (fun q => some (Value.int q)) (own_hi0 c10)), rfl⟩
  · skip
    refine gz X0 9 #[vi p1] [(.int 56320), (.int p1)] (fun _ k => cN X0 hx (dk d33_3) rfl (flt c10).1 (lN X0 hx (dk d33_6) rfl (X0.ldcInt hx hown (mvT hZ (W 143 rfl)) (g := (mkF m 7 #[vi p1] [(.int p1)])) rfl (dk d33_7) _ k))) ?_
    by_cases c11 : p1 < (56320 : Int32)
    · skip
      refine gz X0 17 #[vi p1] [(.int 1)] (fun _ k => cN X0 hx (dk d33_9) rfl (tlt c11).2.1 (kC X0 hx (dk d33_12) (gT X0 hx 13 17 rfl (dk d33_13) k))) ?_
      refine Go.retJ X0 hx hlk (t := .boolean) hret (dk d33_17) ?_
      rw [e0]
      exact ⟨N0, (congrArg (fun q => some (Value.int q)) (own_hi1 c10 c11)), rfl⟩
    · skip
      refine gz X0 17 #[vi p1] [(.int 0)] (fun _ k => cY X0 hx 9 16 rfl (dk d33_9) rfl (flt c11).2.1 (kC X0 hx (dk d33_16) k)) ?_
      refine Go.retJ X0 hx hlk (t := .boolean) hret (dk d33_17) ?_
      rw [e0]
      exact ⟨N0, (congrArg (fun q => some (Value.int q)) (own_hi2 c10 c11)), rfl⟩
theorem d48_0 : DK B39 0 (.iload_n 0) 1 := by decide +kernel
theorem d48_1 : DK B39 1 (.ldc 76) 2 := by decide +kernel
theorem d48_3 : DK B39 3 (.if_icmp .lt 13) 3 := by decide +kernel
theorem d48_16 : DK B39 16 (.iconst 0) 1 := by decide +kernel
theorem d48_17 : DK B39 17 .ireturn 1 := by decide +kernel
theorem d48_6 : DK B39 6 (.iload_n 0) 1 := by decide +kernel
theorem d48_7 : DK B39 7 (.ldc 77) 2 := by decide +kernel
theorem d48_9 : DK B39 9 (.if_icmp .ge 7) 3 := by decide +kernel
theorem d48_12 : DK B39 12 (.iconst 1) 1 := by decide +kernel
theorem d48_13 : DK B39 13 (.goto 4) 3 := by decide +kernel
theorem rm_lo {l : Launch} {Z : State} {a0 : Array Value} (hw : HW a0 Z) (p1 : Int32) (h0 : Heap) (n0 : Nat) (Z0 : n0 ≤ h0.size) :
    Met l Z Y8 B39 1 (some .boolean) [] ({ frames := 0, cells := 0, slots := 0, locals := 0 } : Room) #[(.int p1)] h0 (fun vv h L => Fr n0 L ∧ vv = some (.int (own_lo p1)) ∧ h = h0) := by
  refine Met.enter (f0 := fun m => mkF m 0 #[vi p1] []) (plainFor_of_name pn5) (fun m => oe m 0) ?_
  intro p e s m below meth c s₁ hx hby hml hown hnm hret hlk hZ X0 e0
  have dk : Dk B39 c := fun h => hb hby h
  have W := @wd _ _ _ hw
  have N0 := Fr.nil n0
  refine gz X0 3 #[vi p1] [(.int 56320), (.int p1)] (fun _ k => lN X0 hx (dk d48_0) rfl (X0.ldcInt hx hown (mvT hZ (W 143 rfl)) (g := (mkF m 1 #[vi p1] [(.int p1)])) rfl (dk d48_1) _ k)) ?_
  by_cases c10 : p1 < (56320 : Int32)
  · skip
    refine gz X0 17 #[vi p1] [(.int 0)] (fun _ k => cY X0 hx 3 16 rfl (dk d48_3) rfl (tlt c10).1 (kC X0 hx (dk d48_16) k)) ?_
    refine Go.retJ X0 hx hlk (t := .boolean) hret (dk d48_17) ?_
    rw [e0]
    exact ⟨N0, (congrArg (fun q => some (Value.int q)) (own_lo0 c10)), rfl⟩
  · skip
    refine gz X0 9 #[vi p1] [(.int 57344), (.int p1)] (fun _ k => cN X0 hx (dk d48_3) rfl (flt c10).1 (lN X0 hx (dk d48_6) rfl (X0.ldcInt hx hown (mvT hZ (W 205 rfl)) (g := (mkF m 7 #[vi p1] [(.int p1)])) rfl (dk d48_7) _ k))) ?_
    by_cases c11 : p1 < (57344 : Int32)
    · skip
      refine gz X0 17 #[vi p1] [(.int 1)] (fun _ k => cN X0 hx (dk d48_9) rfl (tlt c11).2.1 (kC X0 hx (dk d48_12) (gT X0 hx 13 17 rfl (dk d48_13) k))) ?_
      refine Go.retJ X0 hx hlk (t := .boolean) hret (dk d48_17) ?_
      rw [e0]
      exact ⟨N0, (congrArg (fun q => some (Value.int q)) (own_lo1 c10 c11)), rfl⟩
    · skip
      refine gz X0 17 #[vi p1] [(.int 0)] (fun _ k => cY X0 hx 9 16 rfl (dk d48_9) rfl (flt c11).2.1 (kC X0 hx (dk d48_16) k)) ?_
      refine Go.retJ X0 hx hlk (t := .boolean) hret (dk d48_17) ?_
      rw [e0]
      exact ⟨N0, (congrArg (fun q => some (Value.int q)) (own_lo2 c10 c11)), rfl⟩
theorem d49_0 : DK B41 0 (.iload_n 0) 1 := by decide +kernel
theorem d49_1 : DK B41 1 (.bipush 10) 2 := by decide +kernel
theorem d49_3 : DK B41 3 .ishl 1 := by decide +kernel
theorem d49_4 : DK B41 4 (.iload_n 1) 1 := by decide +kernel
theorem d49_5 : DK B41 5 .iadd 1 := by decide +kernel
theorem d49_6 : DK B41 6 (.ldc 85) 2 := by decide +kernel
theorem d49_8 : DK B41 8 .iadd 1 := by decide +kernel
theorem d49_9 : DK B41 9 .ireturn 1 := by decide +kernel
theorem rm_tcp {l : Launch} {Z : State} {a0 : Array Value} (hw : HW a0 Z) (p1 : Int32) (p2 : Int32) (h0 : Heap) (n0 : Nat) (Z0 : n0 ≤ h0.size) :
    Met l Z Y9 B41 2 (some .int) [] ({ frames := 0, cells := 0, slots := 0, locals := 0 } : Room) #[(.int p1), (.int p2)] h0 (fun vv h L => Fr n0 L ∧ vv = some (.int (((p1 <<< ((10 : Int32) &&& 31)) + p2) + (-56613888 : Int32))) ∧ h = h0) := by
  refine Met.enter (f0 := fun m => mkF m 0 #[vi p1, vi p2] []) (plainFor_of_name pn5) (fun m => oe m 0) ?_
  intro p e s m below meth c s₁ hx hby hml hown hnm hret hlk hZ X0 e0
  have dk : Dk B41 c := fun h => hb hby h
  have W := @wd _ _ _ hw
  have N0 := Fr.nil n0
  refine gz X0 9 #[vi p1, vi p2] [(.int (((p1 <<< ((10 : Int32) &&& 31)) + p2) + (-56613888 : Int32)))] (fun _ k => lN X0 hx (dk d49_0) rfl (XS.bipush X0.here hx rfl (dk d49_1) (XS.ishl X0.here hx rfl (dk d49_3) rfl (lN X0 hx (dk d49_4) rfl (pI X0 hx (dk d49_5) rfl (X0.ldcInt hx hown (mvT hZ (W 211 rfl)) (g := (mkF m 6 #[vi p1, vi p2] [(.int ((p1 <<< ((10 : Int32) &&& 31)) + p2))])) rfl (dk d49_6) _ (pI X0 hx (dk d49_8) rfl k))))))) ?_
  refine Go.retJ X0 hx hlk (t := .int) hret (dk d49_9) ?_
  rw [e0]
  exact ⟨N0, rfl, rfl⟩
theorem d23_0 : DK B40 0 (.iload_n 0) 1 := by decide +kernel
theorem d23_1 : DK B40 1 (.ldc 73) 2 := by decide +kernel
theorem d23_3 : DK B40 3 (.if_icmp .lt 7) 3 := by decide +kernel
theorem d23_10 : DK B40 10 (.iconst 1) 1 := by decide +kernel
theorem d23_11 : DK B40 11 .ireturn 1 := by decide +kernel
theorem d23_6 : DK B40 6 (.iconst 2) 1 := by decide +kernel
theorem d23_7 : DK B40 7 (.goto 4) 3 := by decide +kernel
theorem rm_cnt {l : Launch} {Z : State} {a0 : Array Value} (hw : HW a0 Z) (p1 : Int32) (h0 : Heap) (n0 : Nat) (Z0 : n0 ≤ h0.size) :
    Met l Z Y6 B40 1 (some .int) [] ({ frames := 0, cells := 0, slots := 0, locals := 0 } : Room) #[(.int p1)] h0 (fun vv h L => Fr n0 L ∧ vv = some (.int (own_cnt p1)) ∧ h = h0) := by
  refine Met.enter (f0 := fun m => mkF m 0 #[vi p1] []) (plainFor_of_name pn5) (fun m => oe m 0) ?_
  intro p e s m below meth c s₁ hx hby hml hown hnm hret hlk hZ X0 e0
  have dk : Dk B40 c := fun h => hb hby h
  have W := @wd _ _ _ hw
  have N0 := Fr.nil n0
  refine gz X0 3 #[vi p1] [(.int 65536), (.int p1)] (fun _ k => lN X0 hx (dk d23_0) rfl (X0.ldcInt hx hown (mvT hZ (W 103 rfl)) (g := (mkF m 1 #[vi p1] [(.int p1)])) rfl (dk d23_1) _ k)) ?_
  by_cases c10 : p1 < (65536 : Int32)
  · skip
    refine gz X0 11 #[vi p1] [(.int 1)] (fun _ k => cY X0 hx 3 10 rfl (dk d23_3) rfl (tlt c10).1 (kC X0 hx (dk d23_10) k)) ?_
    refine Go.retJ X0 hx hlk (t := .int) hret (dk d23_11) ?_
    rw [e0]
    exact ⟨N0, (congrArg (fun q => some (Value.int q)) (own_cnt0 c10)), rfl⟩
  · skip
    refine gz X0 11 #[vi p1] [(.int 2)] (fun _ k => cN X0 hx (dk d23_3) rfl (flt c10).1 (kC X0 hx (dk d23_6) (gT X0 hx 7 11 rfl (dk d23_7) k))) ?_
    refine Go.retJ X0 hx hlk (t := .int) hret (dk d23_11) ?_
    rw [e0]
    exact ⟨N0, (congrArg (fun q => some (Value.int q)) (own_cnt1 c10)), rfl⟩
theorem d16_0 : DK B47 0 (.iload_n 0) 1 := by decide +kernel
theorem d16_1 : DK B47 1 (.sipush 128) 3 := by decide +kernel
theorem d16_4 : DK B47 4 (.if_icmp .ge 5) 3 := by decide +kernel
theorem d16_7 : DK B47 7 (.iconst 1) 1 := by decide +kernel
theorem d16_8 : DK B47 8 .ireturn 1 := by decide +kernel
theorem d16_9 : DK B47 9 (.iload_n 0) 1 := by decide +kernel
theorem d16_10 : DK B47 10 (.sipush 2048) 3 := by decide +kernel
theorem d16_13 : DK B47 13 (.if_icmp .ge 5) 3 := by decide +kernel
theorem d16_16 : DK B47 16 (.iconst 2) 1 := by decide +kernel
theorem d16_17 : DK B47 17 .ireturn 1 := by decide +kernel
theorem d16_18 : DK B47 18 (.iload_n 0) 1 := by decide +kernel
theorem d16_19 : DK B47 19 (.ldc 89) 2 := by decide +kernel
theorem d16_21 : DK B47 21 (.if_icmp .ge 7) 3 := by decide +kernel
theorem d16_24 : DK B47 24 (.iconst 3) 1 := by decide +kernel
theorem d16_25 : DK B47 25 (.goto 4) 3 := by decide +kernel
theorem d16_29 : DK B47 29 .ireturn 1 := by decide +kernel
theorem d16_28 : DK B47 28 (.iconst 4) 1 := by decide +kernel
theorem pn1 : plainName "com/example/orderly_outbox/orderlyoutbox/store/LastError" = true := by first | (simp [plainName, overriddenIn]; done) | decide +kernel
theorem rm_u8 {l : Launch} {Z : State} {a0 : Array Value} (hw : HW a0 Z) (p1 : Int32) (h0 : Heap) (n0 : Nat) (Z0 : n0 ≤ h0.size) :
    Met l Z Y1 B47 1 (some .int) [] ({ frames := 0, cells := 0, slots := 0, locals := 0 } : Room) #[(.int p1)] h0 (fun vv h L => Fr n0 L ∧ vv = some (.int (own_len p1)) ∧ h = h0) := by
  refine Met.enter (f0 := fun m => mkF m 0 #[vi p1] []) (plainFor_of_name pn1) (fun m => oe m 0) ?_
  intro p e s m below meth c s₁ hx hby hml hown hnm hret hlk hZ X0 e0
  have dk : Dk B47 c := fun h => hb hby h
  have W := @wd _ _ _ hw
  have N0 := Fr.nil n0
  refine gz X0 4 #[vi p1] [(.int 128), (.int p1)] (fun _ k => lN X0 hx (dk d16_0) rfl (XS.sipush X0.here hx rfl (dk d16_1) k)) ?_
  by_cases c10 : p1 < (128 : Int32)
  · skip
    refine gz X0 8 #[vi p1] [(.int 1)] (fun _ k => cN X0 hx (dk d16_4) rfl (tlt c10).2.1 (kC X0 hx (dk d16_7) k)) ?_
    refine Go.retJ X0 hx hlk (t := .int) hret (dk d16_8) ?_
    rw [e0]
    exact ⟨N0, (congrArg (fun q => some (Value.int q)) (own_len0 c10)), rfl⟩
  · skip
    refine gz X0 13 #[vi p1] [(.int 2048), (.int p1)] (fun _ k => cY X0 hx 4 9 rfl (dk d16_4) rfl (flt c10).2.1 (lN X0 hx (dk d16_9) rfl (XS.sipush X0.here hx rfl (dk d16_10) k))) ?_
    by_cases c11 : p1 < (2048 : Int32)
    · skip
      refine gz X0 17 #[vi p1] [(.int 2)] (fun _ k => cN X0 hx (dk d16_13) rfl (tlt c11).2.1 (kC X0 hx (dk d16_16) k)) ?_
      refine Go.retJ X0 hx hlk (t := .int) hret (dk d16_17) ?_
      rw [e0]
      exact ⟨N0, (congrArg (fun q => some (Value.int q)) (own_len1 c10 c11)), rfl⟩
    · skip
      refine gz X0 21 #[vi p1] [(.int 65536), (.int p1)] (fun _ k => cY X0 hx 13 18 rfl (dk d16_13) rfl (flt c11).2.1 (lN X0 hx (dk d16_18) rfl (X0.ldcInt hx hown (mvT hZ (W 144 rfl)) (g := (mkF m 19 #[vi p1] [(.int p1)])) rfl (dk d16_19) _ k))) ?_
      by_cases c12 : p1 < (65536 : Int32)
      · skip
        refine gz X0 29 #[vi p1] [(.int 3)] (fun _ k => cN X0 hx (dk d16_21) rfl (tlt c12).2.1 (kC X0 hx (dk d16_24) (gT X0 hx 25 29 rfl (dk d16_25) k))) ?_
        refine Go.retJ X0 hx hlk (t := .int) hret (dk d16_29) ?_
        rw [e0]
        exact ⟨N0, (congrArg (fun q => some (Value.int q)) (own_len2 c10 c11 c12)), rfl⟩
      · skip
        refine gz X0 29 #[vi p1] [(.int 4)] (fun _ k => cY X0 hx 21 28 rfl (dk d16_21) rfl (flt c12).2.1 (kC X0 hx (dk d16_28) k)) ?_
        refine Go.retJ X0 hx hlk (t := .int) hret (dk d16_29) ?_
        rw [e0]
        exact ⟨N0, (congrArg (fun q => some (Value.int q)) (own_len3 c10 c11 c12)), rfl⟩
theorem d32_0 : DK B30 0 (.getstatic 44) 3 := by decide +kernel
theorem d32_3 : DK B30 3 (.ifCond .ne 16) 3 := by decide +kernel
theorem d32_19 : DK B30 19 (.iload_n 3) 1 := by decide +kernel
theorem d32_20 : DK B30 20 (.ifCond .eq 8) 3 := by decide +kernel
theorem d32_28 : DK B30 28 (.aload_n 0) 1 := by decide +kernel
theorem d32_29 : DK B30 29 (.iload_n 1) 1 := by decide +kernel
theorem d32_30 : DK B30 30 (.invokestatic 71) 3 := by decide +kernel
theorem d32_33 : DK B30 33 (.istore 4) 2 := by decide +kernel
theorem d32_35 : DK B30 35 (.iload 4) 2 := by decide +kernel
theorem d32_37 : DK B30 37 (.invokestatic 75) 3 := by decide +kernel
theorem pd_15 : parseMethodDescriptor "(C)Z" = some ⟨[.char], some .boolean⟩ := by decide +kernel
theorem m18 {Z : State} {a0 : Array Value} (hw : HW a0 Z) : (Jvm.Cond.static Y7).before a0 Z = true ∧ (Jvm.Cond.initialized "java/lang/Character").before a0 Z = true ∧ (Jvm.Cond.code Y7 B38 (1 : Nat) (Option.some Jvm.ClassFile.FieldType.boolean)).before a0 Z = true := ⟨(wd hw 140 rfl), (wd hw 101 rfl), (wd hw 141 rfl)⟩
theorem d32_40 : DK B30 40 (.ifCond .eq 43) 3 := by decide +kernel
theorem d32_83 : DK B30 83 (.iload 4) 2 := by decide +kernel
theorem d32_85 : DK B30 85 .ireturn 1 := by decide +kernel
theorem d32_43 : DK B30 43 (.iinc 1 1) 3 := by decide +kernel
theorem d32_46 : DK B30 46 (.iload_n 1) 1 := by decide +kernel
theorem d32_47 : DK B30 47 (.iload_n 2) 1 := by decide +kernel
theorem d32_48 : DK B30 48 (.if_icmp .ge 35) 3 := by decide +kernel
theorem d32_51 : DK B30 51 (.iload_n 3) 1 := by decide +kernel
theorem d32_52 : DK B30 52 (.ifCond .eq 8) 3 := by decide +kernel
theorem d32_60 : DK B30 60 (.aload_n 0) 1 := by decide +kernel
theorem d32_61 : DK B30 61 (.iload_n 1) 1 := by decide +kernel
theorem d32_62 : DK B30 62 (.invokestatic 71) 3 := by decide +kernel
theorem d32_65 : DK B30 65 (.istore 5) 2 := by decide +kernel
theorem d32_67 : DK B30 67 (.iload 5) 2 := by decide +kernel
theorem d32_69 : DK B30 69 (.invokestatic 81) 3 := by decide +kernel
theorem m19 {Z : State} {a0 : Array Value} (hw : HW a0 Z) : (Jvm.Cond.static Y8).before a0 Z = true ∧ (Jvm.Cond.initialized "java/lang/Character").before a0 Z = true ∧ (Jvm.Cond.code Y8 B39 (1 : Nat) (Option.some Jvm.ClassFile.FieldType.boolean)).before a0 Z = true := ⟨(wd hw 203 rfl), (wd hw 101 rfl), (wd hw 204 rfl)⟩
theorem d32_72 : DK B30 72 (.ifCond .eq 11) 3 := by decide +kernel
theorem d32_75 : DK B30 75 (.iload 4) 2 := by decide +kernel
theorem d32_77 : DK B30 77 (.iload 5) 2 := by decide +kernel
theorem d32_79 : DK B30 79 (.invokestatic 84) 3 := by decide +kernel
theorem pd_16 : parseMethodDescriptor "(CC)I" = some ⟨[.char, .char], some .int⟩ := by decide +kernel
theorem m20 {Z : State} {a0 : Array Value} (hw : HW a0 Z) : (Jvm.Cond.static Y9).before a0 Z = true ∧ (Jvm.Cond.initialized "java/lang/Character").before a0 Z = true ∧ (Jvm.Cond.code Y9 B41 (2 : Nat) (Option.some Jvm.ClassFile.FieldType.int)).before a0 Z = true := ⟨(wd hw 209 rfl), (wd hw 101 rfl), (wd hw 210 rfl)⟩
theorem d32_82 : DK B30 82 .ireturn 1 := by decide +kernel
theorem rm_cpz0p {l : Launch} {Z : State} {a0 : Array Value} (hw : HW a0 Z) (b1 : Addr) (kb : ClassId) (z : Int32) (vs : List Value) (cc : Int32) (dd : Int32) (p3 : Int32) (h0 : Heap) (n0 : Nat) (Z0 : n0 ≤ h0.size) (pr0 : Old Z n0 h0) (pr1 : S0 Z) (pr2 : S1 Z) (pr3 : S2 Z) (pr4 : Arv Z h0 b1 kb .byte z vs (.int 0)) (hz0 : (0 : Int32) < z) (hz1 : (1 : Int32) < z) (hz2 : (2 : Int32) < z) (hz3 : (3 : Int32) < z) (he0 : vs.getD 0 (.int 0) = .int (own_b0 cc)) (he1 : vs.getD 1 (.int 0) = .int (own_b1 cc)) (he2 : vs.getD 2 (.int 0) = .int (own_b0 dd)) (he3 : vs.getD 3 (.int 0) = .int (own_b1 dd)) (hrc : own_rng cc) (hrd : own_rng dd) (hnx : (1 : Int32) < p3) :
    Met l Z Y29 B30 6 (some .int) [] ({ frames := 1, cells := 0, slots := 0, locals := 13 } : Room) #[(.ref b1), (.int 0), (.int p3), (.int 0)] h0 (fun vv h L => Fr n0 L ∧ vv = some (.int (own_cp cc dd)) ∧ h = h0) := by
  refine Met.enter (f0 := fun m => mkF m 0 #[vr b1, vi 0, vi p3, vi 0, .unset, .unset] []) (plainFor_of_name pn4) (fun m => oe m 2) ?_
  intro p e s m below meth c s₁ hx hby hml hown hnm hret hlk hZ X0 e0
  have dk : Dk B30 c := fun h => hb hby h
  have W := @wd _ _ _ hw
  have N0 := Fr.nil n0
  obtain ⟨T10, X10, e10, st10⟩ := getS2 X0 hx hZ hown (host := "") (Or.inl (W 127 rfl)) Via.refl e0 (pr1.ext pr0.2) (g := (mkF m 0 #[vr b1, vi 0, vi p3, vi 0, .unset, .unset] [])) rfl (dk d32_0)
  refine gz X10 30 #[vr b1, vi 0, vi p3, vi 0, .unset, .unset] [(.int 0), (.ref b1)] (fun _ k => st10 _ (fY X10 hx 3 19 rfl (dk d32_3) rfl ((if0 _ _).trans (feq (by decide)).2) (lN X10 hx (dk d32_19) rfl (fY X10 hx 20 28 rfl (dk d32_20) rfl ((if0 _ _).trans (teq (by decide)).1) (aN X10 hx (dk d32_28) rfl rfl (lN X10 hx (dk d32_29) rfl k)))))) ?_
  refine goS X10 hx hZ hown (W 130 rfl) (m5 hw) 2 0 0 (rm_get_0 hw b1 kb cc z vs h0 n0 Z0 pr0 pr1 pr2 pr3 pr4 hz0 hz1 he0 he1 hrc) N0 e10 pd_5 hml (dk d32_30) ?_
  rintro _ T11 L11 X11 N11 ⟨rfl, hh11⟩
  refine gz X11 37 #[vr b1, vi 0, vi p3, vi 0, vi cc, .unset] [(.int cc)] (fun _ k => sI X11 hx (dk d32_33) rfl rfl (.inl rfl) (lI X11 hx (dk d32_35) rfl k)) ?_
  refine goS X11 hx hZ hown (W 139 rfl) (m18 hw) 1 0 0 (rm_hi hw cc h0 n0 Z0 ) N11 hh11 pd_15 hml (dk d32_37) ?_
  rintro _ T12 L12 X12 N12 ⟨rfl, hh12⟩
  by_cases c13 : (own_hi cc) = (0 : Int32)
  · skip
    refine gz X12 85 #[vr b1, vi 0, vi p3, vi 0, vi cc, .unset] [(.int cc)] (fun _ k => fY X12 hx 40 83 rfl (dk d32_40) rfl ((if0 _ _).trans (teq c13).1) (lI X12 hx (dk d32_83) rfl k)) ?_
    refine Go.retJ X12 hx hlk (t := .int) hret (dk d32_85) ?_
    rw [hh12]
    exact ⟨N12, (congrArg (fun q => some (Value.int q)) (own_cp0 c13)), rfl⟩
  · skip
    refine gz X12 62 #[vr b1, vi 1, vi p3, vi 0, vi cc, .unset] [(.int 1), (.ref b1)] (fun _ k => fN X12 hx (dk d32_40) rfl ((if0 _ _).trans (feq c13).1) (XS.iinc X12.here hx rfl (dk d32_43) rfl (l' := #[vr b1, vi 1, vi p3, vi 0, vi cc, .unset]) rfl (lN X12 hx (dk d32_46) rfl (lN X12 hx (dk d32_47) rfl (cN X12 hx (dk d32_48) rfl (tlt hnx).2.1 (lN X12 hx (dk d32_51) rfl (fY X12 hx 52 60 rfl (dk d32_52) rfl ((if0 _ _).trans (teq (by decide)).1) (aN X12 hx (dk d32_60) rfl rfl (lN X12 hx (dk d32_61) rfl k))))))))) ?_
    refine goS X12 hx hZ hown (W 130 rfl) (m5 hw) 2 0 0 (rm_get_1 hw b1 kb dd z vs h0 n0 Z0 pr0 pr1 pr2 pr3 pr4 hz2 hz3 he2 he3 hrd) N12 hh12 pd_5 hml (dk d32_62) ?_
    rintro _ T14 L14 X14 N14 ⟨rfl, hh14⟩
    refine gz X14 69 #[vr b1, vi 1, vi p3, vi 0, vi cc, vi dd] [(.int dd)] (fun _ k => sI X14 hx (dk d32_65) rfl rfl (.inl rfl) (lI X14 hx (dk d32_67) rfl k)) ?_
    refine goS X14 hx hZ hown (W 202 rfl) (m19 hw) 1 0 0 (rm_lo hw dd h0 n0 Z0 ) N14 hh14 pd_15 hml (dk d32_69) ?_
    rintro _ T15 L15 X15 N15 ⟨rfl, hh15⟩
    by_cases c16 : (own_lo dd) = (0 : Int32)
    · skip
      refine gz X15 85 #[vr b1, vi 1, vi p3, vi 0, vi cc, vi dd] [(.int cc)] (fun _ k => fY X15 hx 72 83 rfl (dk d32_72) rfl ((if0 _ _).trans (teq c16).1) (lI X15 hx (dk d32_83) rfl k)) ?_
      refine Go.retJ X15 hx hlk (t := .int) hret (dk d32_85) ?_
      rw [hh15]
      exact ⟨N15, (congrArg (fun q => some (Value.int q)) (own_cp1 c13 c16)), rfl⟩
    · skip
      refine gz X15 79 #[vr b1, vi 1, vi p3, vi 0, vi cc, vi dd] [(.int dd), (.int cc)] (fun _ k => fN X15 hx (dk d32_72) rfl ((if0 _ _).trans (feq c16).1) (lI X15 hx (dk d32_75) rfl (lI X15 hx (dk d32_77) rfl k))) ?_
      refine goS X15 hx hZ hown (W 208 rfl) (m20 hw) 2 0 0 (rm_tcp hw cc dd h0 n0 Z0 ) N15 hh15 pd_16 hml (dk d32_79) ?_
      rintro _ T17 L17 X17 N17 ⟨rfl, hh17⟩
      refine gz X17 82 #[vr b1, vi 1, vi p3, vi 0, vi cc, vi dd] [(.int (((cc <<< ((10 : Int32) &&& 31)) + dd) + (-56613888 : Int32)))] (fun _ k => k) ?_
      refine Go.retJ X17 hx hlk (t := .int) hret (dk d32_82) ?_
      rw [hh17]
      exact ⟨N17, (congrArg (fun q => some (Value.int q)) (own_cp2 c13 c16)), rfl⟩
theorem d31_0 : DK B32 0 (.aload_n 0) 1 := by decide +kernel
theorem d31_1 : DK B32 1 (.iload_n 1) 1 := by decide +kernel
theorem d31_2 : DK B32 2 (.iload_n 2) 1 := by decide +kernel
theorem d31_3 : DK B32 3 (.iconst 0) 1 := by decide +kernel
theorem d31_4 : DK B32 4 (.invokestatic 88) 3 := by decide +kernel
theorem pd_17 : parseMethodDescriptor "([BIIZ)I" = some ⟨[(.array .byte), .int, .int, .boolean], some .int⟩ := by decide +kernel
theorem m21 {Z : State} {a0 : Array Value} (hw : HW a0 Z) : (Jvm.Cond.static Y29).before a0 Z = true ∧ (Jvm.Cond.initialized "java/lang/StringUTF16").before a0 Z = true ∧ (Jvm.Cond.code Y29 B30 (6 : Nat) (Option.some Jvm.ClassFile.FieldType.int)).before a0 Z = true := ⟨(wd hw 137 rfl), (wd hw 24 rfl), (wd hw 138 rfl)⟩
theorem d31_7 : DK B32 7 .ireturn 1 := by decide +kernel
theorem rm_cp30p {l : Launch} {Z : State} {a0 : Array Value} (hw : HW a0 Z) (b1 : Addr) (kb : ClassId) (z : Int32) (vs : List Value) (cc : Int32) (dd : Int32) (p3 : Int32) (h0 : Heap) (n0 : Nat) (Z0 : n0 ≤ h0.size) (pr0 : Old Z n0 h0) (pr1 : S0 Z) (pr2 : S1 Z) (pr3 : S2 Z) (pr4 : Arv Z h0 b1 kb .byte z vs (.int 0)) (hz0 : (0 : Int32) < z) (hz1 : (1 : Int32) < z) (hz2 : (2 : Int32) < z) (hz3 : (3 : Int32) < z) (he0 : vs.getD 0 (.int 0) = .int (own_b0 cc)) (he1 : vs.getD 1 (.int 0) = .int (own_b1 cc)) (he2 : vs.getD 2 (.int 0) = .int (own_b0 dd)) (he3 : vs.getD 3 (.int 0) = .int (own_b1 dd)) (hrc : own_rng cc) (hrd : own_rng dd) (hnx : (1 : Int32) < p3) :
    Met l Z Y28 B32 3 (some .int) [] ({ frames := 2, cells := 0, slots := 0, locals := 30 } : Room) #[(.ref b1), (.int 0), (.int p3)] h0 (fun vv h L => Fr n0 L ∧ vv = some (.int (own_cp cc dd)) ∧ h = h0) := by
  refine Met.enter (f0 := fun m => mkF m 0 #[vr b1, vi 0, vi p3] []) (plainFor_of_name pn4) (fun m => oe m 0) ?_
  intro p e s m below meth c s₁ hx hby hml hown hnm hret hlk hZ X0 e0
  have dk : Dk B32 c := fun h => hb hby h
  have W := @wd _ _ _ hw
  have N0 := Fr.nil n0
  refine gz X0 4 #[vr b1, vi 0, vi p3] [(.int 0), (.int p3), (.int 0), (.ref b1)] (fun _ k => aN X0 hx (dk d31_0) rfl rfl (lN X0 hx (dk d31_1) rfl (lN X0 hx (dk d31_2) rfl (kC X0 hx (dk d31_3) k)))) ?_
  refine goS X0 hx hZ hown (W 136 rfl) (m21 hw) 4 0 0 (rm_cpz0p hw b1 kb z vs cc dd p3 h0 n0 Z0 pr0 pr1 pr2 pr3 pr4 hz0 hz1 hz2 hz3 he0 he1 he2 he3 hrc hrd hnx) N0 e0 pd_17 hml (dk d31_4) ?_
  rintro _ T10 L10 X10 N10 ⟨rfl, hh10⟩
  refine gz X10 7 #[vr b1, vi 0, vi p3] [(.int (own_cp cc dd))] (fun _ k => k) ?_
  refine Go.retJ X10 hx hlk (t := .int) hret (dk d31_7) ?_
  rw [hh10]
  exact ⟨N10, rfl, rfl⟩
theorem rm_cpz0l {l : Launch} {Z : State} {a0 : Array Value} (hw : HW a0 Z) (b1 : Addr) (kb : ClassId) (z : Int32) (vs : List Value) (cc : Int32) (p3 : Int32) (h0 : Heap) (n0 : Nat) (Z0 : n0 ≤ h0.size) (pr0 : Old Z n0 h0) (pr1 : S0 Z) (pr2 : S1 Z) (pr3 : S2 Z) (pr4 : Arv Z h0 b1 kb .byte z vs (.int 0)) (hz0 : (0 : Int32) < z) (hz1 : (1 : Int32) < z) (he0 : vs.getD 0 (.int 0) = .int (own_b0 cc)) (he1 : vs.getD 1 (.int 0) = .int (own_b1 cc)) (hrc : own_rng cc) (hnx : ¬ ((1 : Int32) < p3)) :
    Met l Z Y29 B30 6 (some .int) [] ({ frames := 1, cells := 0, slots := 0, locals := 13 } : Room) #[(.ref b1), (.int 0), (.int p3), (.int 0)] h0 (fun vv h L => Fr n0 L ∧ vv = some (.int cc) ∧ h = h0) := by
  refine Met.enter (f0 := fun m => mkF m 0 #[vr b1, vi 0, vi p3, vi 0, .unset, .unset] []) (plainFor_of_name pn4) (fun m => oe m 2) ?_
  intro p e s m below meth c s₁ hx hby hml hown hnm hret hlk hZ X0 e0
  have dk : Dk B30 c := fun h => hb hby h
  have W := @wd _ _ _ hw
  have N0 := Fr.nil n0
  obtain ⟨T10, X10, e10, st10⟩ := getS2 X0 hx hZ hown (host := "") (Or.inl (W 127 rfl)) Via.refl e0 (pr1.ext pr0.2) (g := (mkF m 0 #[vr b1, vi 0, vi p3, vi 0, .unset, .unset] [])) rfl (dk d32_0)
  refine gz X10 30 #[vr b1, vi 0, vi p3, vi 0, .unset, .unset] [(.int 0), (.ref b1)] (fun _ k => st10 _ (fY X10 hx 3 19 rfl (dk d32_3) rfl ((if0 _ _).trans (feq (by decide)).2) (lN X10 hx (dk d32_19) rfl (fY X10 hx 20 28 rfl (dk d32_20) rfl ((if0 _ _).trans (teq (by decide)).1) (aN X10 hx (dk d32_28) rfl rfl (lN X10 hx (dk d32_29) rfl k)))))) ?_
  refine goS X10 hx hZ hown (W 130 rfl) (m5 hw) 2 0 0 (rm_get_0 hw b1 kb cc z vs h0 n0 Z0 pr0 pr1 pr2 pr3 pr4 hz0 hz1 he0 he1 hrc) N0 e10 pd_5 hml (dk d32_30) ?_
  rintro _ T11 L11 X11 N11 ⟨rfl, hh11⟩
  refine gz X11 37 #[vr b1, vi 0, vi p3, vi 0, vi cc, .unset] [(.int cc)] (fun _ k => sI X11 hx (dk d32_33) rfl rfl (.inl rfl) (lI X11 hx (dk d32_35) rfl k)) ?_
  refine goS X11 hx hZ hown (W 139 rfl) (m18 hw) 1 0 0 (rm_hi hw cc h0 n0 Z0 ) N11 hh11 pd_15 hml (dk d32_37) ?_
  rintro _ T12 L12 X12 N12 ⟨rfl, hh12⟩
  by_cases c13 : (own_hi cc) = (0 : Int32)
  · skip
    refine gz X12 85 #[vr b1, vi 0, vi p3, vi 0, vi cc, .unset] [(.int cc)] (fun _ k => fY X12 hx 40 83 rfl (dk d32_40) rfl ((if0 _ _).trans (teq c13).1) (lI X12 hx (dk d32_83) rfl k)) ?_
    refine Go.retJ X12 hx hlk (t := .int) hret (dk d32_85) ?_
    rw [hh12]
    exact ⟨N12, rfl, rfl⟩
  · skip
    refine gz X12 85 #[vr b1, vi 1, vi p3, vi 0, vi cc, .unset] [(.int cc)] (fun _ k => fN X12 hx (dk d32_40) rfl ((if0 _ _).trans (feq c13).1) (XS.iinc X12.here hx rfl (dk d32_43) rfl (l' := #[vr b1, vi 1, vi p3, vi 0, vi cc, .unset]) rfl (lN X12 hx (dk d32_46) rfl (lN X12 hx (dk d32_47) rfl (cY X12 hx 48 83 rfl (dk d32_48) rfl (flt hnx).2.1 (lI X12 hx (dk d32_83) rfl k)))))) ?_
    refine Go.retJ X12 hx hlk (t := .int) hret (dk d32_85) ?_
    rw [hh12]
    exact ⟨N12, rfl, rfl⟩
theorem rm_cp30l {l : Launch} {Z : State} {a0 : Array Value} (hw : HW a0 Z) (b1 : Addr) (kb : ClassId) (z : Int32) (vs : List Value) (cc : Int32) (p3 : Int32) (h0 : Heap) (n0 : Nat) (Z0 : n0 ≤ h0.size) (pr0 : Old Z n0 h0) (pr1 : S0 Z) (pr2 : S1 Z) (pr3 : S2 Z) (pr4 : Arv Z h0 b1 kb .byte z vs (.int 0)) (hz0 : (0 : Int32) < z) (hz1 : (1 : Int32) < z) (he0 : vs.getD 0 (.int 0) = .int (own_b0 cc)) (he1 : vs.getD 1 (.int 0) = .int (own_b1 cc)) (hrc : own_rng cc) (hnx : ¬ ((1 : Int32) < p3)) :
    Met l Z Y28 B32 3 (some .int) [] ({ frames := 2, cells := 0, slots := 0, locals := 30 } : Room) #[(.ref b1), (.int 0), (.int p3)] h0 (fun vv h L => Fr n0 L ∧ vv = some (.int cc) ∧ h = h0) := by
  refine Met.enter (f0 := fun m => mkF m 0 #[vr b1, vi 0, vi p3] []) (plainFor_of_name pn4) (fun m => oe m 0) ?_
  intro p e s m below meth c s₁ hx hby hml hown hnm hret hlk hZ X0 e0
  have dk : Dk B32 c := fun h => hb hby h
  have W := @wd _ _ _ hw
  have N0 := Fr.nil n0
  refine gz X0 4 #[vr b1, vi 0, vi p3] [(.int 0), (.int p3), (.int 0), (.ref b1)] (fun _ k => aN X0 hx (dk d31_0) rfl rfl (lN X0 hx (dk d31_1) rfl (lN X0 hx (dk d31_2) rfl (kC X0 hx (dk d31_3) k)))) ?_
  refine goS X0 hx hZ hown (W 136 rfl) (m21 hw) 4 0 0 (rm_cpz0l hw b1 kb z vs cc p3 h0 n0 Z0 pr0 pr1 pr2 pr3 pr4 hz0 hz1 he0 he1 hrc hnx) N0 e0 pd_17 hml (dk d31_4) ?_
  rintro _ T10 L10 X10 N10 ⟨rfl, hh10⟩
  refine gz X10 7 #[vr b1, vi 0, vi p3] [(.int cc)] (fun _ k => k) ?_
  refine Go.retJ X10 hx hlk (t := .int) hret (dk d31_7) ?_
  rw [hh10]
  exact ⟨N10, rfl, rfl⟩
theorem rm_cpz1p {l : Launch} {Z : State} {a0 : Array Value} (hw : HW a0 Z) (b1 : Addr) (kb : ClassId) (z : Int32) (vs : List Value) (cc : Int32) (dd : Int32) (p3 : Int32) (h0 : Heap) (n0 : Nat) (Z0 : n0 ≤ h0.size) (pr0 : Old Z n0 h0) (pr1 : S0 Z) (pr2 : S1 Z) (pr3 : S2 Z) (pr4 : Arv Z h0 b1 kb .byte z vs (.int 0)) (hz2 : (2 : Int32) < z) (hz3 : (3 : Int32) < z) (hz4 : (4 : Int32) < z) (hz5 : (5 : Int32) < z) (he2 : vs.getD 2 (.int 0) = .int (own_b0 cc)) (he3 : vs.getD 3 (.int 0) = .int (own_b1 cc)) (he4 : vs.getD 4 (.int 0) = .int (own_b0 dd)) (he5 : vs.getD 5 (.int 0) = .int (own_b1 dd)) (hrc : own_rng cc) (hrd : own_rng dd) (hnx : (2 : Int32) < p3) :
    Met l Z Y29 B30 6 (some .int) [] ({ frames := 1, cells := 0, slots := 0, locals := 13 } : Room) #[(.ref b1), (.int 1), (.int p3), (.int 0)] h0 (fun vv h L => Fr n0 L ∧ vv = some (.int (own_cp cc dd)) ∧ h = h0) := by
  refine Met.enter (f0 := fun m => mkF m 0 #[vr b1, vi 1, vi p3, vi 0, .unset, .unset] []) (plainFor_of_name pn4) (fun m => oe m 2) ?_
  intro p e s m below meth c s₁ hx hby hml hown hnm hret hlk hZ X0 e0
  have dk : Dk B30 c := fun h => hb hby h
  have W := @wd _ _ _ hw
  have N0 := Fr.nil n0
  obtain ⟨T10, X10, e10, st10⟩ := getS2 X0 hx hZ hown (host := "") (Or.inl (W 127 rfl)) Via.refl e0 (pr1.ext pr0.2) (g := (mkF m 0 #[vr b1, vi 1, vi p3, vi 0, .unset, .unset] [])) rfl (dk d32_0)
  refine gz X10 30 #[vr b1, vi 1, vi p3, vi 0, .unset, .unset] [(.int 1), (.ref b1)] (fun _ k => st10 _ (fY X10 hx 3 19 rfl (dk d32_3) rfl ((if0 _ _).trans (feq (by decide)).2) (lN X10 hx (dk d32_19) rfl (fY X10 hx 20 28 rfl (dk d32_20) rfl ((if0 _ _).trans (teq (by decide)).1) (aN X10 hx (dk d32_28) rfl rfl (lN X10 hx (dk d32_29) rfl k)))))) ?_
  refine goS X10 hx hZ hown (W 130 rfl) (m5 hw) 2 0 0 (rm_get_1 hw b1 kb cc z vs h0 n0 Z0 pr0 pr1 pr2 pr3 pr4 hz2 hz3 he2 he3 hrc) N0 e10 pd_5 hml (dk d32_30) ?_
  rintro _ T11 L11 X11 N11 ⟨rfl, hh11⟩
  refine gz X11 37 #[vr b1, vi 1, vi p3, vi 0, vi cc, .unset] [(.int cc)] (fun _ k => sI X11 hx (dk d32_33) rfl rfl (.inl rfl) (lI X11 hx (dk d32_35) rfl k)) ?_
  refine goS X11 hx hZ hown (W 139 rfl) (m18 hw) 1 0 0 (rm_hi hw cc h0 n0 Z0 ) N11 hh11 pd_15 hml (dk d32_37) ?_
  rintro _ T12 L12 X12 N12 ⟨rfl, hh12⟩
  by_cases c13 : (own_hi cc) = (0 : Int32)
  · skip
    refine gz X12 85 #[vr b1, vi 1, vi p3, vi 0, vi cc, .unset] [(.int cc)] (fun _ k => fY X12 hx 40 83 rfl (dk d32_40) rfl ((if0 _ _).trans (teq c13).1) (lI X12 hx (dk d32_83) rfl k)) ?_
    refine Go.retJ X12 hx hlk (t := .int) hret (dk d32_85) ?_
    rw [hh12]
    exact ⟨N12, (congrArg (fun q => some (Value.int q)) (own_cp0 c13)), rfl⟩
  · skip
    refine gz X12 62 #[vr b1, vi 2, vi p3, vi 0, vi cc, .unset] [(.int 2), (.ref b1)] (fun _ k => fN X12 hx (dk d32_40) rfl ((if0 _ _).trans (feq c13).1) (XS.iinc X12.here hx rfl (dk d32_43) rfl (l' := #[vr b1, vi 2, vi p3, vi 0, vi cc, .unset]) rfl (lN X12 hx (dk d32_46) rfl (lN X12 hx (dk d32_47) rfl (cN X12 hx (dk d32_48) rfl (tlt hnx).2.1 (lN X12 hx (dk d32_51) rfl (fY X12 hx 52 60 rfl (dk d32_52) rfl ((if0 _ _).trans (teq (by decide)).1) (aN X12 hx (dk d32_60) rfl rfl (lN X12 hx (dk d32_61) rfl k))))))))) ?_
    refine goS X12 hx hZ hown (W 130 rfl) (m5 hw) 2 0 0 (rm_get_2 hw b1 kb dd z vs h0 n0 Z0 pr0 pr1 pr2 pr3 pr4 hz4 hz5 he4 he5 hrd) N12 hh12 pd_5 hml (dk d32_62) ?_
    rintro _ T14 L14 X14 N14 ⟨rfl, hh14⟩
    refine gz X14 69 #[vr b1, vi 2, vi p3, vi 0, vi cc, vi dd] [(.int dd)] (fun _ k => sI X14 hx (dk d32_65) rfl rfl (.inl rfl) (lI X14 hx (dk d32_67) rfl k)) ?_
    refine goS X14 hx hZ hown (W 202 rfl) (m19 hw) 1 0 0 (rm_lo hw dd h0 n0 Z0 ) N14 hh14 pd_15 hml (dk d32_69) ?_
    rintro _ T15 L15 X15 N15 ⟨rfl, hh15⟩
    by_cases c16 : (own_lo dd) = (0 : Int32)
    · skip
      refine gz X15 85 #[vr b1, vi 2, vi p3, vi 0, vi cc, vi dd] [(.int cc)] (fun _ k => fY X15 hx 72 83 rfl (dk d32_72) rfl ((if0 _ _).trans (teq c16).1) (lI X15 hx (dk d32_83) rfl k)) ?_
      refine Go.retJ X15 hx hlk (t := .int) hret (dk d32_85) ?_
      rw [hh15]
      exact ⟨N15, (congrArg (fun q => some (Value.int q)) (own_cp1 c13 c16)), rfl⟩
    · skip
      refine gz X15 79 #[vr b1, vi 2, vi p3, vi 0, vi cc, vi dd] [(.int dd), (.int cc)] (fun _ k => fN X15 hx (dk d32_72) rfl ((if0 _ _).trans (feq c16).1) (lI X15 hx (dk d32_75) rfl (lI X15 hx (dk d32_77) rfl k))) ?_
      refine goS X15 hx hZ hown (W 208 rfl) (m20 hw) 2 0 0 (rm_tcp hw cc dd h0 n0 Z0 ) N15 hh15 pd_16 hml (dk d32_79) ?_
      rintro _ T17 L17 X17 N17 ⟨rfl, hh17⟩
      refine gz X17 82 #[vr b1, vi 2, vi p3, vi 0, vi cc, vi dd] [(.int (((cc <<< ((10 : Int32) &&& 31)) + dd) + (-56613888 : Int32)))] (fun _ k => k) ?_
      refine Go.retJ X17 hx hlk (t := .int) hret (dk d32_82) ?_
      rw [hh17]
      exact ⟨N17, (congrArg (fun q => some (Value.int q)) (own_cp2 c13 c16)), rfl⟩
theorem rm_cp31p {l : Launch} {Z : State} {a0 : Array Value} (hw : HW a0 Z) (b1 : Addr) (kb : ClassId) (z : Int32) (vs : List Value) (cc : Int32) (dd : Int32) (p3 : Int32) (h0 : Heap) (n0 : Nat) (Z0 : n0 ≤ h0.size) (pr0 : Old Z n0 h0) (pr1 : S0 Z) (pr2 : S1 Z) (pr3 : S2 Z) (pr4 : Arv Z h0 b1 kb .byte z vs (.int 0)) (hz2 : (2 : Int32) < z) (hz3 : (3 : Int32) < z) (hz4 : (4 : Int32) < z) (hz5 : (5 : Int32) < z) (he2 : vs.getD 2 (.int 0) = .int (own_b0 cc)) (he3 : vs.getD 3 (.int 0) = .int (own_b1 cc)) (he4 : vs.getD 4 (.int 0) = .int (own_b0 dd)) (he5 : vs.getD 5 (.int 0) = .int (own_b1 dd)) (hrc : own_rng cc) (hrd : own_rng dd) (hnx : (2 : Int32) < p3) :
    Met l Z Y28 B32 3 (some .int) [] ({ frames := 2, cells := 0, slots := 0, locals := 30 } : Room) #[(.ref b1), (.int 1), (.int p3)] h0 (fun vv h L => Fr n0 L ∧ vv = some (.int (own_cp cc dd)) ∧ h = h0) := by
  refine Met.enter (f0 := fun m => mkF m 0 #[vr b1, vi 1, vi p3] []) (plainFor_of_name pn4) (fun m => oe m 0) ?_
  intro p e s m below meth c s₁ hx hby hml hown hnm hret hlk hZ X0 e0
  have dk : Dk B32 c := fun h => hb hby h
  have W := @wd _ _ _ hw
  have N0 := Fr.nil n0
  refine gz X0 4 #[vr b1, vi 1, vi p3] [(.int 0), (.int p3), (.int 1), (.ref b1)] (fun _ k => aN X0 hx (dk d31_0) rfl rfl (lN X0 hx (dk d31_1) rfl (lN X0 hx (dk d31_2) rfl (kC X0 hx (dk d31_3) k)))) ?_
  refine goS X0 hx hZ hown (W 136 rfl) (m21 hw) 4 0 0 (rm_cpz1p hw b1 kb z vs cc dd p3 h0 n0 Z0 pr0 pr1 pr2 pr3 pr4 hz2 hz3 hz4 hz5 he2 he3 he4 he5 hrc hrd hnx) N0 e0 pd_17 hml (dk d31_4) ?_
  rintro _ T10 L10 X10 N10 ⟨rfl, hh10⟩
  refine gz X10 7 #[vr b1, vi 1, vi p3] [(.int (own_cp cc dd))] (fun _ k => k) ?_
  refine Go.retJ X10 hx hlk (t := .int) hret (dk d31_7) ?_
  rw [hh10]
  exact ⟨N10, rfl, rfl⟩
theorem rm_cpz1l {l : Launch} {Z : State} {a0 : Array Value} (hw : HW a0 Z) (b1 : Addr) (kb : ClassId) (z : Int32) (vs : List Value) (cc : Int32) (p3 : Int32) (h0 : Heap) (n0 : Nat) (Z0 : n0 ≤ h0.size) (pr0 : Old Z n0 h0) (pr1 : S0 Z) (pr2 : S1 Z) (pr3 : S2 Z) (pr4 : Arv Z h0 b1 kb .byte z vs (.int 0)) (hz2 : (2 : Int32) < z) (hz3 : (3 : Int32) < z) (he2 : vs.getD 2 (.int 0) = .int (own_b0 cc)) (he3 : vs.getD 3 (.int 0) = .int (own_b1 cc)) (hrc : own_rng cc) (hnx : ¬ ((2 : Int32) < p3)) :
    Met l Z Y29 B30 6 (some .int) [] ({ frames := 1, cells := 0, slots := 0, locals := 13 } : Room) #[(.ref b1), (.int 1), (.int p3), (.int 0)] h0 (fun vv h L => Fr n0 L ∧ vv = some (.int cc) ∧ h = h0) := by
  refine Met.enter (f0 := fun m => mkF m 0 #[vr b1, vi 1, vi p3, vi 0, .unset, .unset] []) (plainFor_of_name pn4) (fun m => oe m 2) ?_
  intro p e s m below meth c s₁ hx hby hml hown hnm hret hlk hZ X0 e0
  have dk : Dk B30 c := fun h => hb hby h
  have W := @wd _ _ _ hw
  have N0 := Fr.nil n0
  obtain ⟨T10, X10, e10, st10⟩ := getS2 X0 hx hZ hown (host := "") (Or.inl (W 127 rfl)) Via.refl e0 (pr1.ext pr0.2) (g := (mkF m 0 #[vr b1, vi 1, vi p3, vi 0, .unset, .unset] [])) rfl (dk d32_0)
  refine gz X10 30 #[vr b1, vi 1, vi p3, vi 0, .unset, .unset] [(.int 1), (.ref b1)] (fun _ k => st10 _ (fY X10 hx 3 19 rfl (dk d32_3) rfl ((if0 _ _).trans (feq (by decide)).2) (lN X10 hx (dk d32_19) rfl (fY X10 hx 20 28 rfl (dk d32_20) rfl ((if0 _ _).trans (teq (by decide)).1) (aN X10 hx (dk d32_28) rfl rfl (lN X10 hx (dk d32_29) rfl k)))))) ?_
  refine goS X10 hx hZ hown (W 130 rfl) (m5 hw) 2 0 0 (rm_get_1 hw b1 kb cc z vs h0 n0 Z0 pr0 pr1 pr2 pr3 pr4 hz2 hz3 he2 he3 hrc) N0 e10 pd_5 hml (dk d32_30) ?_
  rintro _ T11 L11 X11 N11 ⟨rfl, hh11⟩
  refine gz X11 37 #[vr b1, vi 1, vi p3, vi 0, vi cc, .unset] [(.int cc)] (fun _ k => sI X11 hx (dk d32_33) rfl rfl (.inl rfl) (lI X11 hx (dk d32_35) rfl k)) ?_
  refine goS X11 hx hZ hown (W 139 rfl) (m18 hw) 1 0 0 (rm_hi hw cc h0 n0 Z0 ) N11 hh11 pd_15 hml (dk d32_37) ?_
  rintro _ T12 L12 X12 N12 ⟨rfl, hh12⟩
  by_cases c13 : (own_hi cc) = (0 : Int32)
  · skip
    refine gz X12 85 #[vr b1, vi 1, vi p3, vi 0, vi cc, .unset] [(.int cc)] (fun _ k => fY X12 hx 40 83 rfl (dk d32_40) rfl ((if0 _ _).trans (teq c13).1) (lI X12 hx (dk d32_83) rfl k)) ?_
    refine Go.retJ X12 hx hlk (t := .int) hret (dk d32_85) ?_
    rw [hh12]
    exact ⟨N12, rfl, rfl⟩
  · skip
    refine gz X12 85 #[vr b1, vi 2, vi p3, vi 0, vi cc, .unset] [(.int cc)] (fun _ k => fN X12 hx (dk d32_40) rfl ((if0 _ _).trans (feq c13).1) (XS.iinc X12.here hx rfl (dk d32_43) rfl (l' := #[vr b1, vi 2, vi p3, vi 0, vi cc, .unset]) rfl (lN X12 hx (dk d32_46) rfl (lN X12 hx (dk d32_47) rfl (cY X12 hx 48 83 rfl (dk d32_48) rfl (flt hnx).2.1 (lI X12 hx (dk d32_83) rfl k)))))) ?_
    refine Go.retJ X12 hx hlk (t := .int) hret (dk d32_85) ?_
    rw [hh12]
    exact ⟨N12, rfl, rfl⟩
theorem rm_cp31l {l : Launch} {Z : State} {a0 : Array Value} (hw : HW a0 Z) (b1 : Addr) (kb : ClassId) (z : Int32) (vs : List Value) (cc : Int32) (p3 : Int32) (h0 : Heap) (n0 : Nat) (Z0 : n0 ≤ h0.size) (pr0 : Old Z n0 h0) (pr1 : S0 Z) (pr2 : S1 Z) (pr3 : S2 Z) (pr4 : Arv Z h0 b1 kb .byte z vs (.int 0)) (hz2 : (2 : Int32) < z) (hz3 : (3 : Int32) < z) (he2 : vs.getD 2 (.int 0) = .int (own_b0 cc)) (he3 : vs.getD 3 (.int 0) = .int (own_b1 cc)) (hrc : own_rng cc) (hnx : ¬ ((2 : Int32) < p3)) :
    Met l Z Y28 B32 3 (some .int) [] ({ frames := 2, cells := 0, slots := 0, locals := 30 } : Room) #[(.ref b1), (.int 1), (.int p3)] h0 (fun vv h L => Fr n0 L ∧ vv = some (.int cc) ∧ h = h0) := by
  refine Met.enter (f0 := fun m => mkF m 0 #[vr b1, vi 1, vi p3] []) (plainFor_of_name pn4) (fun m => oe m 0) ?_
  intro p e s m below meth c s₁ hx hby hml hown hnm hret hlk hZ X0 e0
  have dk : Dk B32 c := fun h => hb hby h
  have W := @wd _ _ _ hw
  have N0 := Fr.nil n0
  refine gz X0 4 #[vr b1, vi 1, vi p3] [(.int 0), (.int p3), (.int 1), (.ref b1)] (fun _ k => aN X0 hx (dk d31_0) rfl rfl (lN X0 hx (dk d31_1) rfl (lN X0 hx (dk d31_2) rfl (kC X0 hx (dk d31_3) k)))) ?_
  refine goS X0 hx hZ hown (W 136 rfl) (m21 hw) 4 0 0 (rm_cpz1l hw b1 kb z vs cc p3 h0 n0 Z0 pr0 pr1 pr2 pr3 pr4 hz2 hz3 he2 he3 hrc hnx) N0 e0 pd_17 hml (dk d31_4) ?_
  rintro _ T10 L10 X10 N10 ⟨rfl, hh10⟩
  refine gz X10 7 #[vr b1, vi 1, vi p3] [(.int cc)] (fun _ k => k) ?_
  refine Go.retJ X10 hx hlk (t := .int) hret (dk d31_7) ?_
  rw [hh10]
  exact ⟨N10, rfl, rfl⟩
theorem rm_cpz2l {l : Launch} {Z : State} {a0 : Array Value} (hw : HW a0 Z) (b1 : Addr) (kb : ClassId) (z : Int32) (vs : List Value) (cc : Int32) (p3 : Int32) (h0 : Heap) (n0 : Nat) (Z0 : n0 ≤ h0.size) (pr0 : Old Z n0 h0) (pr1 : S0 Z) (pr2 : S1 Z) (pr3 : S2 Z) (pr4 : Arv Z h0 b1 kb .byte z vs (.int 0)) (hz4 : (4 : Int32) < z) (hz5 : (5 : Int32) < z) (he4 : vs.getD 4 (.int 0) = .int (own_b0 cc)) (he5 : vs.getD 5 (.int 0) = .int (own_b1 cc)) (hrc : own_rng cc) (hnx : ¬ ((3 : Int32) < p3)) :
    Met l Z Y29 B30 6 (some .int) [] ({ frames := 1, cells := 0, slots := 0, locals := 13 } : Room) #[(.ref b1), (.int 2), (.int p3), (.int 0)] h0 (fun vv h L => Fr n0 L ∧ vv = some (.int cc) ∧ h = h0) := by
  refine Met.enter (f0 := fun m => mkF m 0 #[vr b1, vi 2, vi p3, vi 0, .unset, .unset] []) (plainFor_of_name pn4) (fun m => oe m 2) ?_
  intro p e s m below meth c s₁ hx hby hml hown hnm hret hlk hZ X0 e0
  have dk : Dk B30 c := fun h => hb hby h
  have W := @wd _ _ _ hw
  have N0 := Fr.nil n0
  obtain ⟨T10, X10, e10, st10⟩ := getS2 X0 hx hZ hown (host := "") (Or.inl (W 127 rfl)) Via.refl e0 (pr1.ext pr0.2) (g := (mkF m 0 #[vr b1, vi 2, vi p3, vi 0, .unset, .unset] [])) rfl (dk d32_0)
  refine gz X10 30 #[vr b1, vi 2, vi p3, vi 0, .unset, .unset] [(.int 2), (.ref b1)] (fun _ k => st10 _ (fY X10 hx 3 19 rfl (dk d32_3) rfl ((if0 _ _).trans (feq (by decide)).2) (lN X10 hx (dk d32_19) rfl (fY X10 hx 20 28 rfl (dk d32_20) rfl ((if0 _ _).trans (teq (by decide)).1) (aN X10 hx (dk d32_28) rfl rfl (lN X10 hx (dk d32_29) rfl k)))))) ?_
  refine goS X10 hx hZ hown (W 130 rfl) (m5 hw) 2 0 0 (rm_get_2 hw b1 kb cc z vs h0 n0 Z0 pr0 pr1 pr2 pr3 pr4 hz4 hz5 he4 he5 hrc) N0 e10 pd_5 hml (dk d32_30) ?_
  rintro _ T11 L11 X11 N11 ⟨rfl, hh11⟩
  refine gz X11 37 #[vr b1, vi 2, vi p3, vi 0, vi cc, .unset] [(.int cc)] (fun _ k => sI X11 hx (dk d32_33) rfl rfl (.inl rfl) (lI X11 hx (dk d32_35) rfl k)) ?_
  refine goS X11 hx hZ hown (W 139 rfl) (m18 hw) 1 0 0 (rm_hi hw cc h0 n0 Z0 ) N11 hh11 pd_15 hml (dk d32_37) ?_
  rintro _ T12 L12 X12 N12 ⟨rfl, hh12⟩
  by_cases c13 : (own_hi cc) = (0 : Int32)
  · skip
    refine gz X12 85 #[vr b1, vi 2, vi p3, vi 0, vi cc, .unset] [(.int cc)] (fun _ k => fY X12 hx 40 83 rfl (dk d32_40) rfl ((if0 _ _).trans (teq c13).1) (lI X12 hx (dk d32_83) rfl k)) ?_
    refine Go.retJ X12 hx hlk (t := .int) hret (dk d32_85) ?_
    rw [hh12]
    exact ⟨N12, rfl, rfl⟩
  · skip
    refine gz X12 85 #[vr b1, vi 3, vi p3, vi 0, vi cc, .unset] [(.int cc)] (fun _ k => fN X12 hx (dk d32_40) rfl ((if0 _ _).trans (feq c13).1) (XS.iinc X12.here hx rfl (dk d32_43) rfl (l' := #[vr b1, vi 3, vi p3, vi 0, vi cc, .unset]) rfl (lN X12 hx (dk d32_46) rfl (lN X12 hx (dk d32_47) rfl (cY X12 hx 48 83 rfl (dk d32_48) rfl (flt hnx).2.1 (lI X12 hx (dk d32_83) rfl k)))))) ?_
    refine Go.retJ X12 hx hlk (t := .int) hret (dk d32_85) ?_
    rw [hh12]
    exact ⟨N12, rfl, rfl⟩
theorem rm_cp32l {l : Launch} {Z : State} {a0 : Array Value} (hw : HW a0 Z) (b1 : Addr) (kb : ClassId) (z : Int32) (vs : List Value) (cc : Int32) (p3 : Int32) (h0 : Heap) (n0 : Nat) (Z0 : n0 ≤ h0.size) (pr0 : Old Z n0 h0) (pr1 : S0 Z) (pr2 : S1 Z) (pr3 : S2 Z) (pr4 : Arv Z h0 b1 kb .byte z vs (.int 0)) (hz4 : (4 : Int32) < z) (hz5 : (5 : Int32) < z) (he4 : vs.getD 4 (.int 0) = .int (own_b0 cc)) (he5 : vs.getD 5 (.int 0) = .int (own_b1 cc)) (hrc : own_rng cc) (hnx : ¬ ((3 : Int32) < p3)) :
    Met l Z Y28 B32 3 (some .int) [] ({ frames := 2, cells := 0, slots := 0, locals := 30 } : Room) #[(.ref b1), (.int 2), (.int p3)] h0 (fun vv h L => Fr n0 L ∧ vv = some (.int cc) ∧ h = h0) := by
  refine Met.enter (f0 := fun m => mkF m 0 #[vr b1, vi 2, vi p3] []) (plainFor_of_name pn4) (fun m => oe m 0) ?_
  intro p e s m below meth c s₁ hx hby hml hown hnm hret hlk hZ X0 e0
  have dk : Dk B32 c := fun h => hb hby h
  have W := @wd _ _ _ hw
  have N0 := Fr.nil n0
  refine gz X0 4 #[vr b1, vi 2, vi p3] [(.int 0), (.int p3), (.int 2), (.ref b1)] (fun _ k => aN X0 hx (dk d31_0) rfl rfl (lN X0 hx (dk d31_1) rfl (lN X0 hx (dk d31_2) rfl (kC X0 hx (dk d31_3) k)))) ?_
  refine goS X0 hx hZ hown (W 136 rfl) (m21 hw) 4 0 0 (rm_cpz2l hw b1 kb z vs cc p3 h0 n0 Z0 pr0 pr1 pr2 pr3 pr4 hz4 hz5 he4 he5 hrc hnx) N0 e0 pd_17 hml (dk d31_4) ?_
  rintro _ T10 L10 X10 N10 ⟨rfl, hh10⟩
  refine gz X10 7 #[vr b1, vi 2, vi p3] [(.int cc)] (fun _ k => k) ?_
  refine Go.retJ X10 hx hlk (t := .int) hret (dk d31_7) ?_
  rw [hh10]
  exact ⟨N10, rfl, rfl⟩
theorem d12_0 : DK B14 0 (.aload_n 0) 1 := by decide +kernel
theorem d12_1 : DK B14 1 (.invokevirtual 492) 3 := by decide +kernel
theorem d12_4 : DK B14 4 (.ifCond .eq 23) 3 := by decide +kernel
theorem d12_7 : DK B14 7 (.iload_n 1) 1 := by decide +kernel
theorem d12_8 : DK B14 8 (.aload_n 0) 1 := by decide +kernel
theorem d12_9 : DK B14 9 (.getfield 9) 3 := by decide +kernel
theorem d12_12 : DK B14 12 .arraylength 1 := by decide +kernel
theorem d12_13 : DK B14 13 (.invokestatic 499) 3 := by decide +kernel
theorem d12_16 : DK B14 16 (.aload_n 0) 1 := by decide +kernel
theorem d12_17 : DK B14 17 (.getfield 9) 3 := by decide +kernel
theorem d12_20 : DK B14 20 (.iload_n 1) 1 := by decide +kernel
theorem d12_21 : DK B14 21 .baload 1 := by decide +kernel
theorem d12_22 : DK B14 22 (.sipush 255) 3 := by decide +kernel
theorem d12_25 : DK B14 25 .iand 1 := by decide +kernel
theorem d12_26 : DK B14 26 .ireturn 1 := by decide +kernel
theorem d12_27 : DK B14 27 (.aload_n 0) 1 := by decide +kernel
theorem d12_28 : DK B14 28 (.getfield 9) 3 := by decide +kernel
theorem d12_31 : DK B14 31 .arraylength 1 := by decide +kernel
theorem d12_32 : DK B14 32 (.iconst 1) 1 := by decide +kernel
theorem d12_33 : DK B14 33 .ishr 1 := by decide +kernel
theorem d12_34 : DK B14 34 (.istore_n 2) 1 := by decide +kernel
theorem d12_35 : DK B14 35 (.iload_n 1) 1 := by decide +kernel
theorem d12_36 : DK B14 36 (.iload_n 2) 1 := by decide +kernel
theorem d12_37 : DK B14 37 (.invokestatic 499) 3 := by decide +kernel
theorem d12_40 : DK B14 40 (.aload_n 0) 1 := by decide +kernel
theorem d12_41 : DK B14 41 (.getfield 9) 3 := by decide +kernel
theorem d12_44 : DK B14 44 (.iload_n 1) 1 := by decide +kernel
theorem d12_45 : DK B14 45 (.iload_n 2) 1 := by decide +kernel
theorem d12_46 : DK B14 46 (.invokestatic 502) 3 := by decide +kernel
theorem pd_18 : parseMethodDescriptor "([BII)I" = some ⟨[(.array .byte), .int, .int], some .int⟩ := by decide +kernel
theorem m22 {Z : State} {a0 : Array Value} (hw : HW a0 Z) : (Jvm.Cond.static Y28).before a0 Z = true ∧ (Jvm.Cond.initialized "java/lang/StringUTF16").before a0 Z = true ∧ (Jvm.Cond.code Y28 B32 (3 : Nat) (Option.some Jvm.ClassFile.FieldType.int)).before a0 Z = true := ⟨(wd hw 134 rfl), (wd hw 24 rfl), (wd hw 135 rfl)⟩
theorem d12_49 : DK B14 49 .ireturn 1 := by decide +kernel
theorem rm_cpS_1_0 {l : Launch} {Z : State} {a0 : Array Value} (hw : HW a0 Z) (a1 : Addr) (t1 : Addr) (k1 : ClassId) (c0 : Int32) (cs : Int32) (fm : Value) (h0 : Heap) (n0 : Nat) (Z0 : n0 ≤ h0.size) (pr0 : Old Z n0 h0) (pr1 : S3 Z cs) (hcs : ¬ (cs = (0 : Int32))) (pr3 : S4 Z fm) (hr_fm : fm.isRef = true) (pr5 : S0 Z) (pr6 : S1 Z) (pr7 : S2 Z) (pr8 : XT Z h0 a1) (pr9 : FV Z h0 a1 t1) (say : (FC Z h0 a1 0 ∧ Arv Z h0 t1 k1 .byte (1 : Int32) [(.int (nar .byte (c0.toInt8.toInt32)))] (.int 0) ∧ ¬ (255 : Int32) < c0) ∨ (FC Z h0 a1 1 ∧ Arv Z h0 t1 k1 .byte (2 : Int32) [(.int (own_b0 c0)), (.int (own_b1 c0))] (.int 0))) (hr0 : own_rng c0) :
    Met l Z Y18 B14 3 (some .int) [] ({ frames := 3, cells := 0, slots := 0, locals := 44 } : Room) #[(.ref a1), (.int 0)] h0 (fun vv h L => Fr n0 L ∧ vv = some (.int c0) ∧ h = h0) := by
  refine Met.enter (f0 := fun m => mkF m 0 #[vr a1, vi 0, .unset] []) (plainFor_of_name pn6) (fun m => oe m 1) ?_
  intro p e s m below meth c s₁ hx hby hml hown hnm hret hlk hZ X0 e0
  have dk : Dk B14 c := fun h => hb hby h
  have W := @wd _ _ _ hw
  have N0 := Fr.nil n0
  rcases say with ⟨FC10, VA10, U10⟩ | ⟨FC10, VA10⟩
  · skip
    refine gz X0 1 #[vr a1, vi 0, .unset] [(.ref a1)] (fun _ k => aN X0 hx (dk d12_0) rfl rfl k) ?_
    refine goV X0 hx hZ hown (W 56 rfl) (m15 hw) pr8 0 0 0 (rm_isLatin10 hw a1 cs h0 n0 Z0 pr0 pr1 hcs FC10) N0 e0 pd_14 hml (dk d12_1) ?_
    rintro _ T11 L11 X11 N11 ⟨rfl, hh11⟩
    refine gz X11 9 #[vr a1, vi 0, .unset] [(.ref a1), (.int 0)] (fun _ k => fN X11 hx (dk d12_4) rfl ((if0 _ _).trans (feq (by decide)).1) (lN X11 hx (dk d12_7) rfl (aN X11 hx (dk d12_8) rfl rfl k))) ?_
    obtain ⟨T12, X12, e12, st12⟩ := getF X11 hx hZ hown (host := "") (Or.inl (W 35 rfl)) Via.refl hh11 pr9 (g := (mkF m 9 #[vr a1, vi 0, .unset] [(.ref a1), (.int 0)])) rfl rfl (dk d12_9)
    refine gz X12 12 #[vr a1, vi 0, .unset] [(.ref t1), (.int 0)] (fun _ k => st12 _ k) ?_
    obtain ⟨cl13, Ar13, q13, S13, N_13, Hs13, G13⟩ := id VA10
    refine gz X12 13 #[vr a1, vi 0, .unset] [(.int 1), (.int 0)] (fun _ k => X12.arraylength hx (by rw [e12]; exact Ar13.1) (State.isArrayOf_alike hZ.alike Ar13.2.1) (g := (mkF m 12 #[vr a1, vi 0, .unset] [(.ref t1), (.int 0)])) rfl rfl (dk d12_12) _ (by rw [len_of S13 N_13]; exact k)) ?_
    refine goS X12 hx hZ hown (W 61 rfl) (m12 hw) 2 0 0 (rm_sci hw (0 : Int32) (1 : Int32) fm h0 n0 Z0 pr0 pr3 hr_fm (by decide) (by decide)) N11 e12 pd_11 hml (dk d12_13) ?_
    rintro _ T14 L14 X14 N14 ⟨rfl, hh14⟩
    refine gz X14 17 #[vr a1, vi 0, .unset] [(.ref a1)] (fun _ k => aN X14 hx (dk d12_16) rfl rfl k) ?_
    obtain ⟨T15, X15, e15, st15⟩ := getF X14 hx hZ hown (host := "") (Or.inl (W 35 rfl)) Via.refl hh14 pr9 (g := (mkF m 17 #[vr a1, vi 0, .unset] [(.ref a1)])) rfl rfl (dk d12_17)
    refine gz X15 21 #[vr a1, vi 0, .unset] [(.int 0), (.ref t1)] (fun _ k => st15 _ (lN X15 hx (dk d12_20) rfl k)) ?_
    obtain ⟨cl16, Ar16, q16, S16, N_16, Hs16, G16⟩ := id VA10
    have hin17 : ¬ ((0 : Int32) < 0 ∨ cl16.slots.size ≤ ((0 : Int32)).toNatClampNeg) := inb_of S16 ⟨by decide, by decide⟩
    have hat17 : cl16.slots[((0 : Int32)).toNatClampNeg]? = some (.int (nar .byte (c0.toInt8.toInt32))) := Hs16.at hin17 rfl
    refine gz X15 22 #[vr a1, vi 0, .unset] [(.int (nar .byte (c0.toInt8.toInt32)))] (fun _ k => X15.baloadBytes hx (j := (0 : Int32)) (v := (.int (nar .byte (c0.toInt8.toInt32)))) (by rw [e15]; exact Ar16.1) (State.isArrayOf_alike hZ.alike Ar16.2.1) Ar16.2.2 hin17 hat17 (g := (mkF m 21 #[vr a1, vi 0, .unset] [(.int 0), (.ref t1)])) rfl rfl (dk d12_21) _ k) ?_
    refine gz X15 26 #[vr a1, vi 0, .unset] [(.int ((nar .byte (c0.toInt8.toInt32)) &&& (255 : Int32)))] (fun _ k => XS.sipush X15.here hx rfl (dk d12_22) (XS.iand X15.here hx rfl (dk d12_25) rfl k)) ?_
    refine Go.retJ X15 hx hlk (t := .int) hret (dk d12_26) ?_
    rw [e15]
    exact ⟨N14, (congrArg (fun q => some (Value.int q)) (own_lcq hr0 U10)), rfl⟩
  · skip
    refine gz X0 1 #[vr a1, vi 0, .unset] [(.ref a1)] (fun _ k => aN X0 hx (dk d12_0) rfl rfl k) ?_
    refine goV X0 hx hZ hown (W 56 rfl) (m15 hw) pr8 0 0 0 (rm_isLatin11 hw a1 cs h0 n0 Z0 pr0 pr1 hcs FC10) N0 e0 pd_14 hml (dk d12_1) ?_
    rintro _ T18 L18 X18 N18 ⟨rfl, hh18⟩
    refine gz X18 28 #[vr a1, vi 0, .unset] [(.ref a1)] (fun _ k => fY X18 hx 4 27 rfl (dk d12_4) rfl ((if0 _ _).trans (teq (by decide)).1) (aN X18 hx (dk d12_27) rfl rfl k)) ?_
    obtain ⟨T19, X19, e19, st19⟩ := getF X18 hx hZ hown (host := "") (Or.inl (W 35 rfl)) Via.refl hh18 pr9 (g := (mkF m 28 #[vr a1, vi 0, .unset] [(.ref a1)])) rfl rfl (dk d12_28)
    refine gz X19 31 #[vr a1, vi 0, .unset] [(.ref t1)] (fun _ k => st19 _ k) ?_
    obtain ⟨cl20, Ar20, q20, S20, N_20, Hs20, G20⟩ := id VA10
    refine gz X19 32 #[vr a1, vi 0, .unset] [(.int 2)] (fun _ k => X19.arraylength hx (by rw [e19]; exact Ar20.1) (State.isArrayOf_alike hZ.alike Ar20.2.1) (g := (mkF m 31 #[vr a1, vi 0, .unset] [(.ref t1)])) rfl rfl (dk d12_31) _ (by rw [len_of S20 N_20]; exact k)) ?_
    refine gz X19 37 #[vr a1, vi 0, vi 1] [(.int 1), (.int 0)] (fun _ k => kC X19 hx (dk d12_32) (XS.ishr X19.here hx rfl (dk d12_33) rfl (sN X19 hx (dk d12_34) rfl rfl (.inl rfl) (lN X19 hx (dk d12_35) rfl (lN X19 hx (dk d12_36) rfl k))))) ?_
    refine goS X19 hx hZ hown (W 61 rfl) (m12 hw) 2 0 0 (rm_sci hw (0 : Int32) (1 : Int32) fm h0 n0 Z0 pr0 pr3 hr_fm (by decide) (by decide)) N18 e19 pd_11 hml (dk d12_37) ?_
    rintro _ T21 L21 X21 N21 ⟨rfl, hh21⟩
    refine gz X21 41 #[vr a1, vi 0, vi 1] [(.ref a1)] (fun _ k => aN X21 hx (dk d12_40) rfl rfl k) ?_
    obtain ⟨T22, X22, e22, st22⟩ := getF X21 hx hZ hown (host := "") (Or.inl (W 35 rfl)) Via.refl hh21 pr9 (g := (mkF m 41 #[vr a1, vi 0, vi 1] [(.ref a1)])) rfl rfl (dk d12_41)
    refine gz X22 46 #[vr a1, vi 0, vi 1] [(.int 1), (.int 0), (.ref t1)] (fun _ k => st22 _ (lN X22 hx (dk d12_44) rfl (lN X22 hx (dk d12_45) rfl k))) ?_
    refine goS X22 hx hZ hown (W 133 rfl) (m22 hw) 3 0 0 (rm_cp30l hw t1 k1 (2 : Int32) [(.int (own_b0 c0)), (.int (own_b1 c0))] c0 (1 : Int32) h0 n0 Z0 pr0 pr5 pr6 pr7 VA10 (by decide) (by decide) rfl rfl hr0 (by decide)) N21 e22 pd_18 hml (dk d12_46) ?_
    rintro _ T23 L23 X23 N23 ⟨rfl, hh23⟩
    refine gz X23 49 #[vr a1, vi 0, vi 1] [(.int c0)] (fun _ k => k) ?_
    refine Go.retJ X23 hx hlk (t := .int) hret (dk d12_49) ?_
    rw [hh23]
    exact ⟨N23, rfl, rfl⟩
theorem rm_cpS_2_0 {l : Launch} {Z : State} {a0 : Array Value} (hw : HW a0 Z) (a1 : Addr) (t1 : Addr) (k1 : ClassId) (c0 : Int32) (c1 : Int32) (cs : Int32) (fm : Value) (h0 : Heap) (n0 : Nat) (Z0 : n0 ≤ h0.size) (pr0 : Old Z n0 h0) (pr1 : S3 Z cs) (hcs : ¬ (cs = (0 : Int32))) (pr3 : S4 Z fm) (hr_fm : fm.isRef = true) (pr5 : S0 Z) (pr6 : S1 Z) (pr7 : S2 Z) (pr8 : XT Z h0 a1) (pr9 : FV Z h0 a1 t1) (say : (FC Z h0 a1 0 ∧ Arv Z h0 t1 k1 .byte (2 : Int32) [(.int (nar .byte (c0.toInt8.toInt32))), (.int (nar .byte (c1.toInt8.toInt32)))] (.int 0) ∧ ¬ (255 : Int32) < c0 ∧ ¬ (255 : Int32) < c1) ∨ (FC Z h0 a1 1 ∧ Arv Z h0 t1 k1 .byte (4 : Int32) [(.int (own_b0 c0)), (.int (own_b1 c0)), (.int (own_b0 c1)), (.int (own_b1 c1))] (.int 0))) (hr0 : own_rng c0) (hr1 : own_rng c1) :
    Met l Z Y18 B14 3 (some .int) [] ({ frames := 3, cells := 0, slots := 0, locals := 44 } : Room) #[(.ref a1), (.int 0)] h0 (fun vv h L => Fr n0 L ∧ vv = some (.int (own_cp c0 c1)) ∧ h = h0) := by
  refine Met.enter (f0 := fun m => mkF m 0 #[vr a1, vi 0, .unset] []) (plainFor_of_name pn6) (fun m => oe m 1) ?_
  intro p e s m below meth c s₁ hx hby hml hown hnm hret hlk hZ X0 e0
  have dk : Dk B14 c := fun h => hb hby h
  have W := @wd _ _ _ hw
  have N0 := Fr.nil n0
  rcases say with ⟨FC10, VA10, U10⟩ | ⟨FC10, VA10⟩
  · skip
    refine gz X0 1 #[vr a1, vi 0, .unset] [(.ref a1)] (fun _ k => aN X0 hx (dk d12_0) rfl rfl k) ?_
    refine goV X0 hx hZ hown (W 56 rfl) (m15 hw) pr8 0 0 0 (rm_isLatin10 hw a1 cs h0 n0 Z0 pr0 pr1 hcs FC10) N0 e0 pd_14 hml (dk d12_1) ?_
    rintro _ T11 L11 X11 N11 ⟨rfl, hh11⟩
    refine gz X11 9 #[vr a1, vi 0, .unset] [(.ref a1), (.int 0)] (fun _ k => fN X11 hx (dk d12_4) rfl ((if0 _ _).trans (feq (by decide)).1) (lN X11 hx (dk d12_7) rfl (aN X11 hx (dk d12_8) rfl rfl k))) ?_
    obtain ⟨T12, X12, e12, st12⟩ := getF X11 hx hZ hown (host := "") (Or.inl (W 35 rfl)) Via.refl hh11 pr9 (g := (mkF m 9 #[vr a1, vi 0, .unset] [(.ref a1), (.int 0)])) rfl rfl (dk d12_9)
    refine gz X12 12 #[vr a1, vi 0, .unset] [(.ref t1), (.int 0)] (fun _ k => st12 _ k) ?_
    obtain ⟨cl13, Ar13, q13, S13, N_13, Hs13, G13⟩ := id VA10
    refine gz X12 13 #[vr a1, vi 0, .unset] [(.int 2), (.int 0)] (fun _ k => X12.arraylength hx (by rw [e12]; exact Ar13.1) (State.isArrayOf_alike hZ.alike Ar13.2.1) (g := (mkF m 12 #[vr a1, vi 0, .unset] [(.ref t1), (.int 0)])) rfl rfl (dk d12_12) _ (by rw [len_of S13 N_13]; exact k)) ?_
    refine goS X12 hx hZ hown (W 61 rfl) (m12 hw) 2 0 0 (rm_sci hw (0 : Int32) (2 : Int32) fm h0 n0 Z0 pr0 pr3 hr_fm (by decide) (by decide)) N11 e12 pd_11 hml (dk d12_13) ?_
    rintro _ T14 L14 X14 N14 ⟨rfl, hh14⟩
    refine gz X14 17 #[vr a1, vi 0, .unset] [(.ref a1)] (fun _ k => aN X14 hx (dk d12_16) rfl rfl k) ?_
    obtain ⟨T15, X15, e15, st15⟩ := getF X14 hx hZ hown (host := "") (Or.inl (W 35 rfl)) Via.refl hh14 pr9 (g := (mkF m 17 #[vr a1, vi 0, .unset] [(.ref a1)])) rfl rfl (dk d12_17)
    refine gz X15 21 #[vr a1, vi 0, .unset] [(.int 0), (.ref t1)] (fun _ k => st15 _ (lN X15 hx (dk d12_20) rfl k)) ?_
    obtain ⟨cl16, Ar16, q16, S16, N_16, Hs16, G16⟩ := id VA10
    have hin17 : ¬ ((0 : Int32) < 0 ∨ cl16.slots.size ≤ ((0 : Int32)).toNatClampNeg) := inb_of S16 ⟨by decide, by decide⟩
    have hat17 : cl16.slots[((0 : Int32)).toNatClampNeg]? = some (.int (nar .byte (c0.toInt8.toInt32))) := Hs16.at hin17 rfl
    refine gz X15 22 #[vr a1, vi 0, .unset] [(.int (nar .byte (c0.toInt8.toInt32)))] (fun _ k => X15.baloadBytes hx (j := (0 : Int32)) (v := (.int (nar .byte (c0.toInt8.toInt32)))) (by rw [e15]; exact Ar16.1) (State.isArrayOf_alike hZ.alike Ar16.2.1) Ar16.2.2 hin17 hat17 (g := (mkF m 21 #[vr a1, vi 0, .unset] [(.int 0), (.ref t1)])) rfl rfl (dk d12_21) _ k) ?_
    refine gz X15 26 #[vr a1, vi 0, .unset] [(.int ((nar .byte (c0.toInt8.toInt32)) &&& (255 : Int32)))] (fun _ k => XS.sipush X15.here hx rfl (dk d12_22) (XS.iand X15.here hx rfl (dk d12_25) rfl k)) ?_
    refine Go.retJ X15 hx hlk (t := .int) hret (dk d12_26) ?_
    rw [e15]
    exact ⟨N14, (congrArg (fun q => some (Value.int q)) ((own_lcq hr0 U10.1).trans (own_cpL U10.1))), rfl⟩
  · skip
    refine gz X0 1 #[vr a1, vi 0, .unset] [(.ref a1)] (fun _ k => aN X0 hx (dk d12_0) rfl rfl k) ?_
    refine goV X0 hx hZ hown (W 56 rfl) (m15 hw) pr8 0 0 0 (rm_isLatin11 hw a1 cs h0 n0 Z0 pr0 pr1 hcs FC10) N0 e0 pd_14 hml (dk d12_1) ?_
    rintro _ T18 L18 X18 N18 ⟨rfl, hh18⟩
    refine gz X18 28 #[vr a1, vi 0, .unset] [(.ref a1)] (fun _ k => fY X18 hx 4 27 rfl (dk d12_4) rfl ((if0 _ _).trans (teq (by decide)).1) (aN X18 hx (dk d12_27) rfl rfl k)) ?_
    obtain ⟨T19, X19, e19, st19⟩ := getF X18 hx hZ hown (host := "") (Or.inl (W 35 rfl)) Via.refl hh18 pr9 (g := (mkF m 28 #[vr a1, vi 0, .unset] [(.ref a1)])) rfl rfl (dk d12_28)
    refine gz X19 31 #[vr a1, vi 0, .unset] [(.ref t1)] (fun _ k => st19 _ k) ?_
    obtain ⟨cl20, Ar20, q20, S20, N_20, Hs20, G20⟩ := id VA10
    refine gz X19 32 #[vr a1, vi 0, .unset] [(.int 4)] (fun _ k => X19.arraylength hx (by rw [e19]; exact Ar20.1) (State.isArrayOf_alike hZ.alike Ar20.2.1) (g := (mkF m 31 #[vr a1, vi 0, .unset] [(.ref t1)])) rfl rfl (dk d12_31) _ (by rw [len_of S20 N_20]; exact k)) ?_
    refine gz X19 37 #[vr a1, vi 0, vi 2] [(.int 2), (.int 0)] (fun _ k => kC X19 hx (dk d12_32) (XS.ishr X19.here hx rfl (dk d12_33) rfl (sN X19 hx (dk d12_34) rfl rfl (.inl rfl) (lN X19 hx (dk d12_35) rfl (lN X19 hx (dk d12_36) rfl k))))) ?_
    refine goS X19 hx hZ hown (W 61 rfl) (m12 hw) 2 0 0 (rm_sci hw (0 : Int32) (2 : Int32) fm h0 n0 Z0 pr0 pr3 hr_fm (by decide) (by decide)) N18 e19 pd_11 hml (dk d12_37) ?_
    rintro _ T21 L21 X21 N21 ⟨rfl, hh21⟩
    refine gz X21 41 #[vr a1, vi 0, vi 2] [(.ref a1)] (fun _ k => aN X21 hx (dk d12_40) rfl rfl k) ?_
    obtain ⟨T22, X22, e22, st22⟩ := getF X21 hx hZ hown (host := "") (Or.inl (W 35 rfl)) Via.refl hh21 pr9 (g := (mkF m 41 #[vr a1, vi 0, vi 2] [(.ref a1)])) rfl rfl (dk d12_41)
    refine gz X22 46 #[vr a1, vi 0, vi 2] [(.int 2), (.int 0), (.ref t1)] (fun _ k => st22 _ (lN X22 hx (dk d12_44) rfl (lN X22 hx (dk d12_45) rfl k))) ?_
    refine goS X22 hx hZ hown (W 133 rfl) (m22 hw) 3 0 0 (rm_cp30p hw t1 k1 (4 : Int32) [(.int (own_b0 c0)), (.int (own_b1 c0)), (.int (own_b0 c1)), (.int (own_b1 c1))] c0 c1 (2 : Int32) h0 n0 Z0 pr0 pr5 pr6 pr7 VA10 (by decide) (by decide) (by decide) (by decide) rfl rfl rfl rfl hr0 hr1 (by decide)) N21 e22 pd_18 hml (dk d12_46) ?_
    rintro _ T23 L23 X23 N23 ⟨rfl, hh23⟩
    refine gz X23 49 #[vr a1, vi 0, vi 2] [(.int (own_cp c0 c1))] (fun _ k => k) ?_
    refine Go.retJ X23 hx hlk (t := .int) hret (dk d12_49) ?_
    rw [hh23]
    exact ⟨N23, rfl, rfl⟩
theorem rm_cpS_2_1 {l : Launch} {Z : State} {a0 : Array Value} (hw : HW a0 Z) (a1 : Addr) (t1 : Addr) (k1 : ClassId) (c0 : Int32) (c1 : Int32) (cs : Int32) (fm : Value) (h0 : Heap) (n0 : Nat) (Z0 : n0 ≤ h0.size) (pr0 : Old Z n0 h0) (pr1 : S3 Z cs) (hcs : ¬ (cs = (0 : Int32))) (pr3 : S4 Z fm) (hr_fm : fm.isRef = true) (pr5 : S0 Z) (pr6 : S1 Z) (pr7 : S2 Z) (pr8 : XT Z h0 a1) (pr9 : FV Z h0 a1 t1) (say : (FC Z h0 a1 0 ∧ Arv Z h0 t1 k1 .byte (2 : Int32) [(.int (nar .byte (c0.toInt8.toInt32))), (.int (nar .byte (c1.toInt8.toInt32)))] (.int 0) ∧ ¬ (255 : Int32) < c0 ∧ ¬ (255 : Int32) < c1) ∨ (FC Z h0 a1 1 ∧ Arv Z h0 t1 k1 .byte (4 : Int32) [(.int (own_b0 c0)), (.int (own_b1 c0)), (.int (own_b0 c1)), (.int (own_b1 c1))] (.int 0))) (hr0 : own_rng c0) (hr1 : own_rng c1) :
    Met l Z Y18 B14 3 (some .int) [] ({ frames := 3, cells := 0, slots := 0, locals := 44 } : Room) #[(.ref a1), (.int 1)] h0 (fun vv h L => Fr n0 L ∧ vv = some (.int c1) ∧ h = h0) := by
  refine Met.enter (f0 := fun m => mkF m 0 #[vr a1, vi 1, .unset] []) (plainFor_of_name pn6) (fun m => oe m 1) ?_
  intro p e s m below meth c s₁ hx hby hml hown hnm hret hlk hZ X0 e0
  have dk : Dk B14 c := fun h => hb hby h
  have W := @wd _ _ _ hw
  have N0 := Fr.nil n0
  rcases say with ⟨FC10, VA10, U10⟩ | ⟨FC10, VA10⟩
  · skip
    refine gz X0 1 #[vr a1, vi 1, .unset] [(.ref a1)] (fun _ k => aN X0 hx (dk d12_0) rfl rfl k) ?_
    refine goV X0 hx hZ hown (W 56 rfl) (m15 hw) pr8 0 0 0 (rm_isLatin10 hw a1 cs h0 n0 Z0 pr0 pr1 hcs FC10) N0 e0 pd_14 hml (dk d12_1) ?_
    rintro _ T11 L11 X11 N11 ⟨rfl, hh11⟩
    refine gz X11 9 #[vr a1, vi 1, .unset] [(.ref a1), (.int 1)] (fun _ k => fN X11 hx (dk d12_4) rfl ((if0 _ _).trans (feq (by decide)).1) (lN X11 hx (dk d12_7) rfl (aN X11 hx (dk d12_8) rfl rfl k))) ?_
    obtain ⟨T12, X12, e12, st12⟩ := getF X11 hx hZ hown (host := "") (Or.inl (W 35 rfl)) Via.refl hh11 pr9 (g := (mkF m 9 #[vr a1, vi 1, .unset] [(.ref a1), (.int 1)])) rfl rfl (dk d12_9)
    refine gz X12 12 #[vr a1, vi 1, .unset] [(.ref t1), (.int 1)] (fun _ k => st12 _ k) ?_
    obtain ⟨cl13, Ar13, q13, S13, N_13, Hs13, G13⟩ := id VA10
    refine gz X12 13 #[vr a1, vi 1, .unset] [(.int 2), (.int 1)] (fun _ k => X12.arraylength hx (by rw [e12]; exact Ar13.1) (State.isArrayOf_alike hZ.alike Ar13.2.1) (g := (mkF m 12 #[vr a1, vi 1, .unset] [(.ref t1), (.int 1)])) rfl rfl (dk d12_12) _ (by rw [len_of S13 N_13]; exact k)) ?_
    refine goS X12 hx hZ hown (W 61 rfl) (m12 hw) 2 0 0 (rm_sci hw (1 : Int32) (2 : Int32) fm h0 n0 Z0 pr0 pr3 hr_fm (by decide) (by decide)) N11 e12 pd_11 hml (dk d12_13) ?_
    rintro _ T14 L14 X14 N14 ⟨rfl, hh14⟩
    refine gz X14 17 #[vr a1, vi 1, .unset] [(.ref a1)] (fun _ k => aN X14 hx (dk d12_16) rfl rfl k) ?_
    obtain ⟨T15, X15, e15, st15⟩ := getF X14 hx hZ hown (host := "") (Or.inl (W 35 rfl)) Via.refl hh14 pr9 (g := (mkF m 17 #[vr a1, vi 1, .unset] [(.ref a1)])) rfl rfl (dk d12_17)
    refine gz X15 21 #[vr a1, vi 1, .unset] [(.int 1), (.ref t1)] (fun _ k => st15 _ (lN X15 hx (dk d12_20) rfl k)) ?_
    obtain ⟨cl16, Ar16, q16, S16, N_16, Hs16, G16⟩ := id VA10
    have hin17 : ¬ ((1 : Int32) < 0 ∨ cl16.slots.size ≤ ((1 : Int32)).toNatClampNeg) := inb_of S16 ⟨by decide, by decide⟩
    have hat17 : cl16.slots[((1 : Int32)).toNatClampNeg]? = some (.int (nar .byte (c1.toInt8.toInt32))) := Hs16.at hin17 rfl
    refine gz X15 22 #[vr a1, vi 1, .unset] [(.int (nar .byte (c1.toInt8.toInt32)))] (fun _ k => X15.baloadBytes hx (j := (1 : Int32)) (v := (.int (nar .byte (c1.toInt8.toInt32)))) (by rw [e15]; exact Ar16.1) (State.isArrayOf_alike hZ.alike Ar16.2.1) Ar16.2.2 hin17 hat17 (g := (mkF m 21 #[vr a1, vi 1, .unset] [(.int 1), (.ref t1)])) rfl rfl (dk d12_21) _ k) ?_
    refine gz X15 26 #[vr a1, vi 1, .unset] [(.int ((nar .byte (c1.toInt8.toInt32)) &&& (255 : Int32)))] (fun _ k => XS.sipush X15.here hx rfl (dk d12_22) (XS.iand X15.here hx rfl (dk d12_25) rfl k)) ?_
    refine Go.retJ X15 hx hlk (t := .int) hret (dk d12_26) ?_
    rw [e15]
    exact ⟨N14, (congrArg (fun q => some (Value.int q)) (own_lcq hr1 U10.2)), rfl⟩
  · skip
    refine gz X0 1 #[vr a1, vi 1, .unset] [(.ref a1)] (fun _ k => aN X0 hx (dk d12_0) rfl rfl k) ?_
    refine goV X0 hx hZ hown (W 56 rfl) (m15 hw) pr8 0 0 0 (rm_isLatin11 hw a1 cs h0 n0 Z0 pr0 pr1 hcs FC10) N0 e0 pd_14 hml (dk d12_1) ?_
    rintro _ T18 L18 X18 N18 ⟨rfl, hh18⟩
    refine gz X18 28 #[vr a1, vi 1, .unset] [(.ref a1)] (fun _ k => fY X18 hx 4 27 rfl (dk d12_4) rfl ((if0 _ _).trans (teq (by decide)).1) (aN X18 hx (dk d12_27) rfl rfl k)) ?_
    obtain ⟨T19, X19, e19, st19⟩ := getF X18 hx hZ hown (host := "") (Or.inl (W 35 rfl)) Via.refl hh18 pr9 (g := (mkF m 28 #[vr a1, vi 1, .unset] [(.ref a1)])) rfl rfl (dk d12_28)
    refine gz X19 31 #[vr a1, vi 1, .unset] [(.ref t1)] (fun _ k => st19 _ k) ?_
    obtain ⟨cl20, Ar20, q20, S20, N_20, Hs20, G20⟩ := id VA10
    refine gz X19 32 #[vr a1, vi 1, .unset] [(.int 4)] (fun _ k => X19.arraylength hx (by rw [e19]; exact Ar20.1) (State.isArrayOf_alike hZ.alike Ar20.2.1) (g := (mkF m 31 #[vr a1, vi 1, .unset] [(.ref t1)])) rfl rfl (dk d12_31) _ (by rw [len_of S20 N_20]; exact k)) ?_
    refine gz X19 37 #[vr a1, vi 1, vi 2] [(.int 2), (.int 1)] (fun _ k => kC X19 hx (dk d12_32) (XS.ishr X19.here hx rfl (dk d12_33) rfl (sN X19 hx (dk d12_34) rfl rfl (.inl rfl) (lN X19 hx (dk d12_35) rfl (lN X19 hx (dk d12_36) rfl k))))) ?_
    refine goS X19 hx hZ hown (W 61 rfl) (m12 hw) 2 0 0 (rm_sci hw (1 : Int32) (2 : Int32) fm h0 n0 Z0 pr0 pr3 hr_fm (by decide) (by decide)) N18 e19 pd_11 hml (dk d12_37) ?_
    rintro _ T21 L21 X21 N21 ⟨rfl, hh21⟩
    refine gz X21 41 #[vr a1, vi 1, vi 2] [(.ref a1)] (fun _ k => aN X21 hx (dk d12_40) rfl rfl k) ?_
    obtain ⟨T22, X22, e22, st22⟩ := getF X21 hx hZ hown (host := "") (Or.inl (W 35 rfl)) Via.refl hh21 pr9 (g := (mkF m 41 #[vr a1, vi 1, vi 2] [(.ref a1)])) rfl rfl (dk d12_41)
    refine gz X22 46 #[vr a1, vi 1, vi 2] [(.int 2), (.int 1), (.ref t1)] (fun _ k => st22 _ (lN X22 hx (dk d12_44) rfl (lN X22 hx (dk d12_45) rfl k))) ?_
    refine goS X22 hx hZ hown (W 133 rfl) (m22 hw) 3 0 0 (rm_cp31l hw t1 k1 (4 : Int32) [(.int (own_b0 c0)), (.int (own_b1 c0)), (.int (own_b0 c1)), (.int (own_b1 c1))] c1 (2 : Int32) h0 n0 Z0 pr0 pr5 pr6 pr7 VA10 (by decide) (by decide) rfl rfl hr1 (by decide)) N21 e22 pd_18 hml (dk d12_46) ?_
    rintro _ T23 L23 X23 N23 ⟨rfl, hh23⟩
    refine gz X23 49 #[vr a1, vi 1, vi 2] [(.int c1)] (fun _ k => k) ?_
    refine Go.retJ X23 hx hlk (t := .int) hret (dk d12_49) ?_
    rw [hh23]
    exact ⟨N23, rfl, rfl⟩
theorem rm_cpS_3_0 {l : Launch} {Z : State} {a0 : Array Value} (hw : HW a0 Z) (a1 : Addr) (t1 : Addr) (k1 : ClassId) (c0 : Int32) (c1 : Int32) (c2 : Int32) (cs : Int32) (fm : Value) (h0 : Heap) (n0 : Nat) (Z0 : n0 ≤ h0.size) (pr0 : Old Z n0 h0) (pr1 : S3 Z cs) (hcs : ¬ (cs = (0 : Int32))) (pr3 : S4 Z fm) (hr_fm : fm.isRef = true) (pr5 : S0 Z) (pr6 : S1 Z) (pr7 : S2 Z) (pr8 : XT Z h0 a1) (pr9 : FV Z h0 a1 t1) (say : (FC Z h0 a1 0 ∧ Arv Z h0 t1 k1 .byte (3 : Int32) [(.int (nar .byte (c0.toInt8.toInt32))), (.int (nar .byte (c1.toInt8.toInt32))), (.int (nar .byte (c2.toInt8.toInt32)))] (.int 0) ∧ ¬ (255 : Int32) < c0 ∧ ¬ (255 : Int32) < c1 ∧ ¬ (255 : Int32) < c2) ∨ (FC Z h0 a1 1 ∧ Arv Z h0 t1 k1 .byte (6 : Int32) [(.int (own_b0 c0)), (.int (own_b1 c0)), (.int (own_b0 c1)), (.int (own_b1 c1)), (.int (own_b0 c2)), (.int (own_b1 c2))] (.int 0))) (hr0 : own_rng c0) (hr1 : own_rng c1) (hr2 : own_rng c2) :
    Met l Z Y18 B14 3 (some .int) [] ({ frames := 3, cells := 0, slots := 0, locals := 44 } : Room) #[(.ref a1), (.int 0)] h0 (fun vv h L => Fr n0 L ∧ vv = some (.int (own_cp c0 c1)) ∧ h = h0) := by
  refine Met.enter (f0 := fun m => mkF m 0 #[vr a1, vi 0, .unset] []) (plainFor_of_name pn6) (fun m => oe m 1) ?_
  intro p e s m below meth c s₁ hx hby hml hown hnm hret hlk hZ X0 e0
  have dk : Dk B14 c := fun h => hb hby h
  have W := @wd _ _ _ hw
  have N0 := Fr.nil n0
  rcases say with ⟨FC10, VA10, U10⟩ | ⟨FC10, VA10⟩
  · skip
    refine gz X0 1 #[vr a1, vi 0, .unset] [(.ref a1)] (fun _ k => aN X0 hx (dk d12_0) rfl rfl k) ?_
    refine goV X0 hx hZ hown (W 56 rfl) (m15 hw) pr8 0 0 0 (rm_isLatin10 hw a1 cs h0 n0 Z0 pr0 pr1 hcs FC10) N0 e0 pd_14 hml (dk d12_1) ?_
    rintro _ T11 L11 X11 N11 ⟨rfl, hh11⟩
    refine gz X11 9 #[vr a1, vi 0, .unset] [(.ref a1), (.int 0)] (fun _ k => fN X11 hx (dk d12_4) rfl ((if0 _ _).trans (feq (by decide)).1) (lN X11 hx (dk d12_7) rfl (aN X11 hx (dk d12_8) rfl rfl k))) ?_
    obtain ⟨T12, X12, e12, st12⟩ := getF X11 hx hZ hown (host := "") (Or.inl (W 35 rfl)) Via.refl hh11 pr9 (g := (mkF m 9 #[vr a1, vi 0, .unset] [(.ref a1), (.int 0)])) rfl rfl (dk d12_9)
    refine gz X12 12 #[vr a1, vi 0, .unset] [(.ref t1), (.int 0)] (fun _ k => st12 _ k) ?_
    obtain ⟨cl13, Ar13, q13, S13, N_13, Hs13, G13⟩ := id VA10
    refine gz X12 13 #[vr a1, vi 0, .unset] [(.int 3), (.int 0)] (fun _ k => X12.arraylength hx (by rw [e12]; exact Ar13.1) (State.isArrayOf_alike hZ.alike Ar13.2.1) (g := (mkF m 12 #[vr a1, vi 0, .unset] [(.ref t1), (.int 0)])) rfl rfl (dk d12_12) _ (by rw [len_of S13 N_13]; exact k)) ?_
    refine goS X12 hx hZ hown (W 61 rfl) (m12 hw) 2 0 0 (rm_sci hw (0 : Int32) (3 : Int32) fm h0 n0 Z0 pr0 pr3 hr_fm (by decide) (by decide)) N11 e12 pd_11 hml (dk d12_13) ?_
    rintro _ T14 L14 X14 N14 ⟨rfl, hh14⟩
    refine gz X14 17 #[vr a1, vi 0, .unset] [(.ref a1)] (fun _ k => aN X14 hx (dk d12_16) rfl rfl k) ?_
    obtain ⟨T15, X15, e15, st15⟩ := getF X14 hx hZ hown (host := "") (Or.inl (W 35 rfl)) Via.refl hh14 pr9 (g := (mkF m 17 #[vr a1, vi 0, .unset] [(.ref a1)])) rfl rfl (dk d12_17)
    refine gz X15 21 #[vr a1, vi 0, .unset] [(.int 0), (.ref t1)] (fun _ k => st15 _ (lN X15 hx (dk d12_20) rfl k)) ?_
    obtain ⟨cl16, Ar16, q16, S16, N_16, Hs16, G16⟩ := id VA10
    have hin17 : ¬ ((0 : Int32) < 0 ∨ cl16.slots.size ≤ ((0 : Int32)).toNatClampNeg) := inb_of S16 ⟨by decide, by decide⟩
    have hat17 : cl16.slots[((0 : Int32)).toNatClampNeg]? = some (.int (nar .byte (c0.toInt8.toInt32))) := Hs16.at hin17 rfl
    refine gz X15 22 #[vr a1, vi 0, .unset] [(.int (nar .byte (c0.toInt8.toInt32)))] (fun _ k => X15.baloadBytes hx (j := (0 : Int32)) (v := (.int (nar .byte (c0.toInt8.toInt32)))) (by rw [e15]; exact Ar16.1) (State.isArrayOf_alike hZ.alike Ar16.2.1) Ar16.2.2 hin17 hat17 (g := (mkF m 21 #[vr a1, vi 0, .unset] [(.int 0), (.ref t1)])) rfl rfl (dk d12_21) _ k) ?_
    refine gz X15 26 #[vr a1, vi 0, .unset] [(.int ((nar .byte (c0.toInt8.toInt32)) &&& (255 : Int32)))] (fun _ k => XS.sipush X15.here hx rfl (dk d12_22) (XS.iand X15.here hx rfl (dk d12_25) rfl k)) ?_
    refine Go.retJ X15 hx hlk (t := .int) hret (dk d12_26) ?_
    rw [e15]
    exact ⟨N14, (congrArg (fun q => some (Value.int q)) ((own_lcq hr0 U10.1).trans (own_cpL U10.1))), rfl⟩
  · skip
    refine gz X0 1 #[vr a1, vi 0, .unset] [(.ref a1)] (fun _ k => aN X0 hx (dk d12_0) rfl rfl k) ?_
    refine goV X0 hx hZ hown (W 56 rfl) (m15 hw) pr8 0 0 0 (rm_isLatin11 hw a1 cs h0 n0 Z0 pr0 pr1 hcs FC10) N0 e0 pd_14 hml (dk d12_1) ?_
    rintro _ T18 L18 X18 N18 ⟨rfl, hh18⟩
    refine gz X18 28 #[vr a1, vi 0, .unset] [(.ref a1)] (fun _ k => fY X18 hx 4 27 rfl (dk d12_4) rfl ((if0 _ _).trans (teq (by decide)).1) (aN X18 hx (dk d12_27) rfl rfl k)) ?_
    obtain ⟨T19, X19, e19, st19⟩ := getF X18 hx hZ hown (host := "") (Or.inl (W 35 rfl)) Via.refl hh18 pr9 (g := (mkF m 28 #[vr a1, vi 0, .unset] [(.ref a1)])) rfl rfl (dk d12_28)
    refine gz X19 31 #[vr a1, vi 0, .unset] [(.ref t1)] (fun _ k => st19 _ k) ?_
    obtain ⟨cl20, Ar20, q20, S20, N_20, Hs20, G20⟩ := id VA10
    refine gz X19 32 #[vr a1, vi 0, .unset] [(.int 6)] (fun _ k => X19.arraylength hx (by rw [e19]; exact Ar20.1) (State.isArrayOf_alike hZ.alike Ar20.2.1) (g := (mkF m 31 #[vr a1, vi 0, .unset] [(.ref t1)])) rfl rfl (dk d12_31) _ (by rw [len_of S20 N_20]; exact k)) ?_
    refine gz X19 37 #[vr a1, vi 0, vi 3] [(.int 3), (.int 0)] (fun _ k => kC X19 hx (dk d12_32) (XS.ishr X19.here hx rfl (dk d12_33) rfl (sN X19 hx (dk d12_34) rfl rfl (.inl rfl) (lN X19 hx (dk d12_35) rfl (lN X19 hx (dk d12_36) rfl k))))) ?_
    refine goS X19 hx hZ hown (W 61 rfl) (m12 hw) 2 0 0 (rm_sci hw (0 : Int32) (3 : Int32) fm h0 n0 Z0 pr0 pr3 hr_fm (by decide) (by decide)) N18 e19 pd_11 hml (dk d12_37) ?_
    rintro _ T21 L21 X21 N21 ⟨rfl, hh21⟩
    refine gz X21 41 #[vr a1, vi 0, vi 3] [(.ref a1)] (fun _ k => aN X21 hx (dk d12_40) rfl rfl k) ?_
    obtain ⟨T22, X22, e22, st22⟩ := getF X21 hx hZ hown (host := "") (Or.inl (W 35 rfl)) Via.refl hh21 pr9 (g := (mkF m 41 #[vr a1, vi 0, vi 3] [(.ref a1)])) rfl rfl (dk d12_41)
    refine gz X22 46 #[vr a1, vi 0, vi 3] [(.int 3), (.int 0), (.ref t1)] (fun _ k => st22 _ (lN X22 hx (dk d12_44) rfl (lN X22 hx (dk d12_45) rfl k))) ?_
    refine goS X22 hx hZ hown (W 133 rfl) (m22 hw) 3 0 0 (rm_cp30p hw t1 k1 (6 : Int32) [(.int (own_b0 c0)), (.int (own_b1 c0)), (.int (own_b0 c1)), (.int (own_b1 c1)), (.int (own_b0 c2)), (.int (own_b1 c2))] c0 c1 (3 : Int32) h0 n0 Z0 pr0 pr5 pr6 pr7 VA10 (by decide) (by decide) (by decide) (by decide) rfl rfl rfl rfl hr0 hr1 (by decide)) N21 e22 pd_18 hml (dk d12_46) ?_
    rintro _ T23 L23 X23 N23 ⟨rfl, hh23⟩
    refine gz X23 49 #[vr a1, vi 0, vi 3] [(.int (own_cp c0 c1))] (fun _ k => k) ?_
    refine Go.retJ X23 hx hlk (t := .int) hret (dk d12_49) ?_
    rw [hh23]
    exact ⟨N23, rfl, rfl⟩
theorem rm_cpS_3_1 {l : Launch} {Z : State} {a0 : Array Value} (hw : HW a0 Z) (a1 : Addr) (t1 : Addr) (k1 : ClassId) (c0 : Int32) (c1 : Int32) (c2 : Int32) (cs : Int32) (fm : Value) (h0 : Heap) (n0 : Nat) (Z0 : n0 ≤ h0.size) (pr0 : Old Z n0 h0) (pr1 : S3 Z cs) (hcs : ¬ (cs = (0 : Int32))) (pr3 : S4 Z fm) (hr_fm : fm.isRef = true) (pr5 : S0 Z) (pr6 : S1 Z) (pr7 : S2 Z) (pr8 : XT Z h0 a1) (pr9 : FV Z h0 a1 t1) (say : (FC Z h0 a1 0 ∧ Arv Z h0 t1 k1 .byte (3 : Int32) [(.int (nar .byte (c0.toInt8.toInt32))), (.int (nar .byte (c1.toInt8.toInt32))), (.int (nar .byte (c2.toInt8.toInt32)))] (.int 0) ∧ ¬ (255 : Int32) < c0 ∧ ¬ (255 : Int32) < c1 ∧ ¬ (255 : Int32) < c2) ∨ (FC Z h0 a1 1 ∧ Arv Z h0 t1 k1 .byte (6 : Int32) [(.int (own_b0 c0)), (.int (own_b1 c0)), (.int (own_b0 c1)), (.int (own_b1 c1)), (.int (own_b0 c2)), (.int (own_b1 c2))] (.int 0))) (hr0 : own_rng c0) (hr1 : own_rng c1) (hr2 : own_rng c2) :
    Met l Z Y18 B14 3 (some .int) [] ({ frames := 3, cells := 0, slots := 0, locals := 44 } : Room) #[(.ref a1), (.int 1)] h0 (fun vv h L => Fr n0 L ∧ vv = some (.int (own_cp c1 c2)) ∧ h = h0) := by
  refine Met.enter (f0 := fun m => mkF m 0 #[vr a1, vi 1, .unset] []) (plainFor_of_name pn6) (fun m => oe m 1) ?_
  intro p e s m below meth c s₁ hx hby hml hown hnm hret hlk hZ X0 e0
  have dk : Dk B14 c := fun h => hb hby h
  have W := @wd _ _ _ hw
  have N0 := Fr.nil n0
  rcases say with ⟨FC10, VA10, U10⟩ | ⟨FC10, VA10⟩
  · skip
    refine gz X0 1 #[vr a1, vi 1, .unset] [(.ref a1)] (fun _ k => aN X0 hx (dk d12_0) rfl rfl k) ?_
    refine goV X0 hx hZ hown (W 56 rfl) (m15 hw) pr8 0 0 0 (rm_isLatin10 hw a1 cs h0 n0 Z0 pr0 pr1 hcs FC10) N0 e0 pd_14 hml (dk d12_1) ?_
    rintro _ T11 L11 X11 N11 ⟨rfl, hh11⟩
    refine gz X11 9 #[vr a1, vi 1, .unset] [(.ref a1), (.int 1)] (fun _ k => fN X11 hx (dk d12_4) rfl ((if0 _ _).trans (feq (by decide)).1) (lN X11 hx (dk d12_7) rfl (aN X11 hx (dk d12_8) rfl rfl k))) ?_
    obtain ⟨T12, X12, e12, st12⟩ := getF X11 hx hZ hown (host := "") (Or.inl (W 35 rfl)) Via.refl hh11 pr9 (g := (mkF m 9 #[vr a1, vi 1, .unset] [(.ref a1), (.int 1)])) rfl rfl (dk d12_9)
    refine gz X12 12 #[vr a1, vi 1, .unset] [(.ref t1), (.int 1)] (fun _ k => st12 _ k) ?_
    obtain ⟨cl13, Ar13, q13, S13, N_13, Hs13, G13⟩ := id VA10
    refine gz X12 13 #[vr a1, vi 1, .unset] [(.int 3), (.int 1)] (fun _ k => X12.arraylength hx (by rw [e12]; exact Ar13.1) (State.isArrayOf_alike hZ.alike Ar13.2.1) (g := (mkF m 12 #[vr a1, vi 1, .unset] [(.ref t1), (.int 1)])) rfl rfl (dk d12_12) _ (by rw [len_of S13 N_13]; exact k)) ?_
    refine goS X12 hx hZ hown (W 61 rfl) (m12 hw) 2 0 0 (rm_sci hw (1 : Int32) (3 : Int32) fm h0 n0 Z0 pr0 pr3 hr_fm (by decide) (by decide)) N11 e12 pd_11 hml (dk d12_13) ?_
    rintro _ T14 L14 X14 N14 ⟨rfl, hh14⟩
    refine gz X14 17 #[vr a1, vi 1, .unset] [(.ref a1)] (fun _ k => aN X14 hx (dk d12_16) rfl rfl k) ?_
    obtain ⟨T15, X15, e15, st15⟩ := getF X14 hx hZ hown (host := "") (Or.inl (W 35 rfl)) Via.refl hh14 pr9 (g := (mkF m 17 #[vr a1, vi 1, .unset] [(.ref a1)])) rfl rfl (dk d12_17)
    refine gz X15 21 #[vr a1, vi 1, .unset] [(.int 1), (.ref t1)] (fun _ k => st15 _ (lN X15 hx (dk d12_20) rfl k)) ?_
    obtain ⟨cl16, Ar16, q16, S16, N_16, Hs16, G16⟩ := id VA10
    have hin17 : ¬ ((1 : Int32) < 0 ∨ cl16.slots.size ≤ ((1 : Int32)).toNatClampNeg) := inb_of S16 ⟨by decide, by decide⟩
    have hat17 : cl16.slots[((1 : Int32)).toNatClampNeg]? = some (.int (nar .byte (c1.toInt8.toInt32))) := Hs16.at hin17 rfl
    refine gz X15 22 #[vr a1, vi 1, .unset] [(.int (nar .byte (c1.toInt8.toInt32)))] (fun _ k => X15.baloadBytes hx (j := (1 : Int32)) (v := (.int (nar .byte (c1.toInt8.toInt32)))) (by rw [e15]; exact Ar16.1) (State.isArrayOf_alike hZ.alike Ar16.2.1) Ar16.2.2 hin17 hat17 (g := (mkF m 21 #[vr a1, vi 1, .unset] [(.int 1), (.ref t1)])) rfl rfl (dk d12_21) _ k) ?_
    refine gz X15 26 #[vr a1, vi 1, .unset] [(.int ((nar .byte (c1.toInt8.toInt32)) &&& (255 : Int32)))] (fun _ k => XS.sipush X15.here hx rfl (dk d12_22) (XS.iand X15.here hx rfl (dk d12_25) rfl k)) ?_
    refine Go.retJ X15 hx hlk (t := .int) hret (dk d12_26) ?_
    rw [e15]
    exact ⟨N14, (congrArg (fun q => some (Value.int q)) ((own_lcq hr1 U10.2.1).trans (own_cpL U10.2.1))), rfl⟩
  · skip
    refine gz X0 1 #[vr a1, vi 1, .unset] [(.ref a1)] (fun _ k => aN X0 hx (dk d12_0) rfl rfl k) ?_
    refine goV X0 hx hZ hown (W 56 rfl) (m15 hw) pr8 0 0 0 (rm_isLatin11 hw a1 cs h0 n0 Z0 pr0 pr1 hcs FC10) N0 e0 pd_14 hml (dk d12_1) ?_
    rintro _ T18 L18 X18 N18 ⟨rfl, hh18⟩
    refine gz X18 28 #[vr a1, vi 1, .unset] [(.ref a1)] (fun _ k => fY X18 hx 4 27 rfl (dk d12_4) rfl ((if0 _ _).trans (teq (by decide)).1) (aN X18 hx (dk d12_27) rfl rfl k)) ?_
    obtain ⟨T19, X19, e19, st19⟩ := getF X18 hx hZ hown (host := "") (Or.inl (W 35 rfl)) Via.refl hh18 pr9 (g := (mkF m 28 #[vr a1, vi 1, .unset] [(.ref a1)])) rfl rfl (dk d12_28)
    refine gz X19 31 #[vr a1, vi 1, .unset] [(.ref t1)] (fun _ k => st19 _ k) ?_
    obtain ⟨cl20, Ar20, q20, S20, N_20, Hs20, G20⟩ := id VA10
    refine gz X19 32 #[vr a1, vi 1, .unset] [(.int 6)] (fun _ k => X19.arraylength hx (by rw [e19]; exact Ar20.1) (State.isArrayOf_alike hZ.alike Ar20.2.1) (g := (mkF m 31 #[vr a1, vi 1, .unset] [(.ref t1)])) rfl rfl (dk d12_31) _ (by rw [len_of S20 N_20]; exact k)) ?_
    refine gz X19 37 #[vr a1, vi 1, vi 3] [(.int 3), (.int 1)] (fun _ k => kC X19 hx (dk d12_32) (XS.ishr X19.here hx rfl (dk d12_33) rfl (sN X19 hx (dk d12_34) rfl rfl (.inl rfl) (lN X19 hx (dk d12_35) rfl (lN X19 hx (dk d12_36) rfl k))))) ?_
    refine goS X19 hx hZ hown (W 61 rfl) (m12 hw) 2 0 0 (rm_sci hw (1 : Int32) (3 : Int32) fm h0 n0 Z0 pr0 pr3 hr_fm (by decide) (by decide)) N18 e19 pd_11 hml (dk d12_37) ?_
    rintro _ T21 L21 X21 N21 ⟨rfl, hh21⟩
    refine gz X21 41 #[vr a1, vi 1, vi 3] [(.ref a1)] (fun _ k => aN X21 hx (dk d12_40) rfl rfl k) ?_
    obtain ⟨T22, X22, e22, st22⟩ := getF X21 hx hZ hown (host := "") (Or.inl (W 35 rfl)) Via.refl hh21 pr9 (g := (mkF m 41 #[vr a1, vi 1, vi 3] [(.ref a1)])) rfl rfl (dk d12_41)
    refine gz X22 46 #[vr a1, vi 1, vi 3] [(.int 3), (.int 1), (.ref t1)] (fun _ k => st22 _ (lN X22 hx (dk d12_44) rfl (lN X22 hx (dk d12_45) rfl k))) ?_
    refine goS X22 hx hZ hown (W 133 rfl) (m22 hw) 3 0 0 (rm_cp31p hw t1 k1 (6 : Int32) [(.int (own_b0 c0)), (.int (own_b1 c0)), (.int (own_b0 c1)), (.int (own_b1 c1)), (.int (own_b0 c2)), (.int (own_b1 c2))] c1 c2 (3 : Int32) h0 n0 Z0 pr0 pr5 pr6 pr7 VA10 (by decide) (by decide) (by decide) (by decide) rfl rfl rfl rfl hr1 hr2 (by decide)) N21 e22 pd_18 hml (dk d12_46) ?_
    rintro _ T23 L23 X23 N23 ⟨rfl, hh23⟩
    refine gz X23 49 #[vr a1, vi 1, vi 3] [(.int (own_cp c1 c2))] (fun _ k => k) ?_
    refine Go.retJ X23 hx hlk (t := .int) hret (dk d12_49) ?_
    rw [hh23]
    exact ⟨N23, rfl, rfl⟩
theorem rm_cpS_3_2 {l : Launch} {Z : State} {a0 : Array Value} (hw : HW a0 Z) (a1 : Addr) (t1 : Addr) (k1 : ClassId) (c0 : Int32) (c1 : Int32) (c2 : Int32) (cs : Int32) (fm : Value) (h0 : Heap) (n0 : Nat) (Z0 : n0 ≤ h0.size) (pr0 : Old Z n0 h0) (pr1 : S3 Z cs) (hcs : ¬ (cs = (0 : Int32))) (pr3 : S4 Z fm) (hr_fm : fm.isRef = true) (pr5 : S0 Z) (pr6 : S1 Z) (pr7 : S2 Z) (pr8 : XT Z h0 a1) (pr9 : FV Z h0 a1 t1) (say : (FC Z h0 a1 0 ∧ Arv Z h0 t1 k1 .byte (3 : Int32) [(.int (nar .byte (c0.toInt8.toInt32))), (.int (nar .byte (c1.toInt8.toInt32))), (.int (nar .byte (c2.toInt8.toInt32)))] (.int 0) ∧ ¬ (255 : Int32) < c0 ∧ ¬ (255 : Int32) < c1 ∧ ¬ (255 : Int32) < c2) ∨ (FC Z h0 a1 1 ∧ Arv Z h0 t1 k1 .byte (6 : Int32) [(.int (own_b0 c0)), (.int (own_b1 c0)), (.int (own_b0 c1)), (.int (own_b1 c1)), (.int (own_b0 c2)), (.int (own_b1 c2))] (.int 0))) (hr0 : own_rng c0) (hr1 : own_rng c1) (hr2 : own_rng c2) :
    Met l Z Y18 B14 3 (some .int) [] ({ frames := 3, cells := 0, slots := 0, locals := 44 } : Room) #[(.ref a1), (.int 2)] h0 (fun vv h L => Fr n0 L ∧ vv = some (.int c2) ∧ h = h0) := by
  refine Met.enter (f0 := fun m => mkF m 0 #[vr a1, vi 2, .unset] []) (plainFor_of_name pn6) (fun m => oe m 1) ?_
  intro p e s m below meth c s₁ hx hby hml hown hnm hret hlk hZ X0 e0
  have dk : Dk B14 c := fun h => hb hby h
  have W := @wd _ _ _ hw
  have N0 := Fr.nil n0
  rcases say with ⟨FC10, VA10, U10⟩ | ⟨FC10, VA10⟩
  · skip
    refine gz X0 1 #[vr a1, vi 2, .unset] [(.ref a1)] (fun _ k => aN X0 hx (dk d12_0) rfl rfl k) ?_
    refine goV X0 hx hZ hown (W 56 rfl) (m15 hw) pr8 0 0 0 (rm_isLatin10 hw a1 cs h0 n0 Z0 pr0 pr1 hcs FC10) N0 e0 pd_14 hml (dk d12_1) ?_
    rintro _ T11 L11 X11 N11 ⟨rfl, hh11⟩
    refine gz X11 9 #[vr a1, vi 2, .unset] [(.ref a1), (.int 2)] (fun _ k => fN X11 hx (dk d12_4) rfl ((if0 _ _).trans (feq (by decide)).1) (lN X11 hx (dk d12_7) rfl (aN X11 hx (dk d12_8) rfl rfl k))) ?_
    obtain ⟨T12, X12, e12, st12⟩ := getF X11 hx hZ hown (host := "") (Or.inl (W 35 rfl)) Via.refl hh11 pr9 (g := (mkF m 9 #[vr a1, vi 2, .unset] [(.ref a1), (.int 2)])) rfl rfl (dk d12_9)
    refine gz X12 12 #[vr a1, vi 2, .unset] [(.ref t1), (.int 2)] (fun _ k => st12 _ k) ?_
    obtain ⟨cl13, Ar13, q13, S13, N_13, Hs13, G13⟩ := id VA10
    refine gz X12 13 #[vr a1, vi 2, .unset] [(.int 3), (.int 2)] (fun _ k => X12.arraylength hx (by rw [e12]; exact Ar13.1) (State.isArrayOf_alike hZ.alike Ar13.2.1) (g := (mkF m 12 #[vr a1, vi 2, .unset] [(.ref t1), (.int 2)])) rfl rfl (dk d12_12) _ (by rw [len_of S13 N_13]; exact k)) ?_
    refine goS X12 hx hZ hown (W 61 rfl) (m12 hw) 2 0 0 (rm_sci hw (2 : Int32) (3 : Int32) fm h0 n0 Z0 pr0 pr3 hr_fm (by decide) (by decide)) N11 e12 pd_11 hml (dk d12_13) ?_
    rintro _ T14 L14 X14 N14 ⟨rfl, hh14⟩
    refine gz X14 17 #[vr a1, vi 2, .unset] [(.ref a1)] (fun _ k => aN X14 hx (dk d12_16) rfl rfl k) ?_
    obtain ⟨T15, X15, e15, st15⟩ := getF X14 hx hZ hown (host := "") (Or.inl (W 35 rfl)) Via.refl hh14 pr9 (g := (mkF m 17 #[vr a1, vi 2, .unset] [(.ref a1)])) rfl rfl (dk d12_17)
    refine gz X15 21 #[vr a1, vi 2, .unset] [(.int 2), (.ref t1)] (fun _ k => st15 _ (lN X15 hx (dk d12_20) rfl k)) ?_
    obtain ⟨cl16, Ar16, q16, S16, N_16, Hs16, G16⟩ := id VA10
    have hin17 : ¬ ((2 : Int32) < 0 ∨ cl16.slots.size ≤ ((2 : Int32)).toNatClampNeg) := inb_of S16 ⟨by decide, by decide⟩
    have hat17 : cl16.slots[((2 : Int32)).toNatClampNeg]? = some (.int (nar .byte (c2.toInt8.toInt32))) := Hs16.at hin17 rfl
    refine gz X15 22 #[vr a1, vi 2, .unset] [(.int (nar .byte (c2.toInt8.toInt32)))] (fun _ k => X15.baloadBytes hx (j := (2 : Int32)) (v := (.int (nar .byte (c2.toInt8.toInt32)))) (by rw [e15]; exact Ar16.1) (State.isArrayOf_alike hZ.alike Ar16.2.1) Ar16.2.2 hin17 hat17 (g := (mkF m 21 #[vr a1, vi 2, .unset] [(.int 2), (.ref t1)])) rfl rfl (dk d12_21) _ k) ?_
    refine gz X15 26 #[vr a1, vi 2, .unset] [(.int ((nar .byte (c2.toInt8.toInt32)) &&& (255 : Int32)))] (fun _ k => XS.sipush X15.here hx rfl (dk d12_22) (XS.iand X15.here hx rfl (dk d12_25) rfl k)) ?_
    refine Go.retJ X15 hx hlk (t := .int) hret (dk d12_26) ?_
    rw [e15]
    exact ⟨N14, (congrArg (fun q => some (Value.int q)) (own_lcq hr2 U10.2.2)), rfl⟩
  · skip
    refine gz X0 1 #[vr a1, vi 2, .unset] [(.ref a1)] (fun _ k => aN X0 hx (dk d12_0) rfl rfl k) ?_
    refine goV X0 hx hZ hown (W 56 rfl) (m15 hw) pr8 0 0 0 (rm_isLatin11 hw a1 cs h0 n0 Z0 pr0 pr1 hcs FC10) N0 e0 pd_14 hml (dk d12_1) ?_
    rintro _ T18 L18 X18 N18 ⟨rfl, hh18⟩
    refine gz X18 28 #[vr a1, vi 2, .unset] [(.ref a1)] (fun _ k => fY X18 hx 4 27 rfl (dk d12_4) rfl ((if0 _ _).trans (teq (by decide)).1) (aN X18 hx (dk d12_27) rfl rfl k)) ?_
    obtain ⟨T19, X19, e19, st19⟩ := getF X18 hx hZ hown (host := "") (Or.inl (W 35 rfl)) Via.refl hh18 pr9 (g := (mkF m 28 #[vr a1, vi 2, .unset] [(.ref a1)])) rfl rfl (dk d12_28)
    refine gz X19 31 #[vr a1, vi 2, .unset] [(.ref t1)] (fun _ k => st19 _ k) ?_
    obtain ⟨cl20, Ar20, q20, S20, N_20, Hs20, G20⟩ := id VA10
    refine gz X19 32 #[vr a1, vi 2, .unset] [(.int 6)] (fun _ k => X19.arraylength hx (by rw [e19]; exact Ar20.1) (State.isArrayOf_alike hZ.alike Ar20.2.1) (g := (mkF m 31 #[vr a1, vi 2, .unset] [(.ref t1)])) rfl rfl (dk d12_31) _ (by rw [len_of S20 N_20]; exact k)) ?_
    refine gz X19 37 #[vr a1, vi 2, vi 3] [(.int 3), (.int 2)] (fun _ k => kC X19 hx (dk d12_32) (XS.ishr X19.here hx rfl (dk d12_33) rfl (sN X19 hx (dk d12_34) rfl rfl (.inl rfl) (lN X19 hx (dk d12_35) rfl (lN X19 hx (dk d12_36) rfl k))))) ?_
    refine goS X19 hx hZ hown (W 61 rfl) (m12 hw) 2 0 0 (rm_sci hw (2 : Int32) (3 : Int32) fm h0 n0 Z0 pr0 pr3 hr_fm (by decide) (by decide)) N18 e19 pd_11 hml (dk d12_37) ?_
    rintro _ T21 L21 X21 N21 ⟨rfl, hh21⟩
    refine gz X21 41 #[vr a1, vi 2, vi 3] [(.ref a1)] (fun _ k => aN X21 hx (dk d12_40) rfl rfl k) ?_
    obtain ⟨T22, X22, e22, st22⟩ := getF X21 hx hZ hown (host := "") (Or.inl (W 35 rfl)) Via.refl hh21 pr9 (g := (mkF m 41 #[vr a1, vi 2, vi 3] [(.ref a1)])) rfl rfl (dk d12_41)
    refine gz X22 46 #[vr a1, vi 2, vi 3] [(.int 3), (.int 2), (.ref t1)] (fun _ k => st22 _ (lN X22 hx (dk d12_44) rfl (lN X22 hx (dk d12_45) rfl k))) ?_
    refine goS X22 hx hZ hown (W 133 rfl) (m22 hw) 3 0 0 (rm_cp32l hw t1 k1 (6 : Int32) [(.int (own_b0 c0)), (.int (own_b1 c0)), (.int (own_b0 c1)), (.int (own_b1 c1)), (.int (own_b0 c2)), (.int (own_b1 c2))] c2 (3 : Int32) h0 n0 Z0 pr0 pr5 pr6 pr7 VA10 (by decide) (by decide) rfl rfl hr2 (by decide)) N21 e22 pd_18 hml (dk d12_46) ?_
    rintro _ T23 L23 X23 N23 ⟨rfl, hh23⟩
    refine gz X23 49 #[vr a1, vi 2, vi 3] [(.int c2)] (fun _ k => k) ?_
    refine Go.retJ X23 hx hlk (t := .int) hret (dk d12_49) ?_
    rw [hh23]
    exact ⟨N23, rfl, rfl⟩
theorem ef_rm_cft (m : MethodId) (x0 : Int32) (x1 : Int32) (x2 : Int32) (x3 : Value) (hx3 : x3.category = 1) : entryFrame m #[(.int x0), (.int x1), (.int x2), x3] 4 = mkF m 0 #[vi x0, vi x1, vi x2, .val x3] [] := own_ent m (xs := [(.int x0), (.int x1), (.int x2), x3]) (k := 0) (own_a rfl (own_a rfl (own_a rfl (own_a hx3 (fun _ q => nomatch q))))) rfl
theorem d19_0 : DK B2 0 (.iload_n 0) 1 := by decide +kernel
theorem d19_1 : DK B2 1 (.ifCond .lt 13) 3 := by decide +kernel
theorem d19_4 : DK B2 4 (.iload_n 0) 1 := by decide +kernel
theorem d19_5 : DK B2 5 (.iload_n 1) 1 := by decide +kernel
theorem d19_6 : DK B2 6 (.if_icmp .gt 8) 3 := by decide +kernel
theorem d19_9 : DK B2 9 (.iload_n 1) 1 := by decide +kernel
theorem d19_10 : DK B2 10 (.iload_n 2) 1 := by decide +kernel
theorem d19_11 : DK B2 11 (.if_icmp .le 11) 3 := by decide +kernel
theorem d19_22 : DK B2 22 (.iload_n 0) 1 := by decide +kernel
theorem d19_23 : DK B2 23 .ireturn 1 := by decide +kernel
theorem rm_cft {l : Launch} {Z : State} {a0 : Array Value} (hw : HW a0 Z) (p1 : Int32) (p2 : Int32) (p3 : Int32) (fm : Value) (h0 : Heap) (n0 : Nat) (Z0 : n0 ≤ h0.size) (hr_fm : fm.isRef = true) (q0 : ¬ (p1 < (0 : Int32))) (q1 : ¬ (p2 < p1)) (q2 : ¬ (p3 < p2)) :
    Met l Z Y46 B2 4 (some .int) [] ({ frames := 0, cells := 0, slots := 0, locals := 0 } : Room) #[(.int p1), (.int p2), (.int p3), fm] h0 (fun vv h L => Fr n0 L ∧ vv = some (.int p1) ∧ h = h0) := by
  refine Met.enter (f0 := fun m => mkF m 0 #[vi p1, vi p2, vi p3, .val fm] []) (plainFor_of_name pn2) (fun m => ef_rm_cft m p1 p2 p3 fm (own_cat hr_fm)) ?_
  intro p e s m below meth c s₁ hx hby hml hown hnm hret hlk hZ X0 e0
  have dk : Dk B2 c := fun h => hb hby h
  have W := @wd _ _ _ hw
  have N0 := Fr.nil n0
  refine gz X0 23 #[vi p1, vi p2, vi p3, .val fm] [(.int p1)] (fun _ k => lN X0 hx (dk d19_0) rfl (fN X0 hx (dk d19_1) rfl ((if0 _ _).trans (flt q0).1) (lN X0 hx (dk d19_4) rfl (lN X0 hx (dk d19_5) rfl (cN X0 hx (dk d19_6) rfl (flt q1).2.2.1 (lN X0 hx (dk d19_9) rfl (lN X0 hx (dk d19_10) rfl (cY X0 hx 11 22 rfl (dk d19_11) rfl (flt q2).2.2.2 (lN X0 hx (dk d19_22) rfl k))))))))) ?_
  refine Go.retJ X0 hx hlk (t := .int) hret (dk d19_23) ?_
  rw [e0]
  exact ⟨N0, rfl, rfl⟩
theorem d18_0 : DK B10 0 (.iload_n 0) 1 := by decide +kernel
theorem d18_1 : DK B10 1 (.iload_n 1) 1 := by decide +kernel
theorem d18_2 : DK B10 2 (.iload_n 2) 1 := by decide +kernel
theorem d18_3 : DK B10 3 (.getstatic 1053) 3 := by decide +kernel
theorem d18_6 : DK B10 6 (.invokestatic 1062) 3 := by decide +kernel
theorem pd_19 : parseMethodDescriptor "(IIILjava/util/function/BiFunction;)I" = some ⟨[.int, .int, .int, (.object "java/util/function/BiFunction")], some .int⟩ := by decide +kernel
theorem m23 {Z : State} {a0 : Array Value} (hw : HW a0 Z) : (Jvm.Cond.static Y46).before a0 Z = true ∧ (Jvm.Cond.initialized "jdk/internal/util/Preconditions").before a0 Z = true ∧ (Jvm.Cond.code Y46 B2 (4 : Nat) (Option.some Jvm.ClassFile.FieldType.int)).before a0 Z = true := ⟨(wd hw 82 rfl), (wd hw 65 rfl), (wd hw 83 rfl)⟩
theorem d18_9 : DK B10 9 .pop 1 := by decide +kernel
theorem d18_10 : DK B10 10 .return_ 1 := by decide +kernel
theorem rm_cbe {l : Launch} {Z : State} {a0 : Array Value} (hw : HW a0 Z) (p1 : Int32) (p2 : Int32) (p3 : Int32) (fm : Value) (h0 : Heap) (n0 : Nat) (Z0 : n0 ≤ h0.size) (pr0 : Old Z n0 h0) (pr1 : S4 Z fm) (hr_fm : fm.isRef = true) (q0 : ¬ (p1 < (0 : Int32))) (q1 : ¬ (p2 < p1)) (q2 : ¬ (p3 < p2)) :
    Met l Z Y15 B10 3 none [] ({ frames := 1, cells := 0, slots := 0, locals := 15 } : Room) #[(.int p1), (.int p2), (.int p3)] h0 (fun vv h L => Fr n0 L ∧ vv = none ∧ h = h0) := by
  refine Met.enter (f0 := fun m => mkF m 0 #[vi p1, vi p2, vi p3] []) (plainFor_of_name pn6) (fun m => oe m 0) ?_
  intro p e s m below meth c s₁ hx hby hml hown hnm hret hlk hZ X0 e0
  have dk : Dk B10 c := fun h => hb hby h
  have W := @wd _ _ _ hw
  have N0 := Fr.nil n0
  refine gz X0 3 #[vi p1, vi p2, vi p3] [(.int p3), (.int p2), (.int p1)] (fun _ k => lN X0 hx (dk d18_0) rfl (lN X0 hx (dk d18_1) rfl (lN X0 hx (dk d18_2) rfl k))) ?_
  obtain ⟨T10, X10, e10, st10⟩ := getS2 X0 hx hZ hown (host := "") (Or.inl (W 64 rfl)) Via.refl e0 (pr1.ext pr0.2) (g := (mkF m 3 #[vi p1, vi p2, vi p3] [(.int p3), (.int p2), (.int p1)])) rfl (dk d18_3)
  refine gz X10 6 #[vi p1, vi p2, vi p3] [fm, (.int p3), (.int p2), (.int p1)] (fun _ k => st10 _ k) ?_
  refine goS X10 hx hZ hown (W 81 rfl) (m23 hw) 4 0 0 (rm_cft hw p1 p2 p3 fm h0 n0 Z0 hr_fm q0 q1 q2) N0 e10 pd_19 hml (dk d18_6) ?_
  rintro _ T11 L11 X11 N11 ⟨rfl, hh11⟩
  refine gz X11 10 #[vi p1, vi p2, vi p3] [] (fun _ k => XS.pop X11.here hx rfl (dk d18_9) rfl rfl k) ?_
  refine Go.retV X11 hx hlk hret (dk d18_10) (by decide) (by decide) ?_
  rw [hh11]
  exact ⟨N11, rfl, rfl⟩
theorem d38_0 : DK B0 0 (.iload_n 0) 1 := by decide +kernel
theorem d38_1 : DK B0 1 (.iload_n 1) 1 := by decide +kernel
theorem d38_2 : DK B0 2 (.if_icmp .gt 7) 3 := by decide +kernel
theorem d38_9 : DK B0 9 (.iload_n 1) 1 := by decide +kernel
theorem d38_10 : DK B0 10 .ireturn 1 := by decide +kernel
theorem rm_min {l : Launch} {Z : State} {a0 : Array Value} (hw : HW a0 Z) (p1 : Int32) (p2 : Int32) (h0 : Heap) (n0 : Nat) (Z0 : n0 ≤ h0.size) (q0 : p2 < p1) :
    Met l Z Y10 B0 2 (some .int) [] ({ frames := 0, cells := 0, slots := 0, locals := 0 } : Room) #[(.int p1), (.int p2)] h0 (fun vv h L => Fr n0 L ∧ vv = some (.int p2) ∧ h = h0) := by
  refine Met.enter (f0 := fun m => mkF m 0 #[vi p1, vi p2] []) (Jvm.Free.JP.mathPlain rfl (by decide +kernel)) (fun m => oe m 0) ?_
  intro p e s m below meth c s₁ hx hby hml hown hnm hret hlk hZ X0 e0
  have dk : Dk B0 c := fun h => hb hby h
  have W := @wd _ _ _ hw
  have N0 := Fr.nil n0
  refine gz X0 10 #[vi p1, vi p2] [(.int p2)] (fun _ k => lN X0 hx (dk d38_0) rfl (lN X0 hx (dk d38_1) rfl (cY X0 hx 2 9 rfl (dk d38_2) rfl (tlt q0).2.2.1 (lN X0 hx (dk d38_9) rfl k)))) ?_
  refine Go.retJ X0 hx hlk (t := .int) hret (dk d38_10) ?_
  rw [e0]
  exact ⟨N0, rfl, rfl⟩
theorem d37_0 : DK B35 0 (.iload_n 1) 1 := by decide +kernel
theorem d37_1 : DK B35 1 (.iload_n 0) 1 := by decide +kernel
theorem d37_2 : DK B35 2 (.if_icmp .ge 35) 3 := by decide +kernel
theorem d37_37 : DK B35 37 .return_ 1 := by decide +kernel
theorem pn7 : plainName "java/util/Arrays" = true := by first | (simp [plainName, overriddenIn]; done) | decide +kernel
theorem rm_chk {l : Launch} {Z : State} {a0 : Array Value} (hw : HW a0 Z) (p1 : Int32) (p2 : Int32) (h0 : Heap) (n0 : Nat) (Z0 : n0 ≤ h0.size) (q0 : ¬ (p2 < p1)) :
    Met l Z Y42 B35 2 none [] ({ frames := 0, cells := 0, slots := 0, locals := 0 } : Room) #[(.int p1), (.int p2)] h0 (fun vv h L => Fr n0 L ∧ vv = none ∧ h = h0) := by
  refine Met.enter (f0 := fun m => mkF m 0 #[vi p1, vi p2] []) (plainFor_of_name pn7) (fun m => oe m 0) ?_
  intro p e s m below meth c s₁ hx hby hml hown hnm hret hlk hZ X0 e0
  have dk : Dk B35 c := fun h => hb hby h
  have W := @wd _ _ _ hw
  have N0 := Fr.nil n0
  refine gz X0 37 #[vi p1, vi p2] [] (fun _ k => lN X0 hx (dk d37_0) rfl (lN X0 hx (dk d37_1) rfl (cY X0 hx 2 37 rfl (dk d37_2) rfl (flt q0).2.1 k))) ?_
  refine Go.retV X0 hx hlk hret (dk d37_37) (by decide) (by decide) ?_
  rw [e0]
  exact ⟨N0, rfl, rfl⟩
theorem d36_0 : DK B37 0 (.iload_n 1) 1 := by decide +kernel
theorem d36_1 : DK B37 1 (.iload_n 2) 1 := by decide +kernel
theorem d36_2 : DK B37 2 (.invokestatic 343) 3 := by decide +kernel
theorem m24 {Z : State} {a0 : Array Value} (hw : HW a0 Z) : (Jvm.Cond.static Y42).before a0 Z = true ∧ (Jvm.Cond.initialized "java/util/Arrays").before a0 Z = true ∧ (Jvm.Cond.code Y42 B35 (2 : Nat) (Option.none : Option Jvm.ClassFile.FieldType)).before a0 Z = true := ⟨(wd hw 159 rfl), (wd hw 153 rfl), (wd hw 160 rfl)⟩
theorem d36_5 : DK B37 5 (.iload_n 2) 1 := by decide +kernel
theorem d36_6 : DK B37 6 (.iload_n 1) 1 := by decide +kernel
theorem d36_7 : DK B37 7 .isub 1 := by decide +kernel
theorem d36_8 : DK B37 8 (.istore_n 3) 1 := by decide +kernel
theorem d36_9 : DK B37 9 (.iload_n 3) 1 := by decide +kernel
theorem d36_10 : DK B37 10 (.newarray .byte) 2 := by decide +kernel
theorem d36_12 : DK B37 12 (.astore 4) 2 := by decide +kernel
theorem d36_14 : DK B37 14 (.aload_n 0) 1 := by decide +kernel
theorem d36_15 : DK B37 15 (.iload_n 1) 1 := by decide +kernel
theorem d36_16 : DK B37 16 (.aload 4) 2 := by decide +kernel
theorem d36_18 : DK B37 18 (.iconst 0) 1 := by decide +kernel
theorem d36_19 : DK B37 19 (.aload_n 0) 1 := by decide +kernel
theorem d36_20 : DK B37 20 .arraylength 1 := by decide +kernel
theorem d36_21 : DK B37 21 (.iload_n 1) 1 := by decide +kernel
theorem d36_22 : DK B37 22 .isub 1 := by decide +kernel
theorem d36_23 : DK B37 23 (.iload_n 3) 1 := by decide +kernel
theorem d36_24 : DK B37 24 (.invokestatic 304) 3 := by decide +kernel
theorem pd_20 : parseMethodDescriptor "(II)I" = some ⟨[.int, .int], some .int⟩ := by decide +kernel
theorem m25 {Z : State} {a0 : Array Value} (hw : HW a0 Z) : (Jvm.Cond.static Y10).before a0 Z = true ∧ (Jvm.Cond.initialized "java/lang/Math").before a0 Z = true ∧ (Jvm.Cond.code Y10 B0 (2 : Nat) (Option.some Jvm.ClassFile.FieldType.int)).before a0 Z = true := ⟨(wd hw 162 rfl), (wd hw 163 rfl), (wd hw 164 rfl)⟩
theorem d36_27 : DK B37 27 (.invokestatic 150) 3 := by decide +kernel
theorem d36_30 : DK B37 30 (.aload 4) 2 := by decide +kernel
theorem d36_32 : DK B37 32 .areturn 1 := by decide +kernel
theorem rm_cprb_1 {l : Launch} {Z : State} {a0 : Array Value} (hw : HW a0 Z) (b1 : Addr) (kb : ClassId) (z : Int32) (vs : List Value) (h0 : Heap) (n0 : Nat) (Z0 : n0 ≤ h0.size) (pr0 : Old Z n0 h0) (pr1 : Arv Z h0 b1 kb .byte z vs (.int 0)) (hne : ¬ ((1 : Int32) = z)) (hmn : (1 : Int32) < (z - (0 : Int32))) (hle : 1 ≤ z.toNatClampNeg) (hvl : 1 ≤ vs.length) :
    Met l Z Y44 B37 5 (some (.array .byte)) [] ({ frames := 1, cells := 1, slots := 1, locals := 18 } : Room) #[(.ref b1), (.int 0), (.int 1)] h0 (fun vv h L => Fr n0 L ∧ ∃ b : Addr, ∃ k : ClassId, vv = some (.ref b) ∧ Keep h0 h [] ∧ Arv Z h b k .byte (1 : Int32) (vs.take 1) (.int 0) ∧ h0.size ≤ b) := by
  refine Met.enter (f0 := fun m => mkF m 0 #[vr b1, vi 0, vi 1, .unset, .unset] []) (plainFor_of_name pn7) (fun m => oe m 2) ?_
  intro p e s m below meth c s₁ hx hby hml hown hnm hret hlk hZ X0 e0
  have dk : Dk B37 c := fun h => hb hby h
  have W := @wd _ _ _ hw
  have N0 := Fr.nil n0
  refine gz X0 2 #[vr b1, vi 0, vi 1, .unset, .unset] [(.int 1), (.int 0)] (fun _ k => lN X0 hx (dk d36_0) rfl (lN X0 hx (dk d36_1) rfl k)) ?_
  refine goS X0 hx hZ hown (W 158 rfl) (m24 hw) 2 0 0 (rm_chk hw (0 : Int32) (1 : Int32) h0 n0 Z0 (by decide)) N0 e0 pd_11 hml (dk d36_2) ?_
  rintro _ T10 L10 X10 N10 ⟨rfl, hh10⟩
  refine gz X10 10 #[vr b1, vi 0, vi 1, vi 1, .unset] [(.int 1)] (fun _ k => lN X10 hx (dk d36_5) rfl (lN X10 hx (dk d36_6) rfl (XS.isub X10.here hx rfl (dk d36_7) rfl (sN X10 hx (dk d36_8) rfl rfl (.inl rfl) (lN X10 hx (dk d36_9) rfl k))))) ?_
  obtain ⟨T11, h11, k11, X11, e11, E11, A11, st11⟩ := newP X10 hx hZ (W 26 rfl) hh10 (g := (mkF m 10 #[vr b1, vi 0, vi 1, vi 1, .unset] [(.int 1)])) rfl (dk d36_10) rfl (by decide) (cap := 1) (by decide) (by decide) (by decide) (by decide)
  obtain ⟨b11, g11⟩ : ∃ z, z = h0.size := ⟨_, rfl⟩
  rw [← g11] at A11 st11
  have sz_b11 : h0.size ≤ b11 := Nat.le_of_eq g11.symm
  have V11 : Arv Z h11 b11 k11 .byte (1 : Int32) [(.int 0)] (.int 0) := (Arv.new A11 (by decide)).pad (pad_rep [] (.int 0) 1)
  have O12 := pr0.ext E11
  have Z12 : n0 ≤ h11.size := Nat.le_trans Z0 E11.1
  refine gz X11 20 #[vr b1, vi 0, vi 1, vi 1, vr b11] [(.ref b1), (.int 0), (.ref b11), (.int 0), (.ref b1)] (fun _ k => st11 _ (tI X11 hx (dk d36_12) rfl rfl rfl (.inl rfl) (aN X11 hx (dk d36_14) rfl rfl (lN X11 hx (dk d36_15) rfl (aI X11 hx (dk d36_16) rfl rfl (kC X11 hx (dk d36_18) (aN X11 hx (dk d36_19) rfl rfl k))))))) ?_
  obtain ⟨cl13, Ar13, q13, S13, N_13, Hs13, G13⟩ := id (pr1.ext E11)
  refine gz X11 21 #[vr b1, vi 0, vi 1, vi 1, vr b11] [(.int z), (.int 0), (.ref b11), (.int 0), (.ref b1)] (fun _ k => X11.arraylength hx (by rw [e11]; exact Ar13.1) (State.isArrayOf_alike hZ.alike Ar13.2.1) (g := (mkF m 20 #[vr b1, vi 0, vi 1, vi 1, vr b11] [(.ref b1), (.int 0), (.ref b11), (.int 0), (.ref b1)])) rfl rfl (dk d36_20) _ (by rw [len_of S13 N_13]; exact k)) ?_
  refine gz X11 24 #[vr b1, vi 0, vi 1, vi 1, vr b11] [(.int 1), (.int (z - (0 : Int32))), (.int 0), (.ref b11), (.int 0), (.ref b1)] (fun _ k => lN X11 hx (dk d36_21) rfl (XS.isub X11.here hx rfl (dk d36_22) rfl (lN X11 hx (dk d36_23) rfl k))) ?_
  refine goS X11 hx hZ hown (W 161 rfl) (m25 hw) 2 1 1 (rm_min hw (z - (0 : Int32)) (1 : Int32) h11 n0 Z12 hmn) N10 e11 pd_20 hml (dk d36_24) ?_
  rintro _ T14 L14 X14 N14 ⟨rfl, hh14⟩
  obtain ⟨T15, h15, L15, X15, e15, N15, K15, V15, st15⟩ := own_cpt (n := 1) X14 hx hZ hown (W 165 rfl) (W 168 rfl) (W 166 rfl) (W 167 rfl) hh14 (pr1.ext E11) V11 rfl (by decide) (by decide) hle (by decide) hvl N14 (Nat.le_trans Z0 sz_b11) (g := (mkF m 27 #[vr b1, vi 0, vi 1, vi 1, vr b11] [(.int 1), (.int 0), (.ref b11), (.int 0), (.ref b1)])) rfl (by rw [hml]; rfl) rfl (dk d36_27) (by decide) (W := 0) (by show 2 * 0 + _ ≤ _; exact Nat.le_of_eq rfl) (by decide)
  have O16 := O12.keep K15 (allS (Nat.le_trans Z0 sz_b11) all0)
  have Z16 : n0 ≤ h15.size := Nat.le_trans Z12 K15.1
  refine gz X15 30 #[vr b1, vi 0, vi 1, vi 1, vr b11] [] st15 ?_
  refine gz X15 32 #[vr b1, vi 0, vi 1, vi 1, vr b11] [(.ref b11)] (fun _ k => aI X15 hx (dk d36_30) rfl rfl k) ?_
  refine Go.retA X15 hx hlk (t := (.array .byte)) hret (dk d36_32) ?_
  rw [e15]
  exact ⟨N15, b11, k11, rfl, (((Keep.refl h0 []).ext E11).trans K15 (allS (Or.inr (Nat.le_trans (Nat.le_refl _) sz_b11)) all0)), V15, (Nat.le_trans (Nat.le_refl _) sz_b11)⟩
theorem d35_0 : DK B36 0 (.iload_n 1) 1 := by decide +kernel
theorem d35_1 : DK B36 1 (.ifCond .ne 9) 3 := by decide +kernel
theorem d35_4 : DK B36 4 (.iload_n 2) 1 := by decide +kernel
theorem d35_5 : DK B36 5 (.aload_n 0) 1 := by decide +kernel
theorem d35_6 : DK B36 6 .arraylength 1 := by decide +kernel
theorem d35_7 : DK B36 7 (.if_icmp .eq 10) 3 := by decide +kernel
theorem d35_10 : DK B36 10 (.aload_n 0) 1 := by decide +kernel
theorem d35_11 : DK B36 11 (.iload_n 1) 1 := by decide +kernel
theorem d35_12 : DK B36 12 (.iload_n 2) 1 := by decide +kernel
theorem d35_13 : DK B36 13 (.invokestatic 339) 3 := by decide +kernel
theorem pd_21 : parseMethodDescriptor "([BII)[B" = some ⟨[(.array .byte), .int, .int], some (.array .byte)⟩ := by decide +kernel
theorem m26 {Z : State} {a0 : Array Value} (hw : HW a0 Z) : (Jvm.Cond.static Y44).before a0 Z = true ∧ (Jvm.Cond.initialized "java/util/Arrays").before a0 Z = true ∧ (Jvm.Cond.code Y44 B37 (5 : Nat) (Option.some (Jvm.ClassFile.FieldType.array Jvm.ClassFile.FieldType.byte))).before a0 Z = true := ⟨(wd hw 156 rfl), (wd hw 153 rfl), (wd hw 157 rfl)⟩
theorem d35_16 : DK B36 16 .areturn 1 := by decide +kernel
theorem rm_cpr_1 {l : Launch} {Z : State} {a0 : Array Value} (hw : HW a0 Z) (b1 : Addr) (kb : ClassId) (z : Int32) (vs : List Value) (h0 : Heap) (n0 : Nat) (Z0 : n0 ≤ h0.size) (pr0 : Old Z n0 h0) (pr1 : Arv Z h0 b1 kb .byte z vs (.int 0)) (hne : ¬ ((1 : Int32) = z)) (hmn : (1 : Int32) < (z - (0 : Int32))) (hle : 1 ≤ z.toNatClampNeg) (hvl : 1 ≤ vs.length) :
    Met l Z Y43 B36 3 (some (.array .byte)) [] ({ frames := 2, cells := 1, slots := 1, locals := 34 } : Room) #[(.ref b1), (.int 0), (.int 1)] h0 (fun vv h L => Fr n0 L ∧ ∃ b : Addr, ∃ k : ClassId, vv = some (.ref b) ∧ Keep h0 h [] ∧ Arv Z h b k .byte (1 : Int32) (vs.take 1) (.int 0) ∧ h0.size ≤ b) := by
  refine Met.enter (f0 := fun m => mkF m 0 #[vr b1, vi 0, vi 1] []) (plainFor_of_name pn7) (fun m => oe m 0) ?_
  intro p e s m below meth c s₁ hx hby hml hown hnm hret hlk hZ X0 e0
  have dk : Dk B36 c := fun h => hb hby h
  have W := @wd _ _ _ hw
  have N0 := Fr.nil n0
  refine gz X0 6 #[vr b1, vi 0, vi 1] [(.ref b1), (.int 1)] (fun _ k => lN X0 hx (dk d35_0) rfl (fN X0 hx (dk d35_1) rfl ((if0 _ _).trans (teq (by decide)).2) (lN X0 hx (dk d35_4) rfl (aN X0 hx (dk d35_5) rfl rfl k)))) ?_
  obtain ⟨cl10, Ar10, q10, S10, N_10, Hs10, G10⟩ := id pr1
  refine gz X0 7 #[vr b1, vi 0, vi 1] [(.int z), (.int 1)] (fun _ k => X0.arraylength hx (by rw [e0]; exact Ar10.1) (State.isArrayOf_alike hZ.alike Ar10.2.1) (g := (mkF m 6 #[vr b1, vi 0, vi 1] [(.ref b1), (.int 1)])) rfl rfl (dk d35_6) _ (by rw [len_of S10 N_10]; exact k)) ?_
  refine gz X0 13 #[vr b1, vi 0, vi 1] [(.int 1), (.int 0), (.ref b1)] (fun _ k => cN X0 hx (dk d35_7) rfl (feq hne).1 (aN X0 hx (dk d35_10) rfl rfl (lN X0 hx (dk d35_11) rfl (lN X0 hx (dk d35_12) rfl k)))) ?_
  refine goS X0 hx hZ hown (W 155 rfl) (m26 hw) 3 1 1 (rm_cprb_1 hw b1 kb z vs h0 n0 Z0 pr0 pr1 hne hmn hle hvl) N0 e0 pd_21 hml (dk d35_13) ?_
  rintro _ T11 L11 X11 N11 ⟨b11, k11, rfl, K11, p11_0, p11_1⟩
  have O12 := pr0.keep K11 all0
  have Z12 : n0 ≤ T11.heap.size := Nat.le_trans Z0 K11.1
  have sz_b11 : h0.size ≤ b11 := p11_1
  refine gz X11 16 #[vr b1, vi 0, vi 1] [(.ref b11)] (fun _ k => k) ?_
  refine Go.retA X11 hx hlk (t := (.array .byte)) hret (dk d35_16) ?_
  exact ⟨N11, b11, k11, rfl, ((Keep.refl h0 []).trans K11 all0), p11_0, (Nat.le_trans (Nat.le_refl _) sz_b11)⟩
theorem rm_cprb_2 {l : Launch} {Z : State} {a0 : Array Value} (hw : HW a0 Z) (b1 : Addr) (kb : ClassId) (z : Int32) (vs : List Value) (h0 : Heap) (n0 : Nat) (Z0 : n0 ≤ h0.size) (pr0 : Old Z n0 h0) (pr1 : Arv Z h0 b1 kb .byte z vs (.int 0)) (hne : ¬ ((2 : Int32) = z)) (hmn : (2 : Int32) < (z - (0 : Int32))) (hle : 2 ≤ z.toNatClampNeg) (hvl : 2 ≤ vs.length) :
    Met l Z Y44 B37 5 (some (.array .byte)) [] ({ frames := 1, cells := 1, slots := 2, locals := 18 } : Room) #[(.ref b1), (.int 0), (.int 2)] h0 (fun vv h L => Fr n0 L ∧ ∃ b : Addr, ∃ k : ClassId, vv = some (.ref b) ∧ Keep h0 h [] ∧ Arv Z h b k .byte (2 : Int32) (vs.take 2) (.int 0) ∧ h0.size ≤ b) := by
  refine Met.enter (f0 := fun m => mkF m 0 #[vr b1, vi 0, vi 2, .unset, .unset] []) (plainFor_of_name pn7) (fun m => oe m 2) ?_
  intro p e s m below meth c s₁ hx hby hml hown hnm hret hlk hZ X0 e0
  have dk : Dk B37 c := fun h => hb hby h
  have W := @wd _ _ _ hw
  have N0 := Fr.nil n0
  refine gz X0 2 #[vr b1, vi 0, vi 2, .unset, .unset] [(.int 2), (.int 0)] (fun _ k => lN X0 hx (dk d36_0) rfl (lN X0 hx (dk d36_1) rfl k)) ?_
  refine goS X0 hx hZ hown (W 158 rfl) (m24 hw) 2 0 0 (rm_chk hw (0 : Int32) (2 : Int32) h0 n0 Z0 (by decide)) N0 e0 pd_11 hml (dk d36_2) ?_
  rintro _ T10 L10 X10 N10 ⟨rfl, hh10⟩
  refine gz X10 10 #[vr b1, vi 0, vi 2, vi 2, .unset] [(.int 2)] (fun _ k => lN X10 hx (dk d36_5) rfl (lN X10 hx (dk d36_6) rfl (XS.isub X10.here hx rfl (dk d36_7) rfl (sN X10 hx (dk d36_8) rfl rfl (.inl rfl) (lN X10 hx (dk d36_9) rfl k))))) ?_
  obtain ⟨T11, h11, k11, X11, e11, E11, A11, st11⟩ := newP X10 hx hZ (W 26 rfl) hh10 (g := (mkF m 10 #[vr b1, vi 0, vi 2, vi 2, .unset] [(.int 2)])) rfl (dk d36_10) rfl (by decide) (cap := 2) (by decide) (by decide) (by decide) (by decide)
  obtain ⟨b11, g11⟩ : ∃ z, z = h0.size := ⟨_, rfl⟩
  rw [← g11] at A11 st11
  have sz_b11 : h0.size ≤ b11 := Nat.le_of_eq g11.symm
  have V11 : Arv Z h11 b11 k11 .byte (2 : Int32) [(.int 0), (.int 0)] (.int 0) := (Arv.new A11 (by decide)).pad (pad_rep [] (.int 0) 2)
  have O12 := pr0.ext E11
  have Z12 : n0 ≤ h11.size := Nat.le_trans Z0 E11.1
  refine gz X11 20 #[vr b1, vi 0, vi 2, vi 2, vr b11] [(.ref b1), (.int 0), (.ref b11), (.int 0), (.ref b1)] (fun _ k => st11 _ (tI X11 hx (dk d36_12) rfl rfl rfl (.inl rfl) (aN X11 hx (dk d36_14) rfl rfl (lN X11 hx (dk d36_15) rfl (aI X11 hx (dk d36_16) rfl rfl (kC X11 hx (dk d36_18) (aN X11 hx (dk d36_19) rfl rfl k))))))) ?_
  obtain ⟨cl13, Ar13, q13, S13, N_13, Hs13, G13⟩ := id (pr1.ext E11)
  refine gz X11 21 #[vr b1, vi 0, vi 2, vi 2, vr b11] [(.int z), (.int 0), (.ref b11), (.int 0), (.ref b1)] (fun _ k => X11.arraylength hx (by rw [e11]; exact Ar13.1) (State.isArrayOf_alike hZ.alike Ar13.2.1) (g := (mkF m 20 #[vr b1, vi 0, vi 2, vi 2, vr b11] [(.ref b1), (.int 0), (.ref b11), (.int 0), (.ref b1)])) rfl rfl (dk d36_20) _ (by rw [len_of S13 N_13]; exact k)) ?_
  refine gz X11 24 #[vr b1, vi 0, vi 2, vi 2, vr b11] [(.int 2), (.int (z - (0 : Int32))), (.int 0), (.ref b11), (.int 0), (.ref b1)] (fun _ k => lN X11 hx (dk d36_21) rfl (XS.isub X11.here hx rfl (dk d36_22) rfl (lN X11 hx (dk d36_23) rfl k))) ?_
  refine goS X11 hx hZ hown (W 161 rfl) (m25 hw) 2 1 2 (rm_min hw (z - (0 : Int32)) (2 : Int32) h11 n0 Z12 hmn) N10 e11 pd_20 hml (dk d36_24) ?_
  rintro _ T14 L14 X14 N14 ⟨rfl, hh14⟩
  obtain ⟨T15, h15, L15, X15, e15, N15, K15, V15, st15⟩ := own_cpt (n := 2) X14 hx hZ hown (W 165 rfl) (W 168 rfl) (W 166 rfl) (W 167 rfl) hh14 (pr1.ext E11) V11 rfl (by decide) (by decide) hle (by decide) hvl N14 (Nat.le_trans Z0 sz_b11) (g := (mkF m 27 #[vr b1, vi 0, vi 2, vi 2, vr b11] [(.int 2), (.int 0), (.ref b11), (.int 0), (.ref b1)])) rfl (by rw [hml]; rfl) rfl (dk d36_27) (by decide) (W := 0) (by show 2 * 0 + _ ≤ _; exact Nat.le_of_eq rfl) (by decide)
  have O16 := O12.keep K15 (allS (Nat.le_trans Z0 sz_b11) all0)
  have Z16 : n0 ≤ h15.size := Nat.le_trans Z12 K15.1
  refine gz X15 30 #[vr b1, vi 0, vi 2, vi 2, vr b11] [] st15 ?_
  refine gz X15 32 #[vr b1, vi 0, vi 2, vi 2, vr b11] [(.ref b11)] (fun _ k => aI X15 hx (dk d36_30) rfl rfl k) ?_
  refine Go.retA X15 hx hlk (t := (.array .byte)) hret (dk d36_32) ?_
  rw [e15]
  exact ⟨N15, b11, k11, rfl, (((Keep.refl h0 []).ext E11).trans K15 (allS (Or.inr (Nat.le_trans (Nat.le_refl _) sz_b11)) all0)), V15, (Nat.le_trans (Nat.le_refl _) sz_b11)⟩
theorem rm_cpr_2 {l : Launch} {Z : State} {a0 : Array Value} (hw : HW a0 Z) (b1 : Addr) (kb : ClassId) (z : Int32) (vs : List Value) (h0 : Heap) (n0 : Nat) (Z0 : n0 ≤ h0.size) (pr0 : Old Z n0 h0) (pr1 : Arv Z h0 b1 kb .byte z vs (.int 0)) (hne : ¬ ((2 : Int32) = z)) (hmn : (2 : Int32) < (z - (0 : Int32))) (hle : 2 ≤ z.toNatClampNeg) (hvl : 2 ≤ vs.length) :
    Met l Z Y43 B36 3 (some (.array .byte)) [] ({ frames := 2, cells := 1, slots := 2, locals := 34 } : Room) #[(.ref b1), (.int 0), (.int 2)] h0 (fun vv h L => Fr n0 L ∧ ∃ b : Addr, ∃ k : ClassId, vv = some (.ref b) ∧ Keep h0 h [] ∧ Arv Z h b k .byte (2 : Int32) (vs.take 2) (.int 0) ∧ h0.size ≤ b) := by
  refine Met.enter (f0 := fun m => mkF m 0 #[vr b1, vi 0, vi 2] []) (plainFor_of_name pn7) (fun m => oe m 0) ?_
  intro p e s m below meth c s₁ hx hby hml hown hnm hret hlk hZ X0 e0
  have dk : Dk B36 c := fun h => hb hby h
  have W := @wd _ _ _ hw
  have N0 := Fr.nil n0
  refine gz X0 6 #[vr b1, vi 0, vi 2] [(.ref b1), (.int 2)] (fun _ k => lN X0 hx (dk d35_0) rfl (fN X0 hx (dk d35_1) rfl ((if0 _ _).trans (teq (by decide)).2) (lN X0 hx (dk d35_4) rfl (aN X0 hx (dk d35_5) rfl rfl k)))) ?_
  obtain ⟨cl10, Ar10, q10, S10, N_10, Hs10, G10⟩ := id pr1
  refine gz X0 7 #[vr b1, vi 0, vi 2] [(.int z), (.int 2)] (fun _ k => X0.arraylength hx (by rw [e0]; exact Ar10.1) (State.isArrayOf_alike hZ.alike Ar10.2.1) (g := (mkF m 6 #[vr b1, vi 0, vi 2] [(.ref b1), (.int 2)])) rfl rfl (dk d35_6) _ (by rw [len_of S10 N_10]; exact k)) ?_
  refine gz X0 13 #[vr b1, vi 0, vi 2] [(.int 2), (.int 0), (.ref b1)] (fun _ k => cN X0 hx (dk d35_7) rfl (feq hne).1 (aN X0 hx (dk d35_10) rfl rfl (lN X0 hx (dk d35_11) rfl (lN X0 hx (dk d35_12) rfl k)))) ?_
  refine goS X0 hx hZ hown (W 155 rfl) (m26 hw) 3 1 2 (rm_cprb_2 hw b1 kb z vs h0 n0 Z0 pr0 pr1 hne hmn hle hvl) N0 e0 pd_21 hml (dk d35_13) ?_
  rintro _ T11 L11 X11 N11 ⟨b11, k11, rfl, K11, p11_0, p11_1⟩
  have O12 := pr0.keep K11 all0
  have Z12 : n0 ≤ T11.heap.size := Nat.le_trans Z0 K11.1
  have sz_b11 : h0.size ≤ b11 := p11_1
  refine gz X11 16 #[vr b1, vi 0, vi 2] [(.ref b11)] (fun _ k => k) ?_
  refine Go.retA X11 hx hlk (t := (.array .byte)) hret (dk d35_16) ?_
  exact ⟨N11, b11, k11, rfl, ((Keep.refl h0 []).trans K11 all0), p11_0, (Nat.le_trans (Nat.le_refl _) sz_b11)⟩
theorem rm_cprb_4 {l : Launch} {Z : State} {a0 : Array Value} (hw : HW a0 Z) (b1 : Addr) (kb : ClassId) (z : Int32) (vs : List Value) (h0 : Heap) (n0 : Nat) (Z0 : n0 ≤ h0.size) (pr0 : Old Z n0 h0) (pr1 : Arv Z h0 b1 kb .byte z vs (.int 0)) (hne : ¬ ((4 : Int32) = z)) (hmn : (4 : Int32) < (z - (0 : Int32))) (hle : 4 ≤ z.toNatClampNeg) (hvl : 4 ≤ vs.length) :
    Met l Z Y44 B37 5 (some (.array .byte)) [] ({ frames := 1, cells := 1, slots := 4, locals := 18 } : Room) #[(.ref b1), (.int 0), (.int 4)] h0 (fun vv h L => Fr n0 L ∧ ∃ b : Addr, ∃ k : ClassId, vv = some (.ref b) ∧ Keep h0 h [] ∧ Arv Z h b k .byte (4 : Int32) (vs.take 4) (.int 0) ∧ h0.size ≤ b) := by
  refine Met.enter (f0 := fun m => mkF m 0 #[vr b1, vi 0, vi 4, .unset, .unset] []) (plainFor_of_name pn7) (fun m => oe m 2) ?_
  intro p e s m below meth c s₁ hx hby hml hown hnm hret hlk hZ X0 e0
  have dk : Dk B37 c := fun h => hb hby h
  have W := @wd _ _ _ hw
  have N0 := Fr.nil n0
  refine gz X0 2 #[vr b1, vi 0, vi 4, .unset, .unset] [(.int 4), (.int 0)] (fun _ k => lN X0 hx (dk d36_0) rfl (lN X0 hx (dk d36_1) rfl k)) ?_
  refine goS X0 hx hZ hown (W 158 rfl) (m24 hw) 2 0 0 (rm_chk hw (0 : Int32) (4 : Int32) h0 n0 Z0 (by decide)) N0 e0 pd_11 hml (dk d36_2) ?_
  rintro _ T10 L10 X10 N10 ⟨rfl, hh10⟩
  refine gz X10 10 #[vr b1, vi 0, vi 4, vi 4, .unset] [(.int 4)] (fun _ k => lN X10 hx (dk d36_5) rfl (lN X10 hx (dk d36_6) rfl (XS.isub X10.here hx rfl (dk d36_7) rfl (sN X10 hx (dk d36_8) rfl rfl (.inl rfl) (lN X10 hx (dk d36_9) rfl k))))) ?_
  obtain ⟨T11, h11, k11, X11, e11, E11, A11, st11⟩ := newP X10 hx hZ (W 26 rfl) hh10 (g := (mkF m 10 #[vr b1, vi 0, vi 4, vi 4, .unset] [(.int 4)])) rfl (dk d36_10) rfl (by decide) (cap := 4) (by decide) (by decide) (by decide) (by decide)
  obtain ⟨b11, g11⟩ : ∃ z, z = h0.size := ⟨_, rfl⟩
  rw [← g11] at A11 st11
  have sz_b11 : h0.size ≤ b11 := Nat.le_of_eq g11.symm
  have V11 : Arv Z h11 b11 k11 .byte (4 : Int32) [(.int 0), (.int 0), (.int 0), (.int 0)] (.int 0) := (Arv.new A11 (by decide)).pad (pad_rep [] (.int 0) 4)
  have O12 := pr0.ext E11
  have Z12 : n0 ≤ h11.size := Nat.le_trans Z0 E11.1
  refine gz X11 20 #[vr b1, vi 0, vi 4, vi 4, vr b11] [(.ref b1), (.int 0), (.ref b11), (.int 0), (.ref b1)] (fun _ k => st11 _ (tI X11 hx (dk d36_12) rfl rfl rfl (.inl rfl) (aN X11 hx (dk d36_14) rfl rfl (lN X11 hx (dk d36_15) rfl (aI X11 hx (dk d36_16) rfl rfl (kC X11 hx (dk d36_18) (aN X11 hx (dk d36_19) rfl rfl k))))))) ?_
  obtain ⟨cl13, Ar13, q13, S13, N_13, Hs13, G13⟩ := id (pr1.ext E11)
  refine gz X11 21 #[vr b1, vi 0, vi 4, vi 4, vr b11] [(.int z), (.int 0), (.ref b11), (.int 0), (.ref b1)] (fun _ k => X11.arraylength hx (by rw [e11]; exact Ar13.1) (State.isArrayOf_alike hZ.alike Ar13.2.1) (g := (mkF m 20 #[vr b1, vi 0, vi 4, vi 4, vr b11] [(.ref b1), (.int 0), (.ref b11), (.int 0), (.ref b1)])) rfl rfl (dk d36_20) _ (by rw [len_of S13 N_13]; exact k)) ?_
  refine gz X11 24 #[vr b1, vi 0, vi 4, vi 4, vr b11] [(.int 4), (.int (z - (0 : Int32))), (.int 0), (.ref b11), (.int 0), (.ref b1)] (fun _ k => lN X11 hx (dk d36_21) rfl (XS.isub X11.here hx rfl (dk d36_22) rfl (lN X11 hx (dk d36_23) rfl k))) ?_
  refine goS X11 hx hZ hown (W 161 rfl) (m25 hw) 2 1 4 (rm_min hw (z - (0 : Int32)) (4 : Int32) h11 n0 Z12 hmn) N10 e11 pd_20 hml (dk d36_24) ?_
  rintro _ T14 L14 X14 N14 ⟨rfl, hh14⟩
  obtain ⟨T15, h15, L15, X15, e15, N15, K15, V15, st15⟩ := own_cpt (n := 4) X14 hx hZ hown (W 165 rfl) (W 168 rfl) (W 166 rfl) (W 167 rfl) hh14 (pr1.ext E11) V11 rfl (by decide) (by decide) hle (by decide) hvl N14 (Nat.le_trans Z0 sz_b11) (g := (mkF m 27 #[vr b1, vi 0, vi 4, vi 4, vr b11] [(.int 4), (.int 0), (.ref b11), (.int 0), (.ref b1)])) rfl (by rw [hml]; rfl) rfl (dk d36_27) (by decide) (W := 0) (by show 2 * 0 + _ ≤ _; exact Nat.le_of_eq rfl) (by decide)
  have O16 := O12.keep K15 (allS (Nat.le_trans Z0 sz_b11) all0)
  have Z16 : n0 ≤ h15.size := Nat.le_trans Z12 K15.1
  refine gz X15 30 #[vr b1, vi 0, vi 4, vi 4, vr b11] [] st15 ?_
  refine gz X15 32 #[vr b1, vi 0, vi 4, vi 4, vr b11] [(.ref b11)] (fun _ k => aI X15 hx (dk d36_30) rfl rfl k) ?_
  refine Go.retA X15 hx hlk (t := (.array .byte)) hret (dk d36_32) ?_
  rw [e15]
  exact ⟨N15, b11, k11, rfl, (((Keep.refl h0 []).ext E11).trans K15 (allS (Or.inr (Nat.le_trans (Nat.le_refl _) sz_b11)) all0)), V15, (Nat.le_trans (Nat.le_refl _) sz_b11)⟩
theorem rm_cpr_4 {l : Launch} {Z : State} {a0 : Array Value} (hw : HW a0 Z) (b1 : Addr) (kb : ClassId) (z : Int32) (vs : List Value) (h0 : Heap) (n0 : Nat) (Z0 : n0 ≤ h0.size) (pr0 : Old Z n0 h0) (pr1 : Arv Z h0 b1 kb .byte z vs (.int 0)) (hne : ¬ ((4 : Int32) = z)) (hmn : (4 : Int32) < (z - (0 : Int32))) (hle : 4 ≤ z.toNatClampNeg) (hvl : 4 ≤ vs.length) :
    Met l Z Y43 B36 3 (some (.array .byte)) [] ({ frames := 2, cells := 1, slots := 4, locals := 34 } : Room) #[(.ref b1), (.int 0), (.int 4)] h0 (fun vv h L => Fr n0 L ∧ ∃ b : Addr, ∃ k : ClassId, vv = some (.ref b) ∧ Keep h0 h [] ∧ Arv Z h b k .byte (4 : Int32) (vs.take 4) (.int 0) ∧ h0.size ≤ b) := by
  refine Met.enter (f0 := fun m => mkF m 0 #[vr b1, vi 0, vi 4] []) (plainFor_of_name pn7) (fun m => oe m 0) ?_
  intro p e s m below meth c s₁ hx hby hml hown hnm hret hlk hZ X0 e0
  have dk : Dk B36 c := fun h => hb hby h
  have W := @wd _ _ _ hw
  have N0 := Fr.nil n0
  refine gz X0 6 #[vr b1, vi 0, vi 4] [(.ref b1), (.int 4)] (fun _ k => lN X0 hx (dk d35_0) rfl (fN X0 hx (dk d35_1) rfl ((if0 _ _).trans (teq (by decide)).2) (lN X0 hx (dk d35_4) rfl (aN X0 hx (dk d35_5) rfl rfl k)))) ?_
  obtain ⟨cl10, Ar10, q10, S10, N_10, Hs10, G10⟩ := id pr1
  refine gz X0 7 #[vr b1, vi 0, vi 4] [(.int z), (.int 4)] (fun _ k => X0.arraylength hx (by rw [e0]; exact Ar10.1) (State.isArrayOf_alike hZ.alike Ar10.2.1) (g := (mkF m 6 #[vr b1, vi 0, vi 4] [(.ref b1), (.int 4)])) rfl rfl (dk d35_6) _ (by rw [len_of S10 N_10]; exact k)) ?_
  refine gz X0 13 #[vr b1, vi 0, vi 4] [(.int 4), (.int 0), (.ref b1)] (fun _ k => cN X0 hx (dk d35_7) rfl (feq hne).1 (aN X0 hx (dk d35_10) rfl rfl (lN X0 hx (dk d35_11) rfl (lN X0 hx (dk d35_12) rfl k)))) ?_
  refine goS X0 hx hZ hown (W 155 rfl) (m26 hw) 3 1 4 (rm_cprb_4 hw b1 kb z vs h0 n0 Z0 pr0 pr1 hne hmn hle hvl) N0 e0 pd_21 hml (dk d35_13) ?_
  rintro _ T11 L11 X11 N11 ⟨b11, k11, rfl, K11, p11_0, p11_1⟩
  have O12 := pr0.keep K11 all0
  have Z12 : n0 ≤ T11.heap.size := Nat.le_trans Z0 K11.1
  have sz_b11 : h0.size ≤ b11 := p11_1
  refine gz X11 16 #[vr b1, vi 0, vi 4] [(.ref b11)] (fun _ k => k) ?_
  refine Go.retA X11 hx hlk (t := (.array .byte)) hret (dk d35_16) ?_
  exact ⟨N11, b11, k11, rfl, ((Keep.refl h0 []).trans K11 all0), p11_0, (Nat.le_trans (Nat.le_refl _) sz_b11)⟩
theorem d39_0 : DK B5 0 (.aload_n 0) 1 := by decide +kernel
theorem d39_1 : DK B5 1 (.invokespecial 1) 3 := by decide +kernel
theorem d39_4 : DK B5 4 (.aload_n 0) 1 := by decide +kernel
theorem d39_5 : DK B5 5 (.aload_n 1) 1 := by decide +kernel
theorem d39_6 : DK B5 6 (.putfield 9) 3 := by decide +kernel
theorem d39_9 : DK B5 9 (.aload_n 0) 1 := by decide +kernel
theorem d39_10 : DK B5 10 (.iload_n 2) 1 := by decide +kernel
theorem d39_11 : DK B5 11 (.putfield 15) 3 := by decide +kernel
theorem d39_14 : DK B5 14 .return_ 1 := by decide +kernel
theorem rm_sinit {l : Launch} {Z : State} {a0 : Array Value} (hw : HW a0 Z) (a1 : Addr) (v1 : Addr) (h0 : Heap) (n0 : Nat) (Z0 : n0 ≤ h0.size) (pr0 : Old Z n0 h0) (pr1 : XT Z h0 a1) (pr2 : Fld Z h0 a1 "java/lang/String" "value" "[B" .null) (pr3 : FC Z h0 a1 0) (pr4 : n0 ≤ a1) :
    Met l Z Y11 B5 3 none [] ({ frames := 1, cells := 0, slots := 0, locals := 12 } : Room) #[(.ref a1), (.ref v1), (.int 0)] h0 (fun vv h L => Fr n0 L ∧ vv = none ∧ Keep h0 h [a1] ∧ XT Z h a1 ∧ FV Z h a1 v1 ∧ FC Z h a1 0) := by
  refine Met.enter (f0 := fun m => mkF m 0 #[vr a1, vr v1, vi 0] []) (plainFor_of_name pn6) (fun m => oe m 0) ?_
  intro p e s m below meth c s₁ hx hby hml hown hnm hret hlk hZ X0 e0
  have dk : Dk B5 c := fun h => hb hby h
  have W := @wd _ _ _ hw
  have N0 := Fr.nil n0
  refine gz X0 1 #[vr a1, vr v1, vi 0] [(.ref a1)] (fun _ k => aN X0 hx (dk d39_0) rfl rfl k) ?_
  obtain ⟨T10, X10, e10, st10⟩ := initO X0 hx hZ hown (W 18 rfl) (W 19 rfl) (W 20 rfl) e0 (g := (mkF m 1 #[vr a1, vr v1, vi 0] [(.ref a1)])) rfl (by rw [hml]; rfl) rfl (dk d39_1) (by decide) (W := 0) (by show 2 * 0 + _ ≤ _; exact Nat.le_of_eq rfl) (by decide)
  refine gz X10 6 #[vr a1, vr v1, vi 0] [(.ref v1), (.ref a1)] (fun _ k => st10 _ (aN X10 hx (dk d39_4) rfl rfl (aN X10 hx (dk d39_5) rfl rfl k))) ?_
  obtain ⟨T11, h11, X11, e11, W11, st11⟩ := putF X10 hx hZ hown (host := "") (Or.inl (W 35 rfl)) Via.refl e10 pr2 pr1 (Or.inr ⟨(W 36 rfl), rfl, hnm⟩) (W 9 rfl) (ty := (.array .byte)) (by decide) rfl rfl (g := (mkF m 6 #[vr a1, vr v1, vi 0] [(.ref v1), (.ref a1)])) rfl rfl (dk d39_6)
  have N11 := Fr.snoc X11 N0 pr4
  have O12 := pr0.wr W11 pr4
  have Z12 : n0 ≤ h11.size := Nat.le_trans Z0 (Keep.of_wr W11).1
  have F11 := pr2.same W11
  refine gz X11 11 #[vr a1, vr v1, vi 0] [(.int 0), (.ref a1)] (fun _ k => st11 _ (aN X11 hx (dk d39_9) rfl rfl (lN X11 hx (dk d39_10) rfl k))) ?_
  have f13 := (pr3.other W11 (Or.inr (slot_ne (Or.inr (W 34 rfl)) (Or.inr (W 36 rfl)) (by decide) (t := .byte) (t' := (.array .byte)) (by decide) (by decide))))
  obtain ⟨T14, h14, X14, e14, W14, st14⟩ := putFN X11 hx hZ hown (W 33 rfl) Via.refl e11 f13 (pr1.wr W11) (Or.inr ⟨(W 34 rfl), rfl, hnm⟩) (W 9 rfl) (ty := .byte) (v' := (.int 0)) (by decide) rfl rfl (g := (mkF m 11 #[vr a1, vr v1, vi 0] [(.int 0), (.ref a1)])) rfl rfl (dk d39_11)
  have N14 := Fr.snoc X14 N11 pr4
  have O15 := O12.wr W14 pr4
  have Z15 : n0 ≤ h14.size := Nat.le_trans Z12 (Keep.of_wr W14).1
  have F14 := f13.same W14
  refine gz X14 14 #[vr a1, vr v1, vi 0] [] (fun _ k => st14 _ k) ?_
  refine Go.retV X14 hx hlk hret (dk d39_14) (by decide) (by decide) ?_
  rw [e14]
  exact ⟨N14, rfl, (((Keep.refl h0 [a1]).wr W11 (Or.inl (List.mem_of_getElem? (i := 0) rfl))).wr W14 (Or.inl (List.mem_of_getElem? (i := 0) rfl))), ((pr1.wr W11).wr W14), (F11.other W14 (Or.inr (slot_ne (Or.inr (W 36 rfl)) (Or.inr (W 34 rfl)) (by decide) (t := (.array .byte)) (t' := .byte) (by decide) (by decide)))), F14⟩
theorem rm_sinit1 {l : Launch} {Z : State} {a0 : Array Value} (hw : HW a0 Z) (a1 : Addr) (v1 : Addr) (h0 : Heap) (n0 : Nat) (Z0 : n0 ≤ h0.size) (pr0 : Old Z n0 h0) (pr1 : XT Z h0 a1) (pr2 : Fld Z h0 a1 "java/lang/String" "value" "[B" .null) (pr3 : FC Z h0 a1 0) (pr4 : n0 ≤ a1) :
    Met l Z Y11 B5 3 none [] ({ frames := 1, cells := 0, slots := 0, locals := 12 } : Room) #[(.ref a1), (.ref v1), (.int 1)] h0 (fun vv h L => Fr n0 L ∧ vv = none ∧ Keep h0 h [a1] ∧ XT Z h a1 ∧ FV Z h a1 v1 ∧ FC Z h a1 1) := by
  refine Met.enter (f0 := fun m => mkF m 0 #[vr a1, vr v1, vi 1] []) (plainFor_of_name pn6) (fun m => oe m 0) ?_
  intro p e s m below meth c s₁ hx hby hml hown hnm hret hlk hZ X0 e0
  have dk : Dk B5 c := fun h => hb hby h
  have W := @wd _ _ _ hw
  have N0 := Fr.nil n0
  refine gz X0 1 #[vr a1, vr v1, vi 1] [(.ref a1)] (fun _ k => aN X0 hx (dk d39_0) rfl rfl k) ?_
  obtain ⟨T10, X10, e10, st10⟩ := initO X0 hx hZ hown (W 18 rfl) (W 19 rfl) (W 20 rfl) e0 (g := (mkF m 1 #[vr a1, vr v1, vi 1] [(.ref a1)])) rfl (by rw [hml]; rfl) rfl (dk d39_1) (by decide) (W := 0) (by show 2 * 0 + _ ≤ _; exact Nat.le_of_eq rfl) (by decide)
  refine gz X10 6 #[vr a1, vr v1, vi 1] [(.ref v1), (.ref a1)] (fun _ k => st10 _ (aN X10 hx (dk d39_4) rfl rfl (aN X10 hx (dk d39_5) rfl rfl k))) ?_
  obtain ⟨T11, h11, X11, e11, W11, st11⟩ := putF X10 hx hZ hown (host := "") (Or.inl (W 35 rfl)) Via.refl e10 pr2 pr1 (Or.inr ⟨(W 36 rfl), rfl, hnm⟩) (W 9 rfl) (ty := (.array .byte)) (by decide) rfl rfl (g := (mkF m 6 #[vr a1, vr v1, vi 1] [(.ref v1), (.ref a1)])) rfl rfl (dk d39_6)
  have N11 := Fr.snoc X11 N0 pr4
  have O12 := pr0.wr W11 pr4
  have Z12 : n0 ≤ h11.size := Nat.le_trans Z0 (Keep.of_wr W11).1
  have F11 := pr2.same W11
  refine gz X11 11 #[vr a1, vr v1, vi 1] [(.int 1), (.ref a1)] (fun _ k => st11 _ (aN X11 hx (dk d39_9) rfl rfl (lN X11 hx (dk d39_10) rfl k))) ?_
  have f13 := (pr3.other W11 (Or.inr (slot_ne (Or.inr (W 34 rfl)) (Or.inr (W 36 rfl)) (by decide) (t := .byte) (t' := (.array .byte)) (by decide) (by decide))))
  obtain ⟨T14, h14, X14, e14, W14, st14⟩ := putFN X11 hx hZ hown (W 33 rfl) Via.refl e11 f13 (pr1.wr W11) (Or.inr ⟨(W 34 rfl), rfl, hnm⟩) (W 9 rfl) (ty := .byte) (v' := (.int 1)) (by decide) rfl rfl (g := (mkF m 11 #[vr a1, vr v1, vi 1] [(.int 1), (.ref a1)])) rfl rfl (dk d39_11)
  have N14 := Fr.snoc X14 N11 pr4
  have O15 := O12.wr W14 pr4
  have Z15 : n0 ≤ h14.size := Nat.le_trans Z12 (Keep.of_wr W14).1
  have F14 := f13.same W14
  refine gz X14 14 #[vr a1, vr v1, vi 1] [] (fun _ k => st14 _ k) ?_
  refine Go.retV X14 hx hlk hret (dk d39_14) (by decide) (by decide) ?_
  rw [e14]
  exact ⟨N14, rfl, (((Keep.refl h0 [a1]).wr W11 (Or.inl (List.mem_of_getElem? (i := 0) rfl))).wr W14 (Or.inl (List.mem_of_getElem? (i := 0) rfl))), ((pr1.wr W11).wr W14), (F11.other W14 (Or.inr (slot_ne (Or.inr (W 36 rfl)) (Or.inr (W 34 rfl)) (by decide) (t := (.array .byte)) (t' := .byte) (by decide) (by decide)))), F14⟩
theorem d20_0 : DK B17 0 (.iload_n 2) 1 := by decide +kernel
theorem d20_1 : DK B17 1 (.ifCond .ne 6) 3 := by decide +kernel
theorem d20_4 : DK B17 4 (.ldc 151) 2 := by decide +kernel
theorem d20_6 : DK B17 6 .areturn 1 := by decide +kernel
def Q_rm_l1n_0 (Z : State) (b1 : Addr) (h0 : Heap) (n0 : Nat) (vv : Option Value) (h : Heap) (L : List Loc) : Prop := Fr n0 L ∧ ∃ b : Addr, ∃ t : Addr, ∃ k : ClassId, vv = some (.ref b) ∧ Keep h0 h [] ∧ XT Z h b ∧ FV Z h b t ∧ FC Z h b 0 ∧ Arv Z h t k .byte (0 : Int32) [] (.int 0)
theorem rm_l1n_0 {l : Launch} {Z : State} {a0 : Array Value} (hw : HW a0 Z) (b1 : Addr) (h0 : Heap) (n0 : Nat) (Z0 : n0 ≤ h0.size) (pr0 : Old Z n0 h0) :
    MetS l Z own_EL Y24 B17 3 (some (.object "java/lang/String")) [] ({ frames := 0, cells := 2, slots := 4, locals := 0 } : Room) #[(.ref b1), (.int 0), (.int 0)] h0 (Q_rm_l1n_0 Z b1 h0 n0) := by
  refine MetS.enter (f0 := fun m => mkF m 0 #[vr b1, vi 0, vi 0] []) (plainFor_of_name pn3) (fun m => oe m 0) ?_
  intro p e s m below meth c s₁ hx hby hml hown hnm hret hlk hZ X0 e0 hS C0
  have dk : Dk B17 c := fun h => hb hby h
  have W := @wd _ _ _ hw
  have N0 := Fr.nil n0
  have hk : h0.size ≤ h0.size := Nat.le_refl _
  have hEL : EW Z a0 own_EL := own_hEL hw
  have wS : ∀ a ∈ Bundle.stringAtoms, a.before a0 Z = true := own_wS hw
  refine gz X0 4 #[vr b1, vi 0, vi 0] [] (fun _ k => lN X0 hx (dk d20_0) rfl (fN X0 hx (dk d20_1) rfl ((if0 _ _).trans (teq (by decide)).2) k)) ?_
  obtain ⟨la10, T10, h10, k110, lb10, kk10, X10, e10, E10, hS, hk, hZ, hown, EA10, FC10, FV10, VA10, -, -, CS10, LI10, SN10, st10⟩ := ldcCH (vs := []) (z := (0 : Int32)) X0 hx hZ hown (W 88 rfl) wS e0 hS hk hEL (by decide) C0.1 ⟨by decide, by decide⟩ (by decide) rfl (g := (mkF m 4 #[vr b1, vi 0, vi 0] [])) rfl (dk d20_4) (n := 0) (by decide) (by decide) (by decide) (by decide)
  have C11 := C0.trans CS10
  have O11 := pr0.ext E10
  have Z11 : n0 ≤ h10.size := Nat.le_trans Z0 E10.1
  refine gz X10 6 #[vr b1, vi 0, vi 0] [(.ref la10)] (fun _ k => st10 _ k) ?_
  have hkE12 : _ ≤ T10.heap.size := (by rw [e10]; exact hk)
  have CE12 : CHr Z own_EL s.vm s.heap T10.vm T10.heap := (by rw [e10]; exact C11)
  refine Go.retS X10 hx hlk hS hkE12 hZ hEL CE12 (t := (.object "java/lang/String")) hret rfl (Or.inr (Or.inr (Or.inr (Or.inr ⟨rfl, rfl, rfl⟩)))) (dk d20_6) (by decide) (by decide) ?_
  rw [e10]
  exact ⟨N0, la10, lb10, kk10, rfl, ((Keep.refl h0 []).ext E10), EA10, FV10, FC10, VA10⟩
theorem d34_0 : DK B28 0 (.iload_n 2) 1 := by decide +kernel
theorem d34_1 : DK B28 1 (.ifCond .ne 7) 3 := by decide +kernel
theorem d34_4 : DK B28 4 (.ldc_w 295) 3 := by decide +kernel
theorem d34_7 : DK B28 7 .areturn 1 := by decide +kernel
def Q_rm_u16n_0 (Z : State) (b1 : Addr) (h0 : Heap) (n0 : Nat) (vv : Option Value) (h : Heap) (L : List Loc) : Prop := Fr n0 L ∧ ∃ b : Addr, ∃ t : Addr, ∃ k : ClassId, vv = some (.ref b) ∧ Keep h0 h [] ∧ XT Z h b ∧ FV Z h b t ∧ FC Z h b 0 ∧ Arv Z h t k .byte (0 : Int32) [] (.int 0)
theorem rm_u16n_0 {l : Launch} {Z : State} {a0 : Array Value} (hw : HW a0 Z) (b1 : Addr) (h0 : Heap) (n0 : Nat) (Z0 : n0 ≤ h0.size) (pr0 : Old Z n0 h0) :
    MetS l Z own_EL Y39 B28 5 (some (.object "java/lang/String")) [] ({ frames := 0, cells := 2, slots := 4, locals := 0 } : Room) #[(.ref b1), (.int 0), (.int 0)] h0 (Q_rm_u16n_0 Z b1 h0 n0) := by
  refine MetS.enter (f0 := fun m => mkF m 0 #[vr b1, vi 0, vi 0, .unset, .unset] []) (plainFor_of_name pn4) (fun m => oe m 2) ?_
  intro p e s m below meth c s₁ hx hby hml hown hnm hret hlk hZ X0 e0 hS C0
  have dk : Dk B28 c := fun h => hb hby h
  have W := @wd _ _ _ hw
  have N0 := Fr.nil n0
  have hk : h0.size ≤ h0.size := Nat.le_refl _
  have hEL : EW Z a0 own_EL := own_hEL hw
  have wS : ∀ a ∈ Bundle.stringAtoms, a.before a0 Z = true := own_wS hw
  refine gz X0 4 #[vr b1, vi 0, vi 0, .unset, .unset] [] (fun _ k => lN X0 hx (dk d34_0) rfl (fN X0 hx (dk d34_1) rfl ((if0 _ _).trans (teq (by decide)).2) k)) ?_
  obtain ⟨la10, T10, h10, k110, lb10, kk10, X10, e10, E10, hS, hk, hZ, hown, EA10, FC10, FV10, VA10, CS10, st10⟩ := own_ldcE X0 hx hZ hown (W 148 rfl) wS e0 hS hk hEL (by decide) C0.1 (g := (mkF m 4 #[vr b1, vi 0, vi 0, .unset, .unset] [])) rfl (dk d34_4) (by decide) (by decide)
  have C11 := C0.trans CS10
  have O11 := pr0.ext E10
  have Z11 : n0 ≤ h10.size := Nat.le_trans Z0 E10.1
  refine gz X10 7 #[vr b1, vi 0, vi 0, .unset, .unset] [(.ref la10)] (fun _ k => st10 _ k) ?_
  have hkE12 : _ ≤ T10.heap.size := (by rw [e10]; exact hk)
  have CE12 : CHr Z own_EL s.vm s.heap T10.vm T10.heap := (by rw [e10]; exact C11)
  refine Go.retS X10 hx hlk hS hkE12 hZ hEL CE12 (t := (.object "java/lang/String")) hret rfl (Or.inr (Or.inr (Or.inr (Or.inr ⟨rfl, rfl, rfl⟩)))) (dk d34_7) (by decide) (by decide) ?_
  rw [e10]
  exact ⟨N0, la10, lb10, kk10, rfl, ((Keep.refl h0 []).ext E10), EA10, FV10, FC10, VA10⟩
theorem d20_7 : DK B17 7 (.new 1) 3 := by decide +kernel
theorem d20_10 : DK B17 10 .dup 1 := by decide +kernel
theorem d20_11 : DK B17 11 (.aload_n 0) 1 := by decide +kernel
theorem d20_12 : DK B17 12 (.iload_n 1) 1 := by decide +kernel
theorem d20_13 : DK B17 13 (.iload_n 1) 1 := by decide +kernel
theorem d20_14 : DK B17 14 (.iload_n 2) 1 := by decide +kernel
theorem d20_15 : DK B17 15 .iadd 1 := by decide +kernel
theorem d20_16 : DK B17 16 (.invokestatic 232) 3 := by decide +kernel
theorem m27 {Z : State} {a0 : Array Value} (hw : HW a0 Z) : (Jvm.Cond.static Y43).before a0 Z = true ∧ (Jvm.Cond.initialized "java/util/Arrays").before a0 Z = true ∧ (Jvm.Cond.code Y43 B36 (3 : Nat) (Option.some (Jvm.ClassFile.FieldType.array Jvm.ClassFile.FieldType.byte))).before a0 Z = true := ⟨(wd hw 152 rfl), (wd hw 153 rfl), (wd hw 154 rfl)⟩
theorem d20_19 : DK B17 19 (.iconst 0) 1 := by decide +kernel
theorem d20_20 : DK B17 20 (.invokespecial 112) 3 := by decide +kernel
theorem pd_22 : parseMethodDescriptor "([BB)V" = some ⟨[(.array .byte), .byte], none⟩ := by decide +kernel
theorem m28 {Z : State} {a0 : Array Value} (hw : HW a0 Z) : (Jvm.Cond.instanceMethod Y11).before a0 Z = true ∧ (Jvm.Cond.initialized "java/lang/String").before a0 Z = true ∧ (Jvm.Cond.code Y11 B5 (3 : Nat) (Option.none : Option Jvm.ClassFile.FieldType)).before a0 Z = true := ⟨(wd hw 170 rfl), (wd hw 10 rfl), (wd hw 171 rfl)⟩
theorem d20_23 : DK B17 23 .areturn 1 := by decide +kernel
theorem rm_l1n_1 {l : Launch} {Z : State} {a0 : Array Value} (hw : HW a0 Z) (b1 : Addr) (kb : ClassId) (z : Int32) (vs : List Value) (h0 : Heap) (n0 : Nat) (Z0 : n0 ≤ h0.size) (pr0 : Old Z n0 h0) (pr1 : Arv Z h0 b1 kb .byte z vs (.int 0)) (hne : ¬ ((1 : Int32) = z)) (hmn : (1 : Int32) < (z - (0 : Int32))) (hle : 1 ≤ z.toNatClampNeg) (hvl : 1 ≤ vs.length) :
    Met l Z Y24 B17 3 (some (.object "java/lang/String")) [] ({ frames := 3, cells := 2, slots := 5, locals := 50 } : Room) #[(.ref b1), (.int 0), (.int 1)] h0 (fun vv h L => Fr n0 L ∧ ∃ b : Addr, ∃ t : Addr, ∃ k : ClassId, vv = some (.ref b) ∧ Keep h0 h [] ∧ XT Z h b ∧ FV Z h b t ∧ FC Z h b 0 ∧ Arv Z h t k .byte (1 : Int32) (vs.take 1) (.int 0) ∧ h0.size ≤ b ∧ h0.size ≤ t) := by
  refine Met.enter (f0 := fun m => mkF m 0 #[vr b1, vi 0, vi 1] []) (plainFor_of_name pn3) (fun m => oe m 0) ?_
  intro p e s m below meth c s₁ hx hby hml hown hnm hret hlk hZ X0 e0
  have dk : Dk B17 c := fun h => hb hby h
  have W := @wd _ _ _ hw
  have N0 := Fr.nil n0
  refine gz X0 7 #[vr b1, vi 0, vi 1] [] (fun _ k => lN X0 hx (dk d20_0) rfl (fY X0 hx 1 7 rfl (dk d20_1) rfl ((if0 _ _).trans (feq (by decide)).2) k)) ?_
  obtain ⟨T10, h10, X10, e10, E10, A10, D10, -, st10⟩ := newO X0 hx hZ hown (W 150 rfl) (W 9 rfl) (W 10 rfl) e0 (g := (mkF m 7 #[vr b1, vi 0, vi 1] [])) rfl (dk d20_7) (by decide) (by decide)
  obtain ⟨b10, g10⟩ : ∃ z, z = h0.size := ⟨_, rfl⟩
  rw [← g10] at A10 D10 st10
  have sz_b10 : h0.size ≤ b10 := Nat.le_of_eq g10.symm
  have O11 := pr0.ext E10
  have Z11 : n0 ≤ h10.size := Nat.le_trans Z0 E10.1
  have F12 : FC Z h10 b10 0 := D10 (Or.inr (W 34 rfl)) (ty := .byte) (by decide)
  have F13 : Fld Z h10 b10 "java/lang/String" "value" "[B" .null := D10 (Or.inr (W 36 rfl)) (ty := (.array .byte)) (by decide)
  refine gz X10 16 #[vr b1, vi 0, vi 1] [(.int 1), (.int 0), (.ref b1), (.ref b10), (.ref b10)] (fun _ k => st10 _ (XS.dup X10.here hx rfl (dk d20_10) rfl rfl (aN X10 hx (dk d20_11) rfl rfl (lN X10 hx (dk d20_12) rfl (lN X10 hx (dk d20_13) rfl (lN X10 hx (dk d20_14) rfl (pI X10 hx (dk d20_15) rfl k))))))) ?_
  refine goS X10 hx hZ hown (W 151 rfl) (m27 hw) 3 2 5 (rm_cpr_1 hw b1 kb z vs h10 n0 Z11 O11 (pr1.ext E10) hne hmn hle hvl) N0 e10 pd_21 hml (dk d20_16) ?_
  rintro _ T14 L14 X14 N14 ⟨b14, k14, rfl, K14, p14_0, p14_1⟩
  have O15 := O11.keep K14 all0
  have Z15 : n0 ≤ T14.heap.size := Nat.le_trans Z11 K14.1
  have sz_b14 : h10.size ≤ b14 := p14_1
  refine gz X14 20 #[vr b1, vi 0, vi 1] [(.int 0), (.ref b14), (.ref b10), (.ref b10)] (fun _ k => kC X14 hx (dk d20_19) k) ?_
  refine goI X14 hx hZ hown (W 169 rfl) (m28 hw) 2 2 5 (rm_sinit hw b10 b14 T14.heap n0 Z15 O15 (A10.keep K14) (F13.keep K14 nin0) (F12.keep K14 nin0) (Nat.le_trans Z0 sz_b10)) N14 rfl pd_22 hml (dk d20_20) ?_
  rintro _ T16 L16 X16 N16 ⟨rfl, K16, p16_0, p16_1, p16_2⟩
  have O17 := O15.keep K16 (allS (Nat.le_trans Z0 sz_b10) all0)
  have Z17 : n0 ≤ T16.heap.size := Nat.le_trans Z15 K16.1
  refine gz X16 23 #[vr b1, vi 0, vi 1] [(.ref b10)] (fun _ k => k) ?_
  refine Go.retA X16 hx hlk (t := (.object "java/lang/String")) hret (dk d20_23) ?_
  exact ⟨N16, b10, b14, k14, rfl, ((((Keep.refl h0 []).ext E10).trans K14 all0).trans K16 (allS (Or.inr (Nat.le_trans (Nat.le_refl _) sz_b10)) all0)), p16_0, p16_1, p16_2, (p14_0.keep K16 (ninS (Ne.symm (Nat.ne_of_lt (Nat.lt_of_lt_of_le A10.lt sz_b14))) nin0)), (Nat.le_trans (Nat.le_refl _) sz_b10), (Nat.le_trans (Nat.le_trans (Nat.le_refl _) E10.1) sz_b14)⟩
theorem ef_rm_cfis_1 (m : MethodId) (x2 : Int32) (x3 : Value) (hx3 : x3.category = 1) : entryFrame m #[(.int 0), (.int 1), (.int x2), x3] 4 = mkF m 0 #[vi 0, vi 1, vi x2, .val x3] [] := own_ent m (xs := [(.int 0), (.int 1), (.int x2), x3]) (k := 0) (own_a rfl (own_a rfl (own_a rfl (own_a hx3 (fun _ q => nomatch q))))) rfl
theorem d47_0 : DK B3 0 (.iload_n 2) 1 := by decide +kernel
theorem d47_1 : DK B3 1 (.iload_n 0) 1 := by decide +kernel
theorem d47_2 : DK B3 2 .ior 1 := by decide +kernel
theorem d47_3 : DK B3 3 (.iload_n 1) 1 := by decide +kernel
theorem d47_4 : DK B3 4 .ior 1 := by decide +kernel
theorem d47_5 : DK B3 5 (.ifCond .lt 10) 3 := by decide +kernel
theorem d47_8 : DK B3 8 (.iload_n 1) 1 := by decide +kernel
theorem d47_9 : DK B3 9 (.iload_n 2) 1 := by decide +kernel
theorem d47_10 : DK B3 10 (.iload_n 0) 1 := by decide +kernel
theorem d47_11 : DK B3 11 .isub 1 := by decide +kernel
theorem d47_12 : DK B3 12 (.if_icmp .le 11) 3 := by decide +kernel
theorem d47_23 : DK B3 23 (.iload_n 0) 1 := by decide +kernel
theorem d47_24 : DK B3 24 .ireturn 1 := by decide +kernel
theorem rm_cfis_1 {l : Launch} {Z : State} {a0 : Array Value} (hw : HW a0 Z) (p3 : Int32) (fm : Value) (h0 : Heap) (n0 : Nat) (Z0 : n0 ≤ h0.size) (hr_fm : fm.isRef = true) (qb0 : ¬ (((p3 ||| (0 : Int32)) ||| (1 : Int32)) < (0 : Int32))) (qb1 : ¬ ((p3 - (0 : Int32)) < (1 : Int32))) :
    Met l Z Y45 B3 4 (some .int) [] ({ frames := 0, cells := 0, slots := 0, locals := 0 } : Room) #[(.int 0), (.int 1), (.int p3), fm] h0 (fun vv h L => Fr n0 L ∧ vv = some (.int 0) ∧ h = h0) := by
  refine Met.enter (f0 := fun m => mkF m 0 #[vi 0, vi 1, vi p3, .val fm] []) (plainFor_of_name pn2) (fun m => ef_rm_cfis_1 m p3 fm (own_cat hr_fm)) ?_
  intro p e s m below meth c s₁ hx hby hml hown hnm hret hlk hZ X0 e0
  have dk : Dk B3 c := fun h => hb hby h
  have W := @wd _ _ _ hw
  have N0 := Fr.nil n0
  refine gz X0 24 #[vi 0, vi 1, vi p3, .val fm] [(.int 0)] (fun _ k => lN X0 hx (dk d47_0) rfl (lN X0 hx (dk d47_1) rfl (XS.ior X0.here hx rfl (dk d47_2) rfl (lN X0 hx (dk d47_3) rfl (XS.ior X0.here hx rfl (dk d47_4) rfl (fN X0 hx (dk d47_5) rfl ((if0 _ _).trans (flt qb0).1) (lN X0 hx (dk d47_8) rfl (lN X0 hx (dk d47_9) rfl (lN X0 hx (dk d47_10) rfl (XS.isub X0.here hx rfl (dk d47_11) rfl (cY X0 hx 12 23 rfl (dk d47_12) rfl (flt qb1).2.2.2 (lN X0 hx (dk d47_23) rfl k)))))))))))) ?_
  refine Go.retJ X0 hx hlk (t := .int) hret (dk d47_24) ?_
  rw [e0]
  exact ⟨N0, rfl, rfl⟩
theorem d46_0 : DK B9 0 (.iload_n 0) 1 := by decide +kernel
theorem d46_1 : DK B9 1 (.iload_n 1) 1 := by decide +kernel
theorem d46_2 : DK B9 2 (.iload_n 2) 1 := by decide +kernel
theorem d46_3 : DK B9 3 (.getstatic 1053) 3 := by decide +kernel
theorem d46_6 : DK B9 6 (.invokestatic 1065) 3 := by decide +kernel
theorem m29 {Z : State} {a0 : Array Value} (hw : HW a0 Z) : (Jvm.Cond.static Y45).before a0 Z = true ∧ (Jvm.Cond.initialized "jdk/internal/util/Preconditions").before a0 Z = true ∧ (Jvm.Cond.code Y45 B3 (4 : Nat) (Option.some Jvm.ClassFile.FieldType.int)).before a0 Z = true := ⟨(wd hw 196 rfl), (wd hw 65 rfl), (wd hw 197 rfl)⟩
theorem d46_9 : DK B9 9 .ireturn 1 := by decide +kernel
theorem rm_scbo_1 {l : Launch} {Z : State} {a0 : Array Value} (hw : HW a0 Z) (p3 : Int32) (fm : Value) (h0 : Heap) (n0 : Nat) (Z0 : n0 ≤ h0.size) (pr0 : Old Z n0 h0) (pr1 : S4 Z fm) (hr_fm : fm.isRef = true) (qb0 : ¬ (((p3 ||| (0 : Int32)) ||| (1 : Int32)) < (0 : Int32))) (qb1 : ¬ ((p3 - (0 : Int32)) < (1 : Int32))) :
    Met l Z Y16 B9 3 (some .int) [] ({ frames := 1, cells := 0, slots := 0, locals := 15 } : Room) #[(.int 0), (.int 1), (.int p3)] h0 (fun vv h L => Fr n0 L ∧ vv = some (.int 0) ∧ h = h0) := by
  refine Met.enter (f0 := fun m => mkF m 0 #[vi 0, vi 1, vi p3] []) (plainFor_of_name pn6) (fun m => oe m 0) ?_
  intro p e s m below meth c s₁ hx hby hml hown hnm hret hlk hZ X0 e0
  have dk : Dk B9 c := fun h => hb hby h
  have W := @wd _ _ _ hw
  have N0 := Fr.nil n0
  refine gz X0 3 #[vi 0, vi 1, vi p3] [(.int p3), (.int 1), (.int 0)] (fun _ k => lN X0 hx (dk d46_0) rfl (lN X0 hx (dk d46_1) rfl (lN X0 hx (dk d46_2) rfl k))) ?_
  obtain ⟨T10, X10, e10, st10⟩ := getS2 X0 hx hZ hown (host := "") (Or.inl (W 64 rfl)) Via.refl e0 (pr1.ext pr0.2) (g := (mkF m 3 #[vi 0, vi 1, vi p3] [(.int p3), (.int 1), (.int 0)])) rfl (dk d46_3)
  refine gz X10 6 #[vi 0, vi 1, vi p3] [fm, (.int p3), (.int 1), (.int 0)] (fun _ k => st10 _ k) ?_
  refine goS X10 hx hZ hown (W 195 rfl) (m29 hw) 4 0 0 (rm_cfis_1 hw p3 fm h0 n0 Z0 hr_fm qb0 qb1) N0 e10 pd_19 hml (dk d46_6) ?_
  rintro _ T11 L11 X11 N11 ⟨rfl, hh11⟩
  refine gz X11 9 #[vi 0, vi 1, vi p3] [(.int 0)] (fun _ k => k) ?_
  refine Go.retJ X11 hx hlk (t := .int) hret (dk d46_9) ?_
  rw [hh11]
  exact ⟨N11, rfl, rfl⟩
theorem d45_0 : DK B34 0 (.iload_n 0) 1 := by decide +kernel
theorem d45_1 : DK B34 1 (.iload_n 1) 1 := by decide +kernel
theorem d45_2 : DK B34 2 (.aload_n 2) 1 := by decide +kernel
theorem d45_3 : DK B34 3 (.invokestatic 48) 3 := by decide +kernel
theorem d45_6 : DK B34 6 (.invokestatic 419) 3 := by decide +kernel
theorem pd_23 : parseMethodDescriptor "(III)I" = some ⟨[.int, .int, .int], some .int⟩ := by decide +kernel
theorem m30 {Z : State} {a0 : Array Value} (hw : HW a0 Z) : (Jvm.Cond.static Y16).before a0 Z = true ∧ (Jvm.Cond.initialized "java/lang/String").before a0 Z = true ∧ (Jvm.Cond.code Y16 B9 (3 : Nat) (Option.some Jvm.ClassFile.FieldType.int)).before a0 Z = true := ⟨(wd hw 193 rfl), (wd hw 10 rfl), (wd hw 194 rfl)⟩
theorem d45_9 : DK B34 9 .pop 1 := by decide +kernel
theorem d45_10 : DK B34 10 .return_ 1 := by decide +kernel
theorem rm_ucbo_1 {l : Launch} {Z : State} {a0 : Array Value} (hw : HW a0 Z) (b1 : Addr) (kb : ClassId) (z : Int32) (vs : List Value) (fm : Value) (h0 : Heap) (n0 : Nat) (Z0 : n0 ≤ h0.size) (pr0 : Old Z n0 h0) (pr1 : S4 Z fm) (hr_fm : fm.isRef = true) (pr3 : Arv Z h0 b1 kb .byte z vs (.int 0)) (qb0 : ¬ ((((z >>> ((1 : Int32) &&& 31)) ||| (0 : Int32)) ||| (1 : Int32)) < (0 : Int32))) (qb1 : ¬ (((z >>> ((1 : Int32) &&& 31)) - (0 : Int32)) < (1 : Int32))) :
    Met l Z Y26 B34 3 none [] ({ frames := 2, cells := 0, slots := 0, locals := 29 } : Room) #[(.int 0), (.int 1), (.ref b1)] h0 (fun vv h L => Fr n0 L ∧ vv = none ∧ h = h0) := by
  refine Met.enter (f0 := fun m => mkF m 0 #[vi 0, vi 1, vr b1] []) (plainFor_of_name pn4) (fun m => oe m 0) ?_
  intro p e s m below meth c s₁ hx hby hml hown hnm hret hlk hZ X0 e0
  have dk : Dk B34 c := fun h => hb hby h
  have W := @wd _ _ _ hw
  have N0 := Fr.nil n0
  refine gz X0 3 #[vi 0, vi 1, vr b1] [(.ref b1), (.int 1), (.int 0)] (fun _ k => lN X0 hx (dk d45_0) rfl (lN X0 hx (dk d45_1) rfl (aN X0 hx (dk d45_2) rfl rfl k))) ?_
  refine goS X0 hx hZ hown (W 178 rfl) (m13 hw) 1 0 0 (rm_ulen hw b1 kb z vs h0 n0 Z0 pr3) N0 e0 pd_12 hml (dk d45_3) ?_
  rintro _ T10 L10 X10 N10 ⟨rfl, hh10⟩
  refine goS X10 hx hZ hown (W 192 rfl) (m30 hw) 3 0 0 (rm_scbo_1 hw (z >>> ((1 : Int32) &&& 31)) fm h0 n0 Z0 pr0 pr1 hr_fm qb0 qb1) N10 hh10 pd_23 hml (dk d45_6) ?_
  rintro _ T11 L11 X11 N11 ⟨rfl, hh11⟩
  refine gz X11 10 #[vi 0, vi 1, vr b1] [] (fun _ k => XS.pop X11.here hx rfl (dk d45_9) rfl rfl k) ?_
  refine Go.retV X11 hx hlk hret (dk d45_10) (by decide) (by decide) ?_
  rw [hh11]
  exact ⟨N11, rfl, rfl⟩
theorem d44_0 : DK B23 0 (.iload_n 1) 1 := by decide +kernel
theorem d44_1 : DK B23 1 (.iload 4) 2 := by decide +kernel
theorem d44_3 : DK B23 3 (.aload_n 0) 1 := by decide +kernel
theorem d44_4 : DK B23 4 (.invokestatic 173) 3 := by decide +kernel
theorem pd_24 : parseMethodDescriptor "(II[B)V" = some ⟨[.int, .int, (.array .byte)], none⟩ := by decide +kernel
theorem m31 {Z : State} {a0 : Array Value} (hw : HW a0 Z) : (Jvm.Cond.static Y26).before a0 Z = true ∧ (Jvm.Cond.initialized "java/lang/StringUTF16").before a0 Z = true ∧ (Jvm.Cond.code Y26 B34 (3 : Nat) (Option.none : Option Jvm.ClassFile.FieldType)).before a0 Z = true := ⟨(wd hw 190 rfl), (wd hw 24 rfl), (wd hw 191 rfl)⟩
theorem d44_7 : DK B23 7 (.iconst 0) 1 := by decide +kernel
theorem d44_8 : DK B23 8 (.istore 5) 2 := by decide +kernel
theorem d44_10 : DK B23 10 (.iload 5) 2 := by decide +kernel
theorem d44_12 : DK B23 12 (.iload 4) 2 := by decide +kernel
theorem d44_14 : DK B23 14 (.if_icmp .ge 39) 3 := by decide +kernel
theorem d44_17 : DK B23 17 (.aload_n 0) 1 := by decide +kernel
theorem d44_18 : DK B23 18 (.iload_n 1) 1 := by decide +kernel
theorem d44_19 : DK B23 19 (.invokestatic 71) 3 := by decide +kernel
theorem d44_22 : DK B23 22 (.istore 6) 2 := by decide +kernel
theorem d44_24 : DK B23 24 (.iload 6) 2 := by decide +kernel
theorem d44_26 : DK B23 26 (.sipush 255) 3 := by decide +kernel
theorem d44_29 : DK B23 29 (.if_icmp .le 6) 3 := by decide +kernel
theorem d44_32 : DK B23 32 (.iload 5) 2 := by decide +kernel
theorem d44_34 : DK B23 34 .ireturn 1 := by decide +kernel
theorem d44_35 : DK B23 35 (.aload_n 2) 1 := by decide +kernel
theorem d44_36 : DK B23 36 (.iload_n 3) 1 := by decide +kernel
theorem d44_37 : DK B23 37 (.iload 6) 2 := by decide +kernel
theorem d44_39 : DK B23 39 .i2b 1 := by decide +kernel
theorem d44_40 : DK B23 40 .bastore 1 := by decide +kernel
theorem d44_41 : DK B23 41 (.iinc 1 1) 3 := by decide +kernel
theorem d44_44 : DK B23 44 (.iinc 3 1) 3 := by decide +kernel
theorem d44_47 : DK B23 47 (.iinc 5 1) 3 := by decide +kernel
theorem d44_50 : DK B23 50 (.goto (-40)) 3 := by decide +kernel
theorem d44_53 : DK B23 53 (.iload 4) 2 := by decide +kernel
theorem d44_55 : DK B23 55 .ireturn 1 := by decide +kernel
theorem rm_cmpB5_1 {l : Launch} {Z : State} {a0 : Array Value} (hw : HW a0 Z) (b1 : Addr) (kb : ClassId) (z : Int32) (vs : List Value) (d1 : Addr) (kd : ClassId) (c0 : Int32) (fm : Value) (h0 : Heap) (n0 : Nat) (Z0 : n0 ≤ h0.size) (pr0 : Old Z n0 h0) (pr1 : S4 Z fm) (hr_fm : fm.isRef = true) (pr3 : S0 Z) (pr4 : S1 Z) (pr5 : S2 Z) (pr6 : Arv Z h0 b1 kb .byte z vs (.int 0)) (hz0 : (0 : Int32) < z) (hz1 : (1 : Int32) < z) (he0 : vs.getD 0 (.int 0) = .int (own_b0 c0)) (he1 : vs.getD 1 (.int 0) = .int (own_b1 c0)) (hr0 : own_rng c0) (pr12 : Arv Z h0 d1 kd .byte (1 : Int32) [(.int 0)] (.int 0)) (pr13 : n0 ≤ d1) (pr14 : b1 ≠ d1) (qb0 : ¬ ((((z >>> ((1 : Int32) &&& 31)) ||| (0 : Int32)) ||| (1 : Int32)) < (0 : Int32))) (qb1 : ¬ (((z >>> ((1 : Int32) &&& 31)) - (0 : Int32)) < (1 : Int32))) :
    Met l Z Y32 B23 7 (some .int) [] ({ frames := 3, cells := 0, slots := 0, locals := 43 } : Room) #[(.ref b1), (.int 0), (.ref d1), (.int 0), (.int 1)] h0 (fun vv h L => Fr n0 L ∧ ∃ r : Int32, vv = some (.int r) ∧ Keep h0 h [d1] ∧ (r = (1 : Int32) → Arv Z h d1 kd .byte (1 : Int32) [(.int (nar .byte (c0.toInt8.toInt32)))] (.int 0)) ∧ ((r = (1 : Int32) ∧ ¬ (255 : Int32) < c0) ∨ (r = (0 : Int32) ∧ (255 : Int32) < c0))) := by
  refine Met.enter (f0 := fun m => mkF m 0 #[vr b1, vi 0, vr d1, vi 0, vi 1, .unset, .unset] []) (plainFor_of_name pn4) (fun m => oe m 2) ?_
  intro p e s m below meth c s₁ hx hby hml hown hnm hret hlk hZ X0 e0
  have dk : Dk B23 c := fun h => hb hby h
  have W := @wd _ _ _ hw
  have N0 := Fr.nil n0
  refine gz X0 4 #[vr b1, vi 0, vr d1, vi 0, vi 1, .unset, .unset] [(.ref b1), (.int 1), (.int 0)] (fun _ k => lN X0 hx (dk d44_0) rfl (lI X0 hx (dk d44_1) rfl (aN X0 hx (dk d44_3) rfl rfl k))) ?_
  refine goS X0 hx hZ hown (W 189 rfl) (m31 hw) 3 0 0 (rm_ucbo_1 hw b1 kb z vs fm h0 n0 Z0 pr0 pr1 hr_fm pr6 qb0 qb1) N0 e0 pd_24 hml (dk d44_4) ?_
  rintro _ T10 L10 X10 N10 ⟨rfl, hh10⟩
  refine gz X10 19 #[vr b1, vi 0, vr d1, vi 0, vi 1, vi 0, .unset] [(.int 0), (.ref b1)] (fun _ k => kC X10 hx (dk d44_7) (sI X10 hx (dk d44_8) rfl rfl (.inl rfl) (lI X10 hx (dk d44_10) rfl (lI X10 hx (dk d44_12) rfl (cN X10 hx (dk d44_14) rfl (tlt (by decide)).2.1 (aN X10 hx (dk d44_17) rfl rfl (lN X10 hx (dk d44_18) rfl k))))))) ?_
  refine goS X10 hx hZ hown (W 130 rfl) (m5 hw) 2 0 0 (rm_get_0 hw b1 kb c0 z vs h0 n0 Z0 pr0 pr3 pr4 pr5 pr6 hz0 hz1 he0 he1 hr0) N10 hh10 pd_5 hml (dk d44_19) ?_
  rintro _ T11 L11 X11 N11 ⟨rfl, hh11⟩
  refine gz X11 29 #[vr b1, vi 0, vr d1, vi 0, vi 1, vi 0, vi c0] [(.int 255), (.int c0)] (fun _ k => sI X11 hx (dk d44_22) rfl rfl (.inl rfl) (lI X11 hx (dk d44_24) rfl (XS.sipush X11.here hx rfl (dk d44_26) k))) ?_
  by_cases c12 : (255 : Int32) < c0
  · skip
    refine gz X11 34 #[vr b1, vi 0, vr d1, vi 0, vi 1, vi 0, vi c0] [(.int 0)] (fun _ k => cN X11 hx (dk d44_29) rfl (tlt c12).2.2.2 (lI X11 hx (dk d44_32) rfl k)) ?_
    refine Go.retJ X11 hx hlk (t := .int) hret (dk d44_34) ?_
    rw [hh11]
    exact ⟨N11, (0 : Int32), rfl, (Keep.refl h0 [d1]), (fun q => absurd q (by decide)), (Or.inr ⟨rfl, c12⟩)⟩
  · skip
    refine gz X11 40 #[vr b1, vi 0, vr d1, vi 0, vi 1, vi 0, vi c0] [(.int (c0.toInt8.toInt32)), (.int 0), (.ref d1)] (fun _ k => cY X11 hx 29 35 rfl (dk d44_29) rfl (flt c12).2.2.2 (aN X11 hx (dk d44_35) rfl rfl (lN X11 hx (dk d44_36) rfl (lI X11 hx (dk d44_37) rfl (XS.i2b X11.here hx rfl (dk d44_39) rfl k))))) ?_
    obtain ⟨cl13, Ar13, q13, S13, N_13, Hs13, G13⟩ := id pr12
    have hin14 : ¬ ((0 : Int32) < 0 ∨ cl13.slots.size ≤ ((0 : Int32)).toNatClampNeg) := inb_of S13 ⟨by decide, by decide⟩
    obtain ⟨T14, h14, X14, e14, W14, st14⟩ := stB X11 hx hZ hh11 Ar13 (j := (0 : Int32)) hin14 (g := (mkF m 40 #[vr b1, vi 0, vr d1, vi 0, vi 1, vi 0, vi c0] [(.int (c0.toInt8.toInt32)), (.int 0), (.ref d1)])) rfl rfl (dk d44_40)
    have O15 := pr0.wr W14 pr13
    have Z15 : n0 ≤ h14.size := Nat.le_trans Z0 (Keep.of_wr W14).1
    have V14 : Arv Z h14 d1 kd .byte (1 : Int32) [(.int (nar .byte (c0.toInt8.toInt32)))] (.int 0) := Arv.set Ar13 q13 S13 N_13 Hs13 G13 (fits_nar_byte _) W14 0 rfl (Nat.le_of_ble_eq_true rfl)
    have N14 := Fr.snoc X14 N11 pr13
    refine gz X14 55 #[vr b1, vi 1, vr d1, vi 1, vi 1, vi 1, vi c0] [(.int 1)] (fun _ k => st14 _ (XS.iinc X14.here hx rfl (dk d44_41) rfl (l' := #[vr b1, vi 1, vr d1, vi 0, vi 1, vi 0, vi c0]) rfl (XS.iinc X14.here hx rfl (dk d44_44) rfl (l' := #[vr b1, vi 1, vr d1, vi 1, vi 1, vi 0, vi c0]) rfl (XS.iinc X14.here hx rfl (dk d44_47) rfl (l' := #[vr b1, vi 1, vr d1, vi 1, vi 1, vi 1, vi c0]) rfl (gT X14 hx 50 10 rfl (dk d44_50) (lI X14 hx (dk d44_10) rfl (lI X14 hx (dk d44_12) rfl (cY X14 hx 14 53 rfl (dk d44_14) rfl (flt (by decide)).2.1 (lI X14 hx (dk d44_53) rfl k))))))))) ?_
    refine Go.retJ X14 hx hlk (t := .int) hret (dk d44_55) ?_
    rw [e14]
    exact ⟨N14, (1 : Int32), rfl, ((Keep.refl h0 [d1]).wr W14 (Or.inl (List.mem_of_getElem? (i := 0) rfl))), (fun _ => V14), (Or.inl ⟨rfl, c12⟩)⟩
theorem d43_0 : DK B21 0 (.iload_n 2) 1 := by decide +kernel
theorem d43_1 : DK B21 1 (.newarray .byte) 2 := by decide +kernel
theorem d43_3 : DK B21 3 (.astore_n 3) 1 := by decide +kernel
theorem d43_4 : DK B21 4 (.aload_n 0) 1 := by decide +kernel
theorem d43_5 : DK B21 5 (.iload_n 1) 1 := by decide +kernel
theorem d43_6 : DK B21 6 (.aload_n 3) 1 := by decide +kernel
theorem d43_7 : DK B21 7 (.iconst 0) 1 := by decide +kernel
theorem d43_8 : DK B21 8 (.iload_n 2) 1 := by decide +kernel
theorem d43_9 : DK B21 9 (.invokestatic 123) 3 := by decide +kernel
theorem pd_25 : parseMethodDescriptor "([BI[BII)I" = some ⟨[(.array .byte), .int, (.array .byte), .int, .int], some .int⟩ := by decide +kernel
theorem m32 {Z : State} {a0 : Array Value} (hw : HW a0 Z) : (Jvm.Cond.static Y32).before a0 Z = true ∧ (Jvm.Cond.initialized "java/lang/StringUTF16").before a0 Z = true ∧ (Jvm.Cond.code Y32 B23 (7 : Nat) (Option.some Jvm.ClassFile.FieldType.int)).before a0 Z = true := ⟨(wd hw 187 rfl), (wd hw 24 rfl), (wd hw 188 rfl)⟩
theorem d43_12 : DK B21 12 (.istore 4) 2 := by decide +kernel
theorem d43_14 : DK B21 14 (.iload 4) 2 := by decide +kernel
theorem d43_16 : DK B21 16 (.iload_n 2) 1 := by decide +kernel
theorem d43_17 : DK B21 17 (.if_icmp .eq 47) 3 := by decide +kernel
theorem d43_64 : DK B21 64 (.aload_n 3) 1 := by decide +kernel
theorem d43_65 : DK B21 65 .areturn 1 := by decide +kernel
theorem d43_20 : DK B21 20 (.aload_n 0) 1 := by decide +kernel
theorem d43_21 : DK B21 21 (.iload_n 1) 1 := by decide +kernel
theorem d43_22 : DK B21 22 (.iconst 1) 1 := by decide +kernel
theorem d43_23 : DK B21 23 .ishl 1 := by decide +kernel
theorem d43_24 : DK B21 24 (.iload_n 1) 1 := by decide +kernel
theorem d43_25 : DK B21 25 (.iload_n 2) 1 := by decide +kernel
theorem d43_26 : DK B21 26 .iadd 1 := by decide +kernel
theorem d43_27 : DK B21 27 (.invokestatic 11) 3 := by decide +kernel
theorem d43_30 : DK B21 30 (.invokestatic 126) 3 := by decide +kernel
theorem d43_33 : DK B21 33 (.astore 5) 2 := by decide +kernel
theorem d43_35 : DK B21 35 (.aload 5) 2 := by decide +kernel
theorem d43_37 : DK B21 37 (.iload 4) 2 := by decide +kernel
theorem d43_39 : DK B21 39 (.invokestatic 71) 3 := by decide +kernel
theorem d43_42 : DK B21 42 (.sipush 255) 3 := by decide +kernel
theorem d43_45 : DK B21 45 (.if_icmp .gt 16) 3 := by decide +kernel
theorem d43_61 : DK B21 61 (.aload 5) 2 := by decide +kernel
theorem d43_63 : DK B21 63 .areturn 1 := by decide +kernel
theorem rm_cmpB3_1 {l : Launch} {Z : State} {a0 : Array Value} (hw : HW a0 Z) (b1 : Addr) (kb : ClassId) (z : Int32) (vs : List Value) (c0 : Int32) (fm : Value) (h0 : Heap) (n0 : Nat) (Z0 : n0 ≤ h0.size) (pr0 : Old Z n0 h0) (pr1 : S4 Z fm) (hr_fm : fm.isRef = true) (pr3 : S0 Z) (pr4 : S1 Z) (pr5 : S2 Z) (pr6 : Arv Z h0 b1 kb .byte z vs (.int 0)) (hz0 : (0 : Int32) < z) (hz1 : (1 : Int32) < z) (he0 : vs.getD 0 (.int 0) = .int (own_b0 c0)) (he1 : vs.getD 1 (.int 0) = .int (own_b1 c0)) (hr0 : own_rng c0) (qb0 : ¬ ((((z >>> ((1 : Int32) &&& 31)) ||| (0 : Int32)) ||| (1 : Int32)) < (0 : Int32))) (qb1 : ¬ (((z >>> ((1 : Int32) &&& 31)) - (0 : Int32)) < (1 : Int32))) (xhne : ¬ ((2 : Int32) = z)) (xhmn : (2 : Int32) < (z - (0 : Int32))) (xhle : 2 ≤ z.toNatClampNeg) (xhvl : 2 ≤ vs.length) :
    Met l Z Y31 B21 6 (some (.array .byte)) [] ({ frames := 4, cells := 2, slots := 3, locals := 61 } : Room) #[(.ref b1), (.int 0), (.int 1)] h0 (fun vv h L => Fr n0 L ∧ ∃ b : Addr, ∃ k : ClassId, ∃ u : Bool, vv = some (.ref b) ∧ Keep h0 h [] ∧ h0.size ≤ b ∧ (u = false → ¬ (255 : Int32) < c0) ∧ (u = false → Arv Z h b k .byte (1 : Int32) [(.int (nar .byte (c0.toInt8.toInt32)))] (.int 0)) ∧ (u = true → Arv Z h b k .byte (2 : Int32) [(.int (own_b0 c0)), (.int (own_b1 c0))] (.int 0))) := by
  refine Met.enter (f0 := fun m => mkF m 0 #[vr b1, vi 0, vi 1, .unset, .unset, .unset] []) (plainFor_of_name pn4) (fun m => oe m 3) ?_
  intro p e s m below meth c s₁ hx hby hml hown hnm hret hlk hZ X0 e0
  have dk : Dk B21 c := fun h => hb hby h
  have W := @wd _ _ _ hw
  have N0 := Fr.nil n0
  refine gz X0 1 #[vr b1, vi 0, vi 1, .unset, .unset, .unset] [(.int 1)] (fun _ k => lN X0 hx (dk d43_0) rfl k) ?_
  obtain ⟨T10, h10, k10, X10, e10, E10, A10, st10⟩ := newP X0 hx hZ (W 26 rfl) e0 (g := (mkF m 1 #[vr b1, vi 0, vi 1, .unset, .unset, .unset] [(.int 1)])) rfl (dk d43_1) rfl (by decide) (cap := 1) (by decide) (by decide) (by decide) (by decide)
  obtain ⟨b10, g10⟩ : ∃ z, z = h0.size := ⟨_, rfl⟩
  rw [← g10] at A10 st10
  have sz_b10 : h0.size ≤ b10 := Nat.le_of_eq g10.symm
  have V10 : Arv Z h10 b10 k10 .byte (1 : Int32) [(.int 0)] (.int 0) := (Arv.new A10 (by decide)).pad (pad_rep [] (.int 0) 1)
  have O11 := pr0.ext E10
  have Z11 : n0 ≤ h10.size := Nat.le_trans Z0 E10.1
  refine gz X10 9 #[vr b1, vi 0, vi 1, vr b10, .unset, .unset] [(.int 1), (.int 0), (.ref b10), (.int 0), (.ref b1)] (fun _ k => st10 _ (tN X10 hx (dk d43_3) rfl rfl rfl (.inl rfl) (aN X10 hx (dk d43_4) rfl rfl (lN X10 hx (dk d43_5) rfl (aN X10 hx (dk d43_6) rfl rfl (kC X10 hx (dk d43_7) (lN X10 hx (dk d43_8) rfl k))))))) ?_
  refine goS X10 hx hZ hown (W 186 rfl) (m32 hw) 5 1 1 (rm_cmpB5_1 hw b1 kb z vs b10 k10 c0 fm h10 n0 Z11 O11 pr1 hr_fm pr3 pr4 pr5 (pr6.ext E10) hz0 hz1 he0 he1 hr0 V10 (Nat.le_trans Z0 sz_b10) (Nat.ne_of_lt (Nat.lt_of_lt_of_le pr6.lt sz_b10)) qb0 qb1) N0 e10 pd_25 hml (dk d43_9) ?_
  rintro _ T12 L12 X12 N12 ⟨r12, rfl, K12, p12_0, p12_1⟩
  have O13 := O11.keep K12 (allS (Nat.le_trans Z0 sz_b10) all0)
  have Z13 : n0 ≤ T12.heap.size := Nat.le_trans Z11 K12.1
  rcases p12_1 with ⟨rfl, e14⟩ | ⟨rfl, e15⟩
  · skip
    have V16 := p12_0 rfl
    refine gz X12 65 #[vr b1, vi 0, vi 1, vr b10, vi 1, .unset] [(.ref b10)] (fun _ k => sI X12 hx (dk d43_12) rfl rfl (.inl rfl) (lI X12 hx (dk d43_14) rfl (lN X12 hx (dk d43_16) rfl (cY X12 hx 17 64 rfl (dk d43_17) rfl (teq (by decide)).1 (aN X12 hx (dk d43_64) rfl rfl k))))) ?_
    refine Go.retA X12 hx hlk (t := (.array .byte)) hret (dk d43_65) ?_
    exact ⟨N12, b10, k10, false, rfl, (((Keep.refl h0 []).ext E10).trans K12 (allS (Or.inr (Nat.le_trans (Nat.le_refl _) sz_b10)) all0)), (Nat.le_trans (Nat.le_refl _) sz_b10), (fun _ => e14), (fun _ => V16), (fun q => nomatch q)⟩
  · skip
    refine gz X12 27 #[vr b1, vi 0, vi 1, vr b10, vi 0, .unset] [(.int 1), (.int 0), (.ref b1)] (fun _ k => sI X12 hx (dk d43_12) rfl rfl (.inl rfl) (lI X12 hx (dk d43_14) rfl (lN X12 hx (dk d43_16) rfl (cN X12 hx (dk d43_17) rfl (feq (by decide)).1 (aN X12 hx (dk d43_20) rfl rfl (lN X12 hx (dk d43_21) rfl (kC X12 hx (dk d43_22) (XS.ishl X12.here hx rfl (dk d43_23) rfl (lN X12 hx (dk d43_24) rfl (lN X12 hx (dk d43_25) rfl (pI X12 hx (dk d43_26) rfl k))))))))))) ?_
    refine goS X12 hx hZ hown (W 120 rfl) (m0 hw) 1 1 1 (rm_nbl_1 hw  T12.heap n0 Z13 ) N12 rfl pd_0 hml (dk d43_27) ?_
    rintro _ T17 L17 X17 N17 ⟨rfl, hh17⟩
    have f18 := ((pr6.ext E10).keep K12 (ninS (Nat.ne_of_lt (Nat.lt_of_lt_of_le pr6.lt sz_b10)) nin0))
    refine goS X17 hx hZ hown (W 198 rfl) (m27 hw) 3 2 3 (rm_cpr_2 hw b1 kb z vs T12.heap n0 Z13 O13 f18 xhne xhmn xhle xhvl) N17 hh17 pd_21 hml (dk d43_30) ?_
    rintro _ T19 L19 X19 N19 ⟨b19, k19, rfl, K19, p19_0, p19_1⟩
    have O20 := O13.keep K19 all0
    have Z20 : n0 ≤ T19.heap.size := Nat.le_trans Z13 K19.1
    have sz_b19 : T12.heap.size ≤ b19 := p19_1
    refine gz X19 39 #[vr b1, vi 0, vi 1, vr b10, vi 0, vr b19] [(.int 0), (.ref b19)] (fun _ k => tI X19 hx (dk d43_33) rfl rfl rfl (.inl rfl) (aI X19 hx (dk d43_35) rfl rfl (lI X19 hx (dk d43_37) rfl k))) ?_
    refine goS X19 hx hZ hown (W 130 rfl) (m5 hw) 2 2 3 (rm_get_0 hw b19 k19 c0 (2 : Int32) (vs.take 2) T19.heap n0 Z20 O20 pr3 pr4 pr5 p19_0 (by decide) (by decide) ((own_tk (by decide)).trans he0) ((own_tk (by decide)).trans he1) hr0) N19 rfl pd_5 hml (dk d43_39) ?_
    rintro _ T21 L21 X21 N21 ⟨rfl, hh21⟩
    refine gz X21 63 #[vr b1, vi 0, vi 1, vr b10, vi 0, vr b19] [(.ref b19)] (fun _ k => XS.sipush X21.here hx rfl (dk d43_42) (cY X21 hx 45 61 rfl (dk d43_45) rfl (tlt e15).2.2.1 (aI X21 hx (dk d43_61) rfl rfl k))) ?_
    refine Go.retA X21 hx hlk (t := (.array .byte)) hret (dk d43_63) ?_
    rw [hh21]
    exact ⟨N21, b19, k19, true, rfl, ((((Keep.refl h0 []).ext E10).trans K12 (allS (Or.inr (Nat.le_trans (Nat.le_refl _) sz_b10)) all0)).trans K19 all0), (Nat.le_trans (Nat.le_trans (Nat.le_trans (Nat.le_refl _) E10.1) K12.1) sz_b19), (fun q => nomatch q), (fun q => nomatch q), (fun _ => Arv.pad p19_0 (own_tl2 he0 he1))⟩
theorem d34_8 : DK B28 8 (.getstatic 251) 3 := by decide +kernel
theorem d34_11 : DK B28 11 (.ifCond .eq 28) 3 := by decide +kernel
theorem d34_14 : DK B28 14 (.aload_n 0) 1 := by decide +kernel
theorem d34_15 : DK B28 15 (.iload_n 1) 1 := by decide +kernel
theorem d34_16 : DK B28 16 (.iload_n 2) 1 := by decide +kernel
theorem d34_17 : DK B28 17 (.invokestatic 257) 3 := by decide +kernel
theorem m33 {Z : State} {a0 : Array Value} (hw : HW a0 Z) : (Jvm.Cond.static Y31).before a0 Z = true ∧ (Jvm.Cond.initialized "java/lang/StringUTF16").before a0 Z = true ∧ (Jvm.Cond.code Y31 B21 (6 : Nat) (Option.some (Jvm.ClassFile.FieldType.array Jvm.ClassFile.FieldType.byte))).before a0 Z = true := ⟨(wd hw 184 rfl), (wd hw 24 rfl), (wd hw 185 rfl)⟩
theorem d34_20 : DK B28 20 (.astore_n 3) 1 := by decide +kernel
theorem d34_21 : DK B28 21 (.aload_n 3) 1 := by decide +kernel
theorem d34_22 : DK B28 22 (.iload_n 2) 1 := by decide +kernel
theorem d34_23 : DK B28 23 (.invokestatic 259) 3 := by decide +kernel
theorem d34_26 : DK B28 26 (.istore 4) 2 := by decide +kernel
theorem d34_28 : DK B28 28 (.new 3) 3 := by decide +kernel
theorem d34_31 : DK B28 31 .dup 1 := by decide +kernel
theorem d34_32 : DK B28 32 (.aload_n 3) 1 := by decide +kernel
theorem d34_33 : DK B28 33 (.iload 4) 2 := by decide +kernel
theorem d34_35 : DK B28 35 (.invokespecial 263) 3 := by decide +kernel
theorem d34_38 : DK B28 38 .areturn 1 := by decide +kernel
theorem rm_u16n_1 {l : Launch} {Z : State} {a0 : Array Value} (hw : HW a0 Z) (b1 : Addr) (kb : ClassId) (z : Int32) (vs : List Value) (c0 : Int32) (cs : Int32) (fm : Value) (h0 : Heap) (n0 : Nat) (Z0 : n0 ≤ h0.size) (pr0 : Old Z n0 h0) (pr1 : S3 Z cs) (hcs : ¬ (cs = (0 : Int32))) (pr3 : S4 Z fm) (hr_fm : fm.isRef = true) (pr5 : S0 Z) (pr6 : S1 Z) (pr7 : S2 Z) (pr8 : Arv Z h0 b1 kb .byte z vs (.int 0)) (hz0 : (0 : Int32) < z) (hz1 : (1 : Int32) < z) (he0 : vs.getD 0 (.int 0) = .int (own_b0 c0)) (he1 : vs.getD 1 (.int 0) = .int (own_b1 c0)) (hr0 : own_rng c0) (qb0 : ¬ ((((z >>> ((1 : Int32) &&& 31)) ||| (0 : Int32)) ||| (1 : Int32)) < (0 : Int32))) (qb1 : ¬ (((z >>> ((1 : Int32) &&& 31)) - (0 : Int32)) < (1 : Int32))) (xhne : ¬ ((2 : Int32) = z)) (xhmn : (2 : Int32) < (z - (0 : Int32))) (xhle : 2 ≤ z.toNatClampNeg) (xhvl : 2 ≤ vs.length) :
    Met l Z Y39 B28 5 (some (.object "java/lang/String")) [] ({ frames := 5, cells := 3, slots := 7, locals := 78 } : Room) #[(.ref b1), (.int 0), (.int 1)] h0 (fun vv h L => Fr n0 L ∧ ∃ b : Addr, ∃ t : Addr, ∃ k : ClassId, vv = some (.ref b) ∧ Keep h0 h [] ∧ XT Z h b ∧ FV Z h b t ∧ h0.size ≤ b ∧ ((FC Z h b 0 ∧ Arv Z h t k .byte (1 : Int32) [(.int (nar .byte (c0.toInt8.toInt32)))] (.int 0) ∧ ¬ (255 : Int32) < c0) ∨ (FC Z h b 1 ∧ Arv Z h t k .byte (2 : Int32) [(.int (own_b0 c0)), (.int (own_b1 c0))] (.int 0)))) := by
  refine Met.enter (f0 := fun m => mkF m 0 #[vr b1, vi 0, vi 1, .unset, .unset] []) (plainFor_of_name pn4) (fun m => oe m 2) ?_
  intro p e s m below meth c s₁ hx hby hml hown hnm hret hlk hZ X0 e0
  have dk : Dk B28 c := fun h => hb hby h
  have W := @wd _ _ _ hw
  have N0 := Fr.nil n0
  refine gz X0 8 #[vr b1, vi 0, vi 1, .unset, .unset] [] (fun _ k => lN X0 hx (dk d34_0) rfl (fY X0 hx 1 8 rfl (dk d34_1) rfl ((if0 _ _).trans (feq (by decide)).2) k)) ?_
  obtain ⟨T10, X10, e10, st10⟩ := getS2 X0 hx hZ hown (host := "") (Or.inl (W 182 rfl)) Via.refl e0 (pr1.ext pr0.2) (g := (mkF m 8 #[vr b1, vi 0, vi 1, .unset, .unset] [])) rfl (dk d34_8)
  refine gz X10 17 #[vr b1, vi 0, vi 1, .unset, .unset] [(.int 1), (.int 0), (.ref b1)] (fun _ k => st10 _ (fN X10 hx (dk d34_11) rfl ((if0 _ _).trans (feq hcs).1) (aN X10 hx (dk d34_14) rfl rfl (lN X10 hx (dk d34_15) rfl (lN X10 hx (dk d34_16) rfl k))))) ?_
  refine goS X10 hx hZ hown (W 183 rfl) (m33 hw) 3 2 3 (rm_cmpB3_1 hw b1 kb z vs c0 fm h0 n0 Z0 pr0 pr3 hr_fm pr5 pr6 pr7 pr8 hz0 hz1 he0 he1 hr0 qb0 qb1 xhne xhmn xhle xhvl) N0 e10 pd_21 hml (dk d34_17) ?_
  rintro _ T11 L11 X11 N11 ⟨b11, k11, u11, rfl, K11, p11_0, p11_1, p11_2, p11_3⟩
  have O12 := pr0.keep K11 all0
  have Z12 : n0 ≤ T11.heap.size := Nat.le_trans Z0 K11.1
  have sz_b11 : h0.size ≤ b11 := p11_0
  rcases u11 with _ | _
  · skip
    have V13 := p11_2 rfl
    refine gz X11 23 #[vr b1, vi 0, vi 1, vr b11, .unset] [(.int 1), (.ref b11)] (fun _ k => tN X11 hx (dk d34_20) rfl rfl rfl (.inl rfl) (aN X11 hx (dk d34_21) rfl rfl (lN X11 hx (dk d34_22) rfl k))) ?_
    refine goS X11 hx hZ hown (W 199 rfl) (m7 hw) 2 2 3 (rm_cfal_1_0 hw b11 k11 c0 T11.heap n0 Z12 V13) N11 rfl pd_6 hml (dk d34_23) ?_
    rintro _ T14 L14 X14 N14 ⟨rfl, hh14⟩
    refine gz X14 28 #[vr b1, vi 0, vi 1, vr b11, vi 0] [] (fun _ k => sI X14 hx (dk d34_26) rfl rfl (.inl rfl) k) ?_
    obtain ⟨T15, h15, X15, e15, E15, A15, D15, -, st15⟩ := newO X14 hx hZ hown (W 200 rfl) (W 9 rfl) (W 10 rfl) hh14 (g := (mkF m 28 #[vr b1, vi 0, vi 1, vr b11, vi 0] [])) rfl (dk d34_28) (by decide) (by decide)
    obtain ⟨b15, g15⟩ : ∃ z, z = T11.heap.size := ⟨_, rfl⟩
    rw [← g15] at A15 D15 st15
    have sz_b15 : T11.heap.size ≤ b15 := Nat.le_of_eq g15.symm
    have O16 := O12.ext E15
    have Z16 : n0 ≤ h15.size := Nat.le_trans Z12 E15.1
    have F17 : FC Z h15 b15 0 := D15 (Or.inr (W 34 rfl)) (ty := .byte) (by decide)
    have F18 : Fld Z h15 b15 "java/lang/String" "value" "[B" .null := D15 (Or.inr (W 36 rfl)) (ty := (.array .byte)) (by decide)
    refine gz X15 35 #[vr b1, vi 0, vi 1, vr b11, vi 0] [(.int 0), (.ref b11), (.ref b15), (.ref b15)] (fun _ k => st15 _ (XS.dup X15.here hx rfl (dk d34_31) rfl rfl (aN X15 hx (dk d34_32) rfl rfl (lI X15 hx (dk d34_33) rfl k)))) ?_
    refine goI X15 hx hZ hown (W 201 rfl) (m28 hw) 2 3 7 (rm_sinit hw b15 b11 h15 n0 Z16 O16 A15 F18 F17 (Nat.le_trans Z12 sz_b15)) N14 e15 pd_22 hml (dk d34_35) ?_
    rintro _ T19 L19 X19 N19 ⟨rfl, K19, p19_0, p19_1, p19_2⟩
    have O20 := O16.keep K19 (allS (Nat.le_trans Z12 sz_b15) all0)
    have Z20 : n0 ≤ T19.heap.size := Nat.le_trans Z16 K19.1
    refine gz X19 38 #[vr b1, vi 0, vi 1, vr b11, vi 0] [(.ref b15)] (fun _ k => k) ?_
    refine Go.retA X19 hx hlk (t := (.object "java/lang/String")) hret (dk d34_38) ?_
    exact ⟨N19, b15, b11, k11, rfl, ((((Keep.refl h0 []).trans K11 all0).ext E15).trans K19 (allS (Or.inr (Nat.le_trans (Nat.le_trans (Nat.le_refl _) K11.1) sz_b15)) all0)), p19_0, p19_1, (Nat.le_trans (Nat.le_trans (Nat.le_refl _) K11.1) sz_b15), (Or.inl ⟨p19_2, ((V13.ext E15).keep K19 (ninS (Nat.ne_of_lt (Nat.lt_of_lt_of_le V13.lt sz_b15)) nin0)), p11_1 rfl⟩)⟩
  · skip
    have V21 := p11_3 rfl
    refine gz X11 23 #[vr b1, vi 0, vi 1, vr b11, .unset] [(.int 1), (.ref b11)] (fun _ k => tN X11 hx (dk d34_20) rfl rfl rfl (.inl rfl) (aN X11 hx (dk d34_21) rfl rfl (lN X11 hx (dk d34_22) rfl k))) ?_
    refine goS X11 hx hZ hown (W 199 rfl) (m7 hw) 2 2 3 (rm_cfal_1_1 hw b11 k11 c0 T11.heap n0 Z12 V21) N11 rfl pd_6 hml (dk d34_23) ?_
    rintro _ T22 L22 X22 N22 ⟨rfl, hh22⟩
    refine gz X22 28 #[vr b1, vi 0, vi 1, vr b11, vi 1] [] (fun _ k => sI X22 hx (dk d34_26) rfl rfl (.inl rfl) k) ?_
    obtain ⟨T23, h23, X23, e23, E23, A23, D23, -, st23⟩ := newO X22 hx hZ hown (W 200 rfl) (W 9 rfl) (W 10 rfl) hh22 (g := (mkF m 28 #[vr b1, vi 0, vi 1, vr b11, vi 1] [])) rfl (dk d34_28) (by decide) (by decide)
    obtain ⟨b23, g23⟩ : ∃ z, z = T11.heap.size := ⟨_, rfl⟩
    rw [← g23] at A23 D23 st23
    have sz_b23 : T11.heap.size ≤ b23 := Nat.le_of_eq g23.symm
    have O24 := O12.ext E23
    have Z24 : n0 ≤ h23.size := Nat.le_trans Z12 E23.1
    have F25 : FC Z h23 b23 0 := D23 (Or.inr (W 34 rfl)) (ty := .byte) (by decide)
    have F26 : Fld Z h23 b23 "java/lang/String" "value" "[B" .null := D23 (Or.inr (W 36 rfl)) (ty := (.array .byte)) (by decide)
    refine gz X23 35 #[vr b1, vi 0, vi 1, vr b11, vi 1] [(.int 1), (.ref b11), (.ref b23), (.ref b23)] (fun _ k => st23 _ (XS.dup X23.here hx rfl (dk d34_31) rfl rfl (aN X23 hx (dk d34_32) rfl rfl (lI X23 hx (dk d34_33) rfl k)))) ?_
    refine goI X23 hx hZ hown (W 201 rfl) (m28 hw) 2 3 7 (rm_sinit1 hw b23 b11 h23 n0 Z24 O24 A23 F26 F25 (Nat.le_trans Z12 sz_b23)) N22 e23 pd_22 hml (dk d34_35) ?_
    rintro _ T27 L27 X27 N27 ⟨rfl, K27, p27_0, p27_1, p27_2⟩
    have O28 := O24.keep K27 (allS (Nat.le_trans Z12 sz_b23) all0)
    have Z28 : n0 ≤ T27.heap.size := Nat.le_trans Z24 K27.1
    refine gz X27 38 #[vr b1, vi 0, vi 1, vr b11, vi 1] [(.ref b23)] (fun _ k => k) ?_
    refine Go.retA X27 hx hlk (t := (.object "java/lang/String")) hret (dk d34_38) ?_
    exact ⟨N27, b23, b11, k11, rfl, ((((Keep.refl h0 []).trans K11 all0).ext E23).trans K27 (allS (Or.inr (Nat.le_trans (Nat.le_trans (Nat.le_refl _) K11.1) sz_b23)) all0)), p27_0, p27_1, (Nat.le_trans (Nat.le_trans (Nat.le_refl _) K11.1) sz_b23), (Or.inr ⟨p27_2, ((V21.ext E23).keep K27 (ninS (Nat.ne_of_lt (Nat.lt_of_lt_of_le V21.lt sz_b23)) nin0))⟩)⟩
theorem rm_l1n_2 {l : Launch} {Z : State} {a0 : Array Value} (hw : HW a0 Z) (b1 : Addr) (kb : ClassId) (z : Int32) (vs : List Value) (h0 : Heap) (n0 : Nat) (Z0 : n0 ≤ h0.size) (pr0 : Old Z n0 h0) (pr1 : Arv Z h0 b1 kb .byte z vs (.int 0)) (hne : ¬ ((2 : Int32) = z)) (hmn : (2 : Int32) < (z - (0 : Int32))) (hle : 2 ≤ z.toNatClampNeg) (hvl : 2 ≤ vs.length) :
    Met l Z Y24 B17 3 (some (.object "java/lang/String")) [] ({ frames := 3, cells := 2, slots := 6, locals := 50 } : Room) #[(.ref b1), (.int 0), (.int 2)] h0 (fun vv h L => Fr n0 L ∧ ∃ b : Addr, ∃ t : Addr, ∃ k : ClassId, vv = some (.ref b) ∧ Keep h0 h [] ∧ XT Z h b ∧ FV Z h b t ∧ FC Z h b 0 ∧ Arv Z h t k .byte (2 : Int32) (vs.take 2) (.int 0) ∧ h0.size ≤ b ∧ h0.size ≤ t) := by
  refine Met.enter (f0 := fun m => mkF m 0 #[vr b1, vi 0, vi 2] []) (plainFor_of_name pn3) (fun m => oe m 0) ?_
  intro p e s m below meth c s₁ hx hby hml hown hnm hret hlk hZ X0 e0
  have dk : Dk B17 c := fun h => hb hby h
  have W := @wd _ _ _ hw
  have N0 := Fr.nil n0
  refine gz X0 7 #[vr b1, vi 0, vi 2] [] (fun _ k => lN X0 hx (dk d20_0) rfl (fY X0 hx 1 7 rfl (dk d20_1) rfl ((if0 _ _).trans (feq (by decide)).2) k)) ?_
  obtain ⟨T10, h10, X10, e10, E10, A10, D10, -, st10⟩ := newO X0 hx hZ hown (W 150 rfl) (W 9 rfl) (W 10 rfl) e0 (g := (mkF m 7 #[vr b1, vi 0, vi 2] [])) rfl (dk d20_7) (by decide) (by decide)
  obtain ⟨b10, g10⟩ : ∃ z, z = h0.size := ⟨_, rfl⟩
  rw [← g10] at A10 D10 st10
  have sz_b10 : h0.size ≤ b10 := Nat.le_of_eq g10.symm
  have O11 := pr0.ext E10
  have Z11 : n0 ≤ h10.size := Nat.le_trans Z0 E10.1
  have F12 : FC Z h10 b10 0 := D10 (Or.inr (W 34 rfl)) (ty := .byte) (by decide)
  have F13 : Fld Z h10 b10 "java/lang/String" "value" "[B" .null := D10 (Or.inr (W 36 rfl)) (ty := (.array .byte)) (by decide)
  refine gz X10 16 #[vr b1, vi 0, vi 2] [(.int 2), (.int 0), (.ref b1), (.ref b10), (.ref b10)] (fun _ k => st10 _ (XS.dup X10.here hx rfl (dk d20_10) rfl rfl (aN X10 hx (dk d20_11) rfl rfl (lN X10 hx (dk d20_12) rfl (lN X10 hx (dk d20_13) rfl (lN X10 hx (dk d20_14) rfl (pI X10 hx (dk d20_15) rfl k))))))) ?_
  refine goS X10 hx hZ hown (W 151 rfl) (m27 hw) 3 2 6 (rm_cpr_2 hw b1 kb z vs h10 n0 Z11 O11 (pr1.ext E10) hne hmn hle hvl) N0 e10 pd_21 hml (dk d20_16) ?_
  rintro _ T14 L14 X14 N14 ⟨b14, k14, rfl, K14, p14_0, p14_1⟩
  have O15 := O11.keep K14 all0
  have Z15 : n0 ≤ T14.heap.size := Nat.le_trans Z11 K14.1
  have sz_b14 : h10.size ≤ b14 := p14_1
  refine gz X14 20 #[vr b1, vi 0, vi 2] [(.int 0), (.ref b14), (.ref b10), (.ref b10)] (fun _ k => kC X14 hx (dk d20_19) k) ?_
  refine goI X14 hx hZ hown (W 169 rfl) (m28 hw) 2 2 6 (rm_sinit hw b10 b14 T14.heap n0 Z15 O15 (A10.keep K14) (F13.keep K14 nin0) (F12.keep K14 nin0) (Nat.le_trans Z0 sz_b10)) N14 rfl pd_22 hml (dk d20_20) ?_
  rintro _ T16 L16 X16 N16 ⟨rfl, K16, p16_0, p16_1, p16_2⟩
  have O17 := O15.keep K16 (allS (Nat.le_trans Z0 sz_b10) all0)
  have Z17 : n0 ≤ T16.heap.size := Nat.le_trans Z15 K16.1
  refine gz X16 23 #[vr b1, vi 0, vi 2] [(.ref b10)] (fun _ k => k) ?_
  refine Go.retA X16 hx hlk (t := (.object "java/lang/String")) hret (dk d20_23) ?_
  exact ⟨N16, b10, b14, k14, rfl, ((((Keep.refl h0 []).ext E10).trans K14 all0).trans K16 (allS (Or.inr (Nat.le_trans (Nat.le_refl _) sz_b10)) all0)), p16_0, p16_1, p16_2, (p14_0.keep K16 (ninS (Ne.symm (Nat.ne_of_lt (Nat.lt_of_lt_of_le A10.lt sz_b14))) nin0)), (Nat.le_trans (Nat.le_refl _) sz_b10), (Nat.le_trans (Nat.le_trans (Nat.le_refl _) E10.1) sz_b14)⟩
theorem ef_rm_cfis_2 (m : MethodId) (x2 : Int32) (x3 : Value) (hx3 : x3.category = 1) : entryFrame m #[(.int 0), (.int 2), (.int x2), x3] 4 = mkF m 0 #[vi 0, vi 2, vi x2, .val x3] [] := own_ent m (xs := [(.int 0), (.int 2), (.int x2), x3]) (k := 0) (own_a rfl (own_a rfl (own_a rfl (own_a hx3 (fun _ q => nomatch q))))) rfl
theorem rm_cfis_2 {l : Launch} {Z : State} {a0 : Array Value} (hw : HW a0 Z) (p3 : Int32) (fm : Value) (h0 : Heap) (n0 : Nat) (Z0 : n0 ≤ h0.size) (hr_fm : fm.isRef = true) (qb0 : ¬ (((p3 ||| (0 : Int32)) ||| (2 : Int32)) < (0 : Int32))) (qb1 : ¬ ((p3 - (0 : Int32)) < (2 : Int32))) :
    Met l Z Y45 B3 4 (some .int) [] ({ frames := 0, cells := 0, slots := 0, locals := 0 } : Room) #[(.int 0), (.int 2), (.int p3), fm] h0 (fun vv h L => Fr n0 L ∧ vv = some (.int 0) ∧ h = h0) := by
  refine Met.enter (f0 := fun m => mkF m 0 #[vi 0, vi 2, vi p3, .val fm] []) (plainFor_of_name pn2) (fun m => ef_rm_cfis_2 m p3 fm (own_cat hr_fm)) ?_
  intro p e s m below meth c s₁ hx hby hml hown hnm hret hlk hZ X0 e0
  have dk : Dk B3 c := fun h => hb hby h
  have W := @wd _ _ _ hw
  have N0 := Fr.nil n0
  refine gz X0 24 #[vi 0, vi 2, vi p3, .val fm] [(.int 0)] (fun _ k => lN X0 hx (dk d47_0) rfl (lN X0 hx (dk d47_1) rfl (XS.ior X0.here hx rfl (dk d47_2) rfl (lN X0 hx (dk d47_3) rfl (XS.ior X0.here hx rfl (dk d47_4) rfl (fN X0 hx (dk d47_5) rfl ((if0 _ _).trans (flt qb0).1) (lN X0 hx (dk d47_8) rfl (lN X0 hx (dk d47_9) rfl (lN X0 hx (dk d47_10) rfl (XS.isub X0.here hx rfl (dk d47_11) rfl (cY X0 hx 12 23 rfl (dk d47_12) rfl (flt qb1).2.2.2 (lN X0 hx (dk d47_23) rfl k)))))))))))) ?_
  refine Go.retJ X0 hx hlk (t := .int) hret (dk d47_24) ?_
  rw [e0]
  exact ⟨N0, rfl, rfl⟩
theorem rm_scbo_2 {l : Launch} {Z : State} {a0 : Array Value} (hw : HW a0 Z) (p3 : Int32) (fm : Value) (h0 : Heap) (n0 : Nat) (Z0 : n0 ≤ h0.size) (pr0 : Old Z n0 h0) (pr1 : S4 Z fm) (hr_fm : fm.isRef = true) (qb0 : ¬ (((p3 ||| (0 : Int32)) ||| (2 : Int32)) < (0 : Int32))) (qb1 : ¬ ((p3 - (0 : Int32)) < (2 : Int32))) :
    Met l Z Y16 B9 3 (some .int) [] ({ frames := 1, cells := 0, slots := 0, locals := 15 } : Room) #[(.int 0), (.int 2), (.int p3)] h0 (fun vv h L => Fr n0 L ∧ vv = some (.int 0) ∧ h = h0) := by
  refine Met.enter (f0 := fun m => mkF m 0 #[vi 0, vi 2, vi p3] []) (plainFor_of_name pn6) (fun m => oe m 0) ?_
  intro p e s m below meth c s₁ hx hby hml hown hnm hret hlk hZ X0 e0
  have dk : Dk B9 c := fun h => hb hby h
  have W := @wd _ _ _ hw
  have N0 := Fr.nil n0
  refine gz X0 3 #[vi 0, vi 2, vi p3] [(.int p3), (.int 2), (.int 0)] (fun _ k => lN X0 hx (dk d46_0) rfl (lN X0 hx (dk d46_1) rfl (lN X0 hx (dk d46_2) rfl k))) ?_
  obtain ⟨T10, X10, e10, st10⟩ := getS2 X0 hx hZ hown (host := "") (Or.inl (W 64 rfl)) Via.refl e0 (pr1.ext pr0.2) (g := (mkF m 3 #[vi 0, vi 2, vi p3] [(.int p3), (.int 2), (.int 0)])) rfl (dk d46_3)
  refine gz X10 6 #[vi 0, vi 2, vi p3] [fm, (.int p3), (.int 2), (.int 0)] (fun _ k => st10 _ k) ?_
  refine goS X10 hx hZ hown (W 195 rfl) (m29 hw) 4 0 0 (rm_cfis_2 hw p3 fm h0 n0 Z0 hr_fm qb0 qb1) N0 e10 pd_19 hml (dk d46_6) ?_
  rintro _ T11 L11 X11 N11 ⟨rfl, hh11⟩
  refine gz X11 9 #[vi 0, vi 2, vi p3] [(.int 0)] (fun _ k => k) ?_
  refine Go.retJ X11 hx hlk (t := .int) hret (dk d46_9) ?_
  rw [hh11]
  exact ⟨N11, rfl, rfl⟩
theorem rm_ucbo_2 {l : Launch} {Z : State} {a0 : Array Value} (hw : HW a0 Z) (b1 : Addr) (kb : ClassId) (z : Int32) (vs : List Value) (fm : Value) (h0 : Heap) (n0 : Nat) (Z0 : n0 ≤ h0.size) (pr0 : Old Z n0 h0) (pr1 : S4 Z fm) (hr_fm : fm.isRef = true) (pr3 : Arv Z h0 b1 kb .byte z vs (.int 0)) (qb0 : ¬ ((((z >>> ((1 : Int32) &&& 31)) ||| (0 : Int32)) ||| (2 : Int32)) < (0 : Int32))) (qb1 : ¬ (((z >>> ((1 : Int32) &&& 31)) - (0 : Int32)) < (2 : Int32))) :
    Met l Z Y26 B34 3 none [] ({ frames := 2, cells := 0, slots := 0, locals := 29 } : Room) #[(.int 0), (.int 2), (.ref b1)] h0 (fun vv h L => Fr n0 L ∧ vv = none ∧ h = h0) := by
  refine Met.enter (f0 := fun m => mkF m 0 #[vi 0, vi 2, vr b1] []) (plainFor_of_name pn4) (fun m => oe m 0) ?_
  intro p e s m below meth c s₁ hx hby hml hown hnm hret hlk hZ X0 e0
  have dk : Dk B34 c := fun h => hb hby h
  have W := @wd _ _ _ hw
  have N0 := Fr.nil n0
  refine gz X0 3 #[vi 0, vi 2, vr b1] [(.ref b1), (.int 2), (.int 0)] (fun _ k => lN X0 hx (dk d45_0) rfl (lN X0 hx (dk d45_1) rfl (aN X0 hx (dk d45_2) rfl rfl k))) ?_
  refine goS X0 hx hZ hown (W 178 rfl) (m13 hw) 1 0 0 (rm_ulen hw b1 kb z vs h0 n0 Z0 pr3) N0 e0 pd_12 hml (dk d45_3) ?_
  rintro _ T10 L10 X10 N10 ⟨rfl, hh10⟩
  refine goS X10 hx hZ hown (W 192 rfl) (m30 hw) 3 0 0 (rm_scbo_2 hw (z >>> ((1 : Int32) &&& 31)) fm h0 n0 Z0 pr0 pr1 hr_fm qb0 qb1) N10 hh10 pd_23 hml (dk d45_6) ?_
  rintro _ T11 L11 X11 N11 ⟨rfl, hh11⟩
  refine gz X11 10 #[vi 0, vi 2, vr b1] [] (fun _ k => XS.pop X11.here hx rfl (dk d45_9) rfl rfl k) ?_
  refine Go.retV X11 hx hlk hret (dk d45_10) (by decide) (by decide) ?_
  rw [hh11]
  exact ⟨N11, rfl, rfl⟩
theorem rm_cmpB5_2 {l : Launch} {Z : State} {a0 : Array Value} (hw : HW a0 Z) (b1 : Addr) (kb : ClassId) (z : Int32) (vs : List Value) (d1 : Addr) (kd : ClassId) (c0 : Int32) (c1 : Int32) (fm : Value) (h0 : Heap) (n0 : Nat) (Z0 : n0 ≤ h0.size) (pr0 : Old Z n0 h0) (pr1 : S4 Z fm) (hr_fm : fm.isRef = true) (pr3 : S0 Z) (pr4 : S1 Z) (pr5 : S2 Z) (pr6 : Arv Z h0 b1 kb .byte z vs (.int 0)) (hz0 : (0 : Int32) < z) (hz1 : (1 : Int32) < z) (hz2 : (2 : Int32) < z) (hz3 : (3 : Int32) < z) (he0 : vs.getD 0 (.int 0) = .int (own_b0 c0)) (he1 : vs.getD 1 (.int 0) = .int (own_b1 c0)) (he2 : vs.getD 2 (.int 0) = .int (own_b0 c1)) (he3 : vs.getD 3 (.int 0) = .int (own_b1 c1)) (hr0 : own_rng c0) (hr1 : own_rng c1) (pr17 : Arv Z h0 d1 kd .byte (2 : Int32) [(.int 0), (.int 0)] (.int 0)) (pr18 : n0 ≤ d1) (pr19 : b1 ≠ d1) (qb0 : ¬ ((((z >>> ((1 : Int32) &&& 31)) ||| (0 : Int32)) ||| (2 : Int32)) < (0 : Int32))) (qb1 : ¬ (((z >>> ((1 : Int32) &&& 31)) - (0 : Int32)) < (2 : Int32))) :
    Met l Z Y32 B23 7 (some .int) [] ({ frames := 3, cells := 0, slots := 0, locals := 43 } : Room) #[(.ref b1), (.int 0), (.ref d1), (.int 0), (.int 2)] h0 (fun vv h L => Fr n0 L ∧ ∃ r : Int32, vv = some (.int r) ∧ Keep h0 h [d1] ∧ (r = (2 : Int32) → Arv Z h d1 kd .byte (2 : Int32) [(.int (nar .byte (c0.toInt8.toInt32))), (.int (nar .byte (c1.toInt8.toInt32)))] (.int 0)) ∧ ((r = (2 : Int32) ∧ ¬ (255 : Int32) < c0 ∧ ¬ (255 : Int32) < c1) ∨ (r = (0 : Int32) ∧ (255 : Int32) < c0) ∨ (r = (1 : Int32) ∧ (255 : Int32) < c1))) := by
  refine Met.enter (f0 := fun m => mkF m 0 #[vr b1, vi 0, vr d1, vi 0, vi 2, .unset, .unset] []) (plainFor_of_name pn4) (fun m => oe m 2) ?_
  intro p e s m below meth c s₁ hx hby hml hown hnm hret hlk hZ X0 e0
  have dk : Dk B23 c := fun h => hb hby h
  have W := @wd _ _ _ hw
  have N0 := Fr.nil n0
  refine gz X0 4 #[vr b1, vi 0, vr d1, vi 0, vi 2, .unset, .unset] [(.ref b1), (.int 2), (.int 0)] (fun _ k => lN X0 hx (dk d44_0) rfl (lI X0 hx (dk d44_1) rfl (aN X0 hx (dk d44_3) rfl rfl k))) ?_
  refine goS X0 hx hZ hown (W 189 rfl) (m31 hw) 3 0 0 (rm_ucbo_2 hw b1 kb z vs fm h0 n0 Z0 pr0 pr1 hr_fm pr6 qb0 qb1) N0 e0 pd_24 hml (dk d44_4) ?_
  rintro _ T10 L10 X10 N10 ⟨rfl, hh10⟩
  refine gz X10 19 #[vr b1, vi 0, vr d1, vi 0, vi 2, vi 0, .unset] [(.int 0), (.ref b1)] (fun _ k => kC X10 hx (dk d44_7) (sI X10 hx (dk d44_8) rfl rfl (.inl rfl) (lI X10 hx (dk d44_10) rfl (lI X10 hx (dk d44_12) rfl (cN X10 hx (dk d44_14) rfl (tlt (by decide)).2.1 (aN X10 hx (dk d44_17) rfl rfl (lN X10 hx (dk d44_18) rfl k))))))) ?_
  refine goS X10 hx hZ hown (W 130 rfl) (m5 hw) 2 0 0 (rm_get_0 hw b1 kb c0 z vs h0 n0 Z0 pr0 pr3 pr4 pr5 pr6 hz0 hz1 he0 he1 hr0) N10 hh10 pd_5 hml (dk d44_19) ?_
  rintro _ T11 L11 X11 N11 ⟨rfl, hh11⟩
  refine gz X11 29 #[vr b1, vi 0, vr d1, vi 0, vi 2, vi 0, vi c0] [(.int 255), (.int c0)] (fun _ k => sI X11 hx (dk d44_22) rfl rfl (.inl rfl) (lI X11 hx (dk d44_24) rfl (XS.sipush X11.here hx rfl (dk d44_26) k))) ?_
  by_cases c12 : (255 : Int32) < c0
  · skip
    refine gz X11 34 #[vr b1, vi 0, vr d1, vi 0, vi 2, vi 0, vi c0] [(.int 0)] (fun _ k => cN X11 hx (dk d44_29) rfl (tlt c12).2.2.2 (lI X11 hx (dk d44_32) rfl k)) ?_
    refine Go.retJ X11 hx hlk (t := .int) hret (dk d44_34) ?_
    rw [hh11]
    exact ⟨N11, (0 : Int32), rfl, (Keep.refl h0 [d1]), (fun q => absurd q (by decide)), (Or.inr (Or.inl ⟨rfl, c12⟩))⟩
  · skip
    refine gz X11 40 #[vr b1, vi 0, vr d1, vi 0, vi 2, vi 0, vi c0] [(.int (c0.toInt8.toInt32)), (.int 0), (.ref d1)] (fun _ k => cY X11 hx 29 35 rfl (dk d44_29) rfl (flt c12).2.2.2 (aN X11 hx (dk d44_35) rfl rfl (lN X11 hx (dk d44_36) rfl (lI X11 hx (dk d44_37) rfl (XS.i2b X11.here hx rfl (dk d44_39) rfl k))))) ?_
    obtain ⟨cl13, Ar13, q13, S13, N_13, Hs13, G13⟩ := id pr17
    have hin14 : ¬ ((0 : Int32) < 0 ∨ cl13.slots.size ≤ ((0 : Int32)).toNatClampNeg) := inb_of S13 ⟨by decide, by decide⟩
    obtain ⟨T14, h14, X14, e14, W14, st14⟩ := stB X11 hx hZ hh11 Ar13 (j := (0 : Int32)) hin14 (g := (mkF m 40 #[vr b1, vi 0, vr d1, vi 0, vi 2, vi 0, vi c0] [(.int (c0.toInt8.toInt32)), (.int 0), (.ref d1)])) rfl rfl (dk d44_40)
    have O15 := pr0.wr W14 pr18
    have Z15 : n0 ≤ h14.size := Nat.le_trans Z0 (Keep.of_wr W14).1
    have V14 : Arv Z h14 d1 kd .byte (2 : Int32) [(.int (nar .byte (c0.toInt8.toInt32))), (.int 0)] (.int 0) := Arv.set Ar13 q13 S13 N_13 Hs13 G13 (fits_nar_byte _) W14 0 rfl (Nat.le_of_ble_eq_true rfl)
    have N14 := Fr.snoc X14 N11 pr18
    refine gz X14 19 #[vr b1, vi 1, vr d1, vi 1, vi 2, vi 1, vi c0] [(.int 1), (.ref b1)] (fun _ k => st14 _ (XS.iinc X14.here hx rfl (dk d44_41) rfl (l' := #[vr b1, vi 1, vr d1, vi 0, vi 2, vi 0, vi c0]) rfl (XS.iinc X14.here hx rfl (dk d44_44) rfl (l' := #[vr b1, vi 1, vr d1, vi 1, vi 2, vi 0, vi c0]) rfl (XS.iinc X14.here hx rfl (dk d44_47) rfl (l' := #[vr b1, vi 1, vr d1, vi 1, vi 2, vi 1, vi c0]) rfl (gT X14 hx 50 10 rfl (dk d44_50) (lI X14 hx (dk d44_10) rfl (lI X14 hx (dk d44_12) rfl (cN X14 hx (dk d44_14) rfl (tlt (by decide)).2.1 (aN X14 hx (dk d44_17) rfl rfl (lN X14 hx (dk d44_18) rfl k)))))))))) ?_
    refine goS X14 hx hZ hown (W 130 rfl) (m5 hw) 2 0 0 (rm_get_1 hw b1 kb c1 z vs h14 n0 Z15 O15 pr3 pr4 pr5 (pr6.other W14 pr19) hz2 hz3 he2 he3 hr1) N14 e14 pd_5 hml (dk d44_19) ?_
    rintro _ T16 L16 X16 N16 ⟨rfl, hh16⟩
    refine gz X16 29 #[vr b1, vi 1, vr d1, vi 1, vi 2, vi 1, vi c1] [(.int 255), (.int c1)] (fun _ k => sI X16 hx (dk d44_22) rfl rfl (.inr ⟨_, rfl, rfl⟩) (lI X16 hx (dk d44_24) rfl (XS.sipush X16.here hx rfl (dk d44_26) k))) ?_
    by_cases c17 : (255 : Int32) < c1
    · skip
      refine gz X16 34 #[vr b1, vi 1, vr d1, vi 1, vi 2, vi 1, vi c1] [(.int 1)] (fun _ k => cN X16 hx (dk d44_29) rfl (tlt c17).2.2.2 (lI X16 hx (dk d44_32) rfl k)) ?_
      refine Go.retJ X16 hx hlk (t := .int) hret (dk d44_34) ?_
      rw [hh16]
      exact ⟨N16, (1 : Int32), rfl, ((Keep.refl h0 [d1]).wr W14 (Or.inl (List.mem_of_getElem? (i := 0) rfl))), (fun q => absurd q (by decide)), (Or.inr (Or.inr ⟨rfl, c17⟩))⟩
    · skip
      refine gz X16 40 #[vr b1, vi 1, vr d1, vi 1, vi 2, vi 1, vi c1] [(.int (c1.toInt8.toInt32)), (.int 1), (.ref d1)] (fun _ k => cY X16 hx 29 35 rfl (dk d44_29) rfl (flt c17).2.2.2 (aN X16 hx (dk d44_35) rfl rfl (lN X16 hx (dk d44_36) rfl (lI X16 hx (dk d44_37) rfl (XS.i2b X16.here hx rfl (dk d44_39) rfl k))))) ?_
      obtain ⟨cl18, Ar18, q18, S18, N_18, Hs18, G18⟩ := id V14
      have hin19 : ¬ ((1 : Int32) < 0 ∨ cl18.slots.size ≤ ((1 : Int32)).toNatClampNeg) := inb_of S18 ⟨by decide, by decide⟩
      obtain ⟨T19, h19, X19, e19, W19, st19⟩ := stB X16 hx hZ hh16 Ar18 (j := (1 : Int32)) hin19 (g := (mkF m 40 #[vr b1, vi 1, vr d1, vi 1, vi 2, vi 1, vi c1] [(.int (c1.toInt8.toInt32)), (.int 1), (.ref d1)])) rfl rfl (dk d44_40)
      have O20 := O15.wr W19 pr18
      have Z20 : n0 ≤ h19.size := Nat.le_trans Z15 (Keep.of_wr W19).1
      have V19 : Arv Z h19 d1 kd .byte (2 : Int32) [(.int (nar .byte (c0.toInt8.toInt32))), (.int (nar .byte (c1.toInt8.toInt32)))] (.int 0) := Arv.set Ar18 q18 S18 N_18 Hs18 G18 (fits_nar_byte _) W19 1 rfl (Nat.le_of_ble_eq_true rfl)
      have N19 := Fr.snoc X19 N16 pr18
      refine gz X19 55 #[vr b1, vi 2, vr d1, vi 2, vi 2, vi 2, vi c1] [(.int 2)] (fun _ k => st19 _ (XS.iinc X19.here hx rfl (dk d44_41) rfl (l' := #[vr b1, vi 2, vr d1, vi 1, vi 2, vi 1, vi c1]) rfl (XS.iinc X19.here hx rfl (dk d44_44) rfl (l' := #[vr b1, vi 2, vr d1, vi 2, vi 2, vi 1, vi c1]) rfl (XS.iinc X19.here hx rfl (dk d44_47) rfl (l' := #[vr b1, vi 2, vr d1, vi 2, vi 2, vi 2, vi c1]) rfl (gT X19 hx 50 10 rfl (dk d44_50) (lI X19 hx (dk d44_10) rfl (lI X19 hx (dk d44_12) rfl (cY X19 hx 14 53 rfl (dk d44_14) rfl (flt (by decide)).2.1 (lI X19 hx (dk d44_53) rfl k))))))))) ?_
      refine Go.retJ X19 hx hlk (t := .int) hret (dk d44_55) ?_
      rw [e19]
      exact ⟨N19, (2 : Int32), rfl, (((Keep.refl h0 [d1]).wr W14 (Or.inl (List.mem_of_getElem? (i := 0) rfl))).wr W19 (Or.inl (List.mem_of_getElem? (i := 0) rfl))), (fun _ => V19), (Or.inl ⟨rfl, c12, c17⟩)⟩
theorem rm_cmpB3_2 {l : Launch} {Z : State} {a0 : Array Value} (hw : HW a0 Z) (b1 : Addr) (kb : ClassId) (z : Int32) (vs : List Value) (c0 : Int32) (c1 : Int32) (fm : Value) (h0 : Heap) (n0 : Nat) (Z0 : n0 ≤ h0.size) (pr0 : Old Z n0 h0) (pr1 : S4 Z fm) (hr_fm : fm.isRef = true) (pr3 : S0 Z) (pr4 : S1 Z) (pr5 : S2 Z) (pr6 : Arv Z h0 b1 kb .byte z vs (.int 0)) (hz0 : (0 : Int32) < z) (hz1 : (1 : Int32) < z) (hz2 : (2 : Int32) < z) (hz3 : (3 : Int32) < z) (he0 : vs.getD 0 (.int 0) = .int (own_b0 c0)) (he1 : vs.getD 1 (.int 0) = .int (own_b1 c0)) (he2 : vs.getD 2 (.int 0) = .int (own_b0 c1)) (he3 : vs.getD 3 (.int 0) = .int (own_b1 c1)) (hr0 : own_rng c0) (hr1 : own_rng c1) (qb0 : ¬ ((((z >>> ((1 : Int32) &&& 31)) ||| (0 : Int32)) ||| (2 : Int32)) < (0 : Int32))) (qb1 : ¬ (((z >>> ((1 : Int32) &&& 31)) - (0 : Int32)) < (2 : Int32))) (xhne : ¬ ((4 : Int32) = z)) (xhmn : (4 : Int32) < (z - (0 : Int32))) (xhle : 4 ≤ z.toNatClampNeg) (xhvl : 4 ≤ vs.length) :
    Met l Z Y31 B21 6 (some (.array .byte)) [] ({ frames := 4, cells := 2, slots := 6, locals := 61 } : Room) #[(.ref b1), (.int 0), (.int 2)] h0 (fun vv h L => Fr n0 L ∧ ∃ b : Addr, ∃ k : ClassId, ∃ u : Bool, vv = some (.ref b) ∧ Keep h0 h [] ∧ h0.size ≤ b ∧ (u = false → ¬ (255 : Int32) < c0 ∧ ¬ (255 : Int32) < c1) ∧ (u = false → Arv Z h b k .byte (2 : Int32) [(.int (nar .byte (c0.toInt8.toInt32))), (.int (nar .byte (c1.toInt8.toInt32)))] (.int 0)) ∧ (u = true → Arv Z h b k .byte (4 : Int32) [(.int (own_b0 c0)), (.int (own_b1 c0)), (.int (own_b0 c1)), (.int (own_b1 c1))] (.int 0))) := by
  refine Met.enter (f0 := fun m => mkF m 0 #[vr b1, vi 0, vi 2, .unset, .unset, .unset] []) (plainFor_of_name pn4) (fun m => oe m 3) ?_
  intro p e s m below meth c s₁ hx hby hml hown hnm hret hlk hZ X0 e0
  have dk : Dk B21 c := fun h => hb hby h
  have W := @wd _ _ _ hw
  have N0 := Fr.nil n0
  refine gz X0 1 #[vr b1, vi 0, vi 2, .unset, .unset, .unset] [(.int 2)] (fun _ k => lN X0 hx (dk d43_0) rfl k) ?_
  obtain ⟨T10, h10, k10, X10, e10, E10, A10, st10⟩ := newP X0 hx hZ (W 26 rfl) e0 (g := (mkF m 1 #[vr b1, vi 0, vi 2, .unset, .unset, .unset] [(.int 2)])) rfl (dk d43_1) rfl (by decide) (cap := 2) (by decide) (by decide) (by decide) (by decide)
  obtain ⟨b10, g10⟩ : ∃ z, z = h0.size := ⟨_, rfl⟩
  rw [← g10] at A10 st10
  have sz_b10 : h0.size ≤ b10 := Nat.le_of_eq g10.symm
  have V10 : Arv Z h10 b10 k10 .byte (2 : Int32) [(.int 0), (.int 0)] (.int 0) := (Arv.new A10 (by decide)).pad (pad_rep [] (.int 0) 2)
  have O11 := pr0.ext E10
  have Z11 : n0 ≤ h10.size := Nat.le_trans Z0 E10.1
  refine gz X10 9 #[vr b1, vi 0, vi 2, vr b10, .unset, .unset] [(.int 2), (.int 0), (.ref b10), (.int 0), (.ref b1)] (fun _ k => st10 _ (tN X10 hx (dk d43_3) rfl rfl rfl (.inl rfl) (aN X10 hx (dk d43_4) rfl rfl (lN X10 hx (dk d43_5) rfl (aN X10 hx (dk d43_6) rfl rfl (kC X10 hx (dk d43_7) (lN X10 hx (dk d43_8) rfl k))))))) ?_
  refine goS X10 hx hZ hown (W 186 rfl) (m32 hw) 5 1 2 (rm_cmpB5_2 hw b1 kb z vs b10 k10 c0 c1 fm h10 n0 Z11 O11 pr1 hr_fm pr3 pr4 pr5 (pr6.ext E10) hz0 hz1 hz2 hz3 he0 he1 he2 he3 hr0 hr1 V10 (Nat.le_trans Z0 sz_b10) (Nat.ne_of_lt (Nat.lt_of_lt_of_le pr6.lt sz_b10)) qb0 qb1) N0 e10 pd_25 hml (dk d43_9) ?_
  rintro _ T12 L12 X12 N12 ⟨r12, rfl, K12, p12_0, p12_1⟩
  have O13 := O11.keep K12 (allS (Nat.le_trans Z0 sz_b10) all0)
  have Z13 : n0 ≤ T12.heap.size := Nat.le_trans Z11 K12.1
  rcases p12_1 with ⟨rfl, e14, e15⟩ | ⟨rfl, e16⟩ | ⟨rfl, e17⟩
  · skip
    have V18 := p12_0 rfl
    refine gz X12 65 #[vr b1, vi 0, vi 2, vr b10, vi 2, .unset] [(.ref b10)] (fun _ k => sI X12 hx (dk d43_12) rfl rfl (.inl rfl) (lI X12 hx (dk d43_14) rfl (lN X12 hx (dk d43_16) rfl (cY X12 hx 17 64 rfl (dk d43_17) rfl (teq (by decide)).1 (aN X12 hx (dk d43_64) rfl rfl k))))) ?_
    refine Go.retA X12 hx hlk (t := (.array .byte)) hret (dk d43_65) ?_
    exact ⟨N12, b10, k10, false, rfl, (((Keep.refl h0 []).ext E10).trans K12 (allS (Or.inr (Nat.le_trans (Nat.le_refl _) sz_b10)) all0)), (Nat.le_trans (Nat.le_refl _) sz_b10), (fun _ => ⟨e14, e15⟩), (fun _ => V18), (fun q => nomatch q)⟩
  · skip
    refine gz X12 27 #[vr b1, vi 0, vi 2, vr b10, vi 0, .unset] [(.int 2), (.int 0), (.ref b1)] (fun _ k => sI X12 hx (dk d43_12) rfl rfl (.inl rfl) (lI X12 hx (dk d43_14) rfl (lN X12 hx (dk d43_16) rfl (cN X12 hx (dk d43_17) rfl (feq (by decide)).1 (aN X12 hx (dk d43_20) rfl rfl (lN X12 hx (dk d43_21) rfl (kC X12 hx (dk d43_22) (XS.ishl X12.here hx rfl (dk d43_23) rfl (lN X12 hx (dk d43_24) rfl (lN X12 hx (dk d43_25) rfl (pI X12 hx (dk d43_26) rfl k))))))))))) ?_
    refine goS X12 hx hZ hown (W 120 rfl) (m0 hw) 1 1 2 (rm_nbl_2 hw  T12.heap n0 Z13 ) N12 rfl pd_0 hml (dk d43_27) ?_
    rintro _ T19 L19 X19 N19 ⟨rfl, hh19⟩
    have f20 := ((pr6.ext E10).keep K12 (ninS (Nat.ne_of_lt (Nat.lt_of_lt_of_le pr6.lt sz_b10)) nin0))
    refine goS X19 hx hZ hown (W 198 rfl) (m27 hw) 3 2 6 (rm_cpr_4 hw b1 kb z vs T12.heap n0 Z13 O13 f20 xhne xhmn xhle xhvl) N19 hh19 pd_21 hml (dk d43_30) ?_
    rintro _ T21 L21 X21 N21 ⟨b21, k21, rfl, K21, p21_0, p21_1⟩
    have O22 := O13.keep K21 all0
    have Z22 : n0 ≤ T21.heap.size := Nat.le_trans Z13 K21.1
    have sz_b21 : T12.heap.size ≤ b21 := p21_1
    refine gz X21 39 #[vr b1, vi 0, vi 2, vr b10, vi 0, vr b21] [(.int 0), (.ref b21)] (fun _ k => tI X21 hx (dk d43_33) rfl rfl rfl (.inl rfl) (aI X21 hx (dk d43_35) rfl rfl (lI X21 hx (dk d43_37) rfl k))) ?_
    refine goS X21 hx hZ hown (W 130 rfl) (m5 hw) 2 2 6 (rm_get_0 hw b21 k21 c0 (4 : Int32) (vs.take 4) T21.heap n0 Z22 O22 pr3 pr4 pr5 p21_0 (by decide) (by decide) ((own_tk (by decide)).trans he0) ((own_tk (by decide)).trans he1) hr0) N21 rfl pd_5 hml (dk d43_39) ?_
    rintro _ T23 L23 X23 N23 ⟨rfl, hh23⟩
    refine gz X23 63 #[vr b1, vi 0, vi 2, vr b10, vi 0, vr b21] [(.ref b21)] (fun _ k => XS.sipush X23.here hx rfl (dk d43_42) (cY X23 hx 45 61 rfl (dk d43_45) rfl (tlt e16).2.2.1 (aI X23 hx (dk d43_61) rfl rfl k))) ?_
    refine Go.retA X23 hx hlk (t := (.array .byte)) hret (dk d43_63) ?_
    rw [hh23]
    exact ⟨N23, b21, k21, true, rfl, ((((Keep.refl h0 []).ext E10).trans K12 (allS (Or.inr (Nat.le_trans (Nat.le_refl _) sz_b10)) all0)).trans K21 all0), (Nat.le_trans (Nat.le_trans (Nat.le_trans (Nat.le_refl _) E10.1) K12.1) sz_b21), (fun q => nomatch q), (fun q => nomatch q), (fun _ => Arv.pad p21_0 (own_tl4 he0 he1 he2 he3))⟩
  · skip
    refine gz X12 27 #[vr b1, vi 0, vi 2, vr b10, vi 1, .unset] [(.int 2), (.int 0), (.ref b1)] (fun _ k => sI X12 hx (dk d43_12) rfl rfl (.inl rfl) (lI X12 hx (dk d43_14) rfl (lN X12 hx (dk d43_16) rfl (cN X12 hx (dk d43_17) rfl (feq (by decide)).1 (aN X12 hx (dk d43_20) rfl rfl (lN X12 hx (dk d43_21) rfl (kC X12 hx (dk d43_22) (XS.ishl X12.here hx rfl (dk d43_23) rfl (lN X12 hx (dk d43_24) rfl (lN X12 hx (dk d43_25) rfl (pI X12 hx (dk d43_26) rfl k))))))))))) ?_
    refine goS X12 hx hZ hown (W 120 rfl) (m0 hw) 1 1 2 (rm_nbl_2 hw  T12.heap n0 Z13 ) N12 rfl pd_0 hml (dk d43_27) ?_
    rintro _ T24 L24 X24 N24 ⟨rfl, hh24⟩
    have f25 := ((pr6.ext E10).keep K12 (ninS (Nat.ne_of_lt (Nat.lt_of_lt_of_le pr6.lt sz_b10)) nin0))
    refine goS X24 hx hZ hown (W 198 rfl) (m27 hw) 3 2 6 (rm_cpr_4 hw b1 kb z vs T12.heap n0 Z13 O13 f25 xhne xhmn xhle xhvl) N24 hh24 pd_21 hml (dk d43_30) ?_
    rintro _ T26 L26 X26 N26 ⟨b26, k26, rfl, K26, p26_0, p26_1⟩
    have O27 := O13.keep K26 all0
    have Z27 : n0 ≤ T26.heap.size := Nat.le_trans Z13 K26.1
    have sz_b26 : T12.heap.size ≤ b26 := p26_1
    refine gz X26 39 #[vr b1, vi 0, vi 2, vr b10, vi 1, vr b26] [(.int 1), (.ref b26)] (fun _ k => tI X26 hx (dk d43_33) rfl rfl rfl (.inl rfl) (aI X26 hx (dk d43_35) rfl rfl (lI X26 hx (dk d43_37) rfl k))) ?_
    refine goS X26 hx hZ hown (W 130 rfl) (m5 hw) 2 2 6 (rm_get_1 hw b26 k26 c1 (4 : Int32) (vs.take 4) T26.heap n0 Z27 O27 pr3 pr4 pr5 p26_0 (by decide) (by decide) ((own_tk (by decide)).trans he2) ((own_tk (by decide)).trans he3) hr1) N26 rfl pd_5 hml (dk d43_39) ?_
    rintro _ T28 L28 X28 N28 ⟨rfl, hh28⟩
    refine gz X28 63 #[vr b1, vi 0, vi 2, vr b10, vi 1, vr b26] [(.ref b26)] (fun _ k => XS.sipush X28.here hx rfl (dk d43_42) (cY X28 hx 45 61 rfl (dk d43_45) rfl (tlt e17).2.2.1 (aI X28 hx (dk d43_61) rfl rfl k))) ?_
    refine Go.retA X28 hx hlk (t := (.array .byte)) hret (dk d43_63) ?_
    rw [hh28]
    exact ⟨N28, b26, k26, true, rfl, ((((Keep.refl h0 []).ext E10).trans K12 (allS (Or.inr (Nat.le_trans (Nat.le_refl _) sz_b10)) all0)).trans K26 all0), (Nat.le_trans (Nat.le_trans (Nat.le_trans (Nat.le_refl _) E10.1) K12.1) sz_b26), (fun q => nomatch q), (fun q => nomatch q), (fun _ => Arv.pad p26_0 (own_tl4 he0 he1 he2 he3))⟩
theorem rm_u16n_2 {l : Launch} {Z : State} {a0 : Array Value} (hw : HW a0 Z) (b1 : Addr) (kb : ClassId) (z : Int32) (vs : List Value) (c0 : Int32) (c1 : Int32) (cs : Int32) (fm : Value) (h0 : Heap) (n0 : Nat) (Z0 : n0 ≤ h0.size) (pr0 : Old Z n0 h0) (pr1 : S3 Z cs) (hcs : ¬ (cs = (0 : Int32))) (pr3 : S4 Z fm) (hr_fm : fm.isRef = true) (pr5 : S0 Z) (pr6 : S1 Z) (pr7 : S2 Z) (pr8 : Arv Z h0 b1 kb .byte z vs (.int 0)) (hz0 : (0 : Int32) < z) (hz1 : (1 : Int32) < z) (hz2 : (2 : Int32) < z) (hz3 : (3 : Int32) < z) (he0 : vs.getD 0 (.int 0) = .int (own_b0 c0)) (he1 : vs.getD 1 (.int 0) = .int (own_b1 c0)) (he2 : vs.getD 2 (.int 0) = .int (own_b0 c1)) (he3 : vs.getD 3 (.int 0) = .int (own_b1 c1)) (hr0 : own_rng c0) (hr1 : own_rng c1) (qb0 : ¬ ((((z >>> ((1 : Int32) &&& 31)) ||| (0 : Int32)) ||| (2 : Int32)) < (0 : Int32))) (qb1 : ¬ (((z >>> ((1 : Int32) &&& 31)) - (0 : Int32)) < (2 : Int32))) (xhne : ¬ ((4 : Int32) = z)) (xhmn : (4 : Int32) < (z - (0 : Int32))) (xhle : 4 ≤ z.toNatClampNeg) (xhvl : 4 ≤ vs.length) :
    Met l Z Y39 B28 5 (some (.object "java/lang/String")) [] ({ frames := 5, cells := 3, slots := 10, locals := 78 } : Room) #[(.ref b1), (.int 0), (.int 2)] h0 (fun vv h L => Fr n0 L ∧ ∃ b : Addr, ∃ t : Addr, ∃ k : ClassId, vv = some (.ref b) ∧ Keep h0 h [] ∧ XT Z h b ∧ FV Z h b t ∧ h0.size ≤ b ∧ ((FC Z h b 0 ∧ Arv Z h t k .byte (2 : Int32) [(.int (nar .byte (c0.toInt8.toInt32))), (.int (nar .byte (c1.toInt8.toInt32)))] (.int 0) ∧ ¬ (255 : Int32) < c0 ∧ ¬ (255 : Int32) < c1) ∨ (FC Z h b 1 ∧ Arv Z h t k .byte (4 : Int32) [(.int (own_b0 c0)), (.int (own_b1 c0)), (.int (own_b0 c1)), (.int (own_b1 c1))] (.int 0)))) := by
  refine Met.enter (f0 := fun m => mkF m 0 #[vr b1, vi 0, vi 2, .unset, .unset] []) (plainFor_of_name pn4) (fun m => oe m 2) ?_
  intro p e s m below meth c s₁ hx hby hml hown hnm hret hlk hZ X0 e0
  have dk : Dk B28 c := fun h => hb hby h
  have W := @wd _ _ _ hw
  have N0 := Fr.nil n0
  refine gz X0 8 #[vr b1, vi 0, vi 2, .unset, .unset] [] (fun _ k => lN X0 hx (dk d34_0) rfl (fY X0 hx 1 8 rfl (dk d34_1) rfl ((if0 _ _).trans (feq (by decide)).2) k)) ?_
  obtain ⟨T10, X10, e10, st10⟩ := getS2 X0 hx hZ hown (host := "") (Or.inl (W 182 rfl)) Via.refl e0 (pr1.ext pr0.2) (g := (mkF m 8 #[vr b1, vi 0, vi 2, .unset, .unset] [])) rfl (dk d34_8)
  refine gz X10 17 #[vr b1, vi 0, vi 2, .unset, .unset] [(.int 2), (.int 0), (.ref b1)] (fun _ k => st10 _ (fN X10 hx (dk d34_11) rfl ((if0 _ _).trans (feq hcs).1) (aN X10 hx (dk d34_14) rfl rfl (lN X10 hx (dk d34_15) rfl (lN X10 hx (dk d34_16) rfl k))))) ?_
  refine goS X10 hx hZ hown (W 183 rfl) (m33 hw) 3 2 6 (rm_cmpB3_2 hw b1 kb z vs c0 c1 fm h0 n0 Z0 pr0 pr3 hr_fm pr5 pr6 pr7 pr8 hz0 hz1 hz2 hz3 he0 he1 he2 he3 hr0 hr1 qb0 qb1 xhne xhmn xhle xhvl) N0 e10 pd_21 hml (dk d34_17) ?_
  rintro _ T11 L11 X11 N11 ⟨b11, k11, u11, rfl, K11, p11_0, p11_1, p11_2, p11_3⟩
  have O12 := pr0.keep K11 all0
  have Z12 : n0 ≤ T11.heap.size := Nat.le_trans Z0 K11.1
  have sz_b11 : h0.size ≤ b11 := p11_0
  rcases u11 with _ | _
  · skip
    have V13 := p11_2 rfl
    refine gz X11 23 #[vr b1, vi 0, vi 2, vr b11, .unset] [(.int 2), (.ref b11)] (fun _ k => tN X11 hx (dk d34_20) rfl rfl rfl (.inl rfl) (aN X11 hx (dk d34_21) rfl rfl (lN X11 hx (dk d34_22) rfl k))) ?_
    refine goS X11 hx hZ hown (W 199 rfl) (m7 hw) 2 2 6 (rm_cfal_2_0 hw b11 k11 c0 c1 T11.heap n0 Z12 V13) N11 rfl pd_6 hml (dk d34_23) ?_
    rintro _ T14 L14 X14 N14 ⟨rfl, hh14⟩
    refine gz X14 28 #[vr b1, vi 0, vi 2, vr b11, vi 0] [] (fun _ k => sI X14 hx (dk d34_26) rfl rfl (.inl rfl) k) ?_
    obtain ⟨T15, h15, X15, e15, E15, A15, D15, -, st15⟩ := newO X14 hx hZ hown (W 200 rfl) (W 9 rfl) (W 10 rfl) hh14 (g := (mkF m 28 #[vr b1, vi 0, vi 2, vr b11, vi 0] [])) rfl (dk d34_28) (by decide) (by decide)
    obtain ⟨b15, g15⟩ : ∃ z, z = T11.heap.size := ⟨_, rfl⟩
    rw [← g15] at A15 D15 st15
    have sz_b15 : T11.heap.size ≤ b15 := Nat.le_of_eq g15.symm
    have O16 := O12.ext E15
    have Z16 : n0 ≤ h15.size := Nat.le_trans Z12 E15.1
    have F17 : FC Z h15 b15 0 := D15 (Or.inr (W 34 rfl)) (ty := .byte) (by decide)
    have F18 : Fld Z h15 b15 "java/lang/String" "value" "[B" .null := D15 (Or.inr (W 36 rfl)) (ty := (.array .byte)) (by decide)
    refine gz X15 35 #[vr b1, vi 0, vi 2, vr b11, vi 0] [(.int 0), (.ref b11), (.ref b15), (.ref b15)] (fun _ k => st15 _ (XS.dup X15.here hx rfl (dk d34_31) rfl rfl (aN X15 hx (dk d34_32) rfl rfl (lI X15 hx (dk d34_33) rfl k)))) ?_
    refine goI X15 hx hZ hown (W 201 rfl) (m28 hw) 2 3 10 (rm_sinit hw b15 b11 h15 n0 Z16 O16 A15 F18 F17 (Nat.le_trans Z12 sz_b15)) N14 e15 pd_22 hml (dk d34_35) ?_
    rintro _ T19 L19 X19 N19 ⟨rfl, K19, p19_0, p19_1, p19_2⟩
    have O20 := O16.keep K19 (allS (Nat.le_trans Z12 sz_b15) all0)
    have Z20 : n0 ≤ T19.heap.size := Nat.le_trans Z16 K19.1
    refine gz X19 38 #[vr b1, vi 0, vi 2, vr b11, vi 0] [(.ref b15)] (fun _ k => k) ?_
    refine Go.retA X19 hx hlk (t := (.object "java/lang/String")) hret (dk d34_38) ?_
    exact ⟨N19, b15, b11, k11, rfl, ((((Keep.refl h0 []).trans K11 all0).ext E15).trans K19 (allS (Or.inr (Nat.le_trans (Nat.le_trans (Nat.le_refl _) K11.1) sz_b15)) all0)), p19_0, p19_1, (Nat.le_trans (Nat.le_trans (Nat.le_refl _) K11.1) sz_b15), (Or.inl ⟨p19_2, ((V13.ext E15).keep K19 (ninS (Nat.ne_of_lt (Nat.lt_of_lt_of_le V13.lt sz_b15)) nin0)), p11_1 rfl⟩)⟩
  · skip
    have V21 := p11_3 rfl
    refine gz X11 23 #[vr b1, vi 0, vi 2, vr b11, .unset] [(.int 2), (.ref b11)] (fun _ k => tN X11 hx (dk d34_20) rfl rfl rfl (.inl rfl) (aN X11 hx (dk d34_21) rfl rfl (lN X11 hx (dk d34_22) rfl k))) ?_
    refine goS X11 hx hZ hown (W 199 rfl) (m7 hw) 2 2 6 (rm_cfal_2_1 hw b11 k11 c0 c1 T11.heap n0 Z12 V21) N11 rfl pd_6 hml (dk d34_23) ?_
    rintro _ T22 L22 X22 N22 ⟨rfl, hh22⟩
    refine gz X22 28 #[vr b1, vi 0, vi 2, vr b11, vi 1] [] (fun _ k => sI X22 hx (dk d34_26) rfl rfl (.inl rfl) k) ?_
    obtain ⟨T23, h23, X23, e23, E23, A23, D23, -, st23⟩ := newO X22 hx hZ hown (W 200 rfl) (W 9 rfl) (W 10 rfl) hh22 (g := (mkF m 28 #[vr b1, vi 0, vi 2, vr b11, vi 1] [])) rfl (dk d34_28) (by decide) (by decide)
    obtain ⟨b23, g23⟩ : ∃ z, z = T11.heap.size := ⟨_, rfl⟩
    rw [← g23] at A23 D23 st23
    have sz_b23 : T11.heap.size ≤ b23 := Nat.le_of_eq g23.symm
    have O24 := O12.ext E23
    have Z24 : n0 ≤ h23.size := Nat.le_trans Z12 E23.1
    have F25 : FC Z h23 b23 0 := D23 (Or.inr (W 34 rfl)) (ty := .byte) (by decide)
    have F26 : Fld Z h23 b23 "java/lang/String" "value" "[B" .null := D23 (Or.inr (W 36 rfl)) (ty := (.array .byte)) (by decide)
    refine gz X23 35 #[vr b1, vi 0, vi 2, vr b11, vi 1] [(.int 1), (.ref b11), (.ref b23), (.ref b23)] (fun _ k => st23 _ (XS.dup X23.here hx rfl (dk d34_31) rfl rfl (aN X23 hx (dk d34_32) rfl rfl (lI X23 hx (dk d34_33) rfl k)))) ?_
    refine goI X23 hx hZ hown (W 201 rfl) (m28 hw) 2 3 10 (rm_sinit1 hw b23 b11 h23 n0 Z24 O24 A23 F26 F25 (Nat.le_trans Z12 sz_b23)) N22 e23 pd_22 hml (dk d34_35) ?_
    rintro _ T27 L27 X27 N27 ⟨rfl, K27, p27_0, p27_1, p27_2⟩
    have O28 := O24.keep K27 (allS (Nat.le_trans Z12 sz_b23) all0)
    have Z28 : n0 ≤ T27.heap.size := Nat.le_trans Z24 K27.1
    refine gz X27 38 #[vr b1, vi 0, vi 2, vr b11, vi 1] [(.ref b23)] (fun _ k => k) ?_
    refine Go.retA X27 hx hlk (t := (.object "java/lang/String")) hret (dk d34_38) ?_
    exact ⟨N27, b23, b11, k11, rfl, ((((Keep.refl h0 []).trans K11 all0).ext E23).trans K27 (allS (Or.inr (Nat.le_trans (Nat.le_trans (Nat.le_refl _) K11.1) sz_b23)) all0)), p27_0, p27_1, (Nat.le_trans (Nat.le_trans (Nat.le_refl _) K11.1) sz_b23), (Or.inr ⟨p27_2, ((V21.ext E23).keep K27 (ninS (Nat.ne_of_lt (Nat.lt_of_lt_of_le V21.lt sz_b23)) nin0))⟩)⟩
theorem d17_0 : DK B15 0 (.aload_n 0) 1 := by decide +kernel
theorem d17_1 : DK B15 1 (.invokevirtual 505) 3 := by decide +kernel
theorem pd_26 : parseMethodDescriptor "()I" = some ⟨[], some .int⟩ := by decide +kernel
theorem m34 {Z : State} {a0 : Array Value} (hw : HW a0 Z) : (Jvm.Cond.declares Y21).before a0 Z = true ∧ (Jvm.Cond.selects "java/lang/String" Y21 Y21).before a0 Z = true ∧ (Jvm.Cond.instanceMethod Y21).before a0 Z = true ∧ (Jvm.Cond.initialized "java/lang/String").before a0 Z = true ∧ (Jvm.Cond.code Y21 B12 (1 : Nat) (Option.some Jvm.ClassFile.FieldType.int)).before a0 Z = true := ⟨(wd hw 42 rfl), (wd hw 44 rfl), (wd hw 43 rfl), (wd hw 10 rfl), (wd hw 45 rfl)⟩
theorem d17_4 : DK B15 4 (.istore_n 3) 1 := by decide +kernel
theorem d17_5 : DK B15 5 (.iload_n 1) 1 := by decide +kernel
theorem d17_6 : DK B15 6 (.iload_n 2) 1 := by decide +kernel
theorem d17_7 : DK B15 7 (.iload_n 3) 1 := by decide +kernel
theorem d17_8 : DK B15 8 (.invokestatic 521) 3 := by decide +kernel
theorem pd_27 : parseMethodDescriptor "(III)V" = some ⟨[.int, .int, .int], none⟩ := by decide +kernel
theorem m35 {Z : State} {a0 : Array Value} (hw : HW a0 Z) : (Jvm.Cond.static Y15).before a0 Z = true ∧ (Jvm.Cond.initialized "java/lang/String").before a0 Z = true ∧ (Jvm.Cond.code Y15 B10 (3 : Nat) (Option.none : Option Jvm.ClassFile.FieldType)).before a0 Z = true := ⟨(wd hw 79 rfl), (wd hw 10 rfl), (wd hw 80 rfl)⟩
theorem d17_11 : DK B15 11 (.iload_n 1) 1 := by decide +kernel
theorem d17_12 : DK B15 12 (.ifCond .ne 10) 3 := by decide +kernel
theorem d17_15 : DK B15 15 (.iload_n 2) 1 := by decide +kernel
theorem d17_16 : DK B15 16 (.iload_n 3) 1 := by decide +kernel
theorem d17_17 : DK B15 17 (.if_icmp .ne 5) 3 := by decide +kernel
theorem d17_20 : DK B15 20 (.aload_n 0) 1 := by decide +kernel
theorem d17_21 : DK B15 21 .areturn 1 := by decide +kernel
theorem rm_sub_0 {l : Launch} {Z : State} {a0 : Array Value} (hw : HW a0 Z) (a1 : Addr) (t1 : Addr) (k1 : ClassId) (cs : Int32) (fm : Value) (vs : List Value) (h0 : Heap) (n0 : Nat) (Z0 : n0 ≤ h0.size) (pr0 : Old Z n0 h0) (pr1 : S3 Z cs) (hcs : ¬ (cs = (0 : Int32))) (pr3 : S4 Z fm) (hr_fm : fm.isRef = true) (pr5 : XT Z h0 a1) (pr6 : FV Z h0 a1 t1) (pr7 : FC Z h0 a1 0) (pr8 : Arv Z h0 t1 k1 .byte (0 : Int32) vs (.int 0)) :
    Met l Z Y22 B15 5 (some (.object "java/lang/String")) [] ({ frames := 2, cells := 0, slots := 0, locals := 29 } : Room) #[(.ref a1), (.int 0), (.int 0)] h0 (fun vv h L => Fr n0 L ∧ vv = some (.ref a1) ∧ h = h0) := by
  refine Met.enter (f0 := fun m => mkF m 0 #[vr a1, vi 0, vi 0, .unset, .unset] []) (plainFor_of_name pn6) (fun m => oe m 2) ?_
  intro p e s m below meth c s₁ hx hby hml hown hnm hret hlk hZ X0 e0
  have dk : Dk B15 c := fun h => hb hby h
  have W := @wd _ _ _ hw
  have N0 := Fr.nil n0
  refine gz X0 1 #[vr a1, vi 0, vi 0, .unset, .unset] [(.ref a1)] (fun _ k => aN X0 hx (dk d17_0) rfl rfl k) ?_
  refine goV X0 hx hZ hown (W 77 rfl) (m34 hw) pr5 0 0 0 (rm_len_0_0 hw a1 t1 k1 cs vs h0 n0 Z0 pr0 pr1 hcs pr5 pr6 pr7 pr8) N0 e0 pd_26 hml (dk d17_1) ?_
  rintro _ T10 L10 X10 N10 ⟨rfl, hh10⟩
  refine gz X10 8 #[vr a1, vi 0, vi 0, vi 0, .unset] [(.int 0), (.int 0), (.int 0)] (fun _ k => sN X10 hx (dk d17_4) rfl rfl (.inl rfl) (lN X10 hx (dk d17_5) rfl (lN X10 hx (dk d17_6) rfl (lN X10 hx (dk d17_7) rfl k)))) ?_
  refine goS X10 hx hZ hown (W 78 rfl) (m35 hw) 3 0 0 (rm_cbe hw (0 : Int32) (0 : Int32) (0 : Int32) fm h0 n0 Z0 pr0 pr3 hr_fm (by decide) (by decide) (by decide)) N10 hh10 pd_27 hml (dk d17_8) ?_
  rintro _ T11 L11 X11 N11 ⟨rfl, hh11⟩
  refine gz X11 21 #[vr a1, vi 0, vi 0, vi 0, .unset] [(.ref a1)] (fun _ k => lN X11 hx (dk d17_11) rfl (fN X11 hx (dk d17_12) rfl ((if0 _ _).trans (teq (by decide)).2) (lN X11 hx (dk d17_15) rfl (lN X11 hx (dk d17_16) rfl (cN X11 hx (dk d17_17) rfl (teq (by decide)).2 (aN X11 hx (dk d17_20) rfl rfl k)))))) ?_
  refine Go.retA X11 hx hlk (t := (.object "java/lang/String")) hret (dk d17_21) ?_
  rw [hh11]
  exact ⟨N11, rfl, rfl⟩
theorem rm_subS_1_1 {l : Launch} {Z : State} {a0 : Array Value} (hw : HW a0 Z) (a1 : Addr) (t1 : Addr) (k1 : ClassId) (c0 : Int32) (cs : Int32) (fm : Value) (h0 : Heap) (n0 : Nat) (Z0 : n0 ≤ h0.size) (pr0 : Old Z n0 h0) (pr1 : S3 Z cs) (hcs : ¬ (cs = (0 : Int32))) (pr3 : S4 Z fm) (hr_fm : fm.isRef = true) (pr5 : S0 Z) (pr6 : S1 Z) (pr7 : S2 Z) (pr8 : XT Z h0 a1) (pr9 : FV Z h0 a1 t1) (say : (FC Z h0 a1 0 ∧ Arv Z h0 t1 k1 .byte (1 : Int32) [(.int (nar .byte (c0.toInt8.toInt32)))] (.int 0) ∧ ¬ (255 : Int32) < c0) ∨ (FC Z h0 a1 1 ∧ Arv Z h0 t1 k1 .byte (2 : Int32) [(.int (own_b0 c0)), (.int (own_b1 c0))] (.int 0))) (hr0 : own_rng c0) :
    Met l Z Y22 B15 5 (some (.object "java/lang/String")) [] ({ frames := 2, cells := 0, slots := 0, locals := 29 } : Room) #[(.ref a1), (.int 0), (.int 1)] h0 (fun vv h L => Fr n0 L ∧ vv = some (.ref a1) ∧ h = h0) := by
  refine Met.enter (f0 := fun m => mkF m 0 #[vr a1, vi 0, vi 1, .unset, .unset] []) (plainFor_of_name pn6) (fun m => oe m 2) ?_
  intro p e s m below meth c s₁ hx hby hml hown hnm hret hlk hZ X0 e0
  have dk : Dk B15 c := fun h => hb hby h
  have W := @wd _ _ _ hw
  have N0 := Fr.nil n0
  refine gz X0 1 #[vr a1, vi 0, vi 1, .unset, .unset] [(.ref a1)] (fun _ k => aN X0 hx (dk d17_0) rfl rfl k) ?_
  refine goV X0 hx hZ hown (W 77 rfl) (m34 hw) pr8 0 0 0 (rm_lenS_1 hw a1 t1 k1 c0 cs h0 n0 Z0 pr0 pr1 hcs pr8 pr9 say) N0 e0 pd_26 hml (dk d17_1) ?_
  rintro _ T10 L10 X10 N10 ⟨rfl, hh10⟩
  refine gz X10 8 #[vr a1, vi 0, vi 1, vi 1, .unset] [(.int 1), (.int 1), (.int 0)] (fun _ k => sN X10 hx (dk d17_4) rfl rfl (.inl rfl) (lN X10 hx (dk d17_5) rfl (lN X10 hx (dk d17_6) rfl (lN X10 hx (dk d17_7) rfl k)))) ?_
  refine goS X10 hx hZ hown (W 78 rfl) (m35 hw) 3 0 0 (rm_cbe hw (0 : Int32) (1 : Int32) (1 : Int32) fm h0 n0 Z0 pr0 pr3 hr_fm (by decide) (by decide) (by decide)) N10 hh10 pd_27 hml (dk d17_8) ?_
  rintro _ T11 L11 X11 N11 ⟨rfl, hh11⟩
  refine gz X11 21 #[vr a1, vi 0, vi 1, vi 1, .unset] [(.ref a1)] (fun _ k => lN X11 hx (dk d17_11) rfl (fN X11 hx (dk d17_12) rfl ((if0 _ _).trans (teq (by decide)).2) (lN X11 hx (dk d17_15) rfl (lN X11 hx (dk d17_16) rfl (cN X11 hx (dk d17_17) rfl (teq (by decide)).2 (aN X11 hx (dk d17_20) rfl rfl k)))))) ?_
  refine Go.retA X11 hx hlk (t := (.object "java/lang/String")) hret (dk d17_21) ?_
  rw [hh11]
  exact ⟨N11, rfl, rfl⟩
theorem d17_22 : DK B15 22 (.iload_n 2) 1 := by decide +kernel
theorem d17_23 : DK B15 23 (.iload_n 1) 1 := by decide +kernel
theorem d17_24 : DK B15 24 .isub 1 := by decide +kernel
theorem d17_25 : DK B15 25 (.istore 4) 2 := by decide +kernel
theorem d17_27 : DK B15 27 (.aload_n 0) 1 := by decide +kernel
theorem d17_28 : DK B15 28 (.invokevirtual 492) 3 := by decide +kernel
theorem d17_31 : DK B15 31 (.ifCond .eq 16) 3 := by decide +kernel
theorem d17_34 : DK B15 34 (.aload_n 0) 1 := by decide +kernel
theorem d17_35 : DK B15 35 (.getfield 9) 3 := by decide +kernel
theorem d17_38 : DK B15 38 (.iload_n 1) 1 := by decide +kernel
theorem d17_39 : DK B15 39 (.iload 4) 2 := by decide +kernel
theorem d17_41 : DK B15 41 (.invokestatic 685) 3 := by decide +kernel
theorem pd_28 : parseMethodDescriptor "([BII)Ljava/lang/String;" = some ⟨[(.array .byte), .int, .int], some (.object "java/lang/String")⟩ := by decide +kernel
theorem d17_44 : DK B15 44 (.goto 13) 3 := by decide +kernel
theorem d17_57 : DK B15 57 .areturn 1 := by decide +kernel
theorem d17_47 : DK B15 47 (.aload_n 0) 1 := by decide +kernel
theorem d17_48 : DK B15 48 (.getfield 9) 3 := by decide +kernel
theorem d17_51 : DK B15 51 (.iload_n 1) 1 := by decide +kernel
theorem d17_52 : DK B15 52 (.iload 4) 2 := by decide +kernel
theorem d17_54 : DK B15 54 (.invokestatic 689) 3 := by decide +kernel
def Q_rm_subS_1_0 (Z : State) (a1 : Addr) (t1 : Addr) (k1 : ClassId) (c0 : Int32) (cs : Int32) (fm : Value) (h0 : Heap) (n0 : Nat) (vv : Option Value) (h : Heap) (L : List Loc) : Prop := Fr n0 L ∧ ∃ b : Addr, ∃ t : Addr, ∃ k : ClassId, vv = some (.ref b) ∧ Keep h0 h [] ∧ XT Z h b ∧ FV Z h b t ∧ FC Z h b 0 ∧ Arv Z h t k .byte (0 : Int32) [] (.int 0)
theorem rm_subS_1_0 {l : Launch} {Z : State} {a0 : Array Value} (hw : HW a0 Z) (a1 : Addr) (t1 : Addr) (k1 : ClassId) (c0 : Int32) (cs : Int32) (fm : Value) (h0 : Heap) (n0 : Nat) (Z0 : n0 ≤ h0.size) (pr0 : Old Z n0 h0) (pr1 : S3 Z cs) (hcs : ¬ (cs = (0 : Int32))) (pr3 : S4 Z fm) (hr_fm : fm.isRef = true) (pr5 : S0 Z) (pr6 : S1 Z) (pr7 : S2 Z) (pr8 : XT Z h0 a1) (pr9 : FV Z h0 a1 t1) (say : (FC Z h0 a1 0 ∧ Arv Z h0 t1 k1 .byte (1 : Int32) [(.int (nar .byte (c0.toInt8.toInt32)))] (.int 0) ∧ ¬ (255 : Int32) < c0) ∨ (FC Z h0 a1 1 ∧ Arv Z h0 t1 k1 .byte (2 : Int32) [(.int (own_b0 c0)), (.int (own_b1 c0))] (.int 0))) (hr0 : own_rng c0) :
    MetS l Z own_EL Y22 B15 5 (some (.object "java/lang/String")) [] ({ frames := 2, cells := 2, slots := 4, locals := 29 } : Room) #[(.ref a1), (.int 0), (.int 0)] h0 (Q_rm_subS_1_0 Z a1 t1 k1 c0 cs fm h0 n0) := by
  refine MetS.enter (f0 := fun m => mkF m 0 #[vr a1, vi 0, vi 0, .unset, .unset] []) (plainFor_of_name pn6) (fun m => oe m 2) ?_
  intro p e s m below meth c s₁ hx hby hml hown hnm hret hlk hZ X0 e0 hS C0
  have dk : Dk B15 c := fun h => hb hby h
  have W := @wd _ _ _ hw
  have N0 := Fr.nil n0
  have hk : h0.size ≤ h0.size := Nat.le_refl _
  have hEL : EW Z a0 own_EL := own_hEL hw
  have wS : ∀ a ∈ Bundle.stringAtoms, a.before a0 Z = true := own_wS hw
  refine gz X0 1 #[vr a1, vi 0, vi 0, .unset, .unset] [(.ref a1)] (fun _ k => aN X0 hx (dk d17_0) rfl rfl k) ?_
  refine goV X0 hx hZ hown (W 77 rfl) (m34 hw) pr8 0 0 0 (rm_lenS_1 hw a1 t1 k1 c0 cs h0 n0 Z0 pr0 pr1 hcs pr8 pr9 say) N0 e0 pd_26 hml (dk d17_1) ?_
  rintro _ T10 L10 X10 N10 ⟨rfl, hh10⟩
  refine gz X10 8 #[vr a1, vi 0, vi 0, vi 1, .unset] [(.int 1), (.int 0), (.int 0)] (fun _ k => sN X10 hx (dk d17_4) rfl rfl (.inl rfl) (lN X10 hx (dk d17_5) rfl (lN X10 hx (dk d17_6) rfl (lN X10 hx (dk d17_7) rfl k)))) ?_
  refine goS X10 hx hZ hown (W 78 rfl) (m35 hw) 3 0 0 (rm_cbe hw (0 : Int32) (0 : Int32) (1 : Int32) fm h0 n0 Z0 pr0 pr3 hr_fm (by decide) (by decide) (by decide)) N10 hh10 pd_27 hml (dk d17_8) ?_
  rintro _ T11 L11 X11 N11 ⟨rfl, hh11⟩
  refine gz X11 27 #[vr a1, vi 0, vi 0, vi 1, vi 0] [] (fun _ k => lN X11 hx (dk d17_11) rfl (fN X11 hx (dk d17_12) rfl ((if0 _ _).trans (teq (by decide)).2) (lN X11 hx (dk d17_15) rfl (lN X11 hx (dk d17_16) rfl (cY X11 hx 17 22 rfl (dk d17_17) rfl (feq (by decide)).2 (lN X11 hx (dk d17_22) rfl (lN X11 hx (dk d17_23) rfl (XS.isub X11.here hx rfl (dk d17_24) rfl (sI X11 hx (dk d17_25) rfl rfl (.inl rfl) k))))))))) ?_
  rcases say with ⟨FC12, VA12, U12⟩ | ⟨FC12, VA12⟩
  · skip
    refine gz X11 28 #[vr a1, vi 0, vi 0, vi 1, vi 0] [(.ref a1)] (fun _ k => aN X11 hx (dk d17_27) rfl rfl k) ?_
    refine goV X11 hx hZ hown (W 56 rfl) (m15 hw) pr8 0 0 0 (rm_isLatin10 hw a1 cs h0 n0 Z0 pr0 pr1 hcs FC12) N11 hh11 pd_14 hml (dk d17_28) ?_
    rintro _ T13 L13 X13 N13 ⟨rfl, hh13⟩
    refine gz X13 35 #[vr a1, vi 0, vi 0, vi 1, vi 0] [(.ref a1)] (fun _ k => fN X13 hx (dk d17_31) rfl ((if0 _ _).trans (feq (by decide)).1) (aN X13 hx (dk d17_34) rfl rfl k)) ?_
    obtain ⟨T14, X14, e14, st14⟩ := getF X13 hx hZ hown (host := "") (Or.inl (W 35 rfl)) Via.refl hh13 pr9 (g := (mkF m 35 #[vr a1, vi 0, vi 0, vi 1, vi 0] [(.ref a1)])) rfl rfl (dk d17_35)
    refine gz X14 41 #[vr a1, vi 0, vi 0, vi 1, vi 0] [(.int 0), (.int 0), (.ref t1)] (fun _ k => st14 _ (lN X14 hx (dk d17_38) rfl (lI X14 hx (dk d17_39) rfl k))) ?_
    have hkT15 : _ ≤ T14.heap.size := (by rw [e14]; exact hk)
    obtain ⟨_, _, ⟨T15, L15, k15, n15⟩, -, X15, hSn15, hgr15, ⟨Lc15, hQ15, l15, y15, z15, CS15⟩, st15⟩ := callSS X14 hx (y := Y24) hown (mvT hZ (W 84 rfl)) (mvT hZ (W 85 rfl)) (mvT hZ (W 86 rfl)) (mvT hZ (W 87 rfl)) (by decide) (backOfSH (W := 0) (rm_l1n_0 hw t1 h0 n0 Z0 pr0) hZ (W 87 rfl) (W 86 rfl) (by decide) (by decide) hEL C0.1) (g := (mkF m 41 #[vr a1, vi 0, vi 0, vi 1, vi 0] [(.int 0), (.int 0), (.ref t1)])) rfl (by rw [hml]; rfl) (argsL := [(.ref t1), (.int 0), (.int 0)]) (rest := []) (lenOf pd_28 rfl) rfl (by show 2 * 0 + _ ≤ _; exact Nat.le_of_eq rfl) (dk d17_41) (fun _ _ => ⟨rfl, e14, Nat.le_of_ble_eq_true rfl, Nat.le_of_ble_eq_true rfl⟩)
    dsimp only [Pt.U, Pt.locs, Pt.cells, Pt.slots] at X15 l15 y15 z15 st15 hQ15 hSn15 hgr15 CS15
    subst l15 y15 z15
    obtain ⟨X15, hS, hZ, hown⟩ := rebS hS hkT15 X15 hSn15 hgr15 hZ hown
    have hk : T15.heap.size ≤ T15.heap.size := Nat.le_refl _
    obtain ⟨Nq15, b15, t15, k15, rfl, K15, p15_0, p15_1, p15_2, p15_3⟩ := hQ15
    have N15 := Fr.app N13 Nq15
    have X15 : Stand p l e _ _ m _ below meth c T15 _ 2 4 := X15
    have C16 := C0.trans CS15
    have O16 := pr0.keep K15 all0
    have Z16 : n0 ≤ T15.heap.size := Nat.le_trans Z0 K15.1
    refine gz X15 57 #[vr a1, vi 0, vi 0, vi 1, vi 0] [(.ref b15)] (fun _ k => st15.trans (gT X15 hx 44 57 rfl (dk d17_44) k)) ?_
    have hkE17 : _ ≤ T15.heap.size := hk
    have CE17 : CHr Z own_EL s.vm s.heap T15.vm T15.heap := C16
    refine Go.retS X15 hx hlk hS hkE17 hZ hEL CE17 (t := (.object "java/lang/String")) hret rfl (Or.inr (Or.inr (Or.inr (Or.inr ⟨rfl, rfl, rfl⟩)))) (dk d17_57) (by decide) (by decide) ?_
    exact ⟨N15, b15, t15, k15, rfl, ((Keep.refl h0 []).trans K15 all0), p15_0, p15_1, p15_2, p15_3⟩
  · skip
    refine gz X11 28 #[vr a1, vi 0, vi 0, vi 1, vi 0] [(.ref a1)] (fun _ k => aN X11 hx (dk d17_27) rfl rfl k) ?_
    refine goV X11 hx hZ hown (W 56 rfl) (m15 hw) pr8 0 0 0 (rm_isLatin11 hw a1 cs h0 n0 Z0 pr0 pr1 hcs FC12) N11 hh11 pd_14 hml (dk d17_28) ?_
    rintro _ T18 L18 X18 N18 ⟨rfl, hh18⟩
    refine gz X18 48 #[vr a1, vi 0, vi 0, vi 1, vi 0] [(.ref a1)] (fun _ k => fY X18 hx 31 47 rfl (dk d17_31) rfl ((if0 _ _).trans (teq (by decide)).1) (aN X18 hx (dk d17_47) rfl rfl k)) ?_
    obtain ⟨T19, X19, e19, st19⟩ := getF X18 hx hZ hown (host := "") (Or.inl (W 35 rfl)) Via.refl hh18 pr9 (g := (mkF m 48 #[vr a1, vi 0, vi 0, vi 1, vi 0] [(.ref a1)])) rfl rfl (dk d17_48)
    refine gz X19 54 #[vr a1, vi 0, vi 0, vi 1, vi 0] [(.int 0), (.int 0), (.ref t1)] (fun _ k => st19 _ (lN X19 hx (dk d17_51) rfl (lI X19 hx (dk d17_52) rfl k))) ?_
    have hkT20 : _ ≤ T19.heap.size := (by rw [e19]; exact hk)
    obtain ⟨_, _, ⟨T20, L20, k20, n20⟩, -, X20, hSn20, hgr20, ⟨Lc20, hQ20, l20, y20, z20, CS20⟩, st20⟩ := callSS X19 hx (y := Y39) hown (mvT hZ (W 145 rfl)) (mvT hZ (W 146 rfl)) (mvT hZ (W 24 rfl)) (mvT hZ (W 147 rfl)) (by decide) (backOfSH (W := 0) (rm_u16n_0 hw t1 h0 n0 Z0 pr0) hZ (W 147 rfl) (W 24 rfl) (by decide) (by decide) hEL C0.1) (g := (mkF m 54 #[vr a1, vi 0, vi 0, vi 1, vi 0] [(.int 0), (.int 0), (.ref t1)])) rfl (by rw [hml]; rfl) (argsL := [(.ref t1), (.int 0), (.int 0)]) (rest := []) (lenOf pd_28 rfl) rfl (by show 2 * 0 + _ ≤ _; exact Nat.le_of_eq rfl) (dk d17_54) (fun _ _ => ⟨rfl, e19, Nat.le_of_ble_eq_true rfl, Nat.le_of_ble_eq_true rfl⟩)
    dsimp only [Pt.U, Pt.locs, Pt.cells, Pt.slots] at X20 l20 y20 z20 st20 hQ20 hSn20 hgr20 CS20
    subst l20 y20 z20
    obtain ⟨X20, hS, hZ, hown⟩ := rebS hS hkT20 X20 hSn20 hgr20 hZ hown
    have hk : T20.heap.size ≤ T20.heap.size := Nat.le_refl _
    obtain ⟨Nq20, b20, t20, k20, rfl, K20, p20_0, p20_1, p20_2, p20_3⟩ := hQ20
    have N20 := Fr.app N18 Nq20
    have X20 : Stand p l e _ _ m _ below meth c T20 _ 2 4 := X20
    have C21 := C0.trans CS20
    have O21 := pr0.keep K20 all0
    have Z21 : n0 ≤ T20.heap.size := Nat.le_trans Z0 K20.1
    refine gz X20 57 #[vr a1, vi 0, vi 0, vi 1, vi 0] [(.ref b20)] (fun _ k => st20.trans k) ?_
    have hkE22 : _ ≤ T20.heap.size := hk
    have CE22 : CHr Z own_EL s.vm s.heap T20.vm T20.heap := C21
    refine Go.retS X20 hx hlk hS hkE22 hZ hEL CE22 (t := (.object "java/lang/String")) hret rfl (Or.inr (Or.inr (Or.inr (Or.inr ⟨rfl, rfl, rfl⟩)))) (dk d17_57) (by decide) (by decide) ?_
    exact ⟨N20, b20, t20, k20, rfl, ((Keep.refl h0 []).trans K20 all0), p20_0, p20_1, p20_2, p20_3⟩
theorem rm_subS_2_2 {l : Launch} {Z : State} {a0 : Array Value} (hw : HW a0 Z) (a1 : Addr) (t1 : Addr) (k1 : ClassId) (c0 : Int32) (c1 : Int32) (cs : Int32) (fm : Value) (h0 : Heap) (n0 : Nat) (Z0 : n0 ≤ h0.size) (pr0 : Old Z n0 h0) (pr1 : S3 Z cs) (hcs : ¬ (cs = (0 : Int32))) (pr3 : S4 Z fm) (hr_fm : fm.isRef = true) (pr5 : S0 Z) (pr6 : S1 Z) (pr7 : S2 Z) (pr8 : XT Z h0 a1) (pr9 : FV Z h0 a1 t1) (say : (FC Z h0 a1 0 ∧ Arv Z h0 t1 k1 .byte (2 : Int32) [(.int (nar .byte (c0.toInt8.toInt32))), (.int (nar .byte (c1.toInt8.toInt32)))] (.int 0) ∧ ¬ (255 : Int32) < c0 ∧ ¬ (255 : Int32) < c1) ∨ (FC Z h0 a1 1 ∧ Arv Z h0 t1 k1 .byte (4 : Int32) [(.int (own_b0 c0)), (.int (own_b1 c0)), (.int (own_b0 c1)), (.int (own_b1 c1))] (.int 0))) (hr0 : own_rng c0) (hr1 : own_rng c1) :
    Met l Z Y22 B15 5 (some (.object "java/lang/String")) [] ({ frames := 2, cells := 0, slots := 0, locals := 29 } : Room) #[(.ref a1), (.int 0), (.int 2)] h0 (fun vv h L => Fr n0 L ∧ vv = some (.ref a1) ∧ h = h0) := by
  refine Met.enter (f0 := fun m => mkF m 0 #[vr a1, vi 0, vi 2, .unset, .unset] []) (plainFor_of_name pn6) (fun m => oe m 2) ?_
  intro p e s m below meth c s₁ hx hby hml hown hnm hret hlk hZ X0 e0
  have dk : Dk B15 c := fun h => hb hby h
  have W := @wd _ _ _ hw
  have N0 := Fr.nil n0
  refine gz X0 1 #[vr a1, vi 0, vi 2, .unset, .unset] [(.ref a1)] (fun _ k => aN X0 hx (dk d17_0) rfl rfl k) ?_
  refine goV X0 hx hZ hown (W 77 rfl) (m34 hw) pr8 0 0 0 (rm_lenS_2 hw a1 t1 k1 c0 c1 cs h0 n0 Z0 pr0 pr1 hcs pr8 pr9 say) N0 e0 pd_26 hml (dk d17_1) ?_
  rintro _ T10 L10 X10 N10 ⟨rfl, hh10⟩
  refine gz X10 8 #[vr a1, vi 0, vi 2, vi 2, .unset] [(.int 2), (.int 2), (.int 0)] (fun _ k => sN X10 hx (dk d17_4) rfl rfl (.inl rfl) (lN X10 hx (dk d17_5) rfl (lN X10 hx (dk d17_6) rfl (lN X10 hx (dk d17_7) rfl k)))) ?_
  refine goS X10 hx hZ hown (W 78 rfl) (m35 hw) 3 0 0 (rm_cbe hw (0 : Int32) (2 : Int32) (2 : Int32) fm h0 n0 Z0 pr0 pr3 hr_fm (by decide) (by decide) (by decide)) N10 hh10 pd_27 hml (dk d17_8) ?_
  rintro _ T11 L11 X11 N11 ⟨rfl, hh11⟩
  refine gz X11 21 #[vr a1, vi 0, vi 2, vi 2, .unset] [(.ref a1)] (fun _ k => lN X11 hx (dk d17_11) rfl (fN X11 hx (dk d17_12) rfl ((if0 _ _).trans (teq (by decide)).2) (lN X11 hx (dk d17_15) rfl (lN X11 hx (dk d17_16) rfl (cN X11 hx (dk d17_17) rfl (teq (by decide)).2 (aN X11 hx (dk d17_20) rfl rfl k)))))) ?_
  refine Go.retA X11 hx hlk (t := (.object "java/lang/String")) hret (dk d17_21) ?_
  rw [hh11]
  exact ⟨N11, rfl, rfl⟩
def Q_rm_subS_2_0 (Z : State) (a1 : Addr) (t1 : Addr) (k1 : ClassId) (c0 : Int32) (c1 : Int32) (cs : Int32) (fm : Value) (h0 : Heap) (n0 : Nat) (vv : Option Value) (h : Heap) (L : List Loc) : Prop := Fr n0 L ∧ ∃ b : Addr, ∃ t : Addr, ∃ k : ClassId, vv = some (.ref b) ∧ Keep h0 h [] ∧ XT Z h b ∧ FV Z h b t ∧ FC Z h b 0 ∧ Arv Z h t k .byte (0 : Int32) [] (.int 0)
theorem rm_subS_2_0 {l : Launch} {Z : State} {a0 : Array Value} (hw : HW a0 Z) (a1 : Addr) (t1 : Addr) (k1 : ClassId) (c0 : Int32) (c1 : Int32) (cs : Int32) (fm : Value) (h0 : Heap) (n0 : Nat) (Z0 : n0 ≤ h0.size) (pr0 : Old Z n0 h0) (pr1 : S3 Z cs) (hcs : ¬ (cs = (0 : Int32))) (pr3 : S4 Z fm) (hr_fm : fm.isRef = true) (pr5 : S0 Z) (pr6 : S1 Z) (pr7 : S2 Z) (pr8 : XT Z h0 a1) (pr9 : FV Z h0 a1 t1) (say : (FC Z h0 a1 0 ∧ Arv Z h0 t1 k1 .byte (2 : Int32) [(.int (nar .byte (c0.toInt8.toInt32))), (.int (nar .byte (c1.toInt8.toInt32)))] (.int 0) ∧ ¬ (255 : Int32) < c0 ∧ ¬ (255 : Int32) < c1) ∨ (FC Z h0 a1 1 ∧ Arv Z h0 t1 k1 .byte (4 : Int32) [(.int (own_b0 c0)), (.int (own_b1 c0)), (.int (own_b0 c1)), (.int (own_b1 c1))] (.int 0))) (hr0 : own_rng c0) (hr1 : own_rng c1) :
    MetS l Z own_EL Y22 B15 5 (some (.object "java/lang/String")) [] ({ frames := 2, cells := 2, slots := 4, locals := 29 } : Room) #[(.ref a1), (.int 0), (.int 0)] h0 (Q_rm_subS_2_0 Z a1 t1 k1 c0 c1 cs fm h0 n0) := by
  refine MetS.enter (f0 := fun m => mkF m 0 #[vr a1, vi 0, vi 0, .unset, .unset] []) (plainFor_of_name pn6) (fun m => oe m 2) ?_
  intro p e s m below meth c s₁ hx hby hml hown hnm hret hlk hZ X0 e0 hS C0
  have dk : Dk B15 c := fun h => hb hby h
  have W := @wd _ _ _ hw
  have N0 := Fr.nil n0
  have hk : h0.size ≤ h0.size := Nat.le_refl _
  have hEL : EW Z a0 own_EL := own_hEL hw
  have wS : ∀ a ∈ Bundle.stringAtoms, a.before a0 Z = true := own_wS hw
  refine gz X0 1 #[vr a1, vi 0, vi 0, .unset, .unset] [(.ref a1)] (fun _ k => aN X0 hx (dk d17_0) rfl rfl k) ?_
  refine goV X0 hx hZ hown (W 77 rfl) (m34 hw) pr8 0 0 0 (rm_lenS_2 hw a1 t1 k1 c0 c1 cs h0 n0 Z0 pr0 pr1 hcs pr8 pr9 say) N0 e0 pd_26 hml (dk d17_1) ?_
  rintro _ T10 L10 X10 N10 ⟨rfl, hh10⟩
  refine gz X10 8 #[vr a1, vi 0, vi 0, vi 2, .unset] [(.int 2), (.int 0), (.int 0)] (fun _ k => sN X10 hx (dk d17_4) rfl rfl (.inl rfl) (lN X10 hx (dk d17_5) rfl (lN X10 hx (dk d17_6) rfl (lN X10 hx (dk d17_7) rfl k)))) ?_
  refine goS X10 hx hZ hown (W 78 rfl) (m35 hw) 3 0 0 (rm_cbe hw (0 : Int32) (0 : Int32) (2 : Int32) fm h0 n0 Z0 pr0 pr3 hr_fm (by decide) (by decide) (by decide)) N10 hh10 pd_27 hml (dk d17_8) ?_
  rintro _ T11 L11 X11 N11 ⟨rfl, hh11⟩
  refine gz X11 27 #[vr a1, vi 0, vi 0, vi 2, vi 0] [] (fun _ k => lN X11 hx (dk d17_11) rfl (fN X11 hx (dk d17_12) rfl ((if0 _ _).trans (teq (by decide)).2) (lN X11 hx (dk d17_15) rfl (lN X11 hx (dk d17_16) rfl (cY X11 hx 17 22 rfl (dk d17_17) rfl (feq (by decide)).2 (lN X11 hx (dk d17_22) rfl (lN X11 hx (dk d17_23) rfl (XS.isub X11.here hx rfl (dk d17_24) rfl (sI X11 hx (dk d17_25) rfl rfl (.inl rfl) k))))))))) ?_
  rcases say with ⟨FC12, VA12, U12⟩ | ⟨FC12, VA12⟩
  · skip
    refine gz X11 28 #[vr a1, vi 0, vi 0, vi 2, vi 0] [(.ref a1)] (fun _ k => aN X11 hx (dk d17_27) rfl rfl k) ?_
    refine goV X11 hx hZ hown (W 56 rfl) (m15 hw) pr8 0 0 0 (rm_isLatin10 hw a1 cs h0 n0 Z0 pr0 pr1 hcs FC12) N11 hh11 pd_14 hml (dk d17_28) ?_
    rintro _ T13 L13 X13 N13 ⟨rfl, hh13⟩
    refine gz X13 35 #[vr a1, vi 0, vi 0, vi 2, vi 0] [(.ref a1)] (fun _ k => fN X13 hx (dk d17_31) rfl ((if0 _ _).trans (feq (by decide)).1) (aN X13 hx (dk d17_34) rfl rfl k)) ?_
    obtain ⟨T14, X14, e14, st14⟩ := getF X13 hx hZ hown (host := "") (Or.inl (W 35 rfl)) Via.refl hh13 pr9 (g := (mkF m 35 #[vr a1, vi 0, vi 0, vi 2, vi 0] [(.ref a1)])) rfl rfl (dk d17_35)
    refine gz X14 41 #[vr a1, vi 0, vi 0, vi 2, vi 0] [(.int 0), (.int 0), (.ref t1)] (fun _ k => st14 _ (lN X14 hx (dk d17_38) rfl (lI X14 hx (dk d17_39) rfl k))) ?_
    have hkT15 : _ ≤ T14.heap.size := (by rw [e14]; exact hk)
    obtain ⟨_, _, ⟨T15, L15, k15, n15⟩, -, X15, hSn15, hgr15, ⟨Lc15, hQ15, l15, y15, z15, CS15⟩, st15⟩ := callSS X14 hx (y := Y24) hown (mvT hZ (W 84 rfl)) (mvT hZ (W 85 rfl)) (mvT hZ (W 86 rfl)) (mvT hZ (W 87 rfl)) (by decide) (backOfSH (W := 0) (rm_l1n_0 hw t1 h0 n0 Z0 pr0) hZ (W 87 rfl) (W 86 rfl) (by decide) (by decide) hEL C0.1) (g := (mkF m 41 #[vr a1, vi 0, vi 0, vi 2, vi 0] [(.int 0), (.int 0), (.ref t1)])) rfl (by rw [hml]; rfl) (argsL := [(.ref t1), (.int 0), (.int 0)]) (rest := []) (lenOf pd_28 rfl) rfl (by show 2 * 0 + _ ≤ _; exact Nat.le_of_eq rfl) (dk d17_41) (fun _ _ => ⟨rfl, e14, Nat.le_of_ble_eq_true rfl, Nat.le_of_ble_eq_true rfl⟩)
    dsimp only [Pt.U, Pt.locs, Pt.cells, Pt.slots] at X15 l15 y15 z15 st15 hQ15 hSn15 hgr15 CS15
    subst l15 y15 z15
    obtain ⟨X15, hS, hZ, hown⟩ := rebS hS hkT15 X15 hSn15 hgr15 hZ hown
    have hk : T15.heap.size ≤ T15.heap.size := Nat.le_refl _
    obtain ⟨Nq15, b15, t15, k15, rfl, K15, p15_0, p15_1, p15_2, p15_3⟩ := hQ15
    have N15 := Fr.app N13 Nq15
    have X15 : Stand p l e _ _ m _ below meth c T15 _ 2 4 := X15
    have C16 := C0.trans CS15
    have O16 := pr0.keep K15 all0
    have Z16 : n0 ≤ T15.heap.size := Nat.le_trans Z0 K15.1
    refine gz X15 57 #[vr a1, vi 0, vi 0, vi 2, vi 0] [(.ref b15)] (fun _ k => st15.trans (gT X15 hx 44 57 rfl (dk d17_44) k)) ?_
    have hkE17 : _ ≤ T15.heap.size := hk
    have CE17 : CHr Z own_EL s.vm s.heap T15.vm T15.heap := C16
    refine Go.retS X15 hx hlk hS hkE17 hZ hEL CE17 (t := (.object "java/lang/String")) hret rfl (Or.inr (Or.inr (Or.inr (Or.inr ⟨rfl, rfl, rfl⟩)))) (dk d17_57) (by decide) (by decide) ?_
    exact ⟨N15, b15, t15, k15, rfl, ((Keep.refl h0 []).trans K15 all0), p15_0, p15_1, p15_2, p15_3⟩
  · skip
    refine gz X11 28 #[vr a1, vi 0, vi 0, vi 2, vi 0] [(.ref a1)] (fun _ k => aN X11 hx (dk d17_27) rfl rfl k) ?_
    refine goV X11 hx hZ hown (W 56 rfl) (m15 hw) pr8 0 0 0 (rm_isLatin11 hw a1 cs h0 n0 Z0 pr0 pr1 hcs FC12) N11 hh11 pd_14 hml (dk d17_28) ?_
    rintro _ T18 L18 X18 N18 ⟨rfl, hh18⟩
    refine gz X18 48 #[vr a1, vi 0, vi 0, vi 2, vi 0] [(.ref a1)] (fun _ k => fY X18 hx 31 47 rfl (dk d17_31) rfl ((if0 _ _).trans (teq (by decide)).1) (aN X18 hx (dk d17_47) rfl rfl k)) ?_
    obtain ⟨T19, X19, e19, st19⟩ := getF X18 hx hZ hown (host := "") (Or.inl (W 35 rfl)) Via.refl hh18 pr9 (g := (mkF m 48 #[vr a1, vi 0, vi 0, vi 2, vi 0] [(.ref a1)])) rfl rfl (dk d17_48)
    refine gz X19 54 #[vr a1, vi 0, vi 0, vi 2, vi 0] [(.int 0), (.int 0), (.ref t1)] (fun _ k => st19 _ (lN X19 hx (dk d17_51) rfl (lI X19 hx (dk d17_52) rfl k))) ?_
    have hkT20 : _ ≤ T19.heap.size := (by rw [e19]; exact hk)
    obtain ⟨_, _, ⟨T20, L20, k20, n20⟩, -, X20, hSn20, hgr20, ⟨Lc20, hQ20, l20, y20, z20, CS20⟩, st20⟩ := callSS X19 hx (y := Y39) hown (mvT hZ (W 145 rfl)) (mvT hZ (W 146 rfl)) (mvT hZ (W 24 rfl)) (mvT hZ (W 147 rfl)) (by decide) (backOfSH (W := 0) (rm_u16n_0 hw t1 h0 n0 Z0 pr0) hZ (W 147 rfl) (W 24 rfl) (by decide) (by decide) hEL C0.1) (g := (mkF m 54 #[vr a1, vi 0, vi 0, vi 2, vi 0] [(.int 0), (.int 0), (.ref t1)])) rfl (by rw [hml]; rfl) (argsL := [(.ref t1), (.int 0), (.int 0)]) (rest := []) (lenOf pd_28 rfl) rfl (by show 2 * 0 + _ ≤ _; exact Nat.le_of_eq rfl) (dk d17_54) (fun _ _ => ⟨rfl, e19, Nat.le_of_ble_eq_true rfl, Nat.le_of_ble_eq_true rfl⟩)
    dsimp only [Pt.U, Pt.locs, Pt.cells, Pt.slots] at X20 l20 y20 z20 st20 hQ20 hSn20 hgr20 CS20
    subst l20 y20 z20
    obtain ⟨X20, hS, hZ, hown⟩ := rebS hS hkT20 X20 hSn20 hgr20 hZ hown
    have hk : T20.heap.size ≤ T20.heap.size := Nat.le_refl _
    obtain ⟨Nq20, b20, t20, k20, rfl, K20, p20_0, p20_1, p20_2, p20_3⟩ := hQ20
    have N20 := Fr.app N18 Nq20
    have X20 : Stand p l e _ _ m _ below meth c T20 _ 2 4 := X20
    have C21 := C0.trans CS20
    have O21 := pr0.keep K20 all0
    have Z21 : n0 ≤ T20.heap.size := Nat.le_trans Z0 K20.1
    refine gz X20 57 #[vr a1, vi 0, vi 0, vi 2, vi 0] [(.ref b20)] (fun _ k => st20.trans k) ?_
    have hkE22 : _ ≤ T20.heap.size := hk
    have CE22 : CHr Z own_EL s.vm s.heap T20.vm T20.heap := C21
    refine Go.retS X20 hx hlk hS hkE22 hZ hEL CE22 (t := (.object "java/lang/String")) hret rfl (Or.inr (Or.inr (Or.inr (Or.inr ⟨rfl, rfl, rfl⟩)))) (dk d17_57) (by decide) (by decide) ?_
    exact ⟨N20, b20, t20, k20, rfl, ((Keep.refl h0 []).trans K20 all0), p20_0, p20_1, p20_2, p20_3⟩
theorem m36 {Z : State} {a0 : Array Value} (hw : HW a0 Z) : (Jvm.Cond.static Y24).before a0 Z = true ∧ (Jvm.Cond.initialized "java/lang/StringLatin1").before a0 Z = true ∧ (Jvm.Cond.code Y24 B17 (3 : Nat) (Option.some (Jvm.ClassFile.FieldType.object "java/lang/String"))).before a0 Z = true := ⟨(wd hw 85 rfl), (wd hw 86 rfl), (wd hw 87 rfl)⟩
theorem m37 {Z : State} {a0 : Array Value} (hw : HW a0 Z) : (Jvm.Cond.static Y39).before a0 Z = true ∧ (Jvm.Cond.initialized "java/lang/StringUTF16").before a0 Z = true ∧ (Jvm.Cond.code Y39 B28 (5 : Nat) (Option.some (Jvm.ClassFile.FieldType.object "java/lang/String"))).before a0 Z = true := ⟨(wd hw 146 rfl), (wd hw 24 rfl), (wd hw 147 rfl)⟩
theorem rm_subS_2_1 {l : Launch} {Z : State} {a0 : Array Value} (hw : HW a0 Z) (a1 : Addr) (t1 : Addr) (k1 : ClassId) (c0 : Int32) (c1 : Int32) (cs : Int32) (fm : Value) (h0 : Heap) (n0 : Nat) (Z0 : n0 ≤ h0.size) (pr0 : Old Z n0 h0) (pr1 : S3 Z cs) (hcs : ¬ (cs = (0 : Int32))) (pr3 : S4 Z fm) (hr_fm : fm.isRef = true) (pr5 : S0 Z) (pr6 : S1 Z) (pr7 : S2 Z) (pr8 : XT Z h0 a1) (pr9 : FV Z h0 a1 t1) (say : (FC Z h0 a1 0 ∧ Arv Z h0 t1 k1 .byte (2 : Int32) [(.int (nar .byte (c0.toInt8.toInt32))), (.int (nar .byte (c1.toInt8.toInt32)))] (.int 0) ∧ ¬ (255 : Int32) < c0 ∧ ¬ (255 : Int32) < c1) ∨ (FC Z h0 a1 1 ∧ Arv Z h0 t1 k1 .byte (4 : Int32) [(.int (own_b0 c0)), (.int (own_b1 c0)), (.int (own_b0 c1)), (.int (own_b1 c1))] (.int 0))) (hr0 : own_rng c0) (hr1 : own_rng c1) :
    Met l Z Y22 B15 5 (some (.object "java/lang/String")) [] ({ frames := 6, cells := 3, slots := 7, locals := 94 } : Room) #[(.ref a1), (.int 0), (.int 1)] h0 (fun vv h L => Fr n0 L ∧ ∃ b : Addr, ∃ t : Addr, ∃ k : ClassId, vv = some (.ref b) ∧ Keep h0 h [] ∧ XT Z h b ∧ FV Z h b t ∧ h0.size ≤ b ∧ ((FC Z h b 0 ∧ Arv Z h t k .byte (1 : Int32) [(.int (nar .byte (c0.toInt8.toInt32)))] (.int 0) ∧ ¬ (255 : Int32) < c0) ∨ (FC Z h b 1 ∧ Arv Z h t k .byte (2 : Int32) [(.int (own_b0 c0)), (.int (own_b1 c0))] (.int 0)))) := by
  refine Met.enter (f0 := fun m => mkF m 0 #[vr a1, vi 0, vi 1, .unset, .unset] []) (plainFor_of_name pn6) (fun m => oe m 2) ?_
  intro p e s m below meth c s₁ hx hby hml hown hnm hret hlk hZ X0 e0
  have dk : Dk B15 c := fun h => hb hby h
  have W := @wd _ _ _ hw
  have N0 := Fr.nil n0
  refine gz X0 1 #[vr a1, vi 0, vi 1, .unset, .unset] [(.ref a1)] (fun _ k => aN X0 hx (dk d17_0) rfl rfl k) ?_
  refine goV X0 hx hZ hown (W 77 rfl) (m34 hw) pr8 0 0 0 (rm_lenS_2 hw a1 t1 k1 c0 c1 cs h0 n0 Z0 pr0 pr1 hcs pr8 pr9 say) N0 e0 pd_26 hml (dk d17_1) ?_
  rintro _ T10 L10 X10 N10 ⟨rfl, hh10⟩
  refine gz X10 8 #[vr a1, vi 0, vi 1, vi 2, .unset] [(.int 2), (.int 1), (.int 0)] (fun _ k => sN X10 hx (dk d17_4) rfl rfl (.inl rfl) (lN X10 hx (dk d17_5) rfl (lN X10 hx (dk d17_6) rfl (lN X10 hx (dk d17_7) rfl k)))) ?_
  refine goS X10 hx hZ hown (W 78 rfl) (m35 hw) 3 0 0 (rm_cbe hw (0 : Int32) (1 : Int32) (2 : Int32) fm h0 n0 Z0 pr0 pr3 hr_fm (by decide) (by decide) (by decide)) N10 hh10 pd_27 hml (dk d17_8) ?_
  rintro _ T11 L11 X11 N11 ⟨rfl, hh11⟩
  refine gz X11 27 #[vr a1, vi 0, vi 1, vi 2, vi 1] [] (fun _ k => lN X11 hx (dk d17_11) rfl (fN X11 hx (dk d17_12) rfl ((if0 _ _).trans (teq (by decide)).2) (lN X11 hx (dk d17_15) rfl (lN X11 hx (dk d17_16) rfl (cY X11 hx 17 22 rfl (dk d17_17) rfl (feq (by decide)).2 (lN X11 hx (dk d17_22) rfl (lN X11 hx (dk d17_23) rfl (XS.isub X11.here hx rfl (dk d17_24) rfl (sI X11 hx (dk d17_25) rfl rfl (.inl rfl) k))))))))) ?_
  rcases say with ⟨FC12, VA12, U12⟩ | ⟨FC12, VA12⟩
  · skip
    refine gz X11 28 #[vr a1, vi 0, vi 1, vi 2, vi 1] [(.ref a1)] (fun _ k => aN X11 hx (dk d17_27) rfl rfl k) ?_
    refine goV X11 hx hZ hown (W 56 rfl) (m15 hw) pr8 0 0 0 (rm_isLatin10 hw a1 cs h0 n0 Z0 pr0 pr1 hcs FC12) N11 hh11 pd_14 hml (dk d17_28) ?_
    rintro _ T13 L13 X13 N13 ⟨rfl, hh13⟩
    refine gz X13 35 #[vr a1, vi 0, vi 1, vi 2, vi 1] [(.ref a1)] (fun _ k => fN X13 hx (dk d17_31) rfl ((if0 _ _).trans (feq (by decide)).1) (aN X13 hx (dk d17_34) rfl rfl k)) ?_
    obtain ⟨T14, X14, e14, st14⟩ := getF X13 hx hZ hown (host := "") (Or.inl (W 35 rfl)) Via.refl hh13 pr9 (g := (mkF m 35 #[vr a1, vi 0, vi 1, vi 2, vi 1] [(.ref a1)])) rfl rfl (dk d17_35)
    refine gz X14 41 #[vr a1, vi 0, vi 1, vi 2, vi 1] [(.int 1), (.int 0), (.ref t1)] (fun _ k => st14 _ (lN X14 hx (dk d17_38) rfl (lI X14 hx (dk d17_39) rfl k))) ?_
    refine goS X14 hx hZ hown (W 84 rfl) (m36 hw) 3 2 5 (rm_l1n_1 hw t1 k1 (2 : Int32) [(.int (nar .byte (c0.toInt8.toInt32))), (.int (nar .byte (c1.toInt8.toInt32)))] h0 n0 Z0 pr0 VA12 (by decide) (by decide) (by decide) (Nat.le_of_ble_eq_true rfl)) N13 e14 pd_28 hml (dk d17_41) ?_
    rintro _ T15 L15 X15 N15 ⟨b15, t15, k15, rfl, K15, p15_0, p15_1, p15_2, p15_3, p15_4, p15_5⟩
    have O16 := pr0.keep K15 all0
    have Z16 : n0 ≤ T15.heap.size := Nat.le_trans Z0 K15.1
    have sz_b15 : h0.size ≤ b15 := p15_4
    have sz_t15 : h0.size ≤ t15 := p15_5
    have p15_3 : Arv Z T15.heap t15 k15 .byte (1 : Int32) [(.int (nar .byte (c0.toInt8.toInt32)))] (.int 0) := p15_3
    refine gz X15 57 #[vr a1, vi 0, vi 1, vi 2, vi 1] [(.ref b15)] (fun _ k => gT X15 hx 44 57 rfl (dk d17_44) k) ?_
    refine Go.retA X15 hx hlk (t := (.object "java/lang/String")) hret (dk d17_57) ?_
    exact ⟨N15, b15, t15, k15, rfl, ((Keep.refl h0 []).trans K15 all0), p15_0, p15_1, (Nat.le_trans (Nat.le_refl _) sz_b15), (Or.inl ⟨p15_2, p15_3, U12.1⟩)⟩
  · skip
    refine gz X11 28 #[vr a1, vi 0, vi 1, vi 2, vi 1] [(.ref a1)] (fun _ k => aN X11 hx (dk d17_27) rfl rfl k) ?_
    refine goV X11 hx hZ hown (W 56 rfl) (m15 hw) pr8 0 0 0 (rm_isLatin11 hw a1 cs h0 n0 Z0 pr0 pr1 hcs FC12) N11 hh11 pd_14 hml (dk d17_28) ?_
    rintro _ T17 L17 X17 N17 ⟨rfl, hh17⟩
    refine gz X17 48 #[vr a1, vi 0, vi 1, vi 2, vi 1] [(.ref a1)] (fun _ k => fY X17 hx 31 47 rfl (dk d17_31) rfl ((if0 _ _).trans (teq (by decide)).1) (aN X17 hx (dk d17_47) rfl rfl k)) ?_
    obtain ⟨T18, X18, e18, st18⟩ := getF X17 hx hZ hown (host := "") (Or.inl (W 35 rfl)) Via.refl hh17 pr9 (g := (mkF m 48 #[vr a1, vi 0, vi 1, vi 2, vi 1] [(.ref a1)])) rfl rfl (dk d17_48)
    refine gz X18 54 #[vr a1, vi 0, vi 1, vi 2, vi 1] [(.int 1), (.int 0), (.ref t1)] (fun _ k => st18 _ (lN X18 hx (dk d17_51) rfl (lI X18 hx (dk d17_52) rfl k))) ?_
    refine goS X18 hx hZ hown (W 145 rfl) (m37 hw) 3 3 7 (rm_u16n_1 hw t1 k1 (4 : Int32) [(.int (own_b0 c0)), (.int (own_b1 c0)), (.int (own_b0 c1)), (.int (own_b1 c1))] c0 cs fm h0 n0 Z0 pr0 pr1 hcs pr3 hr_fm pr5 pr6 pr7 VA12 (by decide) (by decide) rfl rfl hr0 (by decide) (by decide) (by decide) (by decide) (by decide) (Nat.le_of_ble_eq_true rfl)) N17 e18 pd_28 hml (dk d17_54) ?_
    rintro _ T19 L19 X19 N19 ⟨b19, t19, k19, rfl, K19, p19_0, p19_1, p19_2, p19_3⟩
    have O20 := pr0.keep K19 all0
    have Z20 : n0 ≤ T19.heap.size := Nat.le_trans Z0 K19.1
    have sz_b19 : h0.size ≤ b19 := p19_2
    refine gz X19 57 #[vr a1, vi 0, vi 1, vi 2, vi 1] [(.ref b19)] (fun _ k => k) ?_
    refine Go.retA X19 hx hlk (t := (.object "java/lang/String")) hret (dk d17_57) ?_
    exact ⟨N19, b19, t19, k19, rfl, ((Keep.refl h0 []).trans K19 all0), p19_0, p19_1, (Nat.le_trans (Nat.le_refl _) sz_b19), p19_3⟩
theorem rm_subS_3_3 {l : Launch} {Z : State} {a0 : Array Value} (hw : HW a0 Z) (a1 : Addr) (t1 : Addr) (k1 : ClassId) (c0 : Int32) (c1 : Int32) (c2 : Int32) (cs : Int32) (fm : Value) (h0 : Heap) (n0 : Nat) (Z0 : n0 ≤ h0.size) (pr0 : Old Z n0 h0) (pr1 : S3 Z cs) (hcs : ¬ (cs = (0 : Int32))) (pr3 : S4 Z fm) (hr_fm : fm.isRef = true) (pr5 : S0 Z) (pr6 : S1 Z) (pr7 : S2 Z) (pr8 : XT Z h0 a1) (pr9 : FV Z h0 a1 t1) (say : (FC Z h0 a1 0 ∧ Arv Z h0 t1 k1 .byte (3 : Int32) [(.int (nar .byte (c0.toInt8.toInt32))), (.int (nar .byte (c1.toInt8.toInt32))), (.int (nar .byte (c2.toInt8.toInt32)))] (.int 0) ∧ ¬ (255 : Int32) < c0 ∧ ¬ (255 : Int32) < c1 ∧ ¬ (255 : Int32) < c2) ∨ (FC Z h0 a1 1 ∧ Arv Z h0 t1 k1 .byte (6 : Int32) [(.int (own_b0 c0)), (.int (own_b1 c0)), (.int (own_b0 c1)), (.int (own_b1 c1)), (.int (own_b0 c2)), (.int (own_b1 c2))] (.int 0))) (hr0 : own_rng c0) (hr1 : own_rng c1) (hr2 : own_rng c2) :
    Met l Z Y22 B15 5 (some (.object "java/lang/String")) [] ({ frames := 2, cells := 0, slots := 0, locals := 29 } : Room) #[(.ref a1), (.int 0), (.int 3)] h0 (fun vv h L => Fr n0 L ∧ vv = some (.ref a1) ∧ h = h0) := by
  refine Met.enter (f0 := fun m => mkF m 0 #[vr a1, vi 0, vi 3, .unset, .unset] []) (plainFor_of_name pn6) (fun m => oe m 2) ?_
  intro p e s m below meth c s₁ hx hby hml hown hnm hret hlk hZ X0 e0
  have dk : Dk B15 c := fun h => hb hby h
  have W := @wd _ _ _ hw
  have N0 := Fr.nil n0
  refine gz X0 1 #[vr a1, vi 0, vi 3, .unset, .unset] [(.ref a1)] (fun _ k => aN X0 hx (dk d17_0) rfl rfl k) ?_
  refine goV X0 hx hZ hown (W 77 rfl) (m34 hw) pr8 0 0 0 (rm_lenS_3 hw a1 t1 k1 c0 c1 c2 cs h0 n0 Z0 pr0 pr1 hcs pr8 pr9 say) N0 e0 pd_26 hml (dk d17_1) ?_
  rintro _ T10 L10 X10 N10 ⟨rfl, hh10⟩
  refine gz X10 8 #[vr a1, vi 0, vi 3, vi 3, .unset] [(.int 3), (.int 3), (.int 0)] (fun _ k => sN X10 hx (dk d17_4) rfl rfl (.inl rfl) (lN X10 hx (dk d17_5) rfl (lN X10 hx (dk d17_6) rfl (lN X10 hx (dk d17_7) rfl k)))) ?_
  refine goS X10 hx hZ hown (W 78 rfl) (m35 hw) 3 0 0 (rm_cbe hw (0 : Int32) (3 : Int32) (3 : Int32) fm h0 n0 Z0 pr0 pr3 hr_fm (by decide) (by decide) (by decide)) N10 hh10 pd_27 hml (dk d17_8) ?_
  rintro _ T11 L11 X11 N11 ⟨rfl, hh11⟩
  refine gz X11 21 #[vr a1, vi 0, vi 3, vi 3, .unset] [(.ref a1)] (fun _ k => lN X11 hx (dk d17_11) rfl (fN X11 hx (dk d17_12) rfl ((if0 _ _).trans (teq (by decide)).2) (lN X11 hx (dk d17_15) rfl (lN X11 hx (dk d17_16) rfl (cN X11 hx (dk d17_17) rfl (teq (by decide)).2 (aN X11 hx (dk d17_20) rfl rfl k)))))) ?_
  refine Go.retA X11 hx hlk (t := (.object "java/lang/String")) hret (dk d17_21) ?_
  rw [hh11]
  exact ⟨N11, rfl, rfl⟩
def Q_rm_subS_3_0 (Z : State) (a1 : Addr) (t1 : Addr) (k1 : ClassId) (c0 : Int32) (c1 : Int32) (c2 : Int32) (cs : Int32) (fm : Value) (h0 : Heap) (n0 : Nat) (vv : Option Value) (h : Heap) (L : List Loc) : Prop := Fr n0 L ∧ ∃ b : Addr, ∃ t : Addr, ∃ k : ClassId, vv = some (.ref b) ∧ Keep h0 h [] ∧ XT Z h b ∧ FV Z h b t ∧ FC Z h b 0 ∧ Arv Z h t k .byte (0 : Int32) [] (.int 0)
theorem rm_subS_3_0 {l : Launch} {Z : State} {a0 : Array Value} (hw : HW a0 Z) (a1 : Addr) (t1 : Addr) (k1 : ClassId) (c0 : Int32) (c1 : Int32) (c2 : Int32) (cs : Int32) (fm : Value) (h0 : Heap) (n0 : Nat) (Z0 : n0 ≤ h0.size) (pr0 : Old Z n0 h0) (pr1 : S3 Z cs) (hcs : ¬ (cs = (0 : Int32))) (pr3 : S4 Z fm) (hr_fm : fm.isRef = true) (pr5 : S0 Z) (pr6 : S1 Z) (pr7 : S2 Z) (pr8 : XT Z h0 a1) (pr9 : FV Z h0 a1 t1) (say : (FC Z h0 a1 0 ∧ Arv Z h0 t1 k1 .byte (3 : Int32) [(.int (nar .byte (c0.toInt8.toInt32))), (.int (nar .byte (c1.toInt8.toInt32))), (.int (nar .byte (c2.toInt8.toInt32)))] (.int 0) ∧ ¬ (255 : Int32) < c0 ∧ ¬ (255 : Int32) < c1 ∧ ¬ (255 : Int32) < c2) ∨ (FC Z h0 a1 1 ∧ Arv Z h0 t1 k1 .byte (6 : Int32) [(.int (own_b0 c0)), (.int (own_b1 c0)), (.int (own_b0 c1)), (.int (own_b1 c1)), (.int (own_b0 c2)), (.int (own_b1 c2))] (.int 0))) (hr0 : own_rng c0) (hr1 : own_rng c1) (hr2 : own_rng c2) :
    MetS l Z own_EL Y22 B15 5 (some (.object "java/lang/String")) [] ({ frames := 2, cells := 2, slots := 4, locals := 29 } : Room) #[(.ref a1), (.int 0), (.int 0)] h0 (Q_rm_subS_3_0 Z a1 t1 k1 c0 c1 c2 cs fm h0 n0) := by
  refine MetS.enter (f0 := fun m => mkF m 0 #[vr a1, vi 0, vi 0, .unset, .unset] []) (plainFor_of_name pn6) (fun m => oe m 2) ?_
  intro p e s m below meth c s₁ hx hby hml hown hnm hret hlk hZ X0 e0 hS C0
  have dk : Dk B15 c := fun h => hb hby h
  have W := @wd _ _ _ hw
  have N0 := Fr.nil n0
  have hk : h0.size ≤ h0.size := Nat.le_refl _
  have hEL : EW Z a0 own_EL := own_hEL hw
  have wS : ∀ a ∈ Bundle.stringAtoms, a.before a0 Z = true := own_wS hw
  refine gz X0 1 #[vr a1, vi 0, vi 0, .unset, .unset] [(.ref a1)] (fun _ k => aN X0 hx (dk d17_0) rfl rfl k) ?_
  refine goV X0 hx hZ hown (W 77 rfl) (m34 hw) pr8 0 0 0 (rm_lenS_3 hw a1 t1 k1 c0 c1 c2 cs h0 n0 Z0 pr0 pr1 hcs pr8 pr9 say) N0 e0 pd_26 hml (dk d17_1) ?_
  rintro _ T10 L10 X10 N10 ⟨rfl, hh10⟩
  refine gz X10 8 #[vr a1, vi 0, vi 0, vi 3, .unset] [(.int 3), (.int 0), (.int 0)] (fun _ k => sN X10 hx (dk d17_4) rfl rfl (.inl rfl) (lN X10 hx (dk d17_5) rfl (lN X10 hx (dk d17_6) rfl (lN X10 hx (dk d17_7) rfl k)))) ?_
  refine goS X10 hx hZ hown (W 78 rfl) (m35 hw) 3 0 0 (rm_cbe hw (0 : Int32) (0 : Int32) (3 : Int32) fm h0 n0 Z0 pr0 pr3 hr_fm (by decide) (by decide) (by decide)) N10 hh10 pd_27 hml (dk d17_8) ?_
  rintro _ T11 L11 X11 N11 ⟨rfl, hh11⟩
  refine gz X11 27 #[vr a1, vi 0, vi 0, vi 3, vi 0] [] (fun _ k => lN X11 hx (dk d17_11) rfl (fN X11 hx (dk d17_12) rfl ((if0 _ _).trans (teq (by decide)).2) (lN X11 hx (dk d17_15) rfl (lN X11 hx (dk d17_16) rfl (cY X11 hx 17 22 rfl (dk d17_17) rfl (feq (by decide)).2 (lN X11 hx (dk d17_22) rfl (lN X11 hx (dk d17_23) rfl (XS.isub X11.here hx rfl (dk d17_24) rfl (sI X11 hx (dk d17_25) rfl rfl (.inl rfl) k))))))))) ?_
  rcases say with ⟨FC12, VA12, U12⟩ | ⟨FC12, VA12⟩
  · skip
    refine gz X11 28 #[vr a1, vi 0, vi 0, vi 3, vi 0] [(.ref a1)] (fun _ k => aN X11 hx (dk d17_27) rfl rfl k) ?_
    refine goV X11 hx hZ hown (W 56 rfl) (m15 hw) pr8 0 0 0 (rm_isLatin10 hw a1 cs h0 n0 Z0 pr0 pr1 hcs FC12) N11 hh11 pd_14 hml (dk d17_28) ?_
    rintro _ T13 L13 X13 N13 ⟨rfl, hh13⟩
    refine gz X13 35 #[vr a1, vi 0, vi 0, vi 3, vi 0] [(.ref a1)] (fun _ k => fN X13 hx (dk d17_31) rfl ((if0 _ _).trans (feq (by decide)).1) (aN X13 hx (dk d17_34) rfl rfl k)) ?_
    obtain ⟨T14, X14, e14, st14⟩ := getF X13 hx hZ hown (host := "") (Or.inl (W 35 rfl)) Via.refl hh13 pr9 (g := (mkF m 35 #[vr a1, vi 0, vi 0, vi 3, vi 0] [(.ref a1)])) rfl rfl (dk d17_35)
    refine gz X14 41 #[vr a1, vi 0, vi 0, vi 3, vi 0] [(.int 0), (.int 0), (.ref t1)] (fun _ k => st14 _ (lN X14 hx (dk d17_38) rfl (lI X14 hx (dk d17_39) rfl k))) ?_
    have hkT15 : _ ≤ T14.heap.size := (by rw [e14]; exact hk)
    obtain ⟨_, _, ⟨T15, L15, k15, n15⟩, -, X15, hSn15, hgr15, ⟨Lc15, hQ15, l15, y15, z15, CS15⟩, st15⟩ := callSS X14 hx (y := Y24) hown (mvT hZ (W 84 rfl)) (mvT hZ (W 85 rfl)) (mvT hZ (W 86 rfl)) (mvT hZ (W 87 rfl)) (by decide) (backOfSH (W := 0) (rm_l1n_0 hw t1 h0 n0 Z0 pr0) hZ (W 87 rfl) (W 86 rfl) (by decide) (by decide) hEL C0.1) (g := (mkF m 41 #[vr a1, vi 0, vi 0, vi 3, vi 0] [(.int 0), (.int 0), (.ref t1)])) rfl (by rw [hml]; rfl) (argsL := [(.ref t1), (.int 0), (.int 0)]) (rest := []) (lenOf pd_28 rfl) rfl (by show 2 * 0 + _ ≤ _; exact Nat.le_of_eq rfl) (dk d17_41) (fun _ _ => ⟨rfl, e14, Nat.le_of_ble_eq_true rfl, Nat.le_of_ble_eq_true rfl⟩)
    dsimp only [Pt.U, Pt.locs, Pt.cells, Pt.slots] at X15 l15 y15 z15 st15 hQ15 hSn15 hgr15 CS15
    subst l15 y15 z15
    obtain ⟨X15, hS, hZ, hown⟩ := rebS hS hkT15 X15 hSn15 hgr15 hZ hown
    have hk : T15.heap.size ≤ T15.heap.size := Nat.le_refl _
    obtain ⟨Nq15, b15, t15, k15, rfl, K15, p15_0, p15_1, p15_2, p15_3⟩ := hQ15
    have N15 := Fr.app N13 Nq15
    have X15 : Stand p l e _ _ m _ below meth c T15 _ 2 4 := X15
    have C16 := C0.trans CS15
    have O16 := pr0.keep K15 all0
    have Z16 : n0 ≤ T15.heap.size := Nat.le_trans Z0 K15.1
    refine gz X15 57 #[vr a1, vi 0, vi 0, vi 3, vi 0] [(.ref b15)] (fun _ k => st15.trans (gT X15 hx 44 57 rfl (dk d17_44) k)) ?_
    have hkE17 : _ ≤ T15.heap.size := hk
    have CE17 : CHr Z own_EL s.vm s.heap T15.vm T15.heap := C16
    refine Go.retS X15 hx hlk hS hkE17 hZ hEL CE17 (t := (.object "java/lang/String")) hret rfl (Or.inr (Or.inr (Or.inr (Or.inr ⟨rfl, rfl, rfl⟩)))) (dk d17_57) (by decide) (by decide) ?_
    exact ⟨N15, b15, t15, k15, rfl, ((Keep.refl h0 []).trans K15 all0), p15_0, p15_1, p15_2, p15_3⟩
  · skip
    refine gz X11 28 #[vr a1, vi 0, vi 0, vi 3, vi 0] [(.ref a1)] (fun _ k => aN X11 hx (dk d17_27) rfl rfl k) ?_
    refine goV X11 hx hZ hown (W 56 rfl) (m15 hw) pr8 0 0 0 (rm_isLatin11 hw a1 cs h0 n0 Z0 pr0 pr1 hcs FC12) N11 hh11 pd_14 hml (dk d17_28) ?_
    rintro _ T18 L18 X18 N18 ⟨rfl, hh18⟩
    refine gz X18 48 #[vr a1, vi 0, vi 0, vi 3, vi 0] [(.ref a1)] (fun _ k => fY X18 hx 31 47 rfl (dk d17_31) rfl ((if0 _ _).trans (teq (by decide)).1) (aN X18 hx (dk d17_47) rfl rfl k)) ?_
    obtain ⟨T19, X19, e19, st19⟩ := getF X18 hx hZ hown (host := "") (Or.inl (W 35 rfl)) Via.refl hh18 pr9 (g := (mkF m 48 #[vr a1, vi 0, vi 0, vi 3, vi 0] [(.ref a1)])) rfl rfl (dk d17_48)
    refine gz X19 54 #[vr a1, vi 0, vi 0, vi 3, vi 0] [(.int 0), (.int 0), (.ref t1)] (fun _ k => st19 _ (lN X19 hx (dk d17_51) rfl (lI X19 hx (dk d17_52) rfl k))) ?_
    have hkT20 : _ ≤ T19.heap.size := (by rw [e19]; exact hk)
    obtain ⟨_, _, ⟨T20, L20, k20, n20⟩, -, X20, hSn20, hgr20, ⟨Lc20, hQ20, l20, y20, z20, CS20⟩, st20⟩ := callSS X19 hx (y := Y39) hown (mvT hZ (W 145 rfl)) (mvT hZ (W 146 rfl)) (mvT hZ (W 24 rfl)) (mvT hZ (W 147 rfl)) (by decide) (backOfSH (W := 0) (rm_u16n_0 hw t1 h0 n0 Z0 pr0) hZ (W 147 rfl) (W 24 rfl) (by decide) (by decide) hEL C0.1) (g := (mkF m 54 #[vr a1, vi 0, vi 0, vi 3, vi 0] [(.int 0), (.int 0), (.ref t1)])) rfl (by rw [hml]; rfl) (argsL := [(.ref t1), (.int 0), (.int 0)]) (rest := []) (lenOf pd_28 rfl) rfl (by show 2 * 0 + _ ≤ _; exact Nat.le_of_eq rfl) (dk d17_54) (fun _ _ => ⟨rfl, e19, Nat.le_of_ble_eq_true rfl, Nat.le_of_ble_eq_true rfl⟩)
    dsimp only [Pt.U, Pt.locs, Pt.cells, Pt.slots] at X20 l20 y20 z20 st20 hQ20 hSn20 hgr20 CS20
    subst l20 y20 z20
    obtain ⟨X20, hS, hZ, hown⟩ := rebS hS hkT20 X20 hSn20 hgr20 hZ hown
    have hk : T20.heap.size ≤ T20.heap.size := Nat.le_refl _
    obtain ⟨Nq20, b20, t20, k20, rfl, K20, p20_0, p20_1, p20_2, p20_3⟩ := hQ20
    have N20 := Fr.app N18 Nq20
    have X20 : Stand p l e _ _ m _ below meth c T20 _ 2 4 := X20
    have C21 := C0.trans CS20
    have O21 := pr0.keep K20 all0
    have Z21 : n0 ≤ T20.heap.size := Nat.le_trans Z0 K20.1
    refine gz X20 57 #[vr a1, vi 0, vi 0, vi 3, vi 0] [(.ref b20)] (fun _ k => st20.trans k) ?_
    have hkE22 : _ ≤ T20.heap.size := hk
    have CE22 : CHr Z own_EL s.vm s.heap T20.vm T20.heap := C21
    refine Go.retS X20 hx hlk hS hkE22 hZ hEL CE22 (t := (.object "java/lang/String")) hret rfl (Or.inr (Or.inr (Or.inr (Or.inr ⟨rfl, rfl, rfl⟩)))) (dk d17_57) (by decide) (by decide) ?_
    exact ⟨N20, b20, t20, k20, rfl, ((Keep.refl h0 []).trans K20 all0), p20_0, p20_1, p20_2, p20_3⟩
theorem rm_subS_3_1 {l : Launch} {Z : State} {a0 : Array Value} (hw : HW a0 Z) (a1 : Addr) (t1 : Addr) (k1 : ClassId) (c0 : Int32) (c1 : Int32) (c2 : Int32) (cs : Int32) (fm : Value) (h0 : Heap) (n0 : Nat) (Z0 : n0 ≤ h0.size) (pr0 : Old Z n0 h0) (pr1 : S3 Z cs) (hcs : ¬ (cs = (0 : Int32))) (pr3 : S4 Z fm) (hr_fm : fm.isRef = true) (pr5 : S0 Z) (pr6 : S1 Z) (pr7 : S2 Z) (pr8 : XT Z h0 a1) (pr9 : FV Z h0 a1 t1) (say : (FC Z h0 a1 0 ∧ Arv Z h0 t1 k1 .byte (3 : Int32) [(.int (nar .byte (c0.toInt8.toInt32))), (.int (nar .byte (c1.toInt8.toInt32))), (.int (nar .byte (c2.toInt8.toInt32)))] (.int 0) ∧ ¬ (255 : Int32) < c0 ∧ ¬ (255 : Int32) < c1 ∧ ¬ (255 : Int32) < c2) ∨ (FC Z h0 a1 1 ∧ Arv Z h0 t1 k1 .byte (6 : Int32) [(.int (own_b0 c0)), (.int (own_b1 c0)), (.int (own_b0 c1)), (.int (own_b1 c1)), (.int (own_b0 c2)), (.int (own_b1 c2))] (.int 0))) (hr0 : own_rng c0) (hr1 : own_rng c1) (hr2 : own_rng c2) :
    Met l Z Y22 B15 5 (some (.object "java/lang/String")) [] ({ frames := 6, cells := 3, slots := 7, locals := 94 } : Room) #[(.ref a1), (.int 0), (.int 1)] h0 (fun vv h L => Fr n0 L ∧ ∃ b : Addr, ∃ t : Addr, ∃ k : ClassId, vv = some (.ref b) ∧ Keep h0 h [] ∧ XT Z h b ∧ FV Z h b t ∧ h0.size ≤ b ∧ ((FC Z h b 0 ∧ Arv Z h t k .byte (1 : Int32) [(.int (nar .byte (c0.toInt8.toInt32)))] (.int 0) ∧ ¬ (255 : Int32) < c0) ∨ (FC Z h b 1 ∧ Arv Z h t k .byte (2 : Int32) [(.int (own_b0 c0)), (.int (own_b1 c0))] (.int 0)))) := by
  refine Met.enter (f0 := fun m => mkF m 0 #[vr a1, vi 0, vi 1, .unset, .unset] []) (plainFor_of_name pn6) (fun m => oe m 2) ?_
  intro p e s m below meth c s₁ hx hby hml hown hnm hret hlk hZ X0 e0
  have dk : Dk B15 c := fun h => hb hby h
  have W := @wd _ _ _ hw
  have N0 := Fr.nil n0
  refine gz X0 1 #[vr a1, vi 0, vi 1, .unset, .unset] [(.ref a1)] (fun _ k => aN X0 hx (dk d17_0) rfl rfl k) ?_
  refine goV X0 hx hZ hown (W 77 rfl) (m34 hw) pr8 0 0 0 (rm_lenS_3 hw a1 t1 k1 c0 c1 c2 cs h0 n0 Z0 pr0 pr1 hcs pr8 pr9 say) N0 e0 pd_26 hml (dk d17_1) ?_
  rintro _ T10 L10 X10 N10 ⟨rfl, hh10⟩
  refine gz X10 8 #[vr a1, vi 0, vi 1, vi 3, .unset] [(.int 3), (.int 1), (.int 0)] (fun _ k => sN X10 hx (dk d17_4) rfl rfl (.inl rfl) (lN X10 hx (dk d17_5) rfl (lN X10 hx (dk d17_6) rfl (lN X10 hx (dk d17_7) rfl k)))) ?_
  refine goS X10 hx hZ hown (W 78 rfl) (m35 hw) 3 0 0 (rm_cbe hw (0 : Int32) (1 : Int32) (3 : Int32) fm h0 n0 Z0 pr0 pr3 hr_fm (by decide) (by decide) (by decide)) N10 hh10 pd_27 hml (dk d17_8) ?_
  rintro _ T11 L11 X11 N11 ⟨rfl, hh11⟩
  refine gz X11 27 #[vr a1, vi 0, vi 1, vi 3, vi 1] [] (fun _ k => lN X11 hx (dk d17_11) rfl (fN X11 hx (dk d17_12) rfl ((if0 _ _).trans (teq (by decide)).2) (lN X11 hx (dk d17_15) rfl (lN X11 hx (dk d17_16) rfl (cY X11 hx 17 22 rfl (dk d17_17) rfl (feq (by decide)).2 (lN X11 hx (dk d17_22) rfl (lN X11 hx (dk d17_23) rfl (XS.isub X11.here hx rfl (dk d17_24) rfl (sI X11 hx (dk d17_25) rfl rfl (.inl rfl) k))))))))) ?_
  rcases say with ⟨FC12, VA12, U12⟩ | ⟨FC12, VA12⟩
  · skip
    refine gz X11 28 #[vr a1, vi 0, vi 1, vi 3, vi 1] [(.ref a1)] (fun _ k => aN X11 hx (dk d17_27) rfl rfl k) ?_
    refine goV X11 hx hZ hown (W 56 rfl) (m15 hw) pr8 0 0 0 (rm_isLatin10 hw a1 cs h0 n0 Z0 pr0 pr1 hcs FC12) N11 hh11 pd_14 hml (dk d17_28) ?_
    rintro _ T13 L13 X13 N13 ⟨rfl, hh13⟩
    refine gz X13 35 #[vr a1, vi 0, vi 1, vi 3, vi 1] [(.ref a1)] (fun _ k => fN X13 hx (dk d17_31) rfl ((if0 _ _).trans (feq (by decide)).1) (aN X13 hx (dk d17_34) rfl rfl k)) ?_
    obtain ⟨T14, X14, e14, st14⟩ := getF X13 hx hZ hown (host := "") (Or.inl (W 35 rfl)) Via.refl hh13 pr9 (g := (mkF m 35 #[vr a1, vi 0, vi 1, vi 3, vi 1] [(.ref a1)])) rfl rfl (dk d17_35)
    refine gz X14 41 #[vr a1, vi 0, vi 1, vi 3, vi 1] [(.int 1), (.int 0), (.ref t1)] (fun _ k => st14 _ (lN X14 hx (dk d17_38) rfl (lI X14 hx (dk d17_39) rfl k))) ?_
    refine goS X14 hx hZ hown (W 84 rfl) (m36 hw) 3 2 5 (rm_l1n_1 hw t1 k1 (3 : Int32) [(.int (nar .byte (c0.toInt8.toInt32))), (.int (nar .byte (c1.toInt8.toInt32))), (.int (nar .byte (c2.toInt8.toInt32)))] h0 n0 Z0 pr0 VA12 (by decide) (by decide) (by decide) (Nat.le_of_ble_eq_true rfl)) N13 e14 pd_28 hml (dk d17_41) ?_
    rintro _ T15 L15 X15 N15 ⟨b15, t15, k15, rfl, K15, p15_0, p15_1, p15_2, p15_3, p15_4, p15_5⟩
    have O16 := pr0.keep K15 all0
    have Z16 : n0 ≤ T15.heap.size := Nat.le_trans Z0 K15.1
    have sz_b15 : h0.size ≤ b15 := p15_4
    have sz_t15 : h0.size ≤ t15 := p15_5
    have p15_3 : Arv Z T15.heap t15 k15 .byte (1 : Int32) [(.int (nar .byte (c0.toInt8.toInt32)))] (.int 0) := p15_3
    refine gz X15 57 #[vr a1, vi 0, vi 1, vi 3, vi 1] [(.ref b15)] (fun _ k => gT X15 hx 44 57 rfl (dk d17_44) k) ?_
    refine Go.retA X15 hx hlk (t := (.object "java/lang/String")) hret (dk d17_57) ?_
    exact ⟨N15, b15, t15, k15, rfl, ((Keep.refl h0 []).trans K15 all0), p15_0, p15_1, (Nat.le_trans (Nat.le_refl _) sz_b15), (Or.inl ⟨p15_2, p15_3, U12.1⟩)⟩
  · skip
    refine gz X11 28 #[vr a1, vi 0, vi 1, vi 3, vi 1] [(.ref a1)] (fun _ k => aN X11 hx (dk d17_27) rfl rfl k) ?_
    refine goV X11 hx hZ hown (W 56 rfl) (m15 hw) pr8 0 0 0 (rm_isLatin11 hw a1 cs h0 n0 Z0 pr0 pr1 hcs FC12) N11 hh11 pd_14 hml (dk d17_28) ?_
    rintro _ T17 L17 X17 N17 ⟨rfl, hh17⟩
    refine gz X17 48 #[vr a1, vi 0, vi 1, vi 3, vi 1] [(.ref a1)] (fun _ k => fY X17 hx 31 47 rfl (dk d17_31) rfl ((if0 _ _).trans (teq (by decide)).1) (aN X17 hx (dk d17_47) rfl rfl k)) ?_
    obtain ⟨T18, X18, e18, st18⟩ := getF X17 hx hZ hown (host := "") (Or.inl (W 35 rfl)) Via.refl hh17 pr9 (g := (mkF m 48 #[vr a1, vi 0, vi 1, vi 3, vi 1] [(.ref a1)])) rfl rfl (dk d17_48)
    refine gz X18 54 #[vr a1, vi 0, vi 1, vi 3, vi 1] [(.int 1), (.int 0), (.ref t1)] (fun _ k => st18 _ (lN X18 hx (dk d17_51) rfl (lI X18 hx (dk d17_52) rfl k))) ?_
    refine goS X18 hx hZ hown (W 145 rfl) (m37 hw) 3 3 7 (rm_u16n_1 hw t1 k1 (6 : Int32) [(.int (own_b0 c0)), (.int (own_b1 c0)), (.int (own_b0 c1)), (.int (own_b1 c1)), (.int (own_b0 c2)), (.int (own_b1 c2))] c0 cs fm h0 n0 Z0 pr0 pr1 hcs pr3 hr_fm pr5 pr6 pr7 VA12 (by decide) (by decide) rfl rfl hr0 (by decide) (by decide) (by decide) (by decide) (by decide) (Nat.le_of_ble_eq_true rfl)) N17 e18 pd_28 hml (dk d17_54) ?_
    rintro _ T19 L19 X19 N19 ⟨b19, t19, k19, rfl, K19, p19_0, p19_1, p19_2, p19_3⟩
    have O20 := pr0.keep K19 all0
    have Z20 : n0 ≤ T19.heap.size := Nat.le_trans Z0 K19.1
    have sz_b19 : h0.size ≤ b19 := p19_2
    refine gz X19 57 #[vr a1, vi 0, vi 1, vi 3, vi 1] [(.ref b19)] (fun _ k => k) ?_
    refine Go.retA X19 hx hlk (t := (.object "java/lang/String")) hret (dk d17_57) ?_
    exact ⟨N19, b19, t19, k19, rfl, ((Keep.refl h0 []).trans K19 all0), p19_0, p19_1, (Nat.le_trans (Nat.le_refl _) sz_b19), p19_3⟩
theorem rm_subS_3_2 {l : Launch} {Z : State} {a0 : Array Value} (hw : HW a0 Z) (a1 : Addr) (t1 : Addr) (k1 : ClassId) (c0 : Int32) (c1 : Int32) (c2 : Int32) (cs : Int32) (fm : Value) (h0 : Heap) (n0 : Nat) (Z0 : n0 ≤ h0.size) (pr0 : Old Z n0 h0) (pr1 : S3 Z cs) (hcs : ¬ (cs = (0 : Int32))) (pr3 : S4 Z fm) (hr_fm : fm.isRef = true) (pr5 : S0 Z) (pr6 : S1 Z) (pr7 : S2 Z) (pr8 : XT Z h0 a1) (pr9 : FV Z h0 a1 t1) (say : (FC Z h0 a1 0 ∧ Arv Z h0 t1 k1 .byte (3 : Int32) [(.int (nar .byte (c0.toInt8.toInt32))), (.int (nar .byte (c1.toInt8.toInt32))), (.int (nar .byte (c2.toInt8.toInt32)))] (.int 0) ∧ ¬ (255 : Int32) < c0 ∧ ¬ (255 : Int32) < c1 ∧ ¬ (255 : Int32) < c2) ∨ (FC Z h0 a1 1 ∧ Arv Z h0 t1 k1 .byte (6 : Int32) [(.int (own_b0 c0)), (.int (own_b1 c0)), (.int (own_b0 c1)), (.int (own_b1 c1)), (.int (own_b0 c2)), (.int (own_b1 c2))] (.int 0))) (hr0 : own_rng c0) (hr1 : own_rng c1) (hr2 : own_rng c2) :
    Met l Z Y22 B15 5 (some (.object "java/lang/String")) [] ({ frames := 6, cells := 3, slots := 10, locals := 94 } : Room) #[(.ref a1), (.int 0), (.int 2)] h0 (fun vv h L => Fr n0 L ∧ ∃ b : Addr, ∃ t : Addr, ∃ k : ClassId, vv = some (.ref b) ∧ Keep h0 h [] ∧ XT Z h b ∧ FV Z h b t ∧ h0.size ≤ b ∧ ((FC Z h b 0 ∧ Arv Z h t k .byte (2 : Int32) [(.int (nar .byte (c0.toInt8.toInt32))), (.int (nar .byte (c1.toInt8.toInt32)))] (.int 0) ∧ ¬ (255 : Int32) < c0 ∧ ¬ (255 : Int32) < c1) ∨ (FC Z h b 1 ∧ Arv Z h t k .byte (4 : Int32) [(.int (own_b0 c0)), (.int (own_b1 c0)), (.int (own_b0 c1)), (.int (own_b1 c1))] (.int 0)))) := by
  refine Met.enter (f0 := fun m => mkF m 0 #[vr a1, vi 0, vi 2, .unset, .unset] []) (plainFor_of_name pn6) (fun m => oe m 2) ?_
  intro p e s m below meth c s₁ hx hby hml hown hnm hret hlk hZ X0 e0
  have dk : Dk B15 c := fun h => hb hby h
  have W := @wd _ _ _ hw
  have N0 := Fr.nil n0
  refine gz X0 1 #[vr a1, vi 0, vi 2, .unset, .unset] [(.ref a1)] (fun _ k => aN X0 hx (dk d17_0) rfl rfl k) ?_
  refine goV X0 hx hZ hown (W 77 rfl) (m34 hw) pr8 0 0 0 (rm_lenS_3 hw a1 t1 k1 c0 c1 c2 cs h0 n0 Z0 pr0 pr1 hcs pr8 pr9 say) N0 e0 pd_26 hml (dk d17_1) ?_
  rintro _ T10 L10 X10 N10 ⟨rfl, hh10⟩
  refine gz X10 8 #[vr a1, vi 0, vi 2, vi 3, .unset] [(.int 3), (.int 2), (.int 0)] (fun _ k => sN X10 hx (dk d17_4) rfl rfl (.inl rfl) (lN X10 hx (dk d17_5) rfl (lN X10 hx (dk d17_6) rfl (lN X10 hx (dk d17_7) rfl k)))) ?_
  refine goS X10 hx hZ hown (W 78 rfl) (m35 hw) 3 0 0 (rm_cbe hw (0 : Int32) (2 : Int32) (3 : Int32) fm h0 n0 Z0 pr0 pr3 hr_fm (by decide) (by decide) (by decide)) N10 hh10 pd_27 hml (dk d17_8) ?_
  rintro _ T11 L11 X11 N11 ⟨rfl, hh11⟩
  refine gz X11 27 #[vr a1, vi 0, vi 2, vi 3, vi 2] [] (fun _ k => lN X11 hx (dk d17_11) rfl (fN X11 hx (dk d17_12) rfl ((if0 _ _).trans (teq (by decide)).2) (lN X11 hx (dk d17_15) rfl (lN X11 hx (dk d17_16) rfl (cY X11 hx 17 22 rfl (dk d17_17) rfl (feq (by decide)).2 (lN X11 hx (dk d17_22) rfl (lN X11 hx (dk d17_23) rfl (XS.isub X11.here hx rfl (dk d17_24) rfl (sI X11 hx (dk d17_25) rfl rfl (.inl rfl) k))))))))) ?_
  rcases say with ⟨FC12, VA12, U12⟩ | ⟨FC12, VA12⟩
  · skip
    refine gz X11 28 #[vr a1, vi 0, vi 2, vi 3, vi 2] [(.ref a1)] (fun _ k => aN X11 hx (dk d17_27) rfl rfl k) ?_
    refine goV X11 hx hZ hown (W 56 rfl) (m15 hw) pr8 0 0 0 (rm_isLatin10 hw a1 cs h0 n0 Z0 pr0 pr1 hcs FC12) N11 hh11 pd_14 hml (dk d17_28) ?_
    rintro _ T13 L13 X13 N13 ⟨rfl, hh13⟩
    refine gz X13 35 #[vr a1, vi 0, vi 2, vi 3, vi 2] [(.ref a1)] (fun _ k => fN X13 hx (dk d17_31) rfl ((if0 _ _).trans (feq (by decide)).1) (aN X13 hx (dk d17_34) rfl rfl k)) ?_
    obtain ⟨T14, X14, e14, st14⟩ := getF X13 hx hZ hown (host := "") (Or.inl (W 35 rfl)) Via.refl hh13 pr9 (g := (mkF m 35 #[vr a1, vi 0, vi 2, vi 3, vi 2] [(.ref a1)])) rfl rfl (dk d17_35)
    refine gz X14 41 #[vr a1, vi 0, vi 2, vi 3, vi 2] [(.int 2), (.int 0), (.ref t1)] (fun _ k => st14 _ (lN X14 hx (dk d17_38) rfl (lI X14 hx (dk d17_39) rfl k))) ?_
    refine goS X14 hx hZ hown (W 84 rfl) (m36 hw) 3 2 6 (rm_l1n_2 hw t1 k1 (3 : Int32) [(.int (nar .byte (c0.toInt8.toInt32))), (.int (nar .byte (c1.toInt8.toInt32))), (.int (nar .byte (c2.toInt8.toInt32)))] h0 n0 Z0 pr0 VA12 (by decide) (by decide) (by decide) (Nat.le_of_ble_eq_true rfl)) N13 e14 pd_28 hml (dk d17_41) ?_
    rintro _ T15 L15 X15 N15 ⟨b15, t15, k15, rfl, K15, p15_0, p15_1, p15_2, p15_3, p15_4, p15_5⟩
    have O16 := pr0.keep K15 all0
    have Z16 : n0 ≤ T15.heap.size := Nat.le_trans Z0 K15.1
    have sz_b15 : h0.size ≤ b15 := p15_4
    have sz_t15 : h0.size ≤ t15 := p15_5
    have p15_3 : Arv Z T15.heap t15 k15 .byte (2 : Int32) [(.int (nar .byte (c0.toInt8.toInt32))), (.int (nar .byte (c1.toInt8.toInt32)))] (.int 0) := p15_3
    refine gz X15 57 #[vr a1, vi 0, vi 2, vi 3, vi 2] [(.ref b15)] (fun _ k => gT X15 hx 44 57 rfl (dk d17_44) k) ?_
    refine Go.retA X15 hx hlk (t := (.object "java/lang/String")) hret (dk d17_57) ?_
    exact ⟨N15, b15, t15, k15, rfl, ((Keep.refl h0 []).trans K15 all0), p15_0, p15_1, (Nat.le_trans (Nat.le_refl _) sz_b15), (Or.inl ⟨p15_2, p15_3, U12.1, U12.2.1⟩)⟩
  · skip
    refine gz X11 28 #[vr a1, vi 0, vi 2, vi 3, vi 2] [(.ref a1)] (fun _ k => aN X11 hx (dk d17_27) rfl rfl k) ?_
    refine goV X11 hx hZ hown (W 56 rfl) (m15 hw) pr8 0 0 0 (rm_isLatin11 hw a1 cs h0 n0 Z0 pr0 pr1 hcs FC12) N11 hh11 pd_14 hml (dk d17_28) ?_
    rintro _ T17 L17 X17 N17 ⟨rfl, hh17⟩
    refine gz X17 48 #[vr a1, vi 0, vi 2, vi 3, vi 2] [(.ref a1)] (fun _ k => fY X17 hx 31 47 rfl (dk d17_31) rfl ((if0 _ _).trans (teq (by decide)).1) (aN X17 hx (dk d17_47) rfl rfl k)) ?_
    obtain ⟨T18, X18, e18, st18⟩ := getF X17 hx hZ hown (host := "") (Or.inl (W 35 rfl)) Via.refl hh17 pr9 (g := (mkF m 48 #[vr a1, vi 0, vi 2, vi 3, vi 2] [(.ref a1)])) rfl rfl (dk d17_48)
    refine gz X18 54 #[vr a1, vi 0, vi 2, vi 3, vi 2] [(.int 2), (.int 0), (.ref t1)] (fun _ k => st18 _ (lN X18 hx (dk d17_51) rfl (lI X18 hx (dk d17_52) rfl k))) ?_
    refine goS X18 hx hZ hown (W 145 rfl) (m37 hw) 3 3 10 (rm_u16n_2 hw t1 k1 (6 : Int32) [(.int (own_b0 c0)), (.int (own_b1 c0)), (.int (own_b0 c1)), (.int (own_b1 c1)), (.int (own_b0 c2)), (.int (own_b1 c2))] c0 c1 cs fm h0 n0 Z0 pr0 pr1 hcs pr3 hr_fm pr5 pr6 pr7 VA12 (by decide) (by decide) (by decide) (by decide) rfl rfl rfl rfl hr0 hr1 (by decide) (by decide) (by decide) (by decide) (by decide) (Nat.le_of_ble_eq_true rfl)) N17 e18 pd_28 hml (dk d17_54) ?_
    rintro _ T19 L19 X19 N19 ⟨b19, t19, k19, rfl, K19, p19_0, p19_1, p19_2, p19_3⟩
    have O20 := pr0.keep K19 all0
    have Z20 : n0 ≤ T19.heap.size := Nat.le_trans Z0 K19.1
    have sz_b19 : h0.size ≤ b19 := p19_2
    refine gz X19 57 #[vr a1, vi 0, vi 2, vi 3, vi 2] [(.ref b19)] (fun _ k => k) ?_
    refine Go.retA X19 hx hlk (t := (.object "java/lang/String")) hret (dk d17_57) ?_
    exact ⟨N19, b19, t19, k19, rfl, ((Keep.refl h0 []).trans K19 all0), p19_0, p19_1, (Nat.le_trans (Nat.le_refl _) sz_b19), p19_3⟩
theorem d9_0 : DK B46 0 (.iconst 0) 1 := by decide +kernel
theorem d9_1 : DK B46 1 (.istore_n 2) 1 := by decide +kernel
theorem d9_2 : DK B46 2 (.iconst 0) 1 := by decide +kernel
theorem d9_3 : DK B46 3 (.istore_n 3) 1 := by decide +kernel
theorem d9_4 : DK B46 4 (.iload_n 3) 1 := by decide +kernel
theorem d9_5 : DK B46 5 (.aload_n 0) 1 := by decide +kernel
theorem d9_6 : DK B46 6 (.invokevirtual 29) 3 := by decide +kernel
theorem d9_9 : DK B46 9 (.if_icmp .ge 37) 3 := by decide +kernel
theorem d9_46 : DK B46 46 (.aload_n 0) 1 := by decide +kernel
theorem d9_47 : DK B46 47 (.iconst 0) 1 := by decide +kernel
theorem d9_48 : DK B46 48 (.iload_n 3) 1 := by decide +kernel
theorem d9_49 : DK B46 49 (.invokevirtual 85) 3 := by decide +kernel
theorem pd_29 : parseMethodDescriptor "(II)Ljava/lang/String;" = some ⟨[.int, .int], some (.object "java/lang/String")⟩ := by decide +kernel
theorem m38 {Z : State} {a0 : Array Value} (hw : HW a0 Z) : (Jvm.Cond.declares Y22).before a0 Z = true ∧ (Jvm.Cond.selects "java/lang/String" Y22 Y22).before a0 Z = true ∧ (Jvm.Cond.instanceMethod Y22).before a0 Z = true ∧ (Jvm.Cond.initialized "java/lang/String").before a0 Z = true ∧ (Jvm.Cond.code Y22 B15 (5 : Nat) (Option.some (Jvm.ClassFile.FieldType.object "java/lang/String"))).before a0 Z = true := ⟨(wd hw 73 rfl), (wd hw 75 rfl), (wd hw 74 rfl), (wd hw 10 rfl), (wd hw 76 rfl)⟩
theorem d9_52 : DK B46 52 .areturn 1 := by decide +kernel
theorem rm_cut_0 {l : Launch} {Z : State} {a0 : Array Value} (hw : HW a0 Z) (a1 : Addr) (t1 : Addr) (k1 : ClassId) (p2 : Int32) (vs : List Value) (cs : Int32) (fm : Value) (h0 : Heap) (n0 : Nat) (Z0 : n0 ≤ h0.size) (pr0 : Old Z n0 h0) (pr1 : S3 Z cs) (hcs : ¬ (cs = (0 : Int32))) (pr3 : S4 Z fm) (hr_fm : fm.isRef = true) (pr5 : XT Z h0 a1) (pr6 : FV Z h0 a1 t1) (pr7 : FC Z h0 a1 0) (pr8 : Arv Z h0 t1 k1 .byte (0 : Int32) vs (.int 0)) :
    Met l Z Y0 B46 5 (some (.object "java/lang/String")) [] ({ frames := 3, cells := 0, slots := 0, locals := 45 } : Room) #[(.ref a1), (.int p2)] h0 (fun vv h L => Fr n0 L ∧ vv = some (.ref a1) ∧ h = h0) := by
  refine Met.enter (f0 := fun m => mkF m 0 #[vr a1, vi p2, .unset, .unset, .unset] []) (plainFor_of_name pn1) (fun m => oe m 3) ?_
  intro p e s m below meth c s₁ hx hby hml hown hnm hret hlk hZ X0 e0
  have dk : Dk B46 c := fun h => hb hby h
  have W := @wd _ _ _ hw
  have N0 := Fr.nil n0
  refine gz X0 6 #[vr a1, vi p2, vi 0, vi 0, .unset] [(.ref a1), (.int 0)] (fun _ k => kC X0 hx (dk d9_0) (sN X0 hx (dk d9_1) rfl rfl (.inl rfl) (kC X0 hx (dk d9_2) (sN X0 hx (dk d9_3) rfl rfl (.inl rfl) (lN X0 hx (dk d9_4) rfl (aN X0 hx (dk d9_5) rfl rfl k)))))) ?_
  refine goV X0 hx hZ hown (W 41 rfl) (m34 hw) pr5 0 0 0 (rm_len_0_0 hw a1 t1 k1 cs vs h0 n0 Z0 pr0 pr1 hcs pr5 pr6 pr7 pr8) N0 e0 pd_26 hml (dk d9_6) ?_
  rintro _ T10 L10 X10 N10 ⟨rfl, hh10⟩
  refine gz X10 49 #[vr a1, vi p2, vi 0, vi 0, .unset] [(.int 0), (.int 0), (.ref a1)] (fun _ k => cY X10 hx 9 46 rfl (dk d9_9) rfl (flt (by decide)).2.1 (aN X10 hx (dk d9_46) rfl rfl (kC X10 hx (dk d9_47) (lN X10 hx (dk d9_48) rfl k)))) ?_
  refine goV X10 hx hZ hown (W 72 rfl) (m38 hw) pr5 2 0 0 (rm_sub_0 hw a1 t1 k1 cs fm vs h0 n0 Z0 pr0 pr1 hcs pr3 hr_fm pr5 pr6 pr7 pr8) N10 hh10 pd_29 hml (dk d9_49) ?_
  rintro _ T11 L11 X11 N11 ⟨rfl, hh11⟩
  refine gz X11 52 #[vr a1, vi p2, vi 0, vi 0, .unset] [(.ref a1)] (fun _ k => k) ?_
  refine Go.retA X11 hx hlk (t := (.object "java/lang/String")) hret (dk d9_52) ?_
  rw [hh11]
  exact ⟨N11, rfl, rfl⟩
theorem d9_12 : DK B46 12 (.aload_n 0) 1 := by decide +kernel
theorem d9_13 : DK B46 13 (.iload_n 3) 1 := by decide +kernel
theorem d9_14 : DK B46 14 (.invokevirtual 51) 3 := by decide +kernel
theorem m39 {Z : State} {a0 : Array Value} (hw : HW a0 Z) : (Jvm.Cond.declares Y18).before a0 Z = true ∧ (Jvm.Cond.selects "java/lang/String" Y18 Y18).before a0 Z = true ∧ (Jvm.Cond.instanceMethod Y18).before a0 Z = true ∧ (Jvm.Cond.initialized "java/lang/String").before a0 Z = true ∧ (Jvm.Cond.code Y18 B14 (3 : Nat) (Option.some Jvm.ClassFile.FieldType.int)).before a0 Z = true := ⟨(wd hw 52 rfl), (wd hw 54 rfl), (wd hw 53 rfl), (wd hw 10 rfl), (wd hw 55 rfl)⟩
theorem d9_17 : DK B46 17 (.istore 4) 2 := by decide +kernel
theorem d9_19 : DK B46 19 (.iload_n 2) 1 := by decide +kernel
theorem d9_20 : DK B46 20 (.iload 4) 2 := by decide +kernel
theorem d9_22 : DK B46 22 (.invokestatic 82) 3 := by decide +kernel
theorem m40 {Z : State} {a0 : Array Value} (hw : HW a0 Z) : (Jvm.Cond.static Y1).before a0 Z = true ∧ (Jvm.Cond.initialized "com/example/orderly_outbox/orderlyoutbox/store/LastError").before a0 Z = true ∧ (Jvm.Cond.code Y1 B47 (1 : Nat) (Option.some Jvm.ClassFile.FieldType.int)).before a0 Z = true := ⟨(wd hw 70 rfl), (wd hw 39 rfl), (wd hw 71 rfl)⟩
theorem d9_25 : DK B46 25 .iadd 1 := by decide +kernel
theorem d9_26 : DK B46 26 (.istore_n 2) 1 := by decide +kernel
theorem d9_27 : DK B46 27 (.iload_n 2) 1 := by decide +kernel
theorem d9_28 : DK B46 28 (.iload_n 1) 1 := by decide +kernel
theorem d9_29 : DK B46 29 (.if_icmp .le 6) 3 := by decide +kernel
theorem d9_32 : DK B46 32 (.goto 14) 3 := by decide +kernel
theorem d9_35 : DK B46 35 (.iload_n 3) 1 := by decide +kernel
theorem d9_36 : DK B46 36 (.iload 4) 2 := by decide +kernel
theorem d9_38 : DK B46 38 (.invokestatic 71) 3 := by decide +kernel
theorem m41 {Z : State} {a0 : Array Value} (hw : HW a0 Z) : (Jvm.Cond.static Y6).before a0 Z = true ∧ (Jvm.Cond.initialized "java/lang/Character").before a0 Z = true ∧ (Jvm.Cond.code Y6 B40 (1 : Nat) (Option.some Jvm.ClassFile.FieldType.int)).before a0 Z = true := ⟨(wd hw 100 rfl), (wd hw 101 rfl), (wd hw 102 rfl)⟩
theorem d9_41 : DK B46 41 .iadd 1 := by decide +kernel
theorem d9_42 : DK B46 42 (.istore_n 3) 1 := by decide +kernel
theorem d9_43 : DK B46 43 (.goto (-39)) 3 := by decide +kernel
def Q_rm_cut_1 (Z : State) (a1 : Addr) (t1 : Addr) (k1 : ClassId) (c0 : Int32) (p2 : Int32) (cs : Int32) (fm : Value) (h0 : Heap) (n0 : Nat) (vv : Option Value) (h : Heap) (L : List Loc) : Prop := Fr n0 L ∧ ∃ b : Addr, ∃ t : Addr, ∃ k : ClassId, vv = some (.ref b) ∧ Keep h0 h [] ∧ ((p2 < (own_len c0) ∧ XT Z h b ∧ FV Z h b t ∧ FC Z h b 0 ∧ Arv Z h t k .byte (0 : Int32) [] (.int 0)) ∨ (¬ (p2 < (own_len c0)) ∧ XT Z h b ∧ FV Z h b t ∧ ((FC Z h b 0 ∧ Arv Z h t k .byte (1 : Int32) [(.int (nar .byte (c0.toInt8.toInt32)))] (.int 0) ∧ ¬ (255 : Int32) < c0) ∨ (FC Z h b 1 ∧ Arv Z h t k .byte (2 : Int32) [(.int (own_b0 c0)), (.int (own_b1 c0))] (.int 0)))))
theorem rm_cut_1 {l : Launch} {Z : State} {a0 : Array Value} (hw : HW a0 Z) (a1 : Addr) (t1 : Addr) (k1 : ClassId) (c0 : Int32) (p2 : Int32) (cs : Int32) (fm : Value) (h0 : Heap) (n0 : Nat) (Z0 : n0 ≤ h0.size) (pr0 : Old Z n0 h0) (pr1 : S3 Z cs) (hcs : ¬ (cs = (0 : Int32))) (pr3 : S4 Z fm) (hr_fm : fm.isRef = true) (pr5 : S0 Z) (pr6 : S1 Z) (pr7 : S2 Z) (pr8 : XT Z h0 a1) (pr9 : FV Z h0 a1 t1) (say : (FC Z h0 a1 0 ∧ Arv Z h0 t1 k1 .byte (1 : Int32) [(.int (nar .byte (c0.toInt8.toInt32)))] (.int 0) ∧ ¬ (255 : Int32) < c0) ∨ (FC Z h0 a1 1 ∧ Arv Z h0 t1 k1 .byte (2 : Int32) [(.int (own_b0 c0)), (.int (own_b1 c0))] (.int 0))) (hr0 : own_rng c0) :
    MetS l Z own_EL Y0 B46 5 (some (.object "java/lang/String")) [] ({ frames := 4, cells := 2, slots := 4, locals := 58 } : Room) #[(.ref a1), (.int p2)] h0 (Q_rm_cut_1 Z a1 t1 k1 c0 p2 cs fm h0 n0) := by
  refine MetS.enter (f0 := fun m => mkF m 0 #[vr a1, vi p2, .unset, .unset, .unset] []) (plainFor_of_name pn1) (fun m => oe m 3) ?_
  intro p e s m below meth c s₁ hx hby hml hown hnm hret hlk hZ X0 e0 hS C0
  have dk : Dk B46 c := fun h => hb hby h
  have W := @wd _ _ _ hw
  have N0 := Fr.nil n0
  have hk : h0.size ≤ h0.size := Nat.le_refl _
  have hEL : EW Z a0 own_EL := own_hEL hw
  have wS : ∀ a ∈ Bundle.stringAtoms, a.before a0 Z = true := own_wS hw
  refine gz X0 6 #[vr a1, vi p2, vi 0, vi 0, .unset] [(.ref a1), (.int 0)] (fun _ k => kC X0 hx (dk d9_0) (sN X0 hx (dk d9_1) rfl rfl (.inl rfl) (kC X0 hx (dk d9_2) (sN X0 hx (dk d9_3) rfl rfl (.inl rfl) (lN X0 hx (dk d9_4) rfl (aN X0 hx (dk d9_5) rfl rfl k)))))) ?_
  refine goV X0 hx hZ hown (W 41 rfl) (m34 hw) pr8 0 0 0 (rm_lenS_1 hw a1 t1 k1 c0 cs h0 n0 Z0 pr0 pr1 hcs pr8 pr9 say) N0 e0 pd_26 hml (dk d9_6) ?_
  rintro _ T10 L10 X10 N10 ⟨rfl, hh10⟩
  refine gz X10 14 #[vr a1, vi p2, vi 0, vi 0, .unset] [(.int 0), (.ref a1)] (fun _ k => cN X10 hx (dk d9_9) rfl (tlt (by decide)).2.1 (aN X10 hx (dk d9_12) rfl rfl (lN X10 hx (dk d9_13) rfl k))) ?_
  refine goV X10 hx hZ hown (W 51 rfl) (m39 hw) pr8 1 0 0 (rm_cpS_1_0 hw a1 t1 k1 c0 cs fm h0 n0 Z0 pr0 pr1 hcs pr3 hr_fm pr5 pr6 pr7 pr8 pr9 say hr0) N10 hh10 pd_0 hml (dk d9_14) ?_
  rintro _ T11 L11 X11 N11 ⟨rfl, hh11⟩
  refine gz X11 22 #[vr a1, vi p2, vi 0, vi 0, vi c0] [(.int c0), (.int 0)] (fun _ k => sI X11 hx (dk d9_17) rfl rfl (.inl rfl) (lN X11 hx (dk d9_19) rfl (lI X11 hx (dk d9_20) rfl k))) ?_
  refine goS X11 hx hZ hown (W 69 rfl) (m40 hw) 1 0 0 (rm_u8 hw c0 h0 n0 Z0 ) N11 hh11 pd_0 hml (dk d9_22) ?_
  rintro _ T12 L12 X12 N12 ⟨rfl, hh12⟩
  refine gz X12 26 #[vr a1, vi p2, vi 0, vi 0, vi c0] [(.int ((0 : Int32) + (own_len c0)))] (fun _ k => pI X12 hx (dk d9_25) rfl k) ?_
  have hs13 := own_add0 (own_len c0)
  refine gz X12 29 #[vr a1, vi p2, .val (.int (own_len c0)), vi 0, vi c0] [(.int p2), (.int (own_len c0))] (fun _ k => sN (x := (own_len c0)) (rest := []) X12 hx (dk d9_26) (by rw [hs13]) rfl (.inr ⟨_, rfl, rfl⟩) (lN X12 hx (dk d9_27) rfl (lN X12 hx (dk d9_28) rfl k))) ?_
  by_cases c14 : p2 < (own_len c0)
  · skip
    refine gz X12 49 #[vr a1, vi p2, .val (.int (own_len c0)), vi 0, vi c0] [(.int 0), (.int 0), (.ref a1)] (fun _ k => cN X12 hx (dk d9_29) rfl (tlt c14).2.2.2 (gT X12 hx 32 46 rfl (dk d9_32) (aN X12 hx (dk d9_46) rfl rfl (kC X12 hx (dk d9_47) (lN X12 hx (dk d9_48) rfl k))))) ?_
    have hkT15 : _ ≤ T12.heap.size := (by rw [hh12]; exact hk)
    obtain ⟨cq15, kq15, q15a, q15b, q15c⟩ := isOf hZ hh12 pr8
    obtain ⟨_, _, ⟨T15, L15, k15, n15⟩, -, X15, hSn15, hgr15, ⟨Lc15, hQ15, l15, y15, z15, CS15⟩, st15⟩ := X12.virtualBackS hx (y := Y22) (z := Y22) hown (mvT hZ (W 72 rfl)) (mvT hZ (W 73 rfl)) (notFace_of_selects (args := #[]) (mvT hZ (W 75 rfl))) (mvT hZ (W 75 rfl)) (mvT hZ (W 74 rfl)) (by decide) (backOfSH (W := 0) (rm_subS_1_0 hw a1 t1 k1 c0 cs fm h0 n0 Z0 pr0 pr1 hcs pr3 hr_fm pr5 pr6 pr7 pr8 pr9 say hr0) hZ (W 76 rfl) (W 10 rfl) (by decide) (by decide) hEL C0.1) q15a q15c (g := (mkF m 49 #[vr a1, vi p2, .val (.int (own_len c0)), vi 0, vi c0] [(.int 0), (.int 0), (.ref a1)])) rfl (by rw [hml]; rfl) (Steps.refl _) (argsL := [(.int 0), (.int 0)]) (rest := []) (lenOf pd_29 rfl) rfl (by show 2 * 0 + _ ≤ _; exact Nat.le_of_eq rfl) (dk d9_49) (fun _ _ => ⟨rfl, hh12, Nat.le_of_ble_eq_true rfl, Nat.le_of_ble_eq_true rfl⟩)
    dsimp only [Pt.U, Pt.locs, Pt.cells, Pt.slots] at X15 l15 y15 z15 st15 hQ15 hSn15 hgr15 CS15
    subst l15 y15 z15
    obtain ⟨X15, hS, hZ, hown⟩ := rebS hS hkT15 X15 hSn15 hgr15 hZ hown
    have hk : T15.heap.size ≤ T15.heap.size := Nat.le_refl _
    obtain ⟨Nq15, b15, t15, k15, rfl, K15, p15_0, p15_1, p15_2, p15_3⟩ := hQ15
    have N15 := Fr.app N12 Nq15
    have X15 : Stand p l e _ _ m _ below meth c T15 _ 2 4 := X15
    have C16 := C0.trans CS15
    have O16 := pr0.keep K15 all0
    have Z16 : n0 ≤ T15.heap.size := Nat.le_trans Z0 K15.1
    refine gz X15 52 #[vr a1, vi p2, .val (.int (own_len c0)), vi 0, vi c0] [(.ref b15)] (fun _ k => st15.trans k) ?_
    have hkE17 : _ ≤ T15.heap.size := hk
    have CE17 : CHr Z own_EL s.vm s.heap T15.vm T15.heap := C16
    refine Go.retS X15 hx hlk hS hkE17 hZ hEL CE17 (t := (.object "java/lang/String")) hret rfl (Or.inr (Or.inr (Or.inr (Or.inr ⟨rfl, rfl, rfl⟩)))) (dk d9_52) (by decide) (by decide) ?_
    exact ⟨N15, b15, t15, k15, rfl, ((Keep.refl h0 []).trans K15 all0), (Or.inl ⟨c14, p15_0, p15_1, p15_2, p15_3⟩)⟩
  · skip
    refine gz X12 38 #[vr a1, vi p2, .val (.int (own_len c0)), vi 0, vi c0] [(.int c0), (.int 0)] (fun _ k => cY X12 hx 29 35 rfl (dk d9_29) rfl (flt c14).2.2.2 (lN X12 hx (dk d9_35) rfl (lI X12 hx (dk d9_36) rfl k))) ?_
    refine goS X12 hx hZ hown (W 99 rfl) (m41 hw) 1 0 0 (rm_cnt hw c0 h0 n0 Z0 ) N12 hh12 pd_0 hml (dk d9_38) ?_
    rintro _ T18 L18 X18 N18 ⟨rfl, hh18⟩
    refine gz X18 42 #[vr a1, vi p2, .val (.int (own_len c0)), vi 0, vi c0] [(.int ((0 : Int32) + (own_cnt c0)))] (fun _ k => pI X18 hx (dk d9_41) rfl k) ?_
    have hs19 : ((0 : Int32) + (own_cnt c0)) = (1 : Int32) := by rw [(own_cntR hr0)]; decide
    refine gz X18 6 #[vr a1, vi p2, .val (.int (own_len c0)), vi 1, vi c0] [(.ref a1), (.int 1)] (fun _ k => sN (x := (1 : Int32)) (rest := []) X18 hx (dk d9_42) (by rw [hs19]) rfl (.inr ⟨_, rfl, rfl⟩) (gT X18 hx 43 4 rfl (dk d9_43) (lN X18 hx (dk d9_4) rfl (aN X18 hx (dk d9_5) rfl rfl k)))) ?_
    refine goV X18 hx hZ hown (W 41 rfl) (m34 hw) pr8 0 0 0 (rm_lenS_1 hw a1 t1 k1 c0 cs h0 n0 Z0 pr0 pr1 hcs pr8 pr9 say) N18 hh18 pd_26 hml (dk d9_6) ?_
    rintro _ T20 L20 X20 N20 ⟨rfl, hh20⟩
    refine gz X20 49 #[vr a1, vi p2, .val (.int (own_len c0)), vi 1, vi c0] [(.int 1), (.int 0), (.ref a1)] (fun _ k => cY X20 hx 9 46 rfl (dk d9_9) rfl (flt (by decide)).2.1 (aN X20 hx (dk d9_46) rfl rfl (kC X20 hx (dk d9_47) (lN X20 hx (dk d9_48) rfl k)))) ?_
    refine goV X20 hx hZ hown (W 72 rfl) (m38 hw) pr8 2 0 0 (rm_subS_1_1 hw a1 t1 k1 c0 cs fm h0 n0 Z0 pr0 pr1 hcs pr3 hr_fm pr5 pr6 pr7 pr8 pr9 say hr0) N20 hh20 pd_29 hml (dk d9_49) ?_
    rintro _ T21 L21 X21 N21 ⟨rfl, hh21⟩
    refine gz X21 52 #[vr a1, vi p2, .val (.int (own_len c0)), vi 1, vi c0] [(.ref a1)] (fun _ k => k) ?_
    have hkE22 : _ ≤ T21.heap.size := (by rw [hh21]; exact hk)
    have CE22 : CHr Z own_EL s.vm s.heap s.vm T21.heap := (by rw [hh21]; exact C0)
    refine Go.retS X21 hx hlk hS hkE22 hZ hEL CE22 (t := (.object "java/lang/String")) hret rfl (Or.inr (Or.inr (Or.inr (Or.inr ⟨rfl, rfl, rfl⟩)))) (dk d9_52) (by decide) (by decide) ?_
    rw [hh21]
    exact ⟨N21, a1, t1, k1, rfl, (Keep.refl h0 []), (Or.inr ⟨c14, pr8, pr9, say⟩)⟩
def Q_rm_cut_2 (Z : State) (a1 : Addr) (t1 : Addr) (k1 : ClassId) (c0 : Int32) (c1 : Int32) (p2 : Int32) (cs : Int32) (fm : Value) (h0 : Heap) (n0 : Nat) (vv : Option Value) (h : Heap) (L : List Loc) : Prop := Fr n0 L ∧ ∃ b : Addr, ∃ t : Addr, ∃ k : ClassId, vv = some (.ref b) ∧ Keep h0 h [] ∧ ((p2 < (own_len (own_cp c0 c1)) ∧ XT Z h b ∧ FV Z h b t ∧ FC Z h b 0 ∧ Arv Z h t k .byte (0 : Int32) [] (.int 0)) ∨ (¬ (p2 < (own_len (own_cp c0 c1))) ∧ (own_cnt (own_cp c0 c1)) = (1 : Int32) ∧ p2 < ((own_len (own_cp c0 c1)) + (own_len c1)) ∧ XT Z h b ∧ FV Z h b t ∧ ((FC Z h b 0 ∧ Arv Z h t k .byte (1 : Int32) [(.int (nar .byte (c0.toInt8.toInt32)))] (.int 0) ∧ ¬ (255 : Int32) < c0) ∨ (FC Z h b 1 ∧ Arv Z h t k .byte (2 : Int32) [(.int (own_b0 c0)), (.int (own_b1 c0))] (.int 0)))) ∨ (¬ (p2 < (own_len (own_cp c0 c1))) ∧ (own_cnt (own_cp c0 c1)) = (1 : Int32) ∧ ¬ (p2 < ((own_len (own_cp c0 c1)) + (own_len c1))) ∧ XT Z h b ∧ FV Z h b t ∧ ((FC Z h b 0 ∧ Arv Z h t k .byte (2 : Int32) [(.int (nar .byte (c0.toInt8.toInt32))), (.int (nar .byte (c1.toInt8.toInt32)))] (.int 0) ∧ ¬ (255 : Int32) < c0 ∧ ¬ (255 : Int32) < c1) ∨ (FC Z h b 1 ∧ Arv Z h t k .byte (4 : Int32) [(.int (own_b0 c0)), (.int (own_b1 c0)), (.int (own_b0 c1)), (.int (own_b1 c1))] (.int 0)))) ∨ (¬ (p2 < (own_len (own_cp c0 c1))) ∧ (own_cnt (own_cp c0 c1)) = (2 : Int32) ∧ XT Z h b ∧ FV Z h b t ∧ ((FC Z h b 0 ∧ Arv Z h t k .byte (2 : Int32) [(.int (nar .byte (c0.toInt8.toInt32))), (.int (nar .byte (c1.toInt8.toInt32)))] (.int 0) ∧ ¬ (255 : Int32) < c0 ∧ ¬ (255 : Int32) < c1) ∨ (FC Z h b 1 ∧ Arv Z h t k .byte (4 : Int32) [(.int (own_b0 c0)), (.int (own_b1 c0)), (.int (own_b0 c1)), (.int (own_b1 c1))] (.int 0)))))
theorem rm_cut_2 {l : Launch} {Z : State} {a0 : Array Value} (hw : HW a0 Z) (a1 : Addr) (t1 : Addr) (k1 : ClassId) (c0 : Int32) (c1 : Int32) (p2 : Int32) (cs : Int32) (fm : Value) (h0 : Heap) (n0 : Nat) (Z0 : n0 ≤ h0.size) (pr0 : Old Z n0 h0) (pr1 : S3 Z cs) (hcs : ¬ (cs = (0 : Int32))) (pr3 : S4 Z fm) (hr_fm : fm.isRef = true) (pr5 : S0 Z) (pr6 : S1 Z) (pr7 : S2 Z) (pr8 : XT Z h0 a1) (pr9 : FV Z h0 a1 t1) (say : (FC Z h0 a1 0 ∧ Arv Z h0 t1 k1 .byte (2 : Int32) [(.int (nar .byte (c0.toInt8.toInt32))), (.int (nar .byte (c1.toInt8.toInt32)))] (.int 0) ∧ ¬ (255 : Int32) < c0 ∧ ¬ (255 : Int32) < c1) ∨ (FC Z h0 a1 1 ∧ Arv Z h0 t1 k1 .byte (4 : Int32) [(.int (own_b0 c0)), (.int (own_b1 c0)), (.int (own_b0 c1)), (.int (own_b1 c1))] (.int 0))) (hr0 : own_rng c0) (hr1 : own_rng c1) :
    MetS l Z own_EL Y0 B46 5 (some (.object "java/lang/String")) [] ({ frames := 7, cells := 3, slots := 7, locals := 110 } : Room) #[(.ref a1), (.int p2)] h0 (Q_rm_cut_2 Z a1 t1 k1 c0 c1 p2 cs fm h0 n0) := by
  refine MetS.enter (f0 := fun m => mkF m 0 #[vr a1, vi p2, .unset, .unset, .unset] []) (plainFor_of_name pn1) (fun m => oe m 3) ?_
  intro p e s m below meth c s₁ hx hby hml hown hnm hret hlk hZ X0 e0 hS C0
  have dk : Dk B46 c := fun h => hb hby h
  have W := @wd _ _ _ hw
  have N0 := Fr.nil n0
  have hk : h0.size ≤ h0.size := Nat.le_refl _
  have hEL : EW Z a0 own_EL := own_hEL hw
  have wS : ∀ a ∈ Bundle.stringAtoms, a.before a0 Z = true := own_wS hw
  refine gz X0 6 #[vr a1, vi p2, vi 0, vi 0, .unset] [(.ref a1), (.int 0)] (fun _ k => kC X0 hx (dk d9_0) (sN X0 hx (dk d9_1) rfl rfl (.inl rfl) (kC X0 hx (dk d9_2) (sN X0 hx (dk d9_3) rfl rfl (.inl rfl) (lN X0 hx (dk d9_4) rfl (aN X0 hx (dk d9_5) rfl rfl k)))))) ?_
  refine goV X0 hx hZ hown (W 41 rfl) (m34 hw) pr8 0 0 0 (rm_lenS_2 hw a1 t1 k1 c0 c1 cs h0 n0 Z0 pr0 pr1 hcs pr8 pr9 say) N0 e0 pd_26 hml (dk d9_6) ?_
  rintro _ T10 L10 X10 N10 ⟨rfl, hh10⟩
  refine gz X10 14 #[vr a1, vi p2, vi 0, vi 0, .unset] [(.int 0), (.ref a1)] (fun _ k => cN X10 hx (dk d9_9) rfl (tlt (by decide)).2.1 (aN X10 hx (dk d9_12) rfl rfl (lN X10 hx (dk d9_13) rfl k))) ?_
  refine goV X10 hx hZ hown (W 51 rfl) (m39 hw) pr8 1 0 0 (rm_cpS_2_0 hw a1 t1 k1 c0 c1 cs fm h0 n0 Z0 pr0 pr1 hcs pr3 hr_fm pr5 pr6 pr7 pr8 pr9 say hr0 hr1) N10 hh10 pd_0 hml (dk d9_14) ?_
  rintro _ T11 L11 X11 N11 ⟨rfl, hh11⟩
  refine gz X11 22 #[vr a1, vi p2, vi 0, vi 0, .val (.int (own_cp c0 c1))] [(.int (own_cp c0 c1)), (.int 0)] (fun _ k => sI X11 hx (dk d9_17) rfl rfl (.inl rfl) (lN X11 hx (dk d9_19) rfl (lI X11 hx (dk d9_20) rfl k))) ?_
  refine goS X11 hx hZ hown (W 69 rfl) (m40 hw) 1 0 0 (rm_u8 hw (own_cp c0 c1) h0 n0 Z0 ) N11 hh11 pd_0 hml (dk d9_22) ?_
  rintro _ T12 L12 X12 N12 ⟨rfl, hh12⟩
  refine gz X12 26 #[vr a1, vi p2, vi 0, vi 0, .val (.int (own_cp c0 c1))] [(.int ((0 : Int32) + (own_len (own_cp c0 c1))))] (fun _ k => pI X12 hx (dk d9_25) rfl k) ?_
  have hs13 := own_add0 (own_len (own_cp c0 c1))
  refine gz X12 29 #[vr a1, vi p2, .val (.int (own_len (own_cp c0 c1))), vi 0, .val (.int (own_cp c0 c1))] [(.int p2), (.int (own_len (own_cp c0 c1)))] (fun _ k => sN (x := (own_len (own_cp c0 c1))) (rest := []) X12 hx (dk d9_26) (by rw [hs13]) rfl (.inr ⟨_, rfl, rfl⟩) (lN X12 hx (dk d9_27) rfl (lN X12 hx (dk d9_28) rfl k))) ?_
  by_cases c14 : p2 < (own_len (own_cp c0 c1))
  · skip
    refine gz X12 49 #[vr a1, vi p2, .val (.int (own_len (own_cp c0 c1))), vi 0, .val (.int (own_cp c0 c1))] [(.int 0), (.int 0), (.ref a1)] (fun _ k => cN X12 hx (dk d9_29) rfl (tlt c14).2.2.2 (gT X12 hx 32 46 rfl (dk d9_32) (aN X12 hx (dk d9_46) rfl rfl (kC X12 hx (dk d9_47) (lN X12 hx (dk d9_48) rfl k))))) ?_
    have hkT15 : _ ≤ T12.heap.size := (by rw [hh12]; exact hk)
    obtain ⟨cq15, kq15, q15a, q15b, q15c⟩ := isOf hZ hh12 pr8
    obtain ⟨_, _, ⟨T15, L15, k15, n15⟩, -, X15, hSn15, hgr15, ⟨Lc15, hQ15, l15, y15, z15, CS15⟩, st15⟩ := X12.virtualBackS hx (y := Y22) (z := Y22) hown (mvT hZ (W 72 rfl)) (mvT hZ (W 73 rfl)) (notFace_of_selects (args := #[]) (mvT hZ (W 75 rfl))) (mvT hZ (W 75 rfl)) (mvT hZ (W 74 rfl)) (by decide) (backOfSH (W := 0) (rm_subS_2_0 hw a1 t1 k1 c0 c1 cs fm h0 n0 Z0 pr0 pr1 hcs pr3 hr_fm pr5 pr6 pr7 pr8 pr9 say hr0 hr1) hZ (W 76 rfl) (W 10 rfl) (by decide) (by decide) hEL C0.1) q15a q15c (g := (mkF m 49 #[vr a1, vi p2, .val (.int (own_len (own_cp c0 c1))), vi 0, .val (.int (own_cp c0 c1))] [(.int 0), (.int 0), (.ref a1)])) rfl (by rw [hml]; rfl) (Steps.refl _) (argsL := [(.int 0), (.int 0)]) (rest := []) (lenOf pd_29 rfl) rfl (by show 2 * 0 + _ ≤ _; exact Nat.le_of_eq rfl) (dk d9_49) (fun _ _ => ⟨rfl, hh12, Nat.le_of_ble_eq_true rfl, Nat.le_of_ble_eq_true rfl⟩)
    dsimp only [Pt.U, Pt.locs, Pt.cells, Pt.slots] at X15 l15 y15 z15 st15 hQ15 hSn15 hgr15 CS15
    subst l15 y15 z15
    obtain ⟨X15, hS, hZ, hown⟩ := rebS hS hkT15 X15 hSn15 hgr15 hZ hown
    have hk : T15.heap.size ≤ T15.heap.size := Nat.le_refl _
    obtain ⟨Nq15, b15, t15, k15, rfl, K15, p15_0, p15_1, p15_2, p15_3⟩ := hQ15
    have N15 := Fr.app N12 Nq15
    have X15 : Stand p l e _ _ m _ below meth c T15 _ 2 4 := X15
    have C16 := C0.trans CS15
    have O16 := pr0.keep K15 all0
    have Z16 : n0 ≤ T15.heap.size := Nat.le_trans Z0 K15.1
    refine gz X15 52 #[vr a1, vi p2, .val (.int (own_len (own_cp c0 c1))), vi 0, .val (.int (own_cp c0 c1))] [(.ref b15)] (fun _ k => st15.trans k) ?_
    have hkE17 : _ ≤ T15.heap.size := hk
    have CE17 : CHr Z own_EL s.vm s.heap T15.vm T15.heap := C16
    refine Go.retS X15 hx hlk hS hkE17 hZ hEL CE17 (t := (.object "java/lang/String")) hret rfl (Or.inr (Or.inr (Or.inr (Or.inr ⟨rfl, rfl, rfl⟩)))) (dk d9_52) (by decide) (by decide) ?_
    exact ⟨N15, b15, t15, k15, rfl, ((Keep.refl h0 []).trans K15 all0), (Or.inl ⟨c14, p15_0, p15_1, p15_2, p15_3⟩)⟩
  · skip
    refine gz X12 38 #[vr a1, vi p2, .val (.int (own_len (own_cp c0 c1))), vi 0, .val (.int (own_cp c0 c1))] [(.int (own_cp c0 c1)), (.int 0)] (fun _ k => cY X12 hx 29 35 rfl (dk d9_29) rfl (flt c14).2.2.2 (lN X12 hx (dk d9_35) rfl (lI X12 hx (dk d9_36) rfl k))) ?_
    refine goS X12 hx hZ hown (W 99 rfl) (m41 hw) 1 0 0 (rm_cnt hw (own_cp c0 c1) h0 n0 Z0 ) N12 hh12 pd_0 hml (dk d9_38) ?_
    rintro _ T18 L18 X18 N18 ⟨rfl, hh18⟩
    refine gz X18 42 #[vr a1, vi p2, .val (.int (own_len (own_cp c0 c1))), vi 0, .val (.int (own_cp c0 c1))] [(.int ((0 : Int32) + (own_cnt (own_cp c0 c1))))] (fun _ k => pI X18 hx (dk d9_41) rfl k) ?_
    rcases own_cntV (own_cp c0 c1) with e19 | e19
    · skip
      have hs20 : ((0 : Int32) + (own_cnt (own_cp c0 c1))) = (1 : Int32) := by rw [e19]; decide
      refine gz X18 6 #[vr a1, vi p2, .val (.int (own_len (own_cp c0 c1))), vi 1, .val (.int (own_cp c0 c1))] [(.ref a1), (.int 1)] (fun _ k => sN (x := (1 : Int32)) (rest := []) X18 hx (dk d9_42) (by rw [hs20]) rfl (.inr ⟨_, rfl, rfl⟩) (gT X18 hx 43 4 rfl (dk d9_43) (lN X18 hx (dk d9_4) rfl (aN X18 hx (dk d9_5) rfl rfl k)))) ?_
      refine goV X18 hx hZ hown (W 41 rfl) (m34 hw) pr8 0 0 0 (rm_lenS_2 hw a1 t1 k1 c0 c1 cs h0 n0 Z0 pr0 pr1 hcs pr8 pr9 say) N18 hh18 pd_26 hml (dk d9_6) ?_
      rintro _ T21 L21 X21 N21 ⟨rfl, hh21⟩
      refine gz X21 14 #[vr a1, vi p2, .val (.int (own_len (own_cp c0 c1))), vi 1, .val (.int (own_cp c0 c1))] [(.int 1), (.ref a1)] (fun _ k => cN X21 hx (dk d9_9) rfl (tlt (by decide)).2.1 (aN X21 hx (dk d9_12) rfl rfl (lN X21 hx (dk d9_13) rfl k))) ?_
      refine goV X21 hx hZ hown (W 51 rfl) (m39 hw) pr8 1 0 0 (rm_cpS_2_1 hw a1 t1 k1 c0 c1 cs fm h0 n0 Z0 pr0 pr1 hcs pr3 hr_fm pr5 pr6 pr7 pr8 pr9 say hr0 hr1) N21 hh21 pd_0 hml (dk d9_14) ?_
      rintro _ T22 L22 X22 N22 ⟨rfl, hh22⟩
      refine gz X22 22 #[vr a1, vi p2, .val (.int (own_len (own_cp c0 c1))), vi 1, vi c1] [(.int c1), (.int (own_len (own_cp c0 c1)))] (fun _ k => sI X22 hx (dk d9_17) rfl rfl (.inr ⟨_, rfl, rfl⟩) (lN X22 hx (dk d9_19) rfl (lI X22 hx (dk d9_20) rfl k))) ?_
      refine goS X22 hx hZ hown (W 69 rfl) (m40 hw) 1 0 0 (rm_u8 hw c1 h0 n0 Z0 ) N22 hh22 pd_0 hml (dk d9_22) ?_
      rintro _ T23 L23 X23 N23 ⟨rfl, hh23⟩
      refine gz X23 29 #[vr a1, vi p2, .val (.int ((own_len (own_cp c0 c1)) + (own_len c1))), vi 1, vi c1] [(.int p2), (.int ((own_len (own_cp c0 c1)) + (own_len c1)))] (fun _ k => pI X23 hx (dk d9_25) rfl (sN X23 hx (dk d9_26) rfl rfl (.inr ⟨_, rfl, rfl⟩) (lN X23 hx (dk d9_27) rfl (lN X23 hx (dk d9_28) rfl k)))) ?_
      by_cases c24 : p2 < ((own_len (own_cp c0 c1)) + (own_len c1))
      · skip
        refine gz X23 49 #[vr a1, vi p2, .val (.int ((own_len (own_cp c0 c1)) + (own_len c1))), vi 1, vi c1] [(.int 1), (.int 0), (.ref a1)] (fun _ k => cN X23 hx (dk d9_29) rfl (tlt c24).2.2.2 (gT X23 hx 32 46 rfl (dk d9_32) (aN X23 hx (dk d9_46) rfl rfl (kC X23 hx (dk d9_47) (lN X23 hx (dk d9_48) rfl k))))) ?_
        refine goV X23 hx hZ hown (W 72 rfl) (m38 hw) pr8 2 3 7 (rm_subS_2_1 hw a1 t1 k1 c0 c1 cs fm h0 n0 Z0 pr0 pr1 hcs pr3 hr_fm pr5 pr6 pr7 pr8 pr9 say hr0 hr1) N23 hh23 pd_29 hml (dk d9_49) ?_
        rintro _ T25 L25 X25 N25 ⟨b25, t25, k25, rfl, K25, p25_0, p25_1, p25_2, p25_3⟩
        have C26 := C0.trans (CHr.keep K25 sf0 C0.1)
        have O26 := pr0.keep K25 all0
        have Z26 : n0 ≤ T25.heap.size := Nat.le_trans Z0 K25.1
        have sz_b25 : h0.size ≤ b25 := p25_2
        refine gz X25 52 #[vr a1, vi p2, .val (.int ((own_len (own_cp c0 c1)) + (own_len c1))), vi 1, vi c1] [(.ref b25)] (fun _ k => k) ?_
        have hkE27 : _ ≤ T25.heap.size := (Nat.le_trans hk K25.1)
        have CE27 : CHr Z own_EL s.vm s.heap s.vm T25.heap := C26
        refine Go.retS X25 hx hlk hS hkE27 hZ hEL CE27 (t := (.object "java/lang/String")) hret rfl (Or.inr (Or.inr (Or.inr (Or.inr ⟨rfl, rfl, rfl⟩)))) (dk d9_52) (by decide) (by decide) ?_
        exact ⟨N25, b25, t25, k25, rfl, ((Keep.refl h0 []).trans K25 all0), (Or.inr (Or.inl ⟨c14, e19, c24, p25_0, p25_1, p25_3⟩))⟩
      · skip
        refine gz X23 38 #[vr a1, vi p2, .val (.int ((own_len (own_cp c0 c1)) + (own_len c1))), vi 1, vi c1] [(.int c1), (.int 1)] (fun _ k => cY X23 hx 29 35 rfl (dk d9_29) rfl (flt c24).2.2.2 (lN X23 hx (dk d9_35) rfl (lI X23 hx (dk d9_36) rfl k))) ?_
        refine goS X23 hx hZ hown (W 99 rfl) (m41 hw) 1 0 0 (rm_cnt hw c1 h0 n0 Z0 ) N23 hh23 pd_0 hml (dk d9_38) ?_
        rintro _ T28 L28 X28 N28 ⟨rfl, hh28⟩
        refine gz X28 42 #[vr a1, vi p2, .val (.int ((own_len (own_cp c0 c1)) + (own_len c1))), vi 1, vi c1] [(.int ((1 : Int32) + (own_cnt c1)))] (fun _ k => pI X28 hx (dk d9_41) rfl k) ?_
        have hs29 : ((1 : Int32) + (own_cnt c1)) = (2 : Int32) := by rw [(own_cntR hr1)]; decide
        refine gz X28 6 #[vr a1, vi p2, .val (.int ((own_len (own_cp c0 c1)) + (own_len c1))), vi 2, vi c1] [(.ref a1), (.int 2)] (fun _ k => sN (x := (2 : Int32)) (rest := []) X28 hx (dk d9_42) (by rw [hs29]) rfl (.inr ⟨_, rfl, rfl⟩) (gT X28 hx 43 4 rfl (dk d9_43) (lN X28 hx (dk d9_4) rfl (aN X28 hx (dk d9_5) rfl rfl k)))) ?_
        refine goV X28 hx hZ hown (W 41 rfl) (m34 hw) pr8 0 0 0 (rm_lenS_2 hw a1 t1 k1 c0 c1 cs h0 n0 Z0 pr0 pr1 hcs pr8 pr9 say) N28 hh28 pd_26 hml (dk d9_6) ?_
        rintro _ T30 L30 X30 N30 ⟨rfl, hh30⟩
        refine gz X30 49 #[vr a1, vi p2, .val (.int ((own_len (own_cp c0 c1)) + (own_len c1))), vi 2, vi c1] [(.int 2), (.int 0), (.ref a1)] (fun _ k => cY X30 hx 9 46 rfl (dk d9_9) rfl (flt (by decide)).2.1 (aN X30 hx (dk d9_46) rfl rfl (kC X30 hx (dk d9_47) (lN X30 hx (dk d9_48) rfl k)))) ?_
        refine goV X30 hx hZ hown (W 72 rfl) (m38 hw) pr8 2 0 0 (rm_subS_2_2 hw a1 t1 k1 c0 c1 cs fm h0 n0 Z0 pr0 pr1 hcs pr3 hr_fm pr5 pr6 pr7 pr8 pr9 say hr0 hr1) N30 hh30 pd_29 hml (dk d9_49) ?_
        rintro _ T31 L31 X31 N31 ⟨rfl, hh31⟩
        refine gz X31 52 #[vr a1, vi p2, .val (.int ((own_len (own_cp c0 c1)) + (own_len c1))), vi 2, vi c1] [(.ref a1)] (fun _ k => k) ?_
        have hkE32 : _ ≤ T31.heap.size := (by rw [hh31]; exact hk)
        have CE32 : CHr Z own_EL s.vm s.heap s.vm T31.heap := (by rw [hh31]; exact C0)
        refine Go.retS X31 hx hlk hS hkE32 hZ hEL CE32 (t := (.object "java/lang/String")) hret rfl (Or.inr (Or.inr (Or.inr (Or.inr ⟨rfl, rfl, rfl⟩)))) (dk d9_52) (by decide) (by decide) ?_
        rw [hh31]
        exact ⟨N31, a1, t1, k1, rfl, (Keep.refl h0 []), (Or.inr (Or.inr (Or.inl ⟨c14, e19, c24, pr8, pr9, say⟩)))⟩
    · skip
      have hs33 : ((0 : Int32) + (own_cnt (own_cp c0 c1))) = (2 : Int32) := by rw [e19]; decide
      refine gz X18 6 #[vr a1, vi p2, .val (.int (own_len (own_cp c0 c1))), vi 2, .val (.int (own_cp c0 c1))] [(.ref a1), (.int 2)] (fun _ k => sN (x := (2 : Int32)) (rest := []) X18 hx (dk d9_42) (by rw [hs33]) rfl (.inr ⟨_, rfl, rfl⟩) (gT X18 hx 43 4 rfl (dk d9_43) (lN X18 hx (dk d9_4) rfl (aN X18 hx (dk d9_5) rfl rfl k)))) ?_
      refine goV X18 hx hZ hown (W 41 rfl) (m34 hw) pr8 0 0 0 (rm_lenS_2 hw a1 t1 k1 c0 c1 cs h0 n0 Z0 pr0 pr1 hcs pr8 pr9 say) N18 hh18 pd_26 hml (dk d9_6) ?_
      rintro _ T34 L34 X34 N34 ⟨rfl, hh34⟩
      refine gz X34 49 #[vr a1, vi p2, .val (.int (own_len (own_cp c0 c1))), vi 2, .val (.int (own_cp c0 c1))] [(.int 2), (.int 0), (.ref a1)] (fun _ k => cY X34 hx 9 46 rfl (dk d9_9) rfl (flt (by decide)).2.1 (aN X34 hx (dk d9_46) rfl rfl (kC X34 hx (dk d9_47) (lN X34 hx (dk d9_48) rfl k)))) ?_
      refine goV X34 hx hZ hown (W 72 rfl) (m38 hw) pr8 2 0 0 (rm_subS_2_2 hw a1 t1 k1 c0 c1 cs fm h0 n0 Z0 pr0 pr1 hcs pr3 hr_fm pr5 pr6 pr7 pr8 pr9 say hr0 hr1) N34 hh34 pd_29 hml (dk d9_49) ?_
      rintro _ T35 L35 X35 N35 ⟨rfl, hh35⟩
      refine gz X35 52 #[vr a1, vi p2, .val (.int (own_len (own_cp c0 c1))), vi 2, .val (.int (own_cp c0 c1))] [(.ref a1)] (fun _ k => k) ?_
      have hkE36 : _ ≤ T35.heap.size := (by rw [hh35]; exact hk)
      have CE36 : CHr Z own_EL s.vm s.heap s.vm T35.heap := (by rw [hh35]; exact C0)
      refine Go.retS X35 hx hlk hS hkE36 hZ hEL CE36 (t := (.object "java/lang/String")) hret rfl (Or.inr (Or.inr (Or.inr (Or.inr ⟨rfl, rfl, rfl⟩)))) (dk d9_52) (by decide) (by decide) ?_
      rw [hh35]
      exact ⟨N35, a1, t1, k1, rfl, (Keep.refl h0 []), (Or.inr (Or.inr (Or.inr ⟨c14, e19, pr8, pr9, say⟩)))⟩
def Q_rm_cut_3 (Z : State) (a1 : Addr) (t1 : Addr) (k1 : ClassId) (c0 : Int32) (c1 : Int32) (c2 : Int32) (p2 : Int32) (cs : Int32) (fm : Value) (h0 : Heap) (n0 : Nat) (vv : Option Value) (h : Heap) (L : List Loc) : Prop := Fr n0 L ∧ ∃ b : Addr, ∃ t : Addr, ∃ k : ClassId, vv = some (.ref b) ∧ Keep h0 h [] ∧ ((p2 < (own_len (own_cp c0 c1)) ∧ XT Z h b ∧ FV Z h b t ∧ FC Z h b 0 ∧ Arv Z h t k .byte (0 : Int32) [] (.int 0)) ∨ (¬ (p2 < (own_len (own_cp c0 c1))) ∧ (own_cnt (own_cp c0 c1)) = (1 : Int32) ∧ p2 < ((own_len (own_cp c0 c1)) + (own_len (own_cp c1 c2))) ∧ XT Z h b ∧ FV Z h b t ∧ ((FC Z h b 0 ∧ Arv Z h t k .byte (1 : Int32) [(.int (nar .byte (c0.toInt8.toInt32)))] (.int 0) ∧ ¬ (255 : Int32) < c0) ∨ (FC Z h b 1 ∧ Arv Z h t k .byte (2 : Int32) [(.int (own_b0 c0)), (.int (own_b1 c0))] (.int 0)))) ∨ (¬ (p2 < (own_len (own_cp c0 c1))) ∧ (own_cnt (own_cp c0 c1)) = (1 : Int32) ∧ ¬ (p2 < ((own_len (own_cp c0 c1)) + (own_len (own_cp c1 c2)))) ∧ (own_cnt (own_cp c1 c2)) = (1 : Int32) ∧ p2 < (((own_len (own_cp c0 c1)) + (own_len (own_cp c1 c2))) + (own_len c2)) ∧ XT Z h b ∧ FV Z h b t ∧ ((FC Z h b 0 ∧ Arv Z h t k .byte (2 : Int32) [(.int (nar .byte (c0.toInt8.toInt32))), (.int (nar .byte (c1.toInt8.toInt32)))] (.int 0) ∧ ¬ (255 : Int32) < c0 ∧ ¬ (255 : Int32) < c1) ∨ (FC Z h b 1 ∧ Arv Z h t k .byte (4 : Int32) [(.int (own_b0 c0)), (.int (own_b1 c0)), (.int (own_b0 c1)), (.int (own_b1 c1))] (.int 0)))) ∨ (¬ (p2 < (own_len (own_cp c0 c1))) ∧ (own_cnt (own_cp c0 c1)) = (1 : Int32) ∧ ¬ (p2 < ((own_len (own_cp c0 c1)) + (own_len (own_cp c1 c2)))) ∧ (own_cnt (own_cp c1 c2)) = (1 : Int32) ∧ ¬ (p2 < (((own_len (own_cp c0 c1)) + (own_len (own_cp c1 c2))) + (own_len c2))) ∧ XT Z h b ∧ FV Z h b t ∧ ((FC Z h b 0 ∧ Arv Z h t k .byte (3 : Int32) [(.int (nar .byte (c0.toInt8.toInt32))), (.int (nar .byte (c1.toInt8.toInt32))), (.int (nar .byte (c2.toInt8.toInt32)))] (.int 0) ∧ ¬ (255 : Int32) < c0 ∧ ¬ (255 : Int32) < c1 ∧ ¬ (255 : Int32) < c2) ∨ (FC Z h b 1 ∧ Arv Z h t k .byte (6 : Int32) [(.int (own_b0 c0)), (.int (own_b1 c0)), (.int (own_b0 c1)), (.int (own_b1 c1)), (.int (own_b0 c2)), (.int (own_b1 c2))] (.int 0)))) ∨ (¬ (p2 < (own_len (own_cp c0 c1))) ∧ (own_cnt (own_cp c0 c1)) = (1 : Int32) ∧ ¬ (p2 < ((own_len (own_cp c0 c1)) + (own_len (own_cp c1 c2)))) ∧ (own_cnt (own_cp c1 c2)) = (2 : Int32) ∧ XT Z h b ∧ FV Z h b t ∧ ((FC Z h b 0 ∧ Arv Z h t k .byte (3 : Int32) [(.int (nar .byte (c0.toInt8.toInt32))), (.int (nar .byte (c1.toInt8.toInt32))), (.int (nar .byte (c2.toInt8.toInt32)))] (.int 0) ∧ ¬ (255 : Int32) < c0 ∧ ¬ (255 : Int32) < c1 ∧ ¬ (255 : Int32) < c2) ∨ (FC Z h b 1 ∧ Arv Z h t k .byte (6 : Int32) [(.int (own_b0 c0)), (.int (own_b1 c0)), (.int (own_b0 c1)), (.int (own_b1 c1)), (.int (own_b0 c2)), (.int (own_b1 c2))] (.int 0)))) ∨ (¬ (p2 < (own_len (own_cp c0 c1))) ∧ (own_cnt (own_cp c0 c1)) = (2 : Int32) ∧ p2 < ((own_len (own_cp c0 c1)) + (own_len c2)) ∧ XT Z h b ∧ FV Z h b t ∧ ((FC Z h b 0 ∧ Arv Z h t k .byte (2 : Int32) [(.int (nar .byte (c0.toInt8.toInt32))), (.int (nar .byte (c1.toInt8.toInt32)))] (.int 0) ∧ ¬ (255 : Int32) < c0 ∧ ¬ (255 : Int32) < c1) ∨ (FC Z h b 1 ∧ Arv Z h t k .byte (4 : Int32) [(.int (own_b0 c0)), (.int (own_b1 c0)), (.int (own_b0 c1)), (.int (own_b1 c1))] (.int 0)))) ∨ (¬ (p2 < (own_len (own_cp c0 c1))) ∧ (own_cnt (own_cp c0 c1)) = (2 : Int32) ∧ ¬ (p2 < ((own_len (own_cp c0 c1)) + (own_len c2))) ∧ XT Z h b ∧ FV Z h b t ∧ ((FC Z h b 0 ∧ Arv Z h t k .byte (3 : Int32) [(.int (nar .byte (c0.toInt8.toInt32))), (.int (nar .byte (c1.toInt8.toInt32))), (.int (nar .byte (c2.toInt8.toInt32)))] (.int 0) ∧ ¬ (255 : Int32) < c0 ∧ ¬ (255 : Int32) < c1 ∧ ¬ (255 : Int32) < c2) ∨ (FC Z h b 1 ∧ Arv Z h t k .byte (6 : Int32) [(.int (own_b0 c0)), (.int (own_b1 c0)), (.int (own_b0 c1)), (.int (own_b1 c1)), (.int (own_b0 c2)), (.int (own_b1 c2))] (.int 0)))))
theorem rm_cut_3 {l : Launch} {Z : State} {a0 : Array Value} (hw : HW a0 Z) (a1 : Addr) (t1 : Addr) (k1 : ClassId) (c0 : Int32) (c1 : Int32) (c2 : Int32) (p2 : Int32) (cs : Int32) (fm : Value) (h0 : Heap) (n0 : Nat) (Z0 : n0 ≤ h0.size) (pr0 : Old Z n0 h0) (pr1 : S3 Z cs) (hcs : ¬ (cs = (0 : Int32))) (pr3 : S4 Z fm) (hr_fm : fm.isRef = true) (pr5 : S0 Z) (pr6 : S1 Z) (pr7 : S2 Z) (pr8 : XT Z h0 a1) (pr9 : FV Z h0 a1 t1) (say : (FC Z h0 a1 0 ∧ Arv Z h0 t1 k1 .byte (3 : Int32) [(.int (nar .byte (c0.toInt8.toInt32))), (.int (nar .byte (c1.toInt8.toInt32))), (.int (nar .byte (c2.toInt8.toInt32)))] (.int 0) ∧ ¬ (255 : Int32) < c0 ∧ ¬ (255 : Int32) < c1 ∧ ¬ (255 : Int32) < c2) ∨ (FC Z h0 a1 1 ∧ Arv Z h0 t1 k1 .byte (6 : Int32) [(.int (own_b0 c0)), (.int (own_b1 c0)), (.int (own_b0 c1)), (.int (own_b1 c1)), (.int (own_b0 c2)), (.int (own_b1 c2))] (.int 0))) (hr0 : own_rng c0) (hr1 : own_rng c1) (hr2 : own_rng c2) :
    MetS l Z own_EL Y0 B46 5 (some (.object "java/lang/String")) [] ({ frames := 7, cells := 3, slots := 10, locals := 110 } : Room) #[(.ref a1), (.int p2)] h0 (Q_rm_cut_3 Z a1 t1 k1 c0 c1 c2 p2 cs fm h0 n0) := by
  refine MetS.enter (f0 := fun m => mkF m 0 #[vr a1, vi p2, .unset, .unset, .unset] []) (plainFor_of_name pn1) (fun m => oe m 3) ?_
  intro p e s m below meth c s₁ hx hby hml hown hnm hret hlk hZ X0 e0 hS C0
  have dk : Dk B46 c := fun h => hb hby h
  have W := @wd _ _ _ hw
  have N0 := Fr.nil n0
  have hk : h0.size ≤ h0.size := Nat.le_refl _
  have hEL : EW Z a0 own_EL := own_hEL hw
  have wS : ∀ a ∈ Bundle.stringAtoms, a.before a0 Z = true := own_wS hw
  refine gz X0 6 #[vr a1, vi p2, vi 0, vi 0, .unset] [(.ref a1), (.int 0)] (fun _ k => kC X0 hx (dk d9_0) (sN X0 hx (dk d9_1) rfl rfl (.inl rfl) (kC X0 hx (dk d9_2) (sN X0 hx (dk d9_3) rfl rfl (.inl rfl) (lN X0 hx (dk d9_4) rfl (aN X0 hx (dk d9_5) rfl rfl k)))))) ?_
  refine goV X0 hx hZ hown (W 41 rfl) (m34 hw) pr8 0 0 0 (rm_lenS_3 hw a1 t1 k1 c0 c1 c2 cs h0 n0 Z0 pr0 pr1 hcs pr8 pr9 say) N0 e0 pd_26 hml (dk d9_6) ?_
  rintro _ T10 L10 X10 N10 ⟨rfl, hh10⟩
  refine gz X10 14 #[vr a1, vi p2, vi 0, vi 0, .unset] [(.int 0), (.ref a1)] (fun _ k => cN X10 hx (dk d9_9) rfl (tlt (by decide)).2.1 (aN X10 hx (dk d9_12) rfl rfl (lN X10 hx (dk d9_13) rfl k))) ?_
  refine goV X10 hx hZ hown (W 51 rfl) (m39 hw) pr8 1 0 0 (rm_cpS_3_0 hw a1 t1 k1 c0 c1 c2 cs fm h0 n0 Z0 pr0 pr1 hcs pr3 hr_fm pr5 pr6 pr7 pr8 pr9 say hr0 hr1 hr2) N10 hh10 pd_0 hml (dk d9_14) ?_
  rintro _ T11 L11 X11 N11 ⟨rfl, hh11⟩
  refine gz X11 22 #[vr a1, vi p2, vi 0, vi 0, .val (.int (own_cp c0 c1))] [(.int (own_cp c0 c1)), (.int 0)] (fun _ k => sI X11 hx (dk d9_17) rfl rfl (.inl rfl) (lN X11 hx (dk d9_19) rfl (lI X11 hx (dk d9_20) rfl k))) ?_
  refine goS X11 hx hZ hown (W 69 rfl) (m40 hw) 1 0 0 (rm_u8 hw (own_cp c0 c1) h0 n0 Z0 ) N11 hh11 pd_0 hml (dk d9_22) ?_
  rintro _ T12 L12 X12 N12 ⟨rfl, hh12⟩
  refine gz X12 26 #[vr a1, vi p2, vi 0, vi 0, .val (.int (own_cp c0 c1))] [(.int ((0 : Int32) + (own_len (own_cp c0 c1))))] (fun _ k => pI X12 hx (dk d9_25) rfl k) ?_
  have hs13 := own_add0 (own_len (own_cp c0 c1))
  refine gz X12 29 #[vr a1, vi p2, .val (.int (own_len (own_cp c0 c1))), vi 0, .val (.int (own_cp c0 c1))] [(.int p2), (.int (own_len (own_cp c0 c1)))] (fun _ k => sN (x := (own_len (own_cp c0 c1))) (rest := []) X12 hx (dk d9_26) (by rw [hs13]) rfl (.inr ⟨_, rfl, rfl⟩) (lN X12 hx (dk d9_27) rfl (lN X12 hx (dk d9_28) rfl k))) ?_
  by_cases c14 : p2 < (own_len (own_cp c0 c1))
  · skip
    refine gz X12 49 #[vr a1, vi p2, .val (.int (own_len (own_cp c0 c1))), vi 0, .val (.int (own_cp c0 c1))] [(.int 0), (.int 0), (.ref a1)] (fun _ k => cN X12 hx (dk d9_29) rfl (tlt c14).2.2.2 (gT X12 hx 32 46 rfl (dk d9_32) (aN X12 hx (dk d9_46) rfl rfl (kC X12 hx (dk d9_47) (lN X12 hx (dk d9_48) rfl k))))) ?_
    have hkT15 : _ ≤ T12.heap.size := (by rw [hh12]; exact hk)
    obtain ⟨cq15, kq15, q15a, q15b, q15c⟩ := isOf hZ hh12 pr8
    obtain ⟨_, _, ⟨T15, L15, k15, n15⟩, -, X15, hSn15, hgr15, ⟨Lc15, hQ15, l15, y15, z15, CS15⟩, st15⟩ := X12.virtualBackS hx (y := Y22) (z := Y22) hown (mvT hZ (W 72 rfl)) (mvT hZ (W 73 rfl)) (notFace_of_selects (args := #[]) (mvT hZ (W 75 rfl))) (mvT hZ (W 75 rfl)) (mvT hZ (W 74 rfl)) (by decide) (backOfSH (W := 0) (rm_subS_3_0 hw a1 t1 k1 c0 c1 c2 cs fm h0 n0 Z0 pr0 pr1 hcs pr3 hr_fm pr5 pr6 pr7 pr8 pr9 say hr0 hr1 hr2) hZ (W 76 rfl) (W 10 rfl) (by decide) (by decide) hEL C0.1) q15a q15c (g := (mkF m 49 #[vr a1, vi p2, .val (.int (own_len (own_cp c0 c1))), vi 0, .val (.int (own_cp c0 c1))] [(.int 0), (.int 0), (.ref a1)])) rfl (by rw [hml]; rfl) (Steps.refl _) (argsL := [(.int 0), (.int 0)]) (rest := []) (lenOf pd_29 rfl) rfl (by show 2 * 0 + _ ≤ _; exact Nat.le_of_eq rfl) (dk d9_49) (fun _ _ => ⟨rfl, hh12, Nat.le_of_ble_eq_true rfl, Nat.le_of_ble_eq_true rfl⟩)
    dsimp only [Pt.U, Pt.locs, Pt.cells, Pt.slots] at X15 l15 y15 z15 st15 hQ15 hSn15 hgr15 CS15
    subst l15 y15 z15
    obtain ⟨X15, hS, hZ, hown⟩ := rebS hS hkT15 X15 hSn15 hgr15 hZ hown
    have hk : T15.heap.size ≤ T15.heap.size := Nat.le_refl _
    obtain ⟨Nq15, b15, t15, k15, rfl, K15, p15_0, p15_1, p15_2, p15_3⟩ := hQ15
    have N15 := Fr.app N12 Nq15
    have X15 : Stand p l e _ _ m _ below meth c T15 _ 2 4 := X15
    have C16 := C0.trans CS15
    have O16 := pr0.keep K15 all0
    have Z16 : n0 ≤ T15.heap.size := Nat.le_trans Z0 K15.1
    refine gz X15 52 #[vr a1, vi p2, .val (.int (own_len (own_cp c0 c1))), vi 0, .val (.int (own_cp c0 c1))] [(.ref b15)] (fun _ k => st15.trans k) ?_
    have hkE17 : _ ≤ T15.heap.size := hk
    have CE17 : CHr Z own_EL s.vm s.heap T15.vm T15.heap := C16
    refine Go.retS X15 hx hlk hS hkE17 hZ hEL CE17 (t := (.object "java/lang/String")) hret rfl (Or.inr (Or.inr (Or.inr (Or.inr ⟨rfl, rfl, rfl⟩)))) (dk d9_52) (by decide) (by decide) ?_
    exact ⟨N15, b15, t15, k15, rfl, ((Keep.refl h0 []).trans K15 all0), (Or.inl ⟨c14, p15_0, p15_1, p15_2, p15_3⟩)⟩
  · skip
    refine gz X12 38 #[vr a1, vi p2, .val (.int (own_len (own_cp c0 c1))), vi 0, .val (.int (own_cp c0 c1))] [(.int (own_cp c0 c1)), (.int 0)] (fun _ k => cY X12 hx 29 35 rfl (dk d9_29) rfl (flt c14).2.2.2 (lN X12 hx (dk d9_35) rfl (lI X12 hx (dk d9_36) rfl k))) ?_
    refine goS X12 hx hZ hown (W 99 rfl) (m41 hw) 1 0 0 (rm_cnt hw (own_cp c0 c1) h0 n0 Z0 ) N12 hh12 pd_0 hml (dk d9_38) ?_
    rintro _ T18 L18 X18 N18 ⟨rfl, hh18⟩
    refine gz X18 42 #[vr a1, vi p2, .val (.int (own_len (own_cp c0 c1))), vi 0, .val (.int (own_cp c0 c1))] [(.int ((0 : Int32) + (own_cnt (own_cp c0 c1))))] (fun _ k => pI X18 hx (dk d9_41) rfl k) ?_
    rcases own_cntV (own_cp c0 c1) with e19 | e19
    · skip
      have hs20 : ((0 : Int32) + (own_cnt (own_cp c0 c1))) = (1 : Int32) := by rw [e19]; decide
      refine gz X18 6 #[vr a1, vi p2, .val (.int (own_len (own_cp c0 c1))), vi 1, .val (.int (own_cp c0 c1))] [(.ref a1), (.int 1)] (fun _ k => sN (x := (1 : Int32)) (rest := []) X18 hx (dk d9_42) (by rw [hs20]) rfl (.inr ⟨_, rfl, rfl⟩) (gT X18 hx 43 4 rfl (dk d9_43) (lN X18 hx (dk d9_4) rfl (aN X18 hx (dk d9_5) rfl rfl k)))) ?_
      refine goV X18 hx hZ hown (W 41 rfl) (m34 hw) pr8 0 0 0 (rm_lenS_3 hw a1 t1 k1 c0 c1 c2 cs h0 n0 Z0 pr0 pr1 hcs pr8 pr9 say) N18 hh18 pd_26 hml (dk d9_6) ?_
      rintro _ T21 L21 X21 N21 ⟨rfl, hh21⟩
      refine gz X21 14 #[vr a1, vi p2, .val (.int (own_len (own_cp c0 c1))), vi 1, .val (.int (own_cp c0 c1))] [(.int 1), (.ref a1)] (fun _ k => cN X21 hx (dk d9_9) rfl (tlt (by decide)).2.1 (aN X21 hx (dk d9_12) rfl rfl (lN X21 hx (dk d9_13) rfl k))) ?_
      refine goV X21 hx hZ hown (W 51 rfl) (m39 hw) pr8 1 0 0 (rm_cpS_3_1 hw a1 t1 k1 c0 c1 c2 cs fm h0 n0 Z0 pr0 pr1 hcs pr3 hr_fm pr5 pr6 pr7 pr8 pr9 say hr0 hr1 hr2) N21 hh21 pd_0 hml (dk d9_14) ?_
      rintro _ T22 L22 X22 N22 ⟨rfl, hh22⟩
      refine gz X22 22 #[vr a1, vi p2, .val (.int (own_len (own_cp c0 c1))), vi 1, .val (.int (own_cp c1 c2))] [(.int (own_cp c1 c2)), (.int (own_len (own_cp c0 c1)))] (fun _ k => sI X22 hx (dk d9_17) rfl rfl (.inr ⟨_, rfl, rfl⟩) (lN X22 hx (dk d9_19) rfl (lI X22 hx (dk d9_20) rfl k))) ?_
      refine goS X22 hx hZ hown (W 69 rfl) (m40 hw) 1 0 0 (rm_u8 hw (own_cp c1 c2) h0 n0 Z0 ) N22 hh22 pd_0 hml (dk d9_22) ?_
      rintro _ T23 L23 X23 N23 ⟨rfl, hh23⟩
      refine gz X23 29 #[vr a1, vi p2, .val (.int ((own_len (own_cp c0 c1)) + (own_len (own_cp c1 c2)))), vi 1, .val (.int (own_cp c1 c2))] [(.int p2), (.int ((own_len (own_cp c0 c1)) + (own_len (own_cp c1 c2))))] (fun _ k => pI X23 hx (dk d9_25) rfl (sN X23 hx (dk d9_26) rfl rfl (.inr ⟨_, rfl, rfl⟩) (lN X23 hx (dk d9_27) rfl (lN X23 hx (dk d9_28) rfl k)))) ?_
      by_cases c24 : p2 < ((own_len (own_cp c0 c1)) + (own_len (own_cp c1 c2)))
      · skip
        refine gz X23 49 #[vr a1, vi p2, .val (.int ((own_len (own_cp c0 c1)) + (own_len (own_cp c1 c2)))), vi 1, .val (.int (own_cp c1 c2))] [(.int 1), (.int 0), (.ref a1)] (fun _ k => cN X23 hx (dk d9_29) rfl (tlt c24).2.2.2 (gT X23 hx 32 46 rfl (dk d9_32) (aN X23 hx (dk d9_46) rfl rfl (kC X23 hx (dk d9_47) (lN X23 hx (dk d9_48) rfl k))))) ?_
        refine goV X23 hx hZ hown (W 72 rfl) (m38 hw) pr8 2 3 7 (rm_subS_3_1 hw a1 t1 k1 c0 c1 c2 cs fm h0 n0 Z0 pr0 pr1 hcs pr3 hr_fm pr5 pr6 pr7 pr8 pr9 say hr0 hr1 hr2) N23 hh23 pd_29 hml (dk d9_49) ?_
        rintro _ T25 L25 X25 N25 ⟨b25, t25, k25, rfl, K25, p25_0, p25_1, p25_2, p25_3⟩
        have C26 := C0.trans (CHr.keep K25 sf0 C0.1)
        have O26 := pr0.keep K25 all0
        have Z26 : n0 ≤ T25.heap.size := Nat.le_trans Z0 K25.1
        have sz_b25 : h0.size ≤ b25 := p25_2
        refine gz X25 52 #[vr a1, vi p2, .val (.int ((own_len (own_cp c0 c1)) + (own_len (own_cp c1 c2)))), vi 1, .val (.int (own_cp c1 c2))] [(.ref b25)] (fun _ k => k) ?_
        have hkE27 : _ ≤ T25.heap.size := (Nat.le_trans hk K25.1)
        have CE27 : CHr Z own_EL s.vm s.heap s.vm T25.heap := C26
        refine Go.retS X25 hx hlk hS hkE27 hZ hEL CE27 (t := (.object "java/lang/String")) hret rfl (Or.inr (Or.inr (Or.inr (Or.inr ⟨rfl, rfl, rfl⟩)))) (dk d9_52) (by decide) (by decide) ?_
        exact ⟨N25, b25, t25, k25, rfl, ((Keep.refl h0 []).trans K25 all0), (Or.inr (Or.inl ⟨c14, e19, c24, p25_0, p25_1, p25_3⟩))⟩
      · skip
        refine gz X23 38 #[vr a1, vi p2, .val (.int ((own_len (own_cp c0 c1)) + (own_len (own_cp c1 c2)))), vi 1, .val (.int (own_cp c1 c2))] [(.int (own_cp c1 c2)), (.int 1)] (fun _ k => cY X23 hx 29 35 rfl (dk d9_29) rfl (flt c24).2.2.2 (lN X23 hx (dk d9_35) rfl (lI X23 hx (dk d9_36) rfl k))) ?_
        refine goS X23 hx hZ hown (W 99 rfl) (m41 hw) 1 0 0 (rm_cnt hw (own_cp c1 c2) h0 n0 Z0 ) N23 hh23 pd_0 hml (dk d9_38) ?_
        rintro _ T28 L28 X28 N28 ⟨rfl, hh28⟩
        refine gz X28 42 #[vr a1, vi p2, .val (.int ((own_len (own_cp c0 c1)) + (own_len (own_cp c1 c2)))), vi 1, .val (.int (own_cp c1 c2))] [(.int ((1 : Int32) + (own_cnt (own_cp c1 c2))))] (fun _ k => pI X28 hx (dk d9_41) rfl k) ?_
        rcases own_cntV (own_cp c1 c2) with e29 | e29
        · skip
          have hs30 : ((1 : Int32) + (own_cnt (own_cp c1 c2))) = (2 : Int32) := by rw [e29]; decide
          refine gz X28 6 #[vr a1, vi p2, .val (.int ((own_len (own_cp c0 c1)) + (own_len (own_cp c1 c2)))), vi 2, .val (.int (own_cp c1 c2))] [(.ref a1), (.int 2)] (fun _ k => sN (x := (2 : Int32)) (rest := []) X28 hx (dk d9_42) (by rw [hs30]) rfl (.inr ⟨_, rfl, rfl⟩) (gT X28 hx 43 4 rfl (dk d9_43) (lN X28 hx (dk d9_4) rfl (aN X28 hx (dk d9_5) rfl rfl k)))) ?_
          refine goV X28 hx hZ hown (W 41 rfl) (m34 hw) pr8 0 0 0 (rm_lenS_3 hw a1 t1 k1 c0 c1 c2 cs h0 n0 Z0 pr0 pr1 hcs pr8 pr9 say) N28 hh28 pd_26 hml (dk d9_6) ?_
          rintro _ T31 L31 X31 N31 ⟨rfl, hh31⟩
          refine gz X31 14 #[vr a1, vi p2, .val (.int ((own_len (own_cp c0 c1)) + (own_len (own_cp c1 c2)))), vi 2, .val (.int (own_cp c1 c2))] [(.int 2), (.ref a1)] (fun _ k => cN X31 hx (dk d9_9) rfl (tlt (by decide)).2.1 (aN X31 hx (dk d9_12) rfl rfl (lN X31 hx (dk d9_13) rfl k))) ?_
          refine goV X31 hx hZ hown (W 51 rfl) (m39 hw) pr8 1 0 0 (rm_cpS_3_2 hw a1 t1 k1 c0 c1 c2 cs fm h0 n0 Z0 pr0 pr1 hcs pr3 hr_fm pr5 pr6 pr7 pr8 pr9 say hr0 hr1 hr2) N31 hh31 pd_0 hml (dk d9_14) ?_
          rintro _ T32 L32 X32 N32 ⟨rfl, hh32⟩
          refine gz X32 22 #[vr a1, vi p2, .val (.int ((own_len (own_cp c0 c1)) + (own_len (own_cp c1 c2)))), vi 2, vi c2] [(.int c2), (.int ((own_len (own_cp c0 c1)) + (own_len (own_cp c1 c2))))] (fun _ k => sI X32 hx (dk d9_17) rfl rfl (.inr ⟨_, rfl, rfl⟩) (lN X32 hx (dk d9_19) rfl (lI X32 hx (dk d9_20) rfl k))) ?_
          refine goS X32 hx hZ hown (W 69 rfl) (m40 hw) 1 0 0 (rm_u8 hw c2 h0 n0 Z0 ) N32 hh32 pd_0 hml (dk d9_22) ?_
          rintro _ T33 L33 X33 N33 ⟨rfl, hh33⟩
          refine gz X33 29 #[vr a1, vi p2, .val (.int (((own_len (own_cp c0 c1)) + (own_len (own_cp c1 c2))) + (own_len c2))), vi 2, vi c2] [(.int p2), (.int (((own_len (own_cp c0 c1)) + (own_len (own_cp c1 c2))) + (own_len c2)))] (fun _ k => pI X33 hx (dk d9_25) rfl (sN X33 hx (dk d9_26) rfl rfl (.inr ⟨_, rfl, rfl⟩) (lN X33 hx (dk d9_27) rfl (lN X33 hx (dk d9_28) rfl k)))) ?_
          by_cases c34 : p2 < (((own_len (own_cp c0 c1)) + (own_len (own_cp c1 c2))) + (own_len c2))
          · skip
            refine gz X33 49 #[vr a1, vi p2, .val (.int (((own_len (own_cp c0 c1)) + (own_len (own_cp c1 c2))) + (own_len c2))), vi 2, vi c2] [(.int 2), (.int 0), (.ref a1)] (fun _ k => cN X33 hx (dk d9_29) rfl (tlt c34).2.2.2 (gT X33 hx 32 46 rfl (dk d9_32) (aN X33 hx (dk d9_46) rfl rfl (kC X33 hx (dk d9_47) (lN X33 hx (dk d9_48) rfl k))))) ?_
            refine goV X33 hx hZ hown (W 72 rfl) (m38 hw) pr8 2 3 10 (rm_subS_3_2 hw a1 t1 k1 c0 c1 c2 cs fm h0 n0 Z0 pr0 pr1 hcs pr3 hr_fm pr5 pr6 pr7 pr8 pr9 say hr0 hr1 hr2) N33 hh33 pd_29 hml (dk d9_49) ?_
            rintro _ T35 L35 X35 N35 ⟨b35, t35, k35, rfl, K35, p35_0, p35_1, p35_2, p35_3⟩
            have C36 := C0.trans (CHr.keep K35 sf0 C0.1)
            have O36 := pr0.keep K35 all0
            have Z36 : n0 ≤ T35.heap.size := Nat.le_trans Z0 K35.1
            have sz_b35 : h0.size ≤ b35 := p35_2
            refine gz X35 52 #[vr a1, vi p2, .val (.int (((own_len (own_cp c0 c1)) + (own_len (own_cp c1 c2))) + (own_len c2))), vi 2, vi c2] [(.ref b35)] (fun _ k => k) ?_
            have hkE37 : _ ≤ T35.heap.size := (Nat.le_trans hk K35.1)
            have CE37 : CHr Z own_EL s.vm s.heap s.vm T35.heap := C36
            refine Go.retS X35 hx hlk hS hkE37 hZ hEL CE37 (t := (.object "java/lang/String")) hret rfl (Or.inr (Or.inr (Or.inr (Or.inr ⟨rfl, rfl, rfl⟩)))) (dk d9_52) (by decide) (by decide) ?_
            exact ⟨N35, b35, t35, k35, rfl, ((Keep.refl h0 []).trans K35 all0), (Or.inr (Or.inr (Or.inl ⟨c14, e19, c24, e29, c34, p35_0, p35_1, p35_3⟩)))⟩
          · skip
            refine gz X33 38 #[vr a1, vi p2, .val (.int (((own_len (own_cp c0 c1)) + (own_len (own_cp c1 c2))) + (own_len c2))), vi 2, vi c2] [(.int c2), (.int 2)] (fun _ k => cY X33 hx 29 35 rfl (dk d9_29) rfl (flt c34).2.2.2 (lN X33 hx (dk d9_35) rfl (lI X33 hx (dk d9_36) rfl k))) ?_
            refine goS X33 hx hZ hown (W 99 rfl) (m41 hw) 1 0 0 (rm_cnt hw c2 h0 n0 Z0 ) N33 hh33 pd_0 hml (dk d9_38) ?_
            rintro _ T38 L38 X38 N38 ⟨rfl, hh38⟩
            refine gz X38 42 #[vr a1, vi p2, .val (.int (((own_len (own_cp c0 c1)) + (own_len (own_cp c1 c2))) + (own_len c2))), vi 2, vi c2] [(.int ((2 : Int32) + (own_cnt c2)))] (fun _ k => pI X38 hx (dk d9_41) rfl k) ?_
            have hs39 : ((2 : Int32) + (own_cnt c2)) = (3 : Int32) := by rw [(own_cntR hr2)]; decide
            refine gz X38 6 #[vr a1, vi p2, .val (.int (((own_len (own_cp c0 c1)) + (own_len (own_cp c1 c2))) + (own_len c2))), vi 3, vi c2] [(.ref a1), (.int 3)] (fun _ k => sN (x := (3 : Int32)) (rest := []) X38 hx (dk d9_42) (by rw [hs39]) rfl (.inr ⟨_, rfl, rfl⟩) (gT X38 hx 43 4 rfl (dk d9_43) (lN X38 hx (dk d9_4) rfl (aN X38 hx (dk d9_5) rfl rfl k)))) ?_
            refine goV X38 hx hZ hown (W 41 rfl) (m34 hw) pr8 0 0 0 (rm_lenS_3 hw a1 t1 k1 c0 c1 c2 cs h0 n0 Z0 pr0 pr1 hcs pr8 pr9 say) N38 hh38 pd_26 hml (dk d9_6) ?_
            rintro _ T40 L40 X40 N40 ⟨rfl, hh40⟩
            refine gz X40 49 #[vr a1, vi p2, .val (.int (((own_len (own_cp c0 c1)) + (own_len (own_cp c1 c2))) + (own_len c2))), vi 3, vi c2] [(.int 3), (.int 0), (.ref a1)] (fun _ k => cY X40 hx 9 46 rfl (dk d9_9) rfl (flt (by decide)).2.1 (aN X40 hx (dk d9_46) rfl rfl (kC X40 hx (dk d9_47) (lN X40 hx (dk d9_48) rfl k)))) ?_
            refine goV X40 hx hZ hown (W 72 rfl) (m38 hw) pr8 2 0 0 (rm_subS_3_3 hw a1 t1 k1 c0 c1 c2 cs fm h0 n0 Z0 pr0 pr1 hcs pr3 hr_fm pr5 pr6 pr7 pr8 pr9 say hr0 hr1 hr2) N40 hh40 pd_29 hml (dk d9_49) ?_
            rintro _ T41 L41 X41 N41 ⟨rfl, hh41⟩
            refine gz X41 52 #[vr a1, vi p2, .val (.int (((own_len (own_cp c0 c1)) + (own_len (own_cp c1 c2))) + (own_len c2))), vi 3, vi c2] [(.ref a1)] (fun _ k => k) ?_
            have hkE42 : _ ≤ T41.heap.size := (by rw [hh41]; exact hk)
            have CE42 : CHr Z own_EL s.vm s.heap s.vm T41.heap := (by rw [hh41]; exact C0)
            refine Go.retS X41 hx hlk hS hkE42 hZ hEL CE42 (t := (.object "java/lang/String")) hret rfl (Or.inr (Or.inr (Or.inr (Or.inr ⟨rfl, rfl, rfl⟩)))) (dk d9_52) (by decide) (by decide) ?_
            rw [hh41]
            exact ⟨N41, a1, t1, k1, rfl, (Keep.refl h0 []), (Or.inr (Or.inr (Or.inr (Or.inl ⟨c14, e19, c24, e29, c34, pr8, pr9, say⟩))))⟩
        · skip
          have hs43 : ((1 : Int32) + (own_cnt (own_cp c1 c2))) = (3 : Int32) := by rw [e29]; decide
          refine gz X28 6 #[vr a1, vi p2, .val (.int ((own_len (own_cp c0 c1)) + (own_len (own_cp c1 c2)))), vi 3, .val (.int (own_cp c1 c2))] [(.ref a1), (.int 3)] (fun _ k => sN (x := (3 : Int32)) (rest := []) X28 hx (dk d9_42) (by rw [hs43]) rfl (.inr ⟨_, rfl, rfl⟩) (gT X28 hx 43 4 rfl (dk d9_43) (lN X28 hx (dk d9_4) rfl (aN X28 hx (dk d9_5) rfl rfl k)))) ?_
          refine goV X28 hx hZ hown (W 41 rfl) (m34 hw) pr8 0 0 0 (rm_lenS_3 hw a1 t1 k1 c0 c1 c2 cs h0 n0 Z0 pr0 pr1 hcs pr8 pr9 say) N28 hh28 pd_26 hml (dk d9_6) ?_
          rintro _ T44 L44 X44 N44 ⟨rfl, hh44⟩
          refine gz X44 49 #[vr a1, vi p2, .val (.int ((own_len (own_cp c0 c1)) + (own_len (own_cp c1 c2)))), vi 3, .val (.int (own_cp c1 c2))] [(.int 3), (.int 0), (.ref a1)] (fun _ k => cY X44 hx 9 46 rfl (dk d9_9) rfl (flt (by decide)).2.1 (aN X44 hx (dk d9_46) rfl rfl (kC X44 hx (dk d9_47) (lN X44 hx (dk d9_48) rfl k)))) ?_
          refine goV X44 hx hZ hown (W 72 rfl) (m38 hw) pr8 2 0 0 (rm_subS_3_3 hw a1 t1 k1 c0 c1 c2 cs fm h0 n0 Z0 pr0 pr1 hcs pr3 hr_fm pr5 pr6 pr7 pr8 pr9 say hr0 hr1 hr2) N44 hh44 pd_29 hml (dk d9_49) ?_
          rintro _ T45 L45 X45 N45 ⟨rfl, hh45⟩
          refine gz X45 52 #[vr a1, vi p2, .val (.int ((own_len (own_cp c0 c1)) + (own_len (own_cp c1 c2)))), vi 3, .val (.int (own_cp c1 c2))] [(.ref a1)] (fun _ k => k) ?_
          have hkE46 : _ ≤ T45.heap.size := (by rw [hh45]; exact hk)
          have CE46 : CHr Z own_EL s.vm s.heap s.vm T45.heap := (by rw [hh45]; exact C0)
          refine Go.retS X45 hx hlk hS hkE46 hZ hEL CE46 (t := (.object "java/lang/String")) hret rfl (Or.inr (Or.inr (Or.inr (Or.inr ⟨rfl, rfl, rfl⟩)))) (dk d9_52) (by decide) (by decide) ?_
          rw [hh45]
          exact ⟨N45, a1, t1, k1, rfl, (Keep.refl h0 []), (Or.inr (Or.inr (Or.inr (Or.inr (Or.inl ⟨c14, e19, c24, e29, pr8, pr9, say⟩)))))⟩
    · skip
      have hs47 : ((0 : Int32) + (own_cnt (own_cp c0 c1))) = (2 : Int32) := by rw [e19]; decide
      refine gz X18 6 #[vr a1, vi p2, .val (.int (own_len (own_cp c0 c1))), vi 2, .val (.int (own_cp c0 c1))] [(.ref a1), (.int 2)] (fun _ k => sN (x := (2 : Int32)) (rest := []) X18 hx (dk d9_42) (by rw [hs47]) rfl (.inr ⟨_, rfl, rfl⟩) (gT X18 hx 43 4 rfl (dk d9_43) (lN X18 hx (dk d9_4) rfl (aN X18 hx (dk d9_5) rfl rfl k)))) ?_
      refine goV X18 hx hZ hown (W 41 rfl) (m34 hw) pr8 0 0 0 (rm_lenS_3 hw a1 t1 k1 c0 c1 c2 cs h0 n0 Z0 pr0 pr1 hcs pr8 pr9 say) N18 hh18 pd_26 hml (dk d9_6) ?_
      rintro _ T48 L48 X48 N48 ⟨rfl, hh48⟩
      refine gz X48 14 #[vr a1, vi p2, .val (.int (own_len (own_cp c0 c1))), vi 2, .val (.int (own_cp c0 c1))] [(.int 2), (.ref a1)] (fun _ k => cN X48 hx (dk d9_9) rfl (tlt (by decide)).2.1 (aN X48 hx (dk d9_12) rfl rfl (lN X48 hx (dk d9_13) rfl k))) ?_
      refine goV X48 hx hZ hown (W 51 rfl) (m39 hw) pr8 1 0 0 (rm_cpS_3_2 hw a1 t1 k1 c0 c1 c2 cs fm h0 n0 Z0 pr0 pr1 hcs pr3 hr_fm pr5 pr6 pr7 pr8 pr9 say hr0 hr1 hr2) N48 hh48 pd_0 hml (dk d9_14) ?_
      rintro _ T49 L49 X49 N49 ⟨rfl, hh49⟩
      refine gz X49 22 #[vr a1, vi p2, .val (.int (own_len (own_cp c0 c1))), vi 2, vi c2] [(.int c2), (.int (own_len (own_cp c0 c1)))] (fun _ k => sI X49 hx (dk d9_17) rfl rfl (.inr ⟨_, rfl, rfl⟩) (lN X49 hx (dk d9_19) rfl (lI X49 hx (dk d9_20) rfl k))) ?_
      refine goS X49 hx hZ hown (W 69 rfl) (m40 hw) 1 0 0 (rm_u8 hw c2 h0 n0 Z0 ) N49 hh49 pd_0 hml (dk d9_22) ?_
      rintro _ T50 L50 X50 N50 ⟨rfl, hh50⟩
      refine gz X50 29 #[vr a1, vi p2, .val (.int ((own_len (own_cp c0 c1)) + (own_len c2))), vi 2, vi c2] [(.int p2), (.int ((own_len (own_cp c0 c1)) + (own_len c2)))] (fun _ k => pI X50 hx (dk d9_25) rfl (sN X50 hx (dk d9_26) rfl rfl (.inr ⟨_, rfl, rfl⟩) (lN X50 hx (dk d9_27) rfl (lN X50 hx (dk d9_28) rfl k)))) ?_
      by_cases c51 : p2 < ((own_len (own_cp c0 c1)) + (own_len c2))
      · skip
        refine gz X50 49 #[vr a1, vi p2, .val (.int ((own_len (own_cp c0 c1)) + (own_len c2))), vi 2, vi c2] [(.int 2), (.int 0), (.ref a1)] (fun _ k => cN X50 hx (dk d9_29) rfl (tlt c51).2.2.2 (gT X50 hx 32 46 rfl (dk d9_32) (aN X50 hx (dk d9_46) rfl rfl (kC X50 hx (dk d9_47) (lN X50 hx (dk d9_48) rfl k))))) ?_
        refine goV X50 hx hZ hown (W 72 rfl) (m38 hw) pr8 2 3 10 (rm_subS_3_2 hw a1 t1 k1 c0 c1 c2 cs fm h0 n0 Z0 pr0 pr1 hcs pr3 hr_fm pr5 pr6 pr7 pr8 pr9 say hr0 hr1 hr2) N50 hh50 pd_29 hml (dk d9_49) ?_
        rintro _ T52 L52 X52 N52 ⟨b52, t52, k52, rfl, K52, p52_0, p52_1, p52_2, p52_3⟩
        have C53 := C0.trans (CHr.keep K52 sf0 C0.1)
        have O53 := pr0.keep K52 all0
        have Z53 : n0 ≤ T52.heap.size := Nat.le_trans Z0 K52.1
        have sz_b52 : h0.size ≤ b52 := p52_2
        refine gz X52 52 #[vr a1, vi p2, .val (.int ((own_len (own_cp c0 c1)) + (own_len c2))), vi 2, vi c2] [(.ref b52)] (fun _ k => k) ?_
        have hkE54 : _ ≤ T52.heap.size := (Nat.le_trans hk K52.1)
        have CE54 : CHr Z own_EL s.vm s.heap s.vm T52.heap := C53
        refine Go.retS X52 hx hlk hS hkE54 hZ hEL CE54 (t := (.object "java/lang/String")) hret rfl (Or.inr (Or.inr (Or.inr (Or.inr ⟨rfl, rfl, rfl⟩)))) (dk d9_52) (by decide) (by decide) ?_
        exact ⟨N52, b52, t52, k52, rfl, ((Keep.refl h0 []).trans K52 all0), (Or.inr (Or.inr (Or.inr (Or.inr (Or.inr (Or.inl ⟨c14, e19, c51, p52_0, p52_1, p52_3⟩))))))⟩
      · skip
        refine gz X50 38 #[vr a1, vi p2, .val (.int ((own_len (own_cp c0 c1)) + (own_len c2))), vi 2, vi c2] [(.int c2), (.int 2)] (fun _ k => cY X50 hx 29 35 rfl (dk d9_29) rfl (flt c51).2.2.2 (lN X50 hx (dk d9_35) rfl (lI X50 hx (dk d9_36) rfl k))) ?_
        refine goS X50 hx hZ hown (W 99 rfl) (m41 hw) 1 0 0 (rm_cnt hw c2 h0 n0 Z0 ) N50 hh50 pd_0 hml (dk d9_38) ?_
        rintro _ T55 L55 X55 N55 ⟨rfl, hh55⟩
        refine gz X55 42 #[vr a1, vi p2, .val (.int ((own_len (own_cp c0 c1)) + (own_len c2))), vi 2, vi c2] [(.int ((2 : Int32) + (own_cnt c2)))] (fun _ k => pI X55 hx (dk d9_41) rfl k) ?_
        have hs56 : ((2 : Int32) + (own_cnt c2)) = (3 : Int32) := by rw [(own_cntR hr2)]; decide
        refine gz X55 6 #[vr a1, vi p2, .val (.int ((own_len (own_cp c0 c1)) + (own_len c2))), vi 3, vi c2] [(.ref a1), (.int 3)] (fun _ k => sN (x := (3 : Int32)) (rest := []) X55 hx (dk d9_42) (by rw [hs56]) rfl (.inr ⟨_, rfl, rfl⟩) (gT X55 hx 43 4 rfl (dk d9_43) (lN X55 hx (dk d9_4) rfl (aN X55 hx (dk d9_5) rfl rfl k)))) ?_
        refine goV X55 hx hZ hown (W 41 rfl) (m34 hw) pr8 0 0 0 (rm_lenS_3 hw a1 t1 k1 c0 c1 c2 cs h0 n0 Z0 pr0 pr1 hcs pr8 pr9 say) N55 hh55 pd_26 hml (dk d9_6) ?_
        rintro _ T57 L57 X57 N57 ⟨rfl, hh57⟩
        refine gz X57 49 #[vr a1, vi p2, .val (.int ((own_len (own_cp c0 c1)) + (own_len c2))), vi 3, vi c2] [(.int 3), (.int 0), (.ref a1)] (fun _ k => cY X57 hx 9 46 rfl (dk d9_9) rfl (flt (by decide)).2.1 (aN X57 hx (dk d9_46) rfl rfl (kC X57 hx (dk d9_47) (lN X57 hx (dk d9_48) rfl k)))) ?_
        refine goV X57 hx hZ hown (W 72 rfl) (m38 hw) pr8 2 0 0 (rm_subS_3_3 hw a1 t1 k1 c0 c1 c2 cs fm h0 n0 Z0 pr0 pr1 hcs pr3 hr_fm pr5 pr6 pr7 pr8 pr9 say hr0 hr1 hr2) N57 hh57 pd_29 hml (dk d9_49) ?_
        rintro _ T58 L58 X58 N58 ⟨rfl, hh58⟩
        refine gz X58 52 #[vr a1, vi p2, .val (.int ((own_len (own_cp c0 c1)) + (own_len c2))), vi 3, vi c2] [(.ref a1)] (fun _ k => k) ?_
        have hkE59 : _ ≤ T58.heap.size := (by rw [hh58]; exact hk)
        have CE59 : CHr Z own_EL s.vm s.heap s.vm T58.heap := (by rw [hh58]; exact C0)
        refine Go.retS X58 hx hlk hS hkE59 hZ hEL CE59 (t := (.object "java/lang/String")) hret rfl (Or.inr (Or.inr (Or.inr (Or.inr ⟨rfl, rfl, rfl⟩)))) (dk d9_52) (by decide) (by decide) ?_
        rw [hh58]
        exact ⟨N58, a1, t1, k1, rfl, (Keep.refl h0 []), (Or.inr (Or.inr (Or.inr (Or.inr (Or.inr (Or.inr ⟨c14, e19, c51, pr8, pr9, say⟩))))))⟩
theorem d22_0 : DK B44 0 (.iload_n 2) 1 := by decide +kernel
theorem d22_1 : DK B44 1 (.iload_n 1) 1 := by decide +kernel
theorem d22_2 : DK B44 2 (.if_icmp .lt 5) 3 := by decide +kernel
theorem d22_7 : DK B44 7 (.aload_n 0) 1 := by decide +kernel
theorem d22_8 : DK B44 8 (.iload_n 2) 1 := by decide +kernel
theorem d22_9 : DK B44 9 .caload 1 := by decide +kernel
theorem d22_10 : DK B44 10 (.istore_n 3) 1 := by decide +kernel
theorem d22_11 : DK B44 11 (.iload_n 3) 1 := by decide +kernel
theorem d22_12 : DK B44 12 (.ldc 39) 2 := by decide +kernel
theorem d22_14 : DK B44 14 (.if_icmp .lt 38) 3 := by decide +kernel
theorem d22_52 : DK B44 52 (.iconst 1) 1 := by decide +kernel
theorem d22_53 : DK B44 53 .ireturn 1 := by decide +kernel
theorem d22_17 : DK B44 17 (.iload_n 3) 1 := by decide +kernel
theorem d22_18 : DK B44 18 (.ldc 43) 2 := by decide +kernel
theorem d22_20 : DK B44 20 (.if_icmp .gt 32) 3 := by decide +kernel
theorem d22_23 : DK B44 23 (.iload_n 2) 1 := by decide +kernel
theorem d22_24 : DK B44 24 (.iconst 1) 1 := by decide +kernel
theorem d22_25 : DK B44 25 .iadd 1 := by decide +kernel
theorem d22_26 : DK B44 26 (.iload_n 1) 1 := by decide +kernel
theorem d22_27 : DK B44 27 (.if_icmp .ge 25) 3 := by decide +kernel
theorem d22_30 : DK B44 30 (.aload_n 0) 1 := by decide +kernel
theorem d22_31 : DK B44 31 (.iload_n 2) 1 := by decide +kernel
theorem d22_32 : DK B44 32 (.iconst 1) 1 := by decide +kernel
theorem d22_33 : DK B44 33 .iadd 1 := by decide +kernel
theorem d22_34 : DK B44 34 .caload 1 := by decide +kernel
theorem d22_35 : DK B44 35 (.ldc 44) 2 := by decide +kernel
theorem d22_37 : DK B44 37 (.if_icmp .lt 15) 3 := by decide +kernel
theorem d22_40 : DK B44 40 (.aload_n 0) 1 := by decide +kernel
theorem d22_41 : DK B44 41 (.iload_n 2) 1 := by decide +kernel
theorem d22_42 : DK B44 42 (.iconst 1) 1 := by decide +kernel
theorem d22_43 : DK B44 43 .iadd 1 := by decide +kernel
theorem d22_44 : DK B44 44 .caload 1 := by decide +kernel
theorem d22_45 : DK B44 45 (.ldc 45) 2 := by decide +kernel
theorem d22_47 : DK B44 47 (.if_icmp .gt 5) 3 := by decide +kernel
theorem d22_50 : DK B44 50 (.iconst 2) 1 := by decide +kernel
theorem d22_51 : DK B44 51 .ireturn 1 := by decide +kernel
theorem rm_un0p {l : Launch} {Z : State} {a0 : Array Value} (hw : HW a0 Z) (a1 : Addr) (ka : ClassId) (c0 : Int32) (c1 : Int32) (c2 : Int32) (p2 : Int32) (h0 : Heap) (n0 : Nat) (Z0 : n0 ≤ h0.size) (pr0 : Arv Z h0 a1 ka .char (3 : Int32) [(.int c0), (.int c1), (.int c2)] (.int 0)) (hr0 : own_rng c0) (hr1 : own_rng c1) (hr2 : own_rng c2) (hp0 : (0 : Int32) < p2) (hp1 : (1 : Int32) < p2) :
    Met l Z Y5 B44 4 (some .int) [] ({ frames := 0, cells := 0, slots := 0, locals := 0 } : Room) #[(.ref a1), (.int p2), (.int 0)] h0 (fun vv h L => Fr n0 L ∧ vv = some (.int (own_cnt (own_cp c0 c1))) ∧ h = h0) := by
  refine Met.enter (f0 := fun m => mkF m 0 #[vr a1, vi p2, vi 0, .unset] []) (plainFor_of_name pn0) (fun m => oe m 1) ?_
  intro p e s m below meth c s₁ hx hby hml hown hnm hret hlk hZ X0 e0
  have dk : Dk B44 c := fun h => hb hby h
  have W := @wd _ _ _ hw
  have N0 := Fr.nil n0
  refine gz X0 9 #[vr a1, vi p2, vi 0, .unset] [(.int 0), (.ref a1)] (fun _ k => lN X0 hx (dk d22_0) rfl (lN X0 hx (dk d22_1) rfl (cY X0 hx 2 7 rfl (dk d22_2) rfl (tlt hp0).1 (aN X0 hx (dk d22_7) rfl rfl (lN X0 hx (dk d22_8) rfl k))))) ?_
  obtain ⟨cl10, Ar10, q10, S10, N_10, Hs10, G10⟩ := id pr0
  have hin11 : ¬ ((0 : Int32) < 0 ∨ cl10.slots.size ≤ ((0 : Int32)).toNatClampNeg) := inb_of S10 ⟨by decide, by decide⟩
  have hat11 : cl10.slots[((0 : Int32)).toNatClampNeg]? = some (.int c0) := Hs10.at hin11 rfl
  refine gz X0 10 #[vr a1, vi p2, vi 0, .unset] [(.int c0)] (fun _ k => X0.caload hx (j := (0 : Int32)) (v := (.int c0)) (by rw [e0]; exact Ar10.1) (State.isArrayOf_alike hZ.alike Ar10.2.1) Ar10.2.2 hin11 hat11 (g := (mkF m 9 #[vr a1, vi p2, vi 0, .unset] [(.int 0), (.ref a1)])) rfl rfl (dk d22_9) _ k) ?_
  refine gz X0 14 #[vr a1, vi p2, vi 0, vi c0] [(.int 55296), (.int c0)] (fun _ k => sN X0 hx (dk d22_10) rfl rfl (.inl rfl) (lN X0 hx (dk d22_11) rfl (X0.ldcInt hx hown (mvT hZ (W 97 rfl)) (g := (mkF m 12 #[vr a1, vi p2, vi 0, vi c0] [(.int c0)])) rfl (dk d22_12) _ k))) ?_
  by_cases c12 : c0 < (55296 : Int32)
  · skip
    refine gz X0 53 #[vr a1, vi p2, vi 0, vi c0] [(.int 1)] (fun _ k => cY X0 hx 14 52 rfl (dk d22_14) rfl (tlt c12).1 (kC X0 hx (dk d22_52) k)) ?_
    refine Go.retJ X0 hx hlk (t := .int) hret (dk d22_53) ?_
    rw [e0]
    exact ⟨N0, (congrArg (fun q => some (Value.int q)) (own_u1 hr0 (own_cpa c12))), rfl⟩
  · skip
    refine gz X0 20 #[vr a1, vi p2, vi 0, vi c0] [(.int 56319), (.int c0)] (fun _ k => cN X0 hx (dk d22_14) rfl (flt c12).1 (lN X0 hx (dk d22_17) rfl (X0.ldcInt hx hown (mvT hZ (W 149 rfl)) (g := (mkF m 18 #[vr a1, vi p2, vi 0, vi c0] [(.int c0)])) rfl (dk d22_18) _ k))) ?_
    by_cases c13 : (56319 : Int32) < c0
    · skip
      refine gz X0 53 #[vr a1, vi p2, vi 0, vi c0] [(.int 1)] (fun _ k => cY X0 hx 20 52 rfl (dk d22_20) rfl (tlt c13).2.2.1 (kC X0 hx (dk d22_52) k)) ?_
      refine Go.retJ X0 hx hlk (t := .int) hret (dk d22_53) ?_
      rw [e0]
      exact ⟨N0, (congrArg (fun q => some (Value.int q)) (own_u1 hr0 (own_cpb c13))), rfl⟩
    · skip
      refine gz X0 34 #[vr a1, vi p2, vi 0, vi c0] [(.int 1), (.ref a1)] (fun _ k => cN X0 hx (dk d22_20) rfl (flt c13).2.2.1 (lN X0 hx (dk d22_23) rfl (kC X0 hx (dk d22_24) (pI X0 hx (dk d22_25) rfl (lN X0 hx (dk d22_26) rfl (cN X0 hx (dk d22_27) rfl (tlt hp1).2.1 (aN X0 hx (dk d22_30) rfl rfl (lN X0 hx (dk d22_31) rfl (kC X0 hx (dk d22_32) (pI X0 hx (dk d22_33) rfl k)))))))))) ?_
      obtain ⟨cl14, Ar14, q14, S14, N_14, Hs14, G14⟩ := id pr0
      have hin15 : ¬ ((1 : Int32) < 0 ∨ cl14.slots.size ≤ ((1 : Int32)).toNatClampNeg) := inb_of S14 ⟨by decide, by decide⟩
      have hat15 : cl14.slots[((1 : Int32)).toNatClampNeg]? = some (.int c1) := Hs14.at hin15 rfl
      refine gz X0 35 #[vr a1, vi p2, vi 0, vi c0] [(.int c1)] (fun _ k => X0.caload hx (j := (1 : Int32)) (v := (.int c1)) (by rw [e0]; exact Ar14.1) (State.isArrayOf_alike hZ.alike Ar14.2.1) Ar14.2.2 hin15 hat15 (g := (mkF m 34 #[vr a1, vi p2, vi 0, vi c0] [(.int 1), (.ref a1)])) rfl rfl (dk d22_34) _ k) ?_
      refine gz X0 37 #[vr a1, vi p2, vi 0, vi c0] [(.int 56320), (.int c1)] (fun _ k => X0.ldcInt hx hown (mvT hZ (W 206 rfl)) (g := (mkF m 35 #[vr a1, vi p2, vi 0, vi c0] [(.int c1)])) rfl (dk d22_35) _ k) ?_
      by_cases c16 : c1 < (56320 : Int32)
      · skip
        refine gz X0 53 #[vr a1, vi p2, vi 0, vi c0] [(.int 1)] (fun _ k => cY X0 hx 37 52 rfl (dk d22_37) rfl (tlt c16).1 (kC X0 hx (dk d22_52) k)) ?_
        refine Go.retJ X0 hx hlk (t := .int) hret (dk d22_53) ?_
        rw [e0]
        exact ⟨N0, (congrArg (fun q => some (Value.int q)) (own_u1 hr0 (own_cpc c16))), rfl⟩
      · skip
        refine gz X0 44 #[vr a1, vi p2, vi 0, vi c0] [(.int 1), (.ref a1)] (fun _ k => cN X0 hx (dk d22_37) rfl (flt c16).1 (aN X0 hx (dk d22_40) rfl rfl (lN X0 hx (dk d22_41) rfl (kC X0 hx (dk d22_42) (pI X0 hx (dk d22_43) rfl k))))) ?_
        obtain ⟨cl17, Ar17, q17, S17, N_17, Hs17, G17⟩ := id pr0
        have hin18 : ¬ ((1 : Int32) < 0 ∨ cl17.slots.size ≤ ((1 : Int32)).toNatClampNeg) := inb_of S17 ⟨by decide, by decide⟩
        have hat18 : cl17.slots[((1 : Int32)).toNatClampNeg]? = some (.int c1) := Hs17.at hin18 rfl
        refine gz X0 45 #[vr a1, vi p2, vi 0, vi c0] [(.int c1)] (fun _ k => X0.caload hx (j := (1 : Int32)) (v := (.int c1)) (by rw [e0]; exact Ar17.1) (State.isArrayOf_alike hZ.alike Ar17.2.1) Ar17.2.2 hin18 hat18 (g := (mkF m 44 #[vr a1, vi p2, vi 0, vi c0] [(.int 1), (.ref a1)])) rfl rfl (dk d22_44) _ k) ?_
        refine gz X0 47 #[vr a1, vi p2, vi 0, vi c0] [(.int 57343), (.int c1)] (fun _ k => X0.ldcInt hx hown (mvT hZ (W 207 rfl)) (g := (mkF m 45 #[vr a1, vi p2, vi 0, vi c0] [(.int c1)])) rfl (dk d22_45) _ k) ?_
        by_cases c19 : (57343 : Int32) < c1
        · skip
          refine gz X0 53 #[vr a1, vi p2, vi 0, vi c0] [(.int 1)] (fun _ k => cY X0 hx 47 52 rfl (dk d22_47) rfl (tlt c19).2.2.1 (kC X0 hx (dk d22_52) k)) ?_
          refine Go.retJ X0 hx hlk (t := .int) hret (dk d22_53) ?_
          rw [e0]
          exact ⟨N0, (congrArg (fun q => some (Value.int q)) (own_u1 hr0 (own_cpd c19))), rfl⟩
        · skip
          refine gz X0 51 #[vr a1, vi p2, vi 0, vi c0] [(.int 2)] (fun _ k => cN X0 hx (dk d22_47) rfl (flt c19).2.2.1 (kC X0 hx (dk d22_50) k)) ?_
          refine Go.retJ X0 hx hlk (t := .int) hret (dk d22_51) ?_
          rw [e0]
          exact ⟨N0, (congrArg (fun q => some (Value.int q)) (own_u2 c12 c13 c16 c19)), rfl⟩
theorem d21_0 : DK B45 0 (.iload_n 2) 1 := by decide +kernel
theorem d21_1 : DK B45 1 (.iload_n 1) 1 := by decide +kernel
theorem d21_2 : DK B45 2 (.if_icmp .lt 5) 3 := by decide +kernel
theorem d21_7 : DK B45 7 (.aload_n 0) 1 := by decide +kernel
theorem d21_8 : DK B45 8 (.iload_n 1) 1 := by decide +kernel
theorem d21_9 : DK B45 9 (.iload_n 2) 1 := by decide +kernel
theorem d21_10 : DK B45 10 (.invokestatic 27) 3 := by decide +kernel
theorem pd_30 : parseMethodDescriptor "([CII)I" = some ⟨[(.array .char), .int, .int], some .int⟩ := by decide +kernel
theorem m42 {Z : State} {a0 : Array Value} (hw : HW a0 Z) : (Jvm.Cond.static Y5).before a0 Z = true ∧ (Jvm.Cond.initialized "com/example/orderly_outbox/orderlyoutbox/store/LastErrorCutPinLaw").before a0 Z = true ∧ (Jvm.Cond.code Y5 B44 (4 : Nat) (Option.some Jvm.ClassFile.FieldType.int)).before a0 Z = true := ⟨(wd hw 95 rfl), (wd hw 3 rfl), (wd hw 96 rfl)⟩
theorem d21_13 : DK B45 13 (.iconst 2) 1 := by decide +kernel
theorem d21_14 : DK B45 14 (.if_icmp .ne 5) 3 := by decide +kernel
theorem d21_17 : DK B45 17 (.iconst 4) 1 := by decide +kernel
theorem d21_18 : DK B45 18 .ireturn 1 := by decide +kernel
theorem d21_19 : DK B45 19 (.aload_n 0) 1 := by decide +kernel
theorem d21_20 : DK B45 20 (.iload_n 2) 1 := by decide +kernel
theorem d21_21 : DK B45 21 .caload 1 := by decide +kernel
theorem d21_22 : DK B45 22 (.istore_n 3) 1 := by decide +kernel
theorem d21_23 : DK B45 23 (.iload_n 3) 1 := by decide +kernel
theorem d21_24 : DK B45 24 (.sipush 128) 3 := by decide +kernel
theorem d21_27 : DK B45 27 (.if_icmp .ge 5) 3 := by decide +kernel
theorem d21_30 : DK B45 30 (.iconst 1) 1 := by decide +kernel
theorem d21_31 : DK B45 31 .ireturn 1 := by decide +kernel
theorem d21_32 : DK B45 32 (.iload_n 3) 1 := by decide +kernel
theorem d21_33 : DK B45 33 (.sipush 2048) 3 := by decide +kernel
theorem d21_36 : DK B45 36 (.if_icmp .ge 5) 3 := by decide +kernel
theorem d21_39 : DK B45 39 (.iconst 2) 1 := by decide +kernel
theorem d21_40 : DK B45 40 .ireturn 1 := by decide +kernel
theorem d21_41 : DK B45 41 (.iconst 3) 1 := by decide +kernel
theorem d21_42 : DK B45 42 .ireturn 1 := by decide +kernel
theorem rm_by0p {l : Launch} {Z : State} {a0 : Array Value} (hw : HW a0 Z) (a1 : Addr) (ka : ClassId) (c0 : Int32) (c1 : Int32) (c2 : Int32) (p2 : Int32) (h0 : Heap) (n0 : Nat) (Z0 : n0 ≤ h0.size) (pr0 : Arv Z h0 a1 ka .char (3 : Int32) [(.int c0), (.int c1), (.int c2)] (.int 0)) (hr0 : own_rng c0) (hr1 : own_rng c1) (hr2 : own_rng c2) (hp0 : (0 : Int32) < p2) (hp1 : (1 : Int32) < p2) :
    Met l Z Y2 B45 4 (some .int) [] ({ frames := 1, cells := 0, slots := 0, locals := 15 } : Room) #[(.ref a1), (.int p2), (.int 0)] h0 (fun vv h L => Fr n0 L ∧ vv = some (.int (own_len (own_cp c0 c1))) ∧ h = h0) := by
  refine Met.enter (f0 := fun m => mkF m 0 #[vr a1, vi p2, vi 0, .unset] []) (plainFor_of_name pn0) (fun m => oe m 1) ?_
  intro p e s m below meth c s₁ hx hby hml hown hnm hret hlk hZ X0 e0
  have dk : Dk B45 c := fun h => hb hby h
  have W := @wd _ _ _ hw
  have N0 := Fr.nil n0
  refine gz X0 10 #[vr a1, vi p2, vi 0, .unset] [(.int 0), (.int p2), (.ref a1)] (fun _ k => lN X0 hx (dk d21_0) rfl (lN X0 hx (dk d21_1) rfl (cY X0 hx 2 7 rfl (dk d21_2) rfl (tlt hp0).1 (aN X0 hx (dk d21_7) rfl rfl (lN X0 hx (dk d21_8) rfl (lN X0 hx (dk d21_9) rfl k)))))) ?_
  refine goS X0 hx hZ hown (W 94 rfl) (m42 hw) 3 0 0 (rm_un0p hw a1 ka c0 c1 c2 p2 h0 n0 Z0 pr0 hr0 hr1 hr2 hp0 hp1) N0 e0 pd_30 hml (dk d21_10) ?_
  rintro _ T10 L10 X10 N10 ⟨rfl, hh10⟩
  refine gz X10 14 #[vr a1, vi p2, vi 0, .unset] [(.int 2), (.int (own_cnt (own_cp c0 c1)))] (fun _ k => kC X10 hx (dk d21_13) k) ?_
  by_cases c11 : (own_cnt (own_cp c0 c1)) = (2 : Int32)
  · skip
    refine gz X10 18 #[vr a1, vi p2, vi 0, .unset] [(.int 4)] (fun _ k => cN X10 hx (dk d21_14) rfl (teq c11).2 (kC X10 hx (dk d21_17) k)) ?_
    refine Go.retJ X10 hx hlk (t := .int) hret (dk d21_18) ?_
    rw [hh10]
    exact ⟨N10, (congrArg (fun q => some (Value.int q)) (own_len4 c11)), rfl⟩
  · skip
    refine gz X10 21 #[vr a1, vi p2, vi 0, .unset] [(.int 0), (.ref a1)] (fun _ k => cY X10 hx 14 19 rfl (dk d21_14) rfl (feq c11).2 (aN X10 hx (dk d21_19) rfl rfl (lN X10 hx (dk d21_20) rfl k))) ?_
    obtain ⟨cl12, Ar12, q12, S12, N_12, Hs12, G12⟩ := id pr0
    have hin13 : ¬ ((0 : Int32) < 0 ∨ cl12.slots.size ≤ ((0 : Int32)).toNatClampNeg) := inb_of S12 ⟨by decide, by decide⟩
    have hat13 : cl12.slots[((0 : Int32)).toNatClampNeg]? = some (.int c0) := Hs12.at hin13 rfl
    refine gz X10 22 #[vr a1, vi p2, vi 0, .unset] [(.int c0)] (fun _ k => X10.caload hx (j := (0 : Int32)) (v := (.int c0)) (by rw [hh10]; exact Ar12.1) (State.isArrayOf_alike hZ.alike Ar12.2.1) Ar12.2.2 hin13 hat13 (g := (mkF m 21 #[vr a1, vi p2, vi 0, .unset] [(.int 0), (.ref a1)])) rfl rfl (dk d21_21) _ k) ?_
    refine gz X10 27 #[vr a1, vi p2, vi 0, vi c0] [(.int 128), (.int c0)] (fun _ k => sN X10 hx (dk d21_22) rfl rfl (.inl rfl) (lN X10 hx (dk d21_23) rfl (XS.sipush X10.here hx rfl (dk d21_24) k))) ?_
    by_cases c14 : c0 < (128 : Int32)
    · skip
      refine gz X10 31 #[vr a1, vi p2, vi 0, vi c0] [(.int 1)] (fun _ k => cN X10 hx (dk d21_27) rfl (tlt c14).2.1 (kC X10 hx (dk d21_30) k)) ?_
      refine Go.retJ X10 hx hlk (t := .int) hret (dk d21_31) ?_
      rw [hh10]
      exact ⟨N10, (congrArg (fun q => some (Value.int q)) ((own_len0 c14).trans (congrArg own_len (own_cpC c11).symm))), rfl⟩
    · skip
      refine gz X10 36 #[vr a1, vi p2, vi 0, vi c0] [(.int 2048), (.int c0)] (fun _ k => cY X10 hx 27 32 rfl (dk d21_27) rfl (flt c14).2.1 (lN X10 hx (dk d21_32) rfl (XS.sipush X10.here hx rfl (dk d21_33) k))) ?_
      by_cases c15 : c0 < (2048 : Int32)
      · skip
        refine gz X10 40 #[vr a1, vi p2, vi 0, vi c0] [(.int 2)] (fun _ k => cN X10 hx (dk d21_36) rfl (tlt c15).2.1 (kC X10 hx (dk d21_39) k)) ?_
        refine Go.retJ X10 hx hlk (t := .int) hret (dk d21_40) ?_
        rw [hh10]
        exact ⟨N10, (congrArg (fun q => some (Value.int q)) ((own_len1 c14 c15).trans (congrArg own_len (own_cpC c11).symm))), rfl⟩
      · skip
        refine gz X10 42 #[vr a1, vi p2, vi 0, vi c0] [(.int 3)] (fun _ k => cY X10 hx 36 41 rfl (dk d21_36) rfl (flt c15).2.1 (kC X10 hx (dk d21_41) k)) ?_
        refine Go.retJ X10 hx hlk (t := .int) hret (dk d21_42) ?_
        rw [hh10]
        exact ⟨N10, (congrArg (fun q => some (Value.int q)) ((own_len2 c14 c15 (own_r16 hr0)).trans (congrArg own_len (own_cpC c11).symm))), rfl⟩
theorem rm_un0l {l : Launch} {Z : State} {a0 : Array Value} (hw : HW a0 Z) (a1 : Addr) (ka : ClassId) (c0 : Int32) (c1 : Int32) (c2 : Int32) (p2 : Int32) (h0 : Heap) (n0 : Nat) (Z0 : n0 ≤ h0.size) (pr0 : Arv Z h0 a1 ka .char (3 : Int32) [(.int c0), (.int c1), (.int c2)] (.int 0)) (hr0 : own_rng c0) (hr1 : own_rng c1) (hr2 : own_rng c2) (hp0 : (0 : Int32) < p2) (hp1 : ¬ ((1 : Int32) < p2)) :
    Met l Z Y5 B44 4 (some .int) [] ({ frames := 0, cells := 0, slots := 0, locals := 0 } : Room) #[(.ref a1), (.int p2), (.int 0)] h0 (fun vv h L => Fr n0 L ∧ vv = some (.int 1) ∧ h = h0) := by
  refine Met.enter (f0 := fun m => mkF m 0 #[vr a1, vi p2, vi 0, .unset] []) (plainFor_of_name pn0) (fun m => oe m 1) ?_
  intro p e s m below meth c s₁ hx hby hml hown hnm hret hlk hZ X0 e0
  have dk : Dk B44 c := fun h => hb hby h
  have W := @wd _ _ _ hw
  have N0 := Fr.nil n0
  refine gz X0 9 #[vr a1, vi p2, vi 0, .unset] [(.int 0), (.ref a1)] (fun _ k => lN X0 hx (dk d22_0) rfl (lN X0 hx (dk d22_1) rfl (cY X0 hx 2 7 rfl (dk d22_2) rfl (tlt hp0).1 (aN X0 hx (dk d22_7) rfl rfl (lN X0 hx (dk d22_8) rfl k))))) ?_
  obtain ⟨cl10, Ar10, q10, S10, N_10, Hs10, G10⟩ := id pr0
  have hin11 : ¬ ((0 : Int32) < 0 ∨ cl10.slots.size ≤ ((0 : Int32)).toNatClampNeg) := inb_of S10 ⟨by decide, by decide⟩
  have hat11 : cl10.slots[((0 : Int32)).toNatClampNeg]? = some (.int c0) := Hs10.at hin11 rfl
  refine gz X0 10 #[vr a1, vi p2, vi 0, .unset] [(.int c0)] (fun _ k => X0.caload hx (j := (0 : Int32)) (v := (.int c0)) (by rw [e0]; exact Ar10.1) (State.isArrayOf_alike hZ.alike Ar10.2.1) Ar10.2.2 hin11 hat11 (g := (mkF m 9 #[vr a1, vi p2, vi 0, .unset] [(.int 0), (.ref a1)])) rfl rfl (dk d22_9) _ k) ?_
  refine gz X0 14 #[vr a1, vi p2, vi 0, vi c0] [(.int 55296), (.int c0)] (fun _ k => sN X0 hx (dk d22_10) rfl rfl (.inl rfl) (lN X0 hx (dk d22_11) rfl (X0.ldcInt hx hown (mvT hZ (W 97 rfl)) (g := (mkF m 12 #[vr a1, vi p2, vi 0, vi c0] [(.int c0)])) rfl (dk d22_12) _ k))) ?_
  by_cases c12 : c0 < (55296 : Int32)
  · skip
    refine gz X0 53 #[vr a1, vi p2, vi 0, vi c0] [(.int 1)] (fun _ k => cY X0 hx 14 52 rfl (dk d22_14) rfl (tlt c12).1 (kC X0 hx (dk d22_52) k)) ?_
    refine Go.retJ X0 hx hlk (t := .int) hret (dk d22_53) ?_
    rw [e0]
    exact ⟨N0, rfl, rfl⟩
  · skip
    refine gz X0 20 #[vr a1, vi p2, vi 0, vi c0] [(.int 56319), (.int c0)] (fun _ k => cN X0 hx (dk d22_14) rfl (flt c12).1 (lN X0 hx (dk d22_17) rfl (X0.ldcInt hx hown (mvT hZ (W 149 rfl)) (g := (mkF m 18 #[vr a1, vi p2, vi 0, vi c0] [(.int c0)])) rfl (dk d22_18) _ k))) ?_
    by_cases c13 : (56319 : Int32) < c0
    · skip
      refine gz X0 53 #[vr a1, vi p2, vi 0, vi c0] [(.int 1)] (fun _ k => cY X0 hx 20 52 rfl (dk d22_20) rfl (tlt c13).2.2.1 (kC X0 hx (dk d22_52) k)) ?_
      refine Go.retJ X0 hx hlk (t := .int) hret (dk d22_53) ?_
      rw [e0]
      exact ⟨N0, rfl, rfl⟩
    · skip
      refine gz X0 53 #[vr a1, vi p2, vi 0, vi c0] [(.int 1)] (fun _ k => cN X0 hx (dk d22_20) rfl (flt c13).2.2.1 (lN X0 hx (dk d22_23) rfl (kC X0 hx (dk d22_24) (pI X0 hx (dk d22_25) rfl (lN X0 hx (dk d22_26) rfl (cY X0 hx 27 52 rfl (dk d22_27) rfl (flt hp1).2.1 (kC X0 hx (dk d22_52) k))))))) ?_
      refine Go.retJ X0 hx hlk (t := .int) hret (dk d22_53) ?_
      rw [e0]
      exact ⟨N0, rfl, rfl⟩
theorem rm_by0l {l : Launch} {Z : State} {a0 : Array Value} (hw : HW a0 Z) (a1 : Addr) (ka : ClassId) (c0 : Int32) (c1 : Int32) (c2 : Int32) (p2 : Int32) (h0 : Heap) (n0 : Nat) (Z0 : n0 ≤ h0.size) (pr0 : Arv Z h0 a1 ka .char (3 : Int32) [(.int c0), (.int c1), (.int c2)] (.int 0)) (hr0 : own_rng c0) (hr1 : own_rng c1) (hr2 : own_rng c2) (hp0 : (0 : Int32) < p2) (hp1 : ¬ ((1 : Int32) < p2)) :
    Met l Z Y2 B45 4 (some .int) [] ({ frames := 1, cells := 0, slots := 0, locals := 15 } : Room) #[(.ref a1), (.int p2), (.int 0)] h0 (fun vv h L => Fr n0 L ∧ vv = some (.int (own_len c0)) ∧ h = h0) := by
  refine Met.enter (f0 := fun m => mkF m 0 #[vr a1, vi p2, vi 0, .unset] []) (plainFor_of_name pn0) (fun m => oe m 1) ?_
  intro p e s m below meth c s₁ hx hby hml hown hnm hret hlk hZ X0 e0
  have dk : Dk B45 c := fun h => hb hby h
  have W := @wd _ _ _ hw
  have N0 := Fr.nil n0
  refine gz X0 10 #[vr a1, vi p2, vi 0, .unset] [(.int 0), (.int p2), (.ref a1)] (fun _ k => lN X0 hx (dk d21_0) rfl (lN X0 hx (dk d21_1) rfl (cY X0 hx 2 7 rfl (dk d21_2) rfl (tlt hp0).1 (aN X0 hx (dk d21_7) rfl rfl (lN X0 hx (dk d21_8) rfl (lN X0 hx (dk d21_9) rfl k)))))) ?_
  refine goS X0 hx hZ hown (W 94 rfl) (m42 hw) 3 0 0 (rm_un0l hw a1 ka c0 c1 c2 p2 h0 n0 Z0 pr0 hr0 hr1 hr2 hp0 hp1) N0 e0 pd_30 hml (dk d21_10) ?_
  rintro _ T10 L10 X10 N10 ⟨rfl, hh10⟩
  refine gz X10 21 #[vr a1, vi p2, vi 0, .unset] [(.int 0), (.ref a1)] (fun _ k => kC X10 hx (dk d21_13) (cY X10 hx 14 19 rfl (dk d21_14) rfl (feq (by decide)).2 (aN X10 hx (dk d21_19) rfl rfl (lN X10 hx (dk d21_20) rfl k)))) ?_
  obtain ⟨cl11, Ar11, q11, S11, N_11, Hs11, G11⟩ := id pr0
  have hin12 : ¬ ((0 : Int32) < 0 ∨ cl11.slots.size ≤ ((0 : Int32)).toNatClampNeg) := inb_of S11 ⟨by decide, by decide⟩
  have hat12 : cl11.slots[((0 : Int32)).toNatClampNeg]? = some (.int c0) := Hs11.at hin12 rfl
  refine gz X10 22 #[vr a1, vi p2, vi 0, .unset] [(.int c0)] (fun _ k => X10.caload hx (j := (0 : Int32)) (v := (.int c0)) (by rw [hh10]; exact Ar11.1) (State.isArrayOf_alike hZ.alike Ar11.2.1) Ar11.2.2 hin12 hat12 (g := (mkF m 21 #[vr a1, vi p2, vi 0, .unset] [(.int 0), (.ref a1)])) rfl rfl (dk d21_21) _ k) ?_
  refine gz X10 27 #[vr a1, vi p2, vi 0, vi c0] [(.int 128), (.int c0)] (fun _ k => sN X10 hx (dk d21_22) rfl rfl (.inl rfl) (lN X10 hx (dk d21_23) rfl (XS.sipush X10.here hx rfl (dk d21_24) k))) ?_
  by_cases c13 : c0 < (128 : Int32)
  · skip
    refine gz X10 31 #[vr a1, vi p2, vi 0, vi c0] [(.int 1)] (fun _ k => cN X10 hx (dk d21_27) rfl (tlt c13).2.1 (kC X10 hx (dk d21_30) k)) ?_
    refine Go.retJ X10 hx hlk (t := .int) hret (dk d21_31) ?_
    rw [hh10]
    exact ⟨N10, (congrArg (fun q => some (Value.int q)) (own_len0 c13)), rfl⟩
  · skip
    refine gz X10 36 #[vr a1, vi p2, vi 0, vi c0] [(.int 2048), (.int c0)] (fun _ k => cY X10 hx 27 32 rfl (dk d21_27) rfl (flt c13).2.1 (lN X10 hx (dk d21_32) rfl (XS.sipush X10.here hx rfl (dk d21_33) k))) ?_
    by_cases c14 : c0 < (2048 : Int32)
    · skip
      refine gz X10 40 #[vr a1, vi p2, vi 0, vi c0] [(.int 2)] (fun _ k => cN X10 hx (dk d21_36) rfl (tlt c14).2.1 (kC X10 hx (dk d21_39) k)) ?_
      refine Go.retJ X10 hx hlk (t := .int) hret (dk d21_40) ?_
      rw [hh10]
      exact ⟨N10, (congrArg (fun q => some (Value.int q)) (own_len1 c13 c14)), rfl⟩
    · skip
      refine gz X10 42 #[vr a1, vi p2, vi 0, vi c0] [(.int 3)] (fun _ k => cY X10 hx 36 41 rfl (dk d21_36) rfl (flt c14).2.1 (kC X10 hx (dk d21_41) k)) ?_
      refine Go.retJ X10 hx hlk (t := .int) hret (dk d21_42) ?_
      rw [hh10]
      exact ⟨N10, (congrArg (fun q => some (Value.int q)) (own_len2 c13 c14 (own_r16 hr0))), rfl⟩
theorem rm_un1p {l : Launch} {Z : State} {a0 : Array Value} (hw : HW a0 Z) (a1 : Addr) (ka : ClassId) (c0 : Int32) (c1 : Int32) (c2 : Int32) (p2 : Int32) (h0 : Heap) (n0 : Nat) (Z0 : n0 ≤ h0.size) (pr0 : Arv Z h0 a1 ka .char (3 : Int32) [(.int c0), (.int c1), (.int c2)] (.int 0)) (hr0 : own_rng c0) (hr1 : own_rng c1) (hr2 : own_rng c2) (hp0 : (1 : Int32) < p2) (hp1 : (2 : Int32) < p2) :
    Met l Z Y5 B44 4 (some .int) [] ({ frames := 0, cells := 0, slots := 0, locals := 0 } : Room) #[(.ref a1), (.int p2), (.int 1)] h0 (fun vv h L => Fr n0 L ∧ vv = some (.int (own_cnt (own_cp c1 c2))) ∧ h = h0) := by
  refine Met.enter (f0 := fun m => mkF m 0 #[vr a1, vi p2, vi 1, .unset] []) (plainFor_of_name pn0) (fun m => oe m 1) ?_
  intro p e s m below meth c s₁ hx hby hml hown hnm hret hlk hZ X0 e0
  have dk : Dk B44 c := fun h => hb hby h
  have W := @wd _ _ _ hw
  have N0 := Fr.nil n0
  refine gz X0 9 #[vr a1, vi p2, vi 1, .unset] [(.int 1), (.ref a1)] (fun _ k => lN X0 hx (dk d22_0) rfl (lN X0 hx (dk d22_1) rfl (cY X0 hx 2 7 rfl (dk d22_2) rfl (tlt hp0).1 (aN X0 hx (dk d22_7) rfl rfl (lN X0 hx (dk d22_8) rfl k))))) ?_
  obtain ⟨cl10, Ar10, q10, S10, N_10, Hs10, G10⟩ := id pr0
  have hin11 : ¬ ((1 : Int32) < 0 ∨ cl10.slots.size ≤ ((1 : Int32)).toNatClampNeg) := inb_of S10 ⟨by decide, by decide⟩
  have hat11 : cl10.slots[((1 : Int32)).toNatClampNeg]? = some (.int c1) := Hs10.at hin11 rfl
  refine gz X0 10 #[vr a1, vi p2, vi 1, .unset] [(.int c1)] (fun _ k => X0.caload hx (j := (1 : Int32)) (v := (.int c1)) (by rw [e0]; exact Ar10.1) (State.isArrayOf_alike hZ.alike Ar10.2.1) Ar10.2.2 hin11 hat11 (g := (mkF m 9 #[vr a1, vi p2, vi 1, .unset] [(.int 1), (.ref a1)])) rfl rfl (dk d22_9) _ k) ?_
  refine gz X0 14 #[vr a1, vi p2, vi 1, vi c1] [(.int 55296), (.int c1)] (fun _ k => sN X0 hx (dk d22_10) rfl rfl (.inl rfl) (lN X0 hx (dk d22_11) rfl (X0.ldcInt hx hown (mvT hZ (W 97 rfl)) (g := (mkF m 12 #[vr a1, vi p2, vi 1, vi c1] [(.int c1)])) rfl (dk d22_12) _ k))) ?_
  by_cases c12 : c1 < (55296 : Int32)
  · skip
    refine gz X0 53 #[vr a1, vi p2, vi 1, vi c1] [(.int 1)] (fun _ k => cY X0 hx 14 52 rfl (dk d22_14) rfl (tlt c12).1 (kC X0 hx (dk d22_52) k)) ?_
    refine Go.retJ X0 hx hlk (t := .int) hret (dk d22_53) ?_
    rw [e0]
    exact ⟨N0, (congrArg (fun q => some (Value.int q)) (own_u1 hr1 (own_cpa c12))), rfl⟩
  · skip
    refine gz X0 20 #[vr a1, vi p2, vi 1, vi c1] [(.int 56319), (.int c1)] (fun _ k => cN X0 hx (dk d22_14) rfl (flt c12).1 (lN X0 hx (dk d22_17) rfl (X0.ldcInt hx hown (mvT hZ (W 149 rfl)) (g := (mkF m 18 #[vr a1, vi p2, vi 1, vi c1] [(.int c1)])) rfl (dk d22_18) _ k))) ?_
    by_cases c13 : (56319 : Int32) < c1
    · skip
      refine gz X0 53 #[vr a1, vi p2, vi 1, vi c1] [(.int 1)] (fun _ k => cY X0 hx 20 52 rfl (dk d22_20) rfl (tlt c13).2.2.1 (kC X0 hx (dk d22_52) k)) ?_
      refine Go.retJ X0 hx hlk (t := .int) hret (dk d22_53) ?_
      rw [e0]
      exact ⟨N0, (congrArg (fun q => some (Value.int q)) (own_u1 hr1 (own_cpb c13))), rfl⟩
    · skip
      refine gz X0 34 #[vr a1, vi p2, vi 1, vi c1] [(.int 2), (.ref a1)] (fun _ k => cN X0 hx (dk d22_20) rfl (flt c13).2.2.1 (lN X0 hx (dk d22_23) rfl (kC X0 hx (dk d22_24) (pI X0 hx (dk d22_25) rfl (lN X0 hx (dk d22_26) rfl (cN X0 hx (dk d22_27) rfl (tlt hp1).2.1 (aN X0 hx (dk d22_30) rfl rfl (lN X0 hx (dk d22_31) rfl (kC X0 hx (dk d22_32) (pI X0 hx (dk d22_33) rfl k)))))))))) ?_
      obtain ⟨cl14, Ar14, q14, S14, N_14, Hs14, G14⟩ := id pr0
      have hin15 : ¬ ((2 : Int32) < 0 ∨ cl14.slots.size ≤ ((2 : Int32)).toNatClampNeg) := inb_of S14 ⟨by decide, by decide⟩
      have hat15 : cl14.slots[((2 : Int32)).toNatClampNeg]? = some (.int c2) := Hs14.at hin15 rfl
      refine gz X0 35 #[vr a1, vi p2, vi 1, vi c1] [(.int c2)] (fun _ k => X0.caload hx (j := (2 : Int32)) (v := (.int c2)) (by rw [e0]; exact Ar14.1) (State.isArrayOf_alike hZ.alike Ar14.2.1) Ar14.2.2 hin15 hat15 (g := (mkF m 34 #[vr a1, vi p2, vi 1, vi c1] [(.int 2), (.ref a1)])) rfl rfl (dk d22_34) _ k) ?_
      refine gz X0 37 #[vr a1, vi p2, vi 1, vi c1] [(.int 56320), (.int c2)] (fun _ k => X0.ldcInt hx hown (mvT hZ (W 206 rfl)) (g := (mkF m 35 #[vr a1, vi p2, vi 1, vi c1] [(.int c2)])) rfl (dk d22_35) _ k) ?_
      by_cases c16 : c2 < (56320 : Int32)
      · skip
        refine gz X0 53 #[vr a1, vi p2, vi 1, vi c1] [(.int 1)] (fun _ k => cY X0 hx 37 52 rfl (dk d22_37) rfl (tlt c16).1 (kC X0 hx (dk d22_52) k)) ?_
        refine Go.retJ X0 hx hlk (t := .int) hret (dk d22_53) ?_
        rw [e0]
        exact ⟨N0, (congrArg (fun q => some (Value.int q)) (own_u1 hr1 (own_cpc c16))), rfl⟩
      · skip
        refine gz X0 44 #[vr a1, vi p2, vi 1, vi c1] [(.int 2), (.ref a1)] (fun _ k => cN X0 hx (dk d22_37) rfl (flt c16).1 (aN X0 hx (dk d22_40) rfl rfl (lN X0 hx (dk d22_41) rfl (kC X0 hx (dk d22_42) (pI X0 hx (dk d22_43) rfl k))))) ?_
        obtain ⟨cl17, Ar17, q17, S17, N_17, Hs17, G17⟩ := id pr0
        have hin18 : ¬ ((2 : Int32) < 0 ∨ cl17.slots.size ≤ ((2 : Int32)).toNatClampNeg) := inb_of S17 ⟨by decide, by decide⟩
        have hat18 : cl17.slots[((2 : Int32)).toNatClampNeg]? = some (.int c2) := Hs17.at hin18 rfl
        refine gz X0 45 #[vr a1, vi p2, vi 1, vi c1] [(.int c2)] (fun _ k => X0.caload hx (j := (2 : Int32)) (v := (.int c2)) (by rw [e0]; exact Ar17.1) (State.isArrayOf_alike hZ.alike Ar17.2.1) Ar17.2.2 hin18 hat18 (g := (mkF m 44 #[vr a1, vi p2, vi 1, vi c1] [(.int 2), (.ref a1)])) rfl rfl (dk d22_44) _ k) ?_
        refine gz X0 47 #[vr a1, vi p2, vi 1, vi c1] [(.int 57343), (.int c2)] (fun _ k => X0.ldcInt hx hown (mvT hZ (W 207 rfl)) (g := (mkF m 45 #[vr a1, vi p2, vi 1, vi c1] [(.int c2)])) rfl (dk d22_45) _ k) ?_
        by_cases c19 : (57343 : Int32) < c2
        · skip
          refine gz X0 53 #[vr a1, vi p2, vi 1, vi c1] [(.int 1)] (fun _ k => cY X0 hx 47 52 rfl (dk d22_47) rfl (tlt c19).2.2.1 (kC X0 hx (dk d22_52) k)) ?_
          refine Go.retJ X0 hx hlk (t := .int) hret (dk d22_53) ?_
          rw [e0]
          exact ⟨N0, (congrArg (fun q => some (Value.int q)) (own_u1 hr1 (own_cpd c19))), rfl⟩
        · skip
          refine gz X0 51 #[vr a1, vi p2, vi 1, vi c1] [(.int 2)] (fun _ k => cN X0 hx (dk d22_47) rfl (flt c19).2.2.1 (kC X0 hx (dk d22_50) k)) ?_
          refine Go.retJ X0 hx hlk (t := .int) hret (dk d22_51) ?_
          rw [e0]
          exact ⟨N0, (congrArg (fun q => some (Value.int q)) (own_u2 c12 c13 c16 c19)), rfl⟩
theorem rm_by1p {l : Launch} {Z : State} {a0 : Array Value} (hw : HW a0 Z) (a1 : Addr) (ka : ClassId) (c0 : Int32) (c1 : Int32) (c2 : Int32) (p2 : Int32) (h0 : Heap) (n0 : Nat) (Z0 : n0 ≤ h0.size) (pr0 : Arv Z h0 a1 ka .char (3 : Int32) [(.int c0), (.int c1), (.int c2)] (.int 0)) (hr0 : own_rng c0) (hr1 : own_rng c1) (hr2 : own_rng c2) (hp0 : (1 : Int32) < p2) (hp1 : (2 : Int32) < p2) :
    Met l Z Y2 B45 4 (some .int) [] ({ frames := 1, cells := 0, slots := 0, locals := 15 } : Room) #[(.ref a1), (.int p2), (.int 1)] h0 (fun vv h L => Fr n0 L ∧ vv = some (.int (own_len (own_cp c1 c2))) ∧ h = h0) := by
  refine Met.enter (f0 := fun m => mkF m 0 #[vr a1, vi p2, vi 1, .unset] []) (plainFor_of_name pn0) (fun m => oe m 1) ?_
  intro p e s m below meth c s₁ hx hby hml hown hnm hret hlk hZ X0 e0
  have dk : Dk B45 c := fun h => hb hby h
  have W := @wd _ _ _ hw
  have N0 := Fr.nil n0
  refine gz X0 10 #[vr a1, vi p2, vi 1, .unset] [(.int 1), (.int p2), (.ref a1)] (fun _ k => lN X0 hx (dk d21_0) rfl (lN X0 hx (dk d21_1) rfl (cY X0 hx 2 7 rfl (dk d21_2) rfl (tlt hp0).1 (aN X0 hx (dk d21_7) rfl rfl (lN X0 hx (dk d21_8) rfl (lN X0 hx (dk d21_9) rfl k)))))) ?_
  refine goS X0 hx hZ hown (W 94 rfl) (m42 hw) 3 0 0 (rm_un1p hw a1 ka c0 c1 c2 p2 h0 n0 Z0 pr0 hr0 hr1 hr2 hp0 hp1) N0 e0 pd_30 hml (dk d21_10) ?_
  rintro _ T10 L10 X10 N10 ⟨rfl, hh10⟩
  refine gz X10 14 #[vr a1, vi p2, vi 1, .unset] [(.int 2), (.int (own_cnt (own_cp c1 c2)))] (fun _ k => kC X10 hx (dk d21_13) k) ?_
  by_cases c11 : (own_cnt (own_cp c1 c2)) = (2 : Int32)
  · skip
    refine gz X10 18 #[vr a1, vi p2, vi 1, .unset] [(.int 4)] (fun _ k => cN X10 hx (dk d21_14) rfl (teq c11).2 (kC X10 hx (dk d21_17) k)) ?_
    refine Go.retJ X10 hx hlk (t := .int) hret (dk d21_18) ?_
    rw [hh10]
    exact ⟨N10, (congrArg (fun q => some (Value.int q)) (own_len4 c11)), rfl⟩
  · skip
    refine gz X10 21 #[vr a1, vi p2, vi 1, .unset] [(.int 1), (.ref a1)] (fun _ k => cY X10 hx 14 19 rfl (dk d21_14) rfl (feq c11).2 (aN X10 hx (dk d21_19) rfl rfl (lN X10 hx (dk d21_20) rfl k))) ?_
    obtain ⟨cl12, Ar12, q12, S12, N_12, Hs12, G12⟩ := id pr0
    have hin13 : ¬ ((1 : Int32) < 0 ∨ cl12.slots.size ≤ ((1 : Int32)).toNatClampNeg) := inb_of S12 ⟨by decide, by decide⟩
    have hat13 : cl12.slots[((1 : Int32)).toNatClampNeg]? = some (.int c1) := Hs12.at hin13 rfl
    refine gz X10 22 #[vr a1, vi p2, vi 1, .unset] [(.int c1)] (fun _ k => X10.caload hx (j := (1 : Int32)) (v := (.int c1)) (by rw [hh10]; exact Ar12.1) (State.isArrayOf_alike hZ.alike Ar12.2.1) Ar12.2.2 hin13 hat13 (g := (mkF m 21 #[vr a1, vi p2, vi 1, .unset] [(.int 1), (.ref a1)])) rfl rfl (dk d21_21) _ k) ?_
    refine gz X10 27 #[vr a1, vi p2, vi 1, vi c1] [(.int 128), (.int c1)] (fun _ k => sN X10 hx (dk d21_22) rfl rfl (.inl rfl) (lN X10 hx (dk d21_23) rfl (XS.sipush X10.here hx rfl (dk d21_24) k))) ?_
    by_cases c14 : c1 < (128 : Int32)
    · skip
      refine gz X10 31 #[vr a1, vi p2, vi 1, vi c1] [(.int 1)] (fun _ k => cN X10 hx (dk d21_27) rfl (tlt c14).2.1 (kC X10 hx (dk d21_30) k)) ?_
      refine Go.retJ X10 hx hlk (t := .int) hret (dk d21_31) ?_
      rw [hh10]
      exact ⟨N10, (congrArg (fun q => some (Value.int q)) ((own_len0 c14).trans (congrArg own_len (own_cpC c11).symm))), rfl⟩
    · skip
      refine gz X10 36 #[vr a1, vi p2, vi 1, vi c1] [(.int 2048), (.int c1)] (fun _ k => cY X10 hx 27 32 rfl (dk d21_27) rfl (flt c14).2.1 (lN X10 hx (dk d21_32) rfl (XS.sipush X10.here hx rfl (dk d21_33) k))) ?_
      by_cases c15 : c1 < (2048 : Int32)
      · skip
        refine gz X10 40 #[vr a1, vi p2, vi 1, vi c1] [(.int 2)] (fun _ k => cN X10 hx (dk d21_36) rfl (tlt c15).2.1 (kC X10 hx (dk d21_39) k)) ?_
        refine Go.retJ X10 hx hlk (t := .int) hret (dk d21_40) ?_
        rw [hh10]
        exact ⟨N10, (congrArg (fun q => some (Value.int q)) ((own_len1 c14 c15).trans (congrArg own_len (own_cpC c11).symm))), rfl⟩
      · skip
        refine gz X10 42 #[vr a1, vi p2, vi 1, vi c1] [(.int 3)] (fun _ k => cY X10 hx 36 41 rfl (dk d21_36) rfl (flt c15).2.1 (kC X10 hx (dk d21_41) k)) ?_
        refine Go.retJ X10 hx hlk (t := .int) hret (dk d21_42) ?_
        rw [hh10]
        exact ⟨N10, (congrArg (fun q => some (Value.int q)) ((own_len2 c14 c15 (own_r16 hr1)).trans (congrArg own_len (own_cpC c11).symm))), rfl⟩
theorem rm_un1l {l : Launch} {Z : State} {a0 : Array Value} (hw : HW a0 Z) (a1 : Addr) (ka : ClassId) (c0 : Int32) (c1 : Int32) (c2 : Int32) (p2 : Int32) (h0 : Heap) (n0 : Nat) (Z0 : n0 ≤ h0.size) (pr0 : Arv Z h0 a1 ka .char (3 : Int32) [(.int c0), (.int c1), (.int c2)] (.int 0)) (hr0 : own_rng c0) (hr1 : own_rng c1) (hr2 : own_rng c2) (hp0 : (1 : Int32) < p2) (hp1 : ¬ ((2 : Int32) < p2)) :
    Met l Z Y5 B44 4 (some .int) [] ({ frames := 0, cells := 0, slots := 0, locals := 0 } : Room) #[(.ref a1), (.int p2), (.int 1)] h0 (fun vv h L => Fr n0 L ∧ vv = some (.int 1) ∧ h = h0) := by
  refine Met.enter (f0 := fun m => mkF m 0 #[vr a1, vi p2, vi 1, .unset] []) (plainFor_of_name pn0) (fun m => oe m 1) ?_
  intro p e s m below meth c s₁ hx hby hml hown hnm hret hlk hZ X0 e0
  have dk : Dk B44 c := fun h => hb hby h
  have W := @wd _ _ _ hw
  have N0 := Fr.nil n0
  refine gz X0 9 #[vr a1, vi p2, vi 1, .unset] [(.int 1), (.ref a1)] (fun _ k => lN X0 hx (dk d22_0) rfl (lN X0 hx (dk d22_1) rfl (cY X0 hx 2 7 rfl (dk d22_2) rfl (tlt hp0).1 (aN X0 hx (dk d22_7) rfl rfl (lN X0 hx (dk d22_8) rfl k))))) ?_
  obtain ⟨cl10, Ar10, q10, S10, N_10, Hs10, G10⟩ := id pr0
  have hin11 : ¬ ((1 : Int32) < 0 ∨ cl10.slots.size ≤ ((1 : Int32)).toNatClampNeg) := inb_of S10 ⟨by decide, by decide⟩
  have hat11 : cl10.slots[((1 : Int32)).toNatClampNeg]? = some (.int c1) := Hs10.at hin11 rfl
  refine gz X0 10 #[vr a1, vi p2, vi 1, .unset] [(.int c1)] (fun _ k => X0.caload hx (j := (1 : Int32)) (v := (.int c1)) (by rw [e0]; exact Ar10.1) (State.isArrayOf_alike hZ.alike Ar10.2.1) Ar10.2.2 hin11 hat11 (g := (mkF m 9 #[vr a1, vi p2, vi 1, .unset] [(.int 1), (.ref a1)])) rfl rfl (dk d22_9) _ k) ?_
  refine gz X0 14 #[vr a1, vi p2, vi 1, vi c1] [(.int 55296), (.int c1)] (fun _ k => sN X0 hx (dk d22_10) rfl rfl (.inl rfl) (lN X0 hx (dk d22_11) rfl (X0.ldcInt hx hown (mvT hZ (W 97 rfl)) (g := (mkF m 12 #[vr a1, vi p2, vi 1, vi c1] [(.int c1)])) rfl (dk d22_12) _ k))) ?_
  by_cases c12 : c1 < (55296 : Int32)
  · skip
    refine gz X0 53 #[vr a1, vi p2, vi 1, vi c1] [(.int 1)] (fun _ k => cY X0 hx 14 52 rfl (dk d22_14) rfl (tlt c12).1 (kC X0 hx (dk d22_52) k)) ?_
    refine Go.retJ X0 hx hlk (t := .int) hret (dk d22_53) ?_
    rw [e0]
    exact ⟨N0, rfl, rfl⟩
  · skip
    refine gz X0 20 #[vr a1, vi p2, vi 1, vi c1] [(.int 56319), (.int c1)] (fun _ k => cN X0 hx (dk d22_14) rfl (flt c12).1 (lN X0 hx (dk d22_17) rfl (X0.ldcInt hx hown (mvT hZ (W 149 rfl)) (g := (mkF m 18 #[vr a1, vi p2, vi 1, vi c1] [(.int c1)])) rfl (dk d22_18) _ k))) ?_
    by_cases c13 : (56319 : Int32) < c1
    · skip
      refine gz X0 53 #[vr a1, vi p2, vi 1, vi c1] [(.int 1)] (fun _ k => cY X0 hx 20 52 rfl (dk d22_20) rfl (tlt c13).2.2.1 (kC X0 hx (dk d22_52) k)) ?_
      refine Go.retJ X0 hx hlk (t := .int) hret (dk d22_53) ?_
      rw [e0]
      exact ⟨N0, rfl, rfl⟩
    · skip
      refine gz X0 53 #[vr a1, vi p2, vi 1, vi c1] [(.int 1)] (fun _ k => cN X0 hx (dk d22_20) rfl (flt c13).2.2.1 (lN X0 hx (dk d22_23) rfl (kC X0 hx (dk d22_24) (pI X0 hx (dk d22_25) rfl (lN X0 hx (dk d22_26) rfl (cY X0 hx 27 52 rfl (dk d22_27) rfl (flt hp1).2.1 (kC X0 hx (dk d22_52) k))))))) ?_
      refine Go.retJ X0 hx hlk (t := .int) hret (dk d22_53) ?_
      rw [e0]
      exact ⟨N0, rfl, rfl⟩
theorem rm_by1l {l : Launch} {Z : State} {a0 : Array Value} (hw : HW a0 Z) (a1 : Addr) (ka : ClassId) (c0 : Int32) (c1 : Int32) (c2 : Int32) (p2 : Int32) (h0 : Heap) (n0 : Nat) (Z0 : n0 ≤ h0.size) (pr0 : Arv Z h0 a1 ka .char (3 : Int32) [(.int c0), (.int c1), (.int c2)] (.int 0)) (hr0 : own_rng c0) (hr1 : own_rng c1) (hr2 : own_rng c2) (hp0 : (1 : Int32) < p2) (hp1 : ¬ ((2 : Int32) < p2)) :
    Met l Z Y2 B45 4 (some .int) [] ({ frames := 1, cells := 0, slots := 0, locals := 15 } : Room) #[(.ref a1), (.int p2), (.int 1)] h0 (fun vv h L => Fr n0 L ∧ vv = some (.int (own_len c1)) ∧ h = h0) := by
  refine Met.enter (f0 := fun m => mkF m 0 #[vr a1, vi p2, vi 1, .unset] []) (plainFor_of_name pn0) (fun m => oe m 1) ?_
  intro p e s m below meth c s₁ hx hby hml hown hnm hret hlk hZ X0 e0
  have dk : Dk B45 c := fun h => hb hby h
  have W := @wd _ _ _ hw
  have N0 := Fr.nil n0
  refine gz X0 10 #[vr a1, vi p2, vi 1, .unset] [(.int 1), (.int p2), (.ref a1)] (fun _ k => lN X0 hx (dk d21_0) rfl (lN X0 hx (dk d21_1) rfl (cY X0 hx 2 7 rfl (dk d21_2) rfl (tlt hp0).1 (aN X0 hx (dk d21_7) rfl rfl (lN X0 hx (dk d21_8) rfl (lN X0 hx (dk d21_9) rfl k)))))) ?_
  refine goS X0 hx hZ hown (W 94 rfl) (m42 hw) 3 0 0 (rm_un1l hw a1 ka c0 c1 c2 p2 h0 n0 Z0 pr0 hr0 hr1 hr2 hp0 hp1) N0 e0 pd_30 hml (dk d21_10) ?_
  rintro _ T10 L10 X10 N10 ⟨rfl, hh10⟩
  refine gz X10 21 #[vr a1, vi p2, vi 1, .unset] [(.int 1), (.ref a1)] (fun _ k => kC X10 hx (dk d21_13) (cY X10 hx 14 19 rfl (dk d21_14) rfl (feq (by decide)).2 (aN X10 hx (dk d21_19) rfl rfl (lN X10 hx (dk d21_20) rfl k)))) ?_
  obtain ⟨cl11, Ar11, q11, S11, N_11, Hs11, G11⟩ := id pr0
  have hin12 : ¬ ((1 : Int32) < 0 ∨ cl11.slots.size ≤ ((1 : Int32)).toNatClampNeg) := inb_of S11 ⟨by decide, by decide⟩
  have hat12 : cl11.slots[((1 : Int32)).toNatClampNeg]? = some (.int c1) := Hs11.at hin12 rfl
  refine gz X10 22 #[vr a1, vi p2, vi 1, .unset] [(.int c1)] (fun _ k => X10.caload hx (j := (1 : Int32)) (v := (.int c1)) (by rw [hh10]; exact Ar11.1) (State.isArrayOf_alike hZ.alike Ar11.2.1) Ar11.2.2 hin12 hat12 (g := (mkF m 21 #[vr a1, vi p2, vi 1, .unset] [(.int 1), (.ref a1)])) rfl rfl (dk d21_21) _ k) ?_
  refine gz X10 27 #[vr a1, vi p2, vi 1, vi c1] [(.int 128), (.int c1)] (fun _ k => sN X10 hx (dk d21_22) rfl rfl (.inl rfl) (lN X10 hx (dk d21_23) rfl (XS.sipush X10.here hx rfl (dk d21_24) k))) ?_
  by_cases c13 : c1 < (128 : Int32)
  · skip
    refine gz X10 31 #[vr a1, vi p2, vi 1, vi c1] [(.int 1)] (fun _ k => cN X10 hx (dk d21_27) rfl (tlt c13).2.1 (kC X10 hx (dk d21_30) k)) ?_
    refine Go.retJ X10 hx hlk (t := .int) hret (dk d21_31) ?_
    rw [hh10]
    exact ⟨N10, (congrArg (fun q => some (Value.int q)) (own_len0 c13)), rfl⟩
  · skip
    refine gz X10 36 #[vr a1, vi p2, vi 1, vi c1] [(.int 2048), (.int c1)] (fun _ k => cY X10 hx 27 32 rfl (dk d21_27) rfl (flt c13).2.1 (lN X10 hx (dk d21_32) rfl (XS.sipush X10.here hx rfl (dk d21_33) k))) ?_
    by_cases c14 : c1 < (2048 : Int32)
    · skip
      refine gz X10 40 #[vr a1, vi p2, vi 1, vi c1] [(.int 2)] (fun _ k => cN X10 hx (dk d21_36) rfl (tlt c14).2.1 (kC X10 hx (dk d21_39) k)) ?_
      refine Go.retJ X10 hx hlk (t := .int) hret (dk d21_40) ?_
      rw [hh10]
      exact ⟨N10, (congrArg (fun q => some (Value.int q)) (own_len1 c13 c14)), rfl⟩
    · skip
      refine gz X10 42 #[vr a1, vi p2, vi 1, vi c1] [(.int 3)] (fun _ k => cY X10 hx 36 41 rfl (dk d21_36) rfl (flt c14).2.1 (kC X10 hx (dk d21_41) k)) ?_
      refine Go.retJ X10 hx hlk (t := .int) hret (dk d21_42) ?_
      rw [hh10]
      exact ⟨N10, (congrArg (fun q => some (Value.int q)) (own_len2 c13 c14 (own_r16 hr1))), rfl⟩
theorem rm_un2l {l : Launch} {Z : State} {a0 : Array Value} (hw : HW a0 Z) (a1 : Addr) (ka : ClassId) (c0 : Int32) (c1 : Int32) (c2 : Int32) (p2 : Int32) (h0 : Heap) (n0 : Nat) (Z0 : n0 ≤ h0.size) (pr0 : Arv Z h0 a1 ka .char (3 : Int32) [(.int c0), (.int c1), (.int c2)] (.int 0)) (hr0 : own_rng c0) (hr1 : own_rng c1) (hr2 : own_rng c2) (hp0 : (2 : Int32) < p2) (hp1 : ¬ ((3 : Int32) < p2)) :
    Met l Z Y5 B44 4 (some .int) [] ({ frames := 0, cells := 0, slots := 0, locals := 0 } : Room) #[(.ref a1), (.int p2), (.int 2)] h0 (fun vv h L => Fr n0 L ∧ vv = some (.int 1) ∧ h = h0) := by
  refine Met.enter (f0 := fun m => mkF m 0 #[vr a1, vi p2, vi 2, .unset] []) (plainFor_of_name pn0) (fun m => oe m 1) ?_
  intro p e s m below meth c s₁ hx hby hml hown hnm hret hlk hZ X0 e0
  have dk : Dk B44 c := fun h => hb hby h
  have W := @wd _ _ _ hw
  have N0 := Fr.nil n0
  refine gz X0 9 #[vr a1, vi p2, vi 2, .unset] [(.int 2), (.ref a1)] (fun _ k => lN X0 hx (dk d22_0) rfl (lN X0 hx (dk d22_1) rfl (cY X0 hx 2 7 rfl (dk d22_2) rfl (tlt hp0).1 (aN X0 hx (dk d22_7) rfl rfl (lN X0 hx (dk d22_8) rfl k))))) ?_
  obtain ⟨cl10, Ar10, q10, S10, N_10, Hs10, G10⟩ := id pr0
  have hin11 : ¬ ((2 : Int32) < 0 ∨ cl10.slots.size ≤ ((2 : Int32)).toNatClampNeg) := inb_of S10 ⟨by decide, by decide⟩
  have hat11 : cl10.slots[((2 : Int32)).toNatClampNeg]? = some (.int c2) := Hs10.at hin11 rfl
  refine gz X0 10 #[vr a1, vi p2, vi 2, .unset] [(.int c2)] (fun _ k => X0.caload hx (j := (2 : Int32)) (v := (.int c2)) (by rw [e0]; exact Ar10.1) (State.isArrayOf_alike hZ.alike Ar10.2.1) Ar10.2.2 hin11 hat11 (g := (mkF m 9 #[vr a1, vi p2, vi 2, .unset] [(.int 2), (.ref a1)])) rfl rfl (dk d22_9) _ k) ?_
  refine gz X0 14 #[vr a1, vi p2, vi 2, vi c2] [(.int 55296), (.int c2)] (fun _ k => sN X0 hx (dk d22_10) rfl rfl (.inl rfl) (lN X0 hx (dk d22_11) rfl (X0.ldcInt hx hown (mvT hZ (W 97 rfl)) (g := (mkF m 12 #[vr a1, vi p2, vi 2, vi c2] [(.int c2)])) rfl (dk d22_12) _ k))) ?_
  by_cases c12 : c2 < (55296 : Int32)
  · skip
    refine gz X0 53 #[vr a1, vi p2, vi 2, vi c2] [(.int 1)] (fun _ k => cY X0 hx 14 52 rfl (dk d22_14) rfl (tlt c12).1 (kC X0 hx (dk d22_52) k)) ?_
    refine Go.retJ X0 hx hlk (t := .int) hret (dk d22_53) ?_
    rw [e0]
    exact ⟨N0, rfl, rfl⟩
  · skip
    refine gz X0 20 #[vr a1, vi p2, vi 2, vi c2] [(.int 56319), (.int c2)] (fun _ k => cN X0 hx (dk d22_14) rfl (flt c12).1 (lN X0 hx (dk d22_17) rfl (X0.ldcInt hx hown (mvT hZ (W 149 rfl)) (g := (mkF m 18 #[vr a1, vi p2, vi 2, vi c2] [(.int c2)])) rfl (dk d22_18) _ k))) ?_
    by_cases c13 : (56319 : Int32) < c2
    · skip
      refine gz X0 53 #[vr a1, vi p2, vi 2, vi c2] [(.int 1)] (fun _ k => cY X0 hx 20 52 rfl (dk d22_20) rfl (tlt c13).2.2.1 (kC X0 hx (dk d22_52) k)) ?_
      refine Go.retJ X0 hx hlk (t := .int) hret (dk d22_53) ?_
      rw [e0]
      exact ⟨N0, rfl, rfl⟩
    · skip
      refine gz X0 53 #[vr a1, vi p2, vi 2, vi c2] [(.int 1)] (fun _ k => cN X0 hx (dk d22_20) rfl (flt c13).2.2.1 (lN X0 hx (dk d22_23) rfl (kC X0 hx (dk d22_24) (pI X0 hx (dk d22_25) rfl (lN X0 hx (dk d22_26) rfl (cY X0 hx 27 52 rfl (dk d22_27) rfl (flt hp1).2.1 (kC X0 hx (dk d22_52) k))))))) ?_
      refine Go.retJ X0 hx hlk (t := .int) hret (dk d22_53) ?_
      rw [e0]
      exact ⟨N0, rfl, rfl⟩
theorem rm_by2l {l : Launch} {Z : State} {a0 : Array Value} (hw : HW a0 Z) (a1 : Addr) (ka : ClassId) (c0 : Int32) (c1 : Int32) (c2 : Int32) (p2 : Int32) (h0 : Heap) (n0 : Nat) (Z0 : n0 ≤ h0.size) (pr0 : Arv Z h0 a1 ka .char (3 : Int32) [(.int c0), (.int c1), (.int c2)] (.int 0)) (hr0 : own_rng c0) (hr1 : own_rng c1) (hr2 : own_rng c2) (hp0 : (2 : Int32) < p2) (hp1 : ¬ ((3 : Int32) < p2)) :
    Met l Z Y2 B45 4 (some .int) [] ({ frames := 1, cells := 0, slots := 0, locals := 15 } : Room) #[(.ref a1), (.int p2), (.int 2)] h0 (fun vv h L => Fr n0 L ∧ vv = some (.int (own_len c2)) ∧ h = h0) := by
  refine Met.enter (f0 := fun m => mkF m 0 #[vr a1, vi p2, vi 2, .unset] []) (plainFor_of_name pn0) (fun m => oe m 1) ?_
  intro p e s m below meth c s₁ hx hby hml hown hnm hret hlk hZ X0 e0
  have dk : Dk B45 c := fun h => hb hby h
  have W := @wd _ _ _ hw
  have N0 := Fr.nil n0
  refine gz X0 10 #[vr a1, vi p2, vi 2, .unset] [(.int 2), (.int p2), (.ref a1)] (fun _ k => lN X0 hx (dk d21_0) rfl (lN X0 hx (dk d21_1) rfl (cY X0 hx 2 7 rfl (dk d21_2) rfl (tlt hp0).1 (aN X0 hx (dk d21_7) rfl rfl (lN X0 hx (dk d21_8) rfl (lN X0 hx (dk d21_9) rfl k)))))) ?_
  refine goS X0 hx hZ hown (W 94 rfl) (m42 hw) 3 0 0 (rm_un2l hw a1 ka c0 c1 c2 p2 h0 n0 Z0 pr0 hr0 hr1 hr2 hp0 hp1) N0 e0 pd_30 hml (dk d21_10) ?_
  rintro _ T10 L10 X10 N10 ⟨rfl, hh10⟩
  refine gz X10 21 #[vr a1, vi p2, vi 2, .unset] [(.int 2), (.ref a1)] (fun _ k => kC X10 hx (dk d21_13) (cY X10 hx 14 19 rfl (dk d21_14) rfl (feq (by decide)).2 (aN X10 hx (dk d21_19) rfl rfl (lN X10 hx (dk d21_20) rfl k)))) ?_
  obtain ⟨cl11, Ar11, q11, S11, N_11, Hs11, G11⟩ := id pr0
  have hin12 : ¬ ((2 : Int32) < 0 ∨ cl11.slots.size ≤ ((2 : Int32)).toNatClampNeg) := inb_of S11 ⟨by decide, by decide⟩
  have hat12 : cl11.slots[((2 : Int32)).toNatClampNeg]? = some (.int c2) := Hs11.at hin12 rfl
  refine gz X10 22 #[vr a1, vi p2, vi 2, .unset] [(.int c2)] (fun _ k => X10.caload hx (j := (2 : Int32)) (v := (.int c2)) (by rw [hh10]; exact Ar11.1) (State.isArrayOf_alike hZ.alike Ar11.2.1) Ar11.2.2 hin12 hat12 (g := (mkF m 21 #[vr a1, vi p2, vi 2, .unset] [(.int 2), (.ref a1)])) rfl rfl (dk d21_21) _ k) ?_
  refine gz X10 27 #[vr a1, vi p2, vi 2, vi c2] [(.int 128), (.int c2)] (fun _ k => sN X10 hx (dk d21_22) rfl rfl (.inl rfl) (lN X10 hx (dk d21_23) rfl (XS.sipush X10.here hx rfl (dk d21_24) k))) ?_
  by_cases c13 : c2 < (128 : Int32)
  · skip
    refine gz X10 31 #[vr a1, vi p2, vi 2, vi c2] [(.int 1)] (fun _ k => cN X10 hx (dk d21_27) rfl (tlt c13).2.1 (kC X10 hx (dk d21_30) k)) ?_
    refine Go.retJ X10 hx hlk (t := .int) hret (dk d21_31) ?_
    rw [hh10]
    exact ⟨N10, (congrArg (fun q => some (Value.int q)) (own_len0 c13)), rfl⟩
  · skip
    refine gz X10 36 #[vr a1, vi p2, vi 2, vi c2] [(.int 2048), (.int c2)] (fun _ k => cY X10 hx 27 32 rfl (dk d21_27) rfl (flt c13).2.1 (lN X10 hx (dk d21_32) rfl (XS.sipush X10.here hx rfl (dk d21_33) k))) ?_
    by_cases c14 : c2 < (2048 : Int32)
    · skip
      refine gz X10 40 #[vr a1, vi p2, vi 2, vi c2] [(.int 2)] (fun _ k => cN X10 hx (dk d21_36) rfl (tlt c14).2.1 (kC X10 hx (dk d21_39) k)) ?_
      refine Go.retJ X10 hx hlk (t := .int) hret (dk d21_40) ?_
      rw [hh10]
      exact ⟨N10, (congrArg (fun q => some (Value.int q)) (own_len1 c13 c14)), rfl⟩
    · skip
      refine gz X10 42 #[vr a1, vi p2, vi 2, vi c2] [(.int 3)] (fun _ k => cY X10 hx 36 41 rfl (dk d21_36) rfl (flt c14).2.1 (kC X10 hx (dk d21_41) k)) ?_
      refine Go.retJ X10 hx hlk (t := .int) hret (dk d21_42) ?_
      rw [hh10]
      exact ⟨N10, (congrArg (fun q => some (Value.int q)) (own_len2 c13 c14 (own_r16 hr2))), rfl⟩
theorem d22_5 : DK B44 5 (.iconst 0) 1 := by decide +kernel
theorem d22_6 : DK B44 6 .ireturn 1 := by decide +kernel
theorem rm_unO {l : Launch} {Z : State} {a0 : Array Value} (hw : HW a0 Z) (a1 : Addr) (p2 : Int32) (p3 : Int32) (h0 : Heap) (n0 : Nat) (Z0 : n0 ≤ h0.size) (hp0 : ¬ (p3 < p2)) :
    Met l Z Y5 B44 4 (some .int) [] ({ frames := 0, cells := 0, slots := 0, locals := 0 } : Room) #[(.ref a1), (.int p2), (.int p3)] h0 (fun vv h L => Fr n0 L ∧ vv = some (.int 0) ∧ h = h0) := by
  refine Met.enter (f0 := fun m => mkF m 0 #[vr a1, vi p2, vi p3, .unset] []) (plainFor_of_name pn0) (fun m => oe m 1) ?_
  intro p e s m below meth c s₁ hx hby hml hown hnm hret hlk hZ X0 e0
  have dk : Dk B44 c := fun h => hb hby h
  have W := @wd _ _ _ hw
  have N0 := Fr.nil n0
  refine gz X0 6 #[vr a1, vi p2, vi p3, .unset] [(.int 0)] (fun _ k => lN X0 hx (dk d22_0) rfl (lN X0 hx (dk d22_1) rfl (cN X0 hx (dk d22_2) rfl (flt hp0).1 (kC X0 hx (dk d22_5) k)))) ?_
  refine Go.retJ X0 hx hlk (t := .int) hret (dk d22_6) ?_
  rw [e0]
  exact ⟨N0, rfl, rfl⟩
theorem d21_5 : DK B45 5 (.iconst 0) 1 := by decide +kernel
theorem d21_6 : DK B45 6 .ireturn 1 := by decide +kernel
theorem rm_byO {l : Launch} {Z : State} {a0 : Array Value} (hw : HW a0 Z) (a1 : Addr) (p2 : Int32) (p3 : Int32) (h0 : Heap) (n0 : Nat) (Z0 : n0 ≤ h0.size) (hp0 : ¬ (p3 < p2)) :
    Met l Z Y2 B45 4 (some .int) [] ({ frames := 0, cells := 0, slots := 0, locals := 0 } : Room) #[(.ref a1), (.int p2), (.int p3)] h0 (fun vv h L => Fr n0 L ∧ vv = some (.int 0) ∧ h = h0) := by
  refine Met.enter (f0 := fun m => mkF m 0 #[vr a1, vi p2, vi p3, .unset] []) (plainFor_of_name pn0) (fun m => oe m 1) ?_
  intro p e s m below meth c s₁ hx hby hml hown hnm hret hlk hZ X0 e0
  have dk : Dk B45 c := fun h => hb hby h
  have W := @wd _ _ _ hw
  have N0 := Fr.nil n0
  refine gz X0 6 #[vr a1, vi p2, vi p3, .unset] [(.int 0)] (fun _ k => lN X0 hx (dk d21_0) rfl (lN X0 hx (dk d21_1) rfl (cN X0 hx (dk d21_2) rfl (flt hp0).1 (kC X0 hx (dk d21_5) k)))) ?_
  refine Go.retJ X0 hx hlk (t := .int) hret (dk d21_6) ?_
  rw [e0]
  exact ⟨N0, rfl, rfl⟩
theorem ef_rm0 (m : MethodId) (x0 : Int32) (x1 : Int32) (x2 : Int32) (x3 : Int32) (x4 : Int32) : entryFrame m #[(.int x0), (.int x1), (.int x2), (.int x3), (.int x4)] maxLocals = mkF m 0 #[vi x0, vi x1, vi x2, vi x3, vi x4, .unset, .unset, .unset, .unset, .unset, .unset, .unset, .unset, .unset, .unset, .unset, .unset] [] := by first | (simp [entryFrame, mkF, argsToLocals, Value.category, maxLocals]; done) | rfl
theorem pd_31 : parseMethodDescriptor "(I)C" = some ⟨[.int], some .char⟩ := by decide +kernel
theorem m43 {Z : State} {a0 : Array Value} (hw : HW a0 Z) : (Jvm.Cond.static Y3).before a0 Z = true ∧ (Jvm.Cond.initialized "com/example/orderly_outbox/orderlyoutbox/store/LastErrorCutPinLaw").before a0 Z = true ∧ (Jvm.Cond.code Y3 B42 (2 : Nat) (Option.some Jvm.ClassFile.FieldType.char)).before a0 Z = true := ⟨(wd hw 2 rfl), (wd hw 3 rfl), (wd hw 4 rfl)⟩
theorem pd_32 : parseMethodDescriptor "([CI)Ljava/lang/String;" = some ⟨[(.array .char), .int], some (.object "java/lang/String")⟩ := by decide +kernel
theorem pd_33 : parseMethodDescriptor "(Ljava/lang/String;I)Ljava/lang/String;" = some ⟨[(.object "java/lang/String"), .int], some (.object "java/lang/String")⟩ := by decide +kernel
theorem m44 {Z : State} {a0 : Array Value} (hw : HW a0 Z) : (Jvm.Cond.static Y0).before a0 Z = true ∧ (Jvm.Cond.initialized "com/example/orderly_outbox/orderlyoutbox/store/LastError").before a0 Z = true ∧ (Jvm.Cond.code Y0 B46 (5 : Nat) (Option.some (Jvm.ClassFile.FieldType.object "java/lang/String"))).before a0 Z = true := ⟨(wd hw 38 rfl), (wd hw 39 rfl), (wd hw 40 rfl)⟩
theorem m45 {Z : State} {a0 : Array Value} (hw : HW a0 Z) : (Jvm.Cond.static Y2).before a0 Z = true ∧ (Jvm.Cond.initialized "com/example/orderly_outbox/orderlyoutbox/store/LastErrorCutPinLaw").before a0 Z = true ∧ (Jvm.Cond.code Y2 B45 (4 : Nat) (Option.some Jvm.ClassFile.FieldType.int)).before a0 Z = true := ⟨(wd hw 92 rfl), (wd hw 3 rfl), (wd hw 93 rfl)⟩
theorem m46 {Z : State} {a0 : Array Value} (hw : HW a0 Z) : (Jvm.Cond.static Y4).before a0 Z = true ∧ (Jvm.Cond.initialized "com/example/orderly_outbox/orderlyoutbox/store/LastErrorCutPinLaw").before a0 Z = true ∧ (Jvm.Cond.code Y4 B43 (2 : Nat) (Option.some (Jvm.ClassFile.FieldType.object "java/lang/String"))).before a0 Z = true := ⟨(wd hw 6 rfl), (wd hw 3 rfl), (wd hw 7 rfl)⟩
theorem m47 {Z : State} {a0 : Array Value} (hw : HW a0 Z) : (Jvm.Cond.declares Y14).before a0 Z = true ∧ (Jvm.Cond.selects "java/lang/String" Y14 Y14).before a0 Z = true ∧ (Jvm.Cond.instanceMethod Y14).before a0 Z = true ∧ (Jvm.Cond.initialized "java/lang/String").before a0 Z = true ∧ (Jvm.Cond.code Y14 B13 (2 : Nat) (Option.some Jvm.ClassFile.FieldType.char)).before a0 Z = true := ⟨(wd hw 105 rfl), (wd hw 107 rfl), (wd hw 106 rfl), (wd hw 10 rfl), (wd hw 108 rfl)⟩
def Q_rm0 (Z : State) (p1 : Int32) (p2 : Int32) (p3 : Int32) (p4 : Int32) (p5 : Int32) (cs : Int32) (fm : Value) (h0 : Heap) (n0 : Nat) (vv : Option Value) (h : Heap) (L : List Loc) : Prop := vv = some (.int 1) ∧ Fr n0 L
theorem rm0 (l : Launch) (Z : State) (a0 : Array Value) (hw : HW a0 Z) (ws : List Jvm.Cond) (p1 : Int32) (p2 : Int32) (p3 : Int32) (p4 : Int32) (p5 : Int32) (cs : Int32) (fm : Value) (h0 : Heap) (n0 : Nat) (Z0 : n0 ≤ h0.size) (pr0 : Old Z n0 h0) (pr1 : S3 Z cs) (hcs : ¬ (cs = (0 : Int32))) (pr3 : S0 Z) (pr4 : S1 Z) (pr5 : S2 Z) (pr6 : S4 Z fm) (hr_fm : fm.isRef = true) :
    MetS l Z own_EL x code maxLocals ret ws room_1 #[(.int p1), (.int p2), (.int p3), (.int p4), (.int p5)] h0 (Q_rm0 Z p1 p2 p3 p4 p5 cs fm h0 n0) := by
  refine MetS.enter (f0 := fun m => mkF m 0 #[vi p1, vi p2, vi p3, vi p4, vi p5, .unset, .unset, .unset, .unset, .unset, .unset, .unset, .unset, .unset, .unset, .unset, .unset] []) (plainFor_of_name pn0) (fun m => ef_rm0 m p1 p2 p3 p4 p5) ?_
  intro p e s m below meth c s₁ hx hby hml hown hnm hret hlk hZ X0 e0 hS C0
  have dk : Dk code c := fun h => hb hby h
  have W := @wd _ _ _ hw
  have N0 := Fr.nil n0
  have hk : h0.size ≤ h0.size := Nat.le_refl _
  have hEL : EW Z a0 own_EL := own_hEL hw
  have wS : ∀ a ∈ Bundle.stringAtoms, a.before a0 Z = true := own_wS hw
  refine gz X0 3 #[vi p1, vi p2, vi p3, vi p4, vi p5, .unset, .unset, .unset, .unset, .unset, .unset, .unset, .unset, .unset, .unset, .unset, .unset] [(.int (p4 &&& (3 : Int32)))] (fun _ k => lN X0 hx (dk at_0) rfl (kC X0 hx (dk at_1) (XS.iand X0.here hx rfl (dk at_2) rfl k))) ?_
  obtain ⟨v10, hv10⟩ : ∃ v, v = (p4 &&& (3 : Int32)) := ⟨_, rfl⟩
  refine gz X0 5 #[vi p1, vi p2, vi p3, vi p4, vi p5, vi v10, .unset, .unset, .unset, .unset, .unset, .unset, .unset, .unset, .unset, .unset, .unset] [] (fun _ k => sI (x := v10) (rest := []) X0 hx (dk at_3) (by rw [hv10]) rfl (.inl rfl) k) ?_
  obtain ⟨lc11, X11, N11⟩ : ∃ lc, Stand p l e room_1 (s.setVm s.vm) m #[(.int p1), (.int p2), (.int p3), (.int p4), (.int p5)] below meth c s₁ lc 0 0 ∧ Fr n0 lc := ⟨_, X0, N0⟩
  have e11 : s₁.heap = h0 := e0
  have J11 : ∀ (T12 : State) (X12 : Stand p l e room_1 (s.setVm s.vm) m #[(.int p1), (.int p2), (.int p3), (.int p4), (.int p5)] below meth c T12 lc11 0 0) (e12 : T12.heap = h0) (mx12 : Int32), Go p e below (PostS Z own_EL s room_1.cells room_1.slots (Q_rm0 Z p1 p2 p3 p4 p5 cs fm h0 n0)) (T12.setTop (mkF m 25 #[vi p1, vi p2, vi p3, vi p4, vi p5, vi v10, .unset, .unset, .unset, .unset, .unset, .unset, .unset, .unset, .unset, .unset, .unset] [(.int mx12)])) := by
    intro T12 X12 e12 mx12
    refine gz X12 27 #[vi p1, vi p2, vi p3, vi p4, vi p5, vi v10, vi mx12, .unset, .unset, .unset, .unset, .unset, .unset, .unset, .unset, .unset, .unset] [] (fun _ k => sI X12 hx (dk at_25) rfl rfl (.inl rfl) k) ?_
    rcases own_and3 hv10 with rfl | rfl | rfl | rfl
    · skip
      refine gz X12 28 #[vi p1, vi p2, vi p3, vi p4, vi p5, vi 0, vi mx12, .unset, .unset, .unset, .unset, .unset, .unset, .unset, .unset, .unset, .unset] [(.int 3)] (fun _ k => kC X12 hx (dk at_27) k) ?_
      obtain ⟨T13, h13, k13, X13, e13, E13, A13, st13⟩ := newP X12 hx hZ (W 0 rfl) e12 (g := (mkF m 28 #[vi p1, vi p2, vi p3, vi p4, vi p5, vi 0, vi mx12, .unset, .unset, .unset, .unset, .unset, .unset, .unset, .unset, .unset, .unset] [(.int 3)])) rfl (dk at_28) rfl (by decide) (cap := 3) (by decide) (by decide) (by decide) (by decide)
      obtain ⟨b13, g13⟩ : ∃ z, z = h0.size := ⟨_, rfl⟩
      rw [← g13] at A13 st13
      have sz_b13 : h0.size ≤ b13 := Nat.le_of_eq g13.symm
      have V13 : Arv Z h13 b13 k13 .char (3 : Int32) [(.int 0), (.int 0), (.int 0)] (.int 0) := (Arv.new A13 (by decide)).pad (pad_rep [] (.int 0) 3)
      have C14 := C0.trans (CHr.ext E13 C0.1)
      have O14 := pr0.ext E13
      have Z14 : n0 ≤ h13.size := Nat.le_trans Z0 E13.1
      refine gz X13 33 #[vi p1, vi p2, vi p3, vi p4, vi p5, vi 0, vi mx12, .unset, .unset, .unset, .unset, .unset, .unset, .unset, .unset, .unset, .unset] [(.int p1), (.int 0), (.ref b13), (.ref b13)] (fun _ k => st13 _ (XS.dup X13.here hx rfl (dk at_30) rfl rfl (kC X13 hx (dk at_31) (lN X13 hx (dk at_32) rfl k)))) ?_
      refine goS X13 hx hZ hown (W 1 rfl) (m43 hw) 1 1 3 (rm_draw hw p1 h13 n0 Z14 ) N11 e13 pd_31 hml (dk at_33) ?_
      rintro _ T15 L15 X15 N15 ⟨v15, rfl, hh15, p15_0⟩
      obtain ⟨cl16, Ar16, q16, S16, N_16, Hs16, G16⟩ := id V13
      have hin17 : ¬ ((0 : Int32) < 0 ∨ cl16.slots.size ≤ ((0 : Int32)).toNatClampNeg) := inb_of S16 ⟨by decide, by decide⟩
      obtain ⟨T17, h17, X17, e17, W17, st17⟩ := stC X15 hx hZ hh15 Ar16 (j := (0 : Int32)) hin17 (g := (mkF m 36 #[vi p1, vi p2, vi p3, vi p4, vi p5, vi 0, vi mx12, .unset, .unset, .unset, .unset, .unset, .unset, .unset, .unset, .unset, .unset] [(.int v15), (.int 0), (.ref b13), (.ref b13)])) rfl rfl (dk at_36)
      rw [own_nc p15_0] at W17
      have C18 := C14.trans (CHr.wr W17 (Safe.arv hZ.alike V13 nofun) C14.1)
      have O18 := O14.wr W17 (Nat.le_trans Z0 sz_b13)
      have Z18 : n0 ≤ h17.size := Nat.le_trans Z14 (Keep.of_wr W17).1
      have V17 : Arv Z h17 b13 k13 .char (3 : Int32) [(.int v15), (.int 0), (.int 0)] (.int 0) := Arv.set Ar16 q16 S16 N_16 Hs16 G16 (own_fc p15_0) W17 0 rfl (Nat.le_of_ble_eq_true rfl)
      have N17 := Fr.snoc X17 N15 (Nat.le_trans Z0 sz_b13)
      refine gz X17 40 #[vi p1, vi p2, vi p3, vi p4, vi p5, vi 0, vi mx12, .unset, .unset, .unset, .unset, .unset, .unset, .unset, .unset, .unset, .unset] [(.int p2), (.int 1), (.ref b13), (.ref b13)] (fun _ k => st17 _ (XS.dup X17.here hx rfl (dk at_37) rfl rfl (kC X17 hx (dk at_38) (lN X17 hx (dk at_39) rfl k)))) ?_
      refine goS X17 hx hZ hown (W 1 rfl) (m43 hw) 1 1 3 (rm_draw hw p2 h17 n0 Z18 ) N17 e17 pd_31 hml (dk at_40) ?_
      rintro _ T19 L19 X19 N19 ⟨v19, rfl, hh19, p19_0⟩
      obtain ⟨cl20, Ar20, q20, S20, N_20, Hs20, G20⟩ := id V17
      have hin21 : ¬ ((1 : Int32) < 0 ∨ cl20.slots.size ≤ ((1 : Int32)).toNatClampNeg) := inb_of S20 ⟨by decide, by decide⟩
      obtain ⟨T21, h21, X21, e21, W21, st21⟩ := stC X19 hx hZ hh19 Ar20 (j := (1 : Int32)) hin21 (g := (mkF m 43 #[vi p1, vi p2, vi p3, vi p4, vi p5, vi 0, vi mx12, .unset, .unset, .unset, .unset, .unset, .unset, .unset, .unset, .unset, .unset] [(.int v19), (.int 1), (.ref b13), (.ref b13)])) rfl rfl (dk at_43)
      rw [own_nc p19_0] at W21
      have C22 := C18.trans (CHr.wr W21 (Safe.arv hZ.alike V17 nofun) C18.1)
      have O22 := O18.wr W21 (Nat.le_trans Z0 sz_b13)
      have Z22 : n0 ≤ h21.size := Nat.le_trans Z18 (Keep.of_wr W21).1
      have V21 : Arv Z h21 b13 k13 .char (3 : Int32) [(.int v15), (.int v19), (.int 0)] (.int 0) := Arv.set Ar20 q20 S20 N_20 Hs20 G20 (own_fc p19_0) W21 1 rfl (Nat.le_of_ble_eq_true rfl)
      have N21 := Fr.snoc X21 N19 (Nat.le_trans Z0 sz_b13)
      refine gz X21 47 #[vi p1, vi p2, vi p3, vi p4, vi p5, vi 0, vi mx12, .unset, .unset, .unset, .unset, .unset, .unset, .unset, .unset, .unset, .unset] [(.int p3), (.int 2), (.ref b13), (.ref b13)] (fun _ k => st21 _ (XS.dup X21.here hx rfl (dk at_44) rfl rfl (kC X21 hx (dk at_45) (lN X21 hx (dk at_46) rfl k)))) ?_
      refine goS X21 hx hZ hown (W 1 rfl) (m43 hw) 1 1 3 (rm_draw hw p3 h21 n0 Z22 ) N21 e21 pd_31 hml (dk at_47) ?_
      rintro _ T23 L23 X23 N23 ⟨v23, rfl, hh23, p23_0⟩
      obtain ⟨cl24, Ar24, q24, S24, N_24, Hs24, G24⟩ := id V21
      have hin25 : ¬ ((2 : Int32) < 0 ∨ cl24.slots.size ≤ ((2 : Int32)).toNatClampNeg) := inb_of S24 ⟨by decide, by decide⟩
      obtain ⟨T25, h25, X25, e25, W25, st25⟩ := stC X23 hx hZ hh23 Ar24 (j := (2 : Int32)) hin25 (g := (mkF m 50 #[vi p1, vi p2, vi p3, vi p4, vi p5, vi 0, vi mx12, .unset, .unset, .unset, .unset, .unset, .unset, .unset, .unset, .unset, .unset] [(.int v23), (.int 2), (.ref b13), (.ref b13)])) rfl rfl (dk at_50)
      rw [own_nc p23_0] at W25
      have C26 := C22.trans (CHr.wr W25 (Safe.arv hZ.alike V21 nofun) C22.1)
      have O26 := O22.wr W25 (Nat.le_trans Z0 sz_b13)
      have Z26 : n0 ≤ h25.size := Nat.le_trans Z22 (Keep.of_wr W25).1
      have V25 : Arv Z h25 b13 k13 .char (3 : Int32) [(.int v15), (.int v19), (.int v23)] (.int 0) := Arv.set Ar24 q24 S24 N_24 Hs24 G24 (own_fc p23_0) W25 2 rfl (Nat.le_of_ble_eq_true rfl)
      have N25 := Fr.snoc X25 N23 (Nat.le_trans Z0 sz_b13)
      refine gz X25 57 #[vi p1, vi p2, vi p3, vi p4, vi p5, vi 0, vi mx12, vr b13, .unset, .unset, .unset, .unset, .unset, .unset, .unset, .unset, .unset] [(.int 0), (.ref b13)] (fun _ k => st25 _ (tI X25 hx (dk at_51) rfl rfl rfl (.inl rfl) (aI X25 hx (dk at_53) rfl rfl (lI X25 hx (dk at_55) rfl k)))) ?_
      have hkT27 : _ ≤ T25.heap.size := (by rw [e25]; exact (Nat.le_trans (Nat.le_trans (Nat.le_trans (Nat.le_trans hk E13.1) (Keep.of_wr W17).1) (Keep.of_wr W21).1) (Keep.of_wr W25).1))
      obtain ⟨_, _, ⟨T27, L27, k27, n27⟩, -, X27, hSn27, hgr27, ⟨Lc27, hQ27, l27, y27, z27, CS27⟩, st27⟩ := callSS X25 hx (y := Y4) hown (mvT hZ (W 5 rfl)) (mvT hZ (W 6 rfl)) (mvT hZ (W 3 rfl)) (mvT hZ (W 7 rfl)) (by decide) (backOfSH (W := 0) (rm_text_0 hw b13 k13 v15 v19 v23 h25 n0 Z26 O26 V25) hZ (W 7 rfl) (W 3 rfl) (by decide) (by decide) hEL C26.1) (g := (mkF m 57 #[vi p1, vi p2, vi p3, vi p4, vi p5, vi 0, vi mx12, vr b13, .unset, .unset, .unset, .unset, .unset, .unset, .unset, .unset, .unset] [(.int 0), (.ref b13)])) rfl (by rw [hml]; rfl) (argsL := [(.ref b13), (.int 0)]) (rest := []) (lenOf pd_32 rfl) rfl (by show 2 * 0 + _ ≤ _; exact Nat.le_of_eq rfl) (dk at_57) (fun _ _ => ⟨rfl, e25, Nat.le_of_ble_eq_true rfl, Nat.le_of_ble_eq_true rfl⟩)
      dsimp only [Pt.U, Pt.locs, Pt.cells, Pt.slots] at X27 l27 y27 z27 st27 hQ27 hSn27 hgr27 CS27
      subst l27 y27 z27
      obtain ⟨X27, hS, hZ, hown⟩ := rebS hS hkT27 X27 hSn27 hgr27 hZ hown
      have hk : T27.heap.size ≤ T27.heap.size := Nat.le_refl _
      obtain ⟨Nq27, b27, t27, k27, rfl, K27, p27_0, p27_1, p27_2, p27_3, p27_4⟩ := hQ27
      have N27 := Fr.app N25 Nq27
      have X27 : Stand p l e _ _ m _ below meth c T27 _ 5 11 := X27
      have C28 := C26.trans CS27
      have O28 := O26.keep K27 all0
      have Z28 : n0 ≤ T27.heap.size := Nat.le_trans Z26 K27.1
      have sz_b27 : h25.size ≤ b27 := p27_4
      refine gz X27 66 #[vi p1, vi p2, vi p3, vi p4, vi p5, vi 0, vi mx12, vr b13, vr b27, .unset, .unset, .unset, .unset, .unset, .unset, .unset, .unset] [(.int mx12), (.ref b27)] (fun _ k => st27.trans (tI X27 hx (dk at_60) rfl rfl rfl (.inl rfl) (aI X27 hx (dk at_62) rfl rfl (lI X27 hx (dk at_64) rfl k)))) ?_
      refine goS X27 hx hZ hown (W 37 rfl) (m44 hw) 2 5 11 (rm_cut_0 hw b27 t27 k27 mx12 [] cs fm T27.heap n0 Z28 O28 pr1 hcs pr6 hr_fm p27_0 p27_1 p27_2 p27_3) N27 rfl pd_33 hml (dk at_66) ?_
      rintro _ T29 L29 X29 N29 ⟨rfl, hh29⟩
      refine gz X29 76 #[vi p1, vi p2, vi p3, vi p4, vi p5, vi 0, vi mx12, vr b13, vr b27, vr b27, .unset, .unset, .unset, .unset, .unset, .unset, .unset] [(.int 0), (.int 0), (.ref b13)] (fun _ k => tI X29 hx (dk at_69) rfl rfl rfl (.inl rfl) (aI X29 hx (dk at_71) rfl rfl (lI X29 hx (dk at_73) rfl (kC X29 hx (dk at_75) k)))) ?_
      refine goS X29 hx hZ hown (W 91 rfl) (m45 hw) 3 5 11 (rm_byO hw b13 (0 : Int32) (0 : Int32) T27.heap n0 Z28 (by decide)) N29 hh29 pd_30 hml (dk at_76) ?_
      rintro _ T30 L30 X30 N30 ⟨rfl, hh30⟩
      refine gz X30 86 #[vi p1, vi p2, vi p3, vi p4, vi p5, vi 0, vi mx12, vr b13, vr b27, vr b27, vi 0, .unset, .unset, .unset, .unset, .unset, .unset] [(.int 0), (.int 0), (.ref b13)] (fun _ k => sI X30 hx (dk at_79) rfl rfl (.inl rfl) (aI X30 hx (dk at_81) rfl rfl (lI X30 hx (dk at_83) rfl (kC X30 hx (dk at_85) k)))) ?_
      refine goS X30 hx hZ hown (W 94 rfl) (m42 hw) 3 5 11 (rm_unO hw b13 (0 : Int32) (0 : Int32) T27.heap n0 Z28 (by decide)) N30 hh30 pd_30 hml (dk at_86) ?_
      rintro _ T31 L31 X31 N31 ⟨rfl, hh31⟩
      refine gz X31 207 #[vi p1, vi p2, vi p3, vi p4, vi p5, vi 0, vi mx12, vr b13, vr b27, vr b27, vi 0, vi 0, vi 0, .unset, .unset, .unset, .unset] [(.ref b27)] (fun _ k => sI X31 hx (dk at_89) rfl rfl (.inl rfl) (kC X31 hx (dk at_91) (sI X31 hx (dk at_92) rfl rfl (.inl rfl) (lI X31 hx (dk at_94) rfl (fY X31 hx 96 205 rfl (dk at_96) rfl ((if0 _ _).trans (flt (by decide)).2.2.2) (aI X31 hx (dk at_205) rfl rfl k)))))) ?_
      refine goV X31 hx hZ hown (W 98 rfl) (m34 hw) p27_0 0 5 11 (rm_len_0_0 hw b27 t27 k27 cs [] T27.heap n0 Z28 O28 pr1 hcs p27_0 p27_1 p27_2 p27_3) N31 hh31 pd_26 hml (dk at_207) ?_
      rintro _ T32 L32 X32 N32 ⟨rfl, hh32⟩
      refine gz X32 279 #[vi p1, vi p2, vi p3, vi p4, vi p5, vi 0, vi mx12, vr b13, vr b27, vr b27, vi 0, vi 0, vi 0, .unset, .unset, .unset, .unset] [(.int 1)] (fun _ k => lI X32 hx (dk at_210) rfl (cY X32 hx 212 217 rfl (dk at_212) rfl (teq (by decide)).1 (lI X32 hx (dk at_217) rfl (kC X32 hx (dk at_219) (cY X32 hx 220 236 rfl (dk at_220) rfl (tlt (by decide)).1 (lI X32 hx (dk at_236) rfl (kC X32 hx (dk at_238) (cY X32 hx 239 255 rfl (dk at_239) rfl (tlt (by decide)).1 (lI X32 hx (dk at_255) rfl (kC X32 hx (dk at_257) (cY X32 hx 258 274 rfl (dk at_258) rfl (tlt (by decide)).1 (kC X32 hx (dk at_274) (gT X32 hx 275 279 rfl (dk at_275) k))))))))))))) ?_
      have hkE33 : _ ≤ T32.heap.size := (by rw [hh32]; exact hk)
      have CE33 : CHr Z own_EL s.vm s.heap T27.vm T32.heap := (by rw [hh32]; exact C28)
      refine Go.retS X32 hx hlk hS hkE33 hZ hEL CE33 (t := .boolean) hret rfl (Or.inl ⟨rfl, by simp, _, rfl⟩) (dk at_279) (by decide) (by decide) ?_
      exact ⟨rfl, N32⟩
    · skip
      refine gz X12 28 #[vi p1, vi p2, vi p3, vi p4, vi p5, vi 1, vi mx12, .unset, .unset, .unset, .unset, .unset, .unset, .unset, .unset, .unset, .unset] [(.int 3)] (fun _ k => kC X12 hx (dk at_27) k) ?_
      obtain ⟨T34, h34, k34, X34, e34, E34, A34, st34⟩ := newP X12 hx hZ (W 0 rfl) e12 (g := (mkF m 28 #[vi p1, vi p2, vi p3, vi p4, vi p5, vi 1, vi mx12, .unset, .unset, .unset, .unset, .unset, .unset, .unset, .unset, .unset, .unset] [(.int 3)])) rfl (dk at_28) rfl (by decide) (cap := 3) (by decide) (by decide) (by decide) (by decide)
      obtain ⟨b34, g34⟩ : ∃ z, z = h0.size := ⟨_, rfl⟩
      rw [← g34] at A34 st34
      have sz_b34 : h0.size ≤ b34 := Nat.le_of_eq g34.symm
      have V34 : Arv Z h34 b34 k34 .char (3 : Int32) [(.int 0), (.int 0), (.int 0)] (.int 0) := (Arv.new A34 (by decide)).pad (pad_rep [] (.int 0) 3)
      have C35 := C0.trans (CHr.ext E34 C0.1)
      have O35 := pr0.ext E34
      have Z35 : n0 ≤ h34.size := Nat.le_trans Z0 E34.1
      refine gz X34 33 #[vi p1, vi p2, vi p3, vi p4, vi p5, vi 1, vi mx12, .unset, .unset, .unset, .unset, .unset, .unset, .unset, .unset, .unset, .unset] [(.int p1), (.int 0), (.ref b34), (.ref b34)] (fun _ k => st34 _ (XS.dup X34.here hx rfl (dk at_30) rfl rfl (kC X34 hx (dk at_31) (lN X34 hx (dk at_32) rfl k)))) ?_
      refine goS X34 hx hZ hown (W 1 rfl) (m43 hw) 1 1 3 (rm_draw hw p1 h34 n0 Z35 ) N11 e34 pd_31 hml (dk at_33) ?_
      rintro _ T36 L36 X36 N36 ⟨v36, rfl, hh36, p36_0⟩
      obtain ⟨cl37, Ar37, q37, S37, N_37, Hs37, G37⟩ := id V34
      have hin38 : ¬ ((0 : Int32) < 0 ∨ cl37.slots.size ≤ ((0 : Int32)).toNatClampNeg) := inb_of S37 ⟨by decide, by decide⟩
      obtain ⟨T38, h38, X38, e38, W38, st38⟩ := stC X36 hx hZ hh36 Ar37 (j := (0 : Int32)) hin38 (g := (mkF m 36 #[vi p1, vi p2, vi p3, vi p4, vi p5, vi 1, vi mx12, .unset, .unset, .unset, .unset, .unset, .unset, .unset, .unset, .unset, .unset] [(.int v36), (.int 0), (.ref b34), (.ref b34)])) rfl rfl (dk at_36)
      rw [own_nc p36_0] at W38
      have C39 := C35.trans (CHr.wr W38 (Safe.arv hZ.alike V34 nofun) C35.1)
      have O39 := O35.wr W38 (Nat.le_trans Z0 sz_b34)
      have Z39 : n0 ≤ h38.size := Nat.le_trans Z35 (Keep.of_wr W38).1
      have V38 : Arv Z h38 b34 k34 .char (3 : Int32) [(.int v36), (.int 0), (.int 0)] (.int 0) := Arv.set Ar37 q37 S37 N_37 Hs37 G37 (own_fc p36_0) W38 0 rfl (Nat.le_of_ble_eq_true rfl)
      have N38 := Fr.snoc X38 N36 (Nat.le_trans Z0 sz_b34)
      refine gz X38 40 #[vi p1, vi p2, vi p3, vi p4, vi p5, vi 1, vi mx12, .unset, .unset, .unset, .unset, .unset, .unset, .unset, .unset, .unset, .unset] [(.int p2), (.int 1), (.ref b34), (.ref b34)] (fun _ k => st38 _ (XS.dup X38.here hx rfl (dk at_37) rfl rfl (kC X38 hx (dk at_38) (lN X38 hx (dk at_39) rfl k)))) ?_
      refine goS X38 hx hZ hown (W 1 rfl) (m43 hw) 1 1 3 (rm_draw hw p2 h38 n0 Z39 ) N38 e38 pd_31 hml (dk at_40) ?_
      rintro _ T40 L40 X40 N40 ⟨v40, rfl, hh40, p40_0⟩
      obtain ⟨cl41, Ar41, q41, S41, N_41, Hs41, G41⟩ := id V38
      have hin42 : ¬ ((1 : Int32) < 0 ∨ cl41.slots.size ≤ ((1 : Int32)).toNatClampNeg) := inb_of S41 ⟨by decide, by decide⟩
      obtain ⟨T42, h42, X42, e42, W42, st42⟩ := stC X40 hx hZ hh40 Ar41 (j := (1 : Int32)) hin42 (g := (mkF m 43 #[vi p1, vi p2, vi p3, vi p4, vi p5, vi 1, vi mx12, .unset, .unset, .unset, .unset, .unset, .unset, .unset, .unset, .unset, .unset] [(.int v40), (.int 1), (.ref b34), (.ref b34)])) rfl rfl (dk at_43)
      rw [own_nc p40_0] at W42
      have C43 := C39.trans (CHr.wr W42 (Safe.arv hZ.alike V38 nofun) C39.1)
      have O43 := O39.wr W42 (Nat.le_trans Z0 sz_b34)
      have Z43 : n0 ≤ h42.size := Nat.le_trans Z39 (Keep.of_wr W42).1
      have V42 : Arv Z h42 b34 k34 .char (3 : Int32) [(.int v36), (.int v40), (.int 0)] (.int 0) := Arv.set Ar41 q41 S41 N_41 Hs41 G41 (own_fc p40_0) W42 1 rfl (Nat.le_of_ble_eq_true rfl)
      have N42 := Fr.snoc X42 N40 (Nat.le_trans Z0 sz_b34)
      refine gz X42 47 #[vi p1, vi p2, vi p3, vi p4, vi p5, vi 1, vi mx12, .unset, .unset, .unset, .unset, .unset, .unset, .unset, .unset, .unset, .unset] [(.int p3), (.int 2), (.ref b34), (.ref b34)] (fun _ k => st42 _ (XS.dup X42.here hx rfl (dk at_44) rfl rfl (kC X42 hx (dk at_45) (lN X42 hx (dk at_46) rfl k)))) ?_
      refine goS X42 hx hZ hown (W 1 rfl) (m43 hw) 1 1 3 (rm_draw hw p3 h42 n0 Z43 ) N42 e42 pd_31 hml (dk at_47) ?_
      rintro _ T44 L44 X44 N44 ⟨v44, rfl, hh44, p44_0⟩
      obtain ⟨cl45, Ar45, q45, S45, N_45, Hs45, G45⟩ := id V42
      have hin46 : ¬ ((2 : Int32) < 0 ∨ cl45.slots.size ≤ ((2 : Int32)).toNatClampNeg) := inb_of S45 ⟨by decide, by decide⟩
      obtain ⟨T46, h46, X46, e46, W46, st46⟩ := stC X44 hx hZ hh44 Ar45 (j := (2 : Int32)) hin46 (g := (mkF m 50 #[vi p1, vi p2, vi p3, vi p4, vi p5, vi 1, vi mx12, .unset, .unset, .unset, .unset, .unset, .unset, .unset, .unset, .unset, .unset] [(.int v44), (.int 2), (.ref b34), (.ref b34)])) rfl rfl (dk at_50)
      rw [own_nc p44_0] at W46
      have C47 := C43.trans (CHr.wr W46 (Safe.arv hZ.alike V42 nofun) C43.1)
      have O47 := O43.wr W46 (Nat.le_trans Z0 sz_b34)
      have Z47 : n0 ≤ h46.size := Nat.le_trans Z43 (Keep.of_wr W46).1
      have V46 : Arv Z h46 b34 k34 .char (3 : Int32) [(.int v36), (.int v40), (.int v44)] (.int 0) := Arv.set Ar45 q45 S45 N_45 Hs45 G45 (own_fc p44_0) W46 2 rfl (Nat.le_of_ble_eq_true rfl)
      have N46 := Fr.snoc X46 N44 (Nat.le_trans Z0 sz_b34)
      refine gz X46 57 #[vi p1, vi p2, vi p3, vi p4, vi p5, vi 1, vi mx12, vr b34, .unset, .unset, .unset, .unset, .unset, .unset, .unset, .unset, .unset] [(.int 1), (.ref b34)] (fun _ k => st46 _ (tI X46 hx (dk at_51) rfl rfl rfl (.inl rfl) (aI X46 hx (dk at_53) rfl rfl (lI X46 hx (dk at_55) rfl k)))) ?_
      refine goS X46 hx hZ hown (W 5 rfl) (m46 hw) 2 5 11 (rm_text_1 hw b34 k34 v36 v40 v44 cs h46 n0 Z47 O47 pr1 hcs pr3 pr4 pr5 V46 p36_0 p40_0 p44_0) N46 e46 pd_32 hml (dk at_57) ?_
      rintro _ T48 L48 X48 N48 ⟨b48, t48, k48, rfl, K48, p48_0, p48_1, p48_2, p48_3⟩
      have C49 := C47.trans (CHr.keep K48 sf0 C47.1)
      have O49 := O47.keep K48 all0
      have Z49 : n0 ≤ T48.heap.size := Nat.le_trans Z47 K48.1
      have sz_b48 : h46.size ≤ b48 := p48_2
      refine gz X48 66 #[vi p1, vi p2, vi p3, vi p4, vi p5, vi 1, vi mx12, vr b34, vr b48, .unset, .unset, .unset, .unset, .unset, .unset, .unset, .unset] [(.int mx12), (.ref b48)] (fun _ k => tI X48 hx (dk at_60) rfl rfl rfl (.inl rfl) (aI X48 hx (dk at_62) rfl rfl (lI X48 hx (dk at_64) rfl k))) ?_
      have hkT50 : _ ≤ T48.heap.size := (Nat.le_trans (Nat.le_trans (Nat.le_trans (Nat.le_trans (Nat.le_trans hk E34.1) (Keep.of_wr W38).1) (Keep.of_wr W42).1) (Keep.of_wr W46).1) K48.1)
      obtain ⟨_, _, ⟨T50, L50, k50, n50⟩, -, X50, hSn50, hgr50, ⟨Lc50, hQ50, l50, y50, z50, CS50⟩, st50⟩ := callSS X48 hx (y := Y0) hown (mvT hZ (W 37 rfl)) (mvT hZ (W 38 rfl)) (mvT hZ (W 39 rfl)) (mvT hZ (W 40 rfl)) (by decide) (backOfSH (W := 0) (rm_cut_1 hw b48 t48 k48 v36 mx12 cs fm T48.heap n0 Z49 O49 pr1 hcs pr6 hr_fm pr3 pr4 pr5 p48_0 p48_1 p48_3 p36_0) hZ (W 40 rfl) (W 39 rfl) (by decide) (by decide) hEL C49.1) (g := (mkF m 66 #[vi p1, vi p2, vi p3, vi p4, vi p5, vi 1, vi mx12, vr b34, vr b48, .unset, .unset, .unset, .unset, .unset, .unset, .unset, .unset] [(.int mx12), (.ref b48)])) rfl (by rw [hml]; rfl) (argsL := [(.ref b48), (.int mx12)]) (rest := []) (lenOf pd_33 rfl) rfl (by show 2 * 0 + _ ≤ _; exact Nat.le_of_eq rfl) (dk at_66) (fun _ _ => ⟨rfl, rfl, Nat.le_of_ble_eq_true rfl, Nat.le_of_ble_eq_true rfl⟩)
      dsimp only [Pt.U, Pt.locs, Pt.cells, Pt.slots] at X50 l50 y50 z50 st50 hQ50 hSn50 hgr50 CS50
      subst l50 y50 z50
      obtain ⟨X50, hS, hZ, hown⟩ := rebS hS hkT50 X50 hSn50 hgr50 hZ hown
      have hk : T50.heap.size ≤ T50.heap.size := Nat.le_refl _
      obtain ⟨Nq50, b50, t50, k50, rfl, K50, p50_0⟩ := hQ50
      have N50 := Fr.app N48 Nq50
      have X50 : Stand p l e _ _ m _ below meth c T50 _ 7 15 := X50
      have C51 := C49.trans CS50
      have O51 := O49.keep K50 all0
      have Z51 : n0 ≤ T50.heap.size := Nat.le_trans Z49 K50.1
      refine gz X50 69 #[vi p1, vi p2, vi p3, vi p4, vi p5, vi 1, vi mx12, vr b34, vr b48, .unset, .unset, .unset, .unset, .unset, .unset, .unset, .unset] [(.ref b50)] (fun _ k => st50.trans k) ?_
      rcases p50_0 with ⟨g52_0, E_52, F_52, C_52, A_52⟩ | ⟨g53_0, E_53, F_53, S_53⟩
      · skip
        refine gz X50 76 #[vi p1, vi p2, vi p3, vi p4, vi p5, vi 1, vi mx12, vr b34, vr b48, vr b50, .unset, .unset, .unset, .unset, .unset, .unset, .unset] [(.int 0), (.int 1), (.ref b34)] (fun _ k => tI X50 hx (dk at_69) rfl rfl rfl (.inl rfl) (aI X50 hx (dk at_71) rfl rfl (lI X50 hx (dk at_73) rfl (kC X50 hx (dk at_75) k)))) ?_
        have f54 := ((V46.keep K48 nin0).keep K50 nin0)
        refine goS X50 hx hZ hown (W 91 rfl) (m45 hw) 3 7 15 (rm_by0l hw b34 k34 v36 v40 v44 (1 : Int32) T50.heap n0 Z51 f54 p36_0 p40_0 p44_0 (by decide) (by decide)) N50 rfl pd_30 hml (dk at_76) ?_
        rintro _ T55 L55 X55 N55 ⟨rfl, hh55⟩
        refine gz X55 86 #[vi p1, vi p2, vi p3, vi p4, vi p5, vi 1, vi mx12, vr b34, vr b48, vr b50, .val (.int (own_len v36)), .unset, .unset, .unset, .unset, .unset, .unset] [(.int 0), (.int 1), (.ref b34)] (fun _ k => sI X55 hx (dk at_79) rfl rfl (.inl rfl) (aI X55 hx (dk at_81) rfl rfl (lI X55 hx (dk at_83) rfl (kC X55 hx (dk at_85) k)))) ?_
        refine goS X55 hx hZ hown (W 94 rfl) (m42 hw) 3 7 15 (rm_un0l hw b34 k34 v36 v40 v44 (1 : Int32) T50.heap n0 Z51 f54 p36_0 p40_0 p44_0 (by decide) (by decide)) N55 hh55 pd_30 hml (dk at_86) ?_
        rintro _ T56 L56 X56 N56 ⟨rfl, hh56⟩
        refine gz X56 207 #[vi p1, vi p2, vi p3, vi p4, vi p5, vi 1, vi mx12, vr b34, vr b48, vr b50, .val (.int (own_len v36)), vi 1, vi 0, .unset, .unset, .unset, .unset] [(.ref b50)] (fun _ k => sI X56 hx (dk at_89) rfl rfl (.inl rfl) (kC X56 hx (dk at_91) (sI X56 hx (dk at_92) rfl rfl (.inl rfl) (lI X56 hx (dk at_94) rfl (fN X56 hx (dk at_96) rfl ((if0 _ _).trans (tlt (by decide)).2.2.2) (lI X56 hx (dk at_99) rfl (lI X56 hx (dk at_101) rfl (cY X56 hx 103 205 rfl (dk at_103) rfl (tlt g52_0).2.2.1 (aI X56 hx (dk at_205) rfl rfl k))))))))) ?_
        refine goV X56 hx hZ hown (W 98 rfl) (m34 hw) E_52 0 7 15 (rm_len_0_0 hw b50 t50 k50 cs [] T50.heap n0 Z51 O51 pr1 hcs E_52 F_52 C_52 A_52) N56 hh56 pd_26 hml (dk at_207) ?_
        rintro _ T57 L57 X57 N57 ⟨rfl, hh57⟩
        refine gz X57 279 #[vi p1, vi p2, vi p3, vi p4, vi p5, vi 1, vi mx12, vr b34, vr b48, vr b50, .val (.int (own_len v36)), vi 1, vi 0, .unset, .unset, .unset, .unset] [(.int 1)] (fun _ k => lI X57 hx (dk at_210) rfl (cY X57 hx 212 217 rfl (dk at_212) rfl (teq (by decide)).1 (lI X57 hx (dk at_217) rfl (kC X57 hx (dk at_219) (cY X57 hx 220 236 rfl (dk at_220) rfl (tlt (by decide)).1 (lI X57 hx (dk at_236) rfl (kC X57 hx (dk at_238) (cY X57 hx 239 255 rfl (dk at_239) rfl (tlt (by decide)).1 (lI X57 hx (dk at_255) rfl (kC X57 hx (dk at_257) (cY X57 hx 258 274 rfl (dk at_258) rfl (tlt (by decide)).1 (kC X57 hx (dk at_274) (gT X57 hx 275 279 rfl (dk at_275) k))))))))))))) ?_
        have hkE58 : _ ≤ T57.heap.size := (by rw [hh57]; exact hk)
        have CE58 : CHr Z own_EL s.vm s.heap T50.vm T57.heap := (by rw [hh57]; exact C51)
        refine Go.retS X57 hx hlk hS hkE58 hZ hEL CE58 (t := .boolean) hret rfl (Or.inl ⟨rfl, by simp, _, rfl⟩) (dk at_279) (by decide) (by decide) ?_
        exact ⟨rfl, N57⟩
      · skip
        refine gz X50 76 #[vi p1, vi p2, vi p3, vi p4, vi p5, vi 1, vi mx12, vr b34, vr b48, vr b50, .unset, .unset, .unset, .unset, .unset, .unset, .unset] [(.int 0), (.int 1), (.ref b34)] (fun _ k => tI X50 hx (dk at_69) rfl rfl rfl (.inl rfl) (aI X50 hx (dk at_71) rfl rfl (lI X50 hx (dk at_73) rfl (kC X50 hx (dk at_75) k)))) ?_
        have f59 := ((V46.keep K48 nin0).keep K50 nin0)
        refine goS X50 hx hZ hown (W 91 rfl) (m45 hw) 3 7 15 (rm_by0l hw b34 k34 v36 v40 v44 (1 : Int32) T50.heap n0 Z51 f59 p36_0 p40_0 p44_0 (by decide) (by decide)) N50 rfl pd_30 hml (dk at_76) ?_
        rintro _ T60 L60 X60 N60 ⟨rfl, hh60⟩
        refine gz X60 86 #[vi p1, vi p2, vi p3, vi p4, vi p5, vi 1, vi mx12, vr b34, vr b48, vr b50, .val (.int (own_len v36)), .unset, .unset, .unset, .unset, .unset, .unset] [(.int 0), (.int 1), (.ref b34)] (fun _ k => sI X60 hx (dk at_79) rfl rfl (.inl rfl) (aI X60 hx (dk at_81) rfl rfl (lI X60 hx (dk at_83) rfl (kC X60 hx (dk at_85) k)))) ?_
        refine goS X60 hx hZ hown (W 94 rfl) (m42 hw) 3 7 15 (rm_un0l hw b34 k34 v36 v40 v44 (1 : Int32) T50.heap n0 Z51 f59 p36_0 p40_0 p44_0 (by decide) (by decide)) N60 hh60 pd_30 hml (dk at_86) ?_
        rintro _ T61 L61 X61 N61 ⟨rfl, hh61⟩
        refine gz X61 116 #[vi p1, vi p2, vi p3, vi p4, vi p5, vi 1, vi mx12, vr b34, vr b48, vr b50, .val (.int (own_len v36)), vi 1, vi 1, .unset, .unset, .unset, .unset] [(.int 1), (.int 1), (.ref b34)] (fun _ k => sI X61 hx (dk at_89) rfl rfl (.inl rfl) (kC X61 hx (dk at_91) (sI X61 hx (dk at_92) rfl rfl (.inl rfl) (lI X61 hx (dk at_94) rfl (fN X61 hx (dk at_96) rfl ((if0 _ _).trans (tlt (by decide)).2.2.2) (lI X61 hx (dk at_99) rfl (lI X61 hx (dk at_101) rfl (cN X61 hx (dk at_103) rfl (flt g53_0).2.2.1 (lI X61 hx (dk at_106) rfl (sI X61 hx (dk at_108) rfl rfl (.inr ⟨_, rfl, rfl⟩) (aI X61 hx (dk at_110) rfl rfl (lI X61 hx (dk at_112) rfl (lI X61 hx (dk at_114) rfl k))))))))))))) ?_
        refine goS X61 hx hZ hown (W 91 rfl) (m45 hw) 3 7 15 (rm_byO hw b34 (1 : Int32) (1 : Int32) T50.heap n0 Z51 (by decide)) N61 hh61 pd_30 hml (dk at_116) ?_
        rintro _ T62 L62 X62 N62 ⟨rfl, hh62⟩
        refine gz X62 129 #[vi p1, vi p2, vi p3, vi p4, vi p5, vi 1, vi mx12, vr b34, vr b48, vr b50, .val (.int (own_len v36)), vi 1, vi 1, vi 0, .unset, .unset, .unset] [(.int 1), (.int 1), (.ref b34), (.int 1)] (fun _ k => sI X62 hx (dk at_119) rfl rfl (.inl rfl) (lI X62 hx (dk at_121) rfl (aI X62 hx (dk at_123) rfl rfl (lI X62 hx (dk at_125) rfl (lI X62 hx (dk at_127) rfl k))))) ?_
        refine goS X62 hx hZ hown (W 94 rfl) (m42 hw) 3 7 15 (rm_unO hw b34 (1 : Int32) (1 : Int32) T50.heap n0 Z51 (by decide)) N62 hh62 pd_30 hml (dk at_129) ?_
        rintro _ T63 L63 X63 N63 ⟨rfl, hh63⟩
        refine gz X63 207 #[vi p1, vi p2, vi p3, vi p4, vi p5, vi 1, vi mx12, vr b34, vr b48, vr b50, .val (.int (own_len v36)), vi 1, vi 1, vi 0, vi 1, .unset, .unset] [(.ref b50)] (fun _ k => pI X63 hx (dk at_132) rfl (sI X63 hx (dk at_133) rfl rfl (.inl rfl) (lI X63 hx (dk at_135) rfl (lI X63 hx (dk at_137) rfl (cY X63 hx 139 205 rfl (dk at_139) rfl (flt (by decide)).2.1 (aI X63 hx (dk at_205) rfl rfl k)))))) ?_
        refine goV X63 hx hZ hown (W 98 rfl) (m34 hw) E_53 0 7 15 (rm_lenS_1 hw b50 t50 k50 v36 cs T50.heap n0 Z51 O51 pr1 hcs E_53 F_53 S_53) N63 hh63 pd_26 hml (dk at_207) ?_
        rintro _ T64 L64 X64 N64 ⟨rfl, hh64⟩
        refine gz X64 226 #[vi p1, vi p2, vi p3, vi p4, vi p5, vi 1, vi mx12, vr b34, vr b48, vr b50, .val (.int (own_len v36)), vi 1, vi 1, vi 0, vi 1, .unset, .unset] [(.int 0), (.ref b50)] (fun _ k => lI X64 hx (dk at_210) rfl (cY X64 hx 212 217 rfl (dk at_212) rfl (teq (by decide)).1 (lI X64 hx (dk at_217) rfl (kC X64 hx (dk at_219) (cN X64 hx (dk at_220) rfl (flt (by decide)).1 (aI X64 hx (dk at_223) rfl rfl (kC X64 hx (dk at_225) k))))))) ?_
        refine goV X64 hx hZ hown (W 104 rfl) (m47 hw) E_53 1 7 15 (rm_caS_1_0 hw b50 t50 k50 v36 cs fm T50.heap n0 Z51 O51 pr1 hcs pr6 hr_fm pr3 pr4 pr5 E_53 F_53 S_53 p36_0) N64 hh64 pd_31 hml (dk at_226) ?_
        rintro _ T65 L65 X65 N65 ⟨rfl, hh65⟩
        refine gz X65 232 #[vi p1, vi p2, vi p3, vi p4, vi p5, vi 1, vi mx12, vr b34, vr b48, vr b50, .val (.int (own_len v36)), vi 1, vi 1, vi 0, vi 1, .unset, .unset] [(.int 0), (.ref b34), (.int v36)] (fun _ k => aI X65 hx (dk at_229) rfl rfl (kC X65 hx (dk at_231) k)) ?_
        obtain ⟨cl66, Ar66, q66, S66, N_66, Hs66, G66⟩ := id f59
        have hin67 : ¬ ((0 : Int32) < 0 ∨ cl66.slots.size ≤ ((0 : Int32)).toNatClampNeg) := inb_of S66 ⟨by decide, by decide⟩
        have hat67 : cl66.slots[((0 : Int32)).toNatClampNeg]? = some (.int v36) := Hs66.at hin67 rfl
        refine gz X65 233 #[vi p1, vi p2, vi p3, vi p4, vi p5, vi 1, vi mx12, vr b34, vr b48, vr b50, .val (.int (own_len v36)), vi 1, vi 1, vi 0, vi 1, .unset, .unset] [(.int v36), (.int v36)] (fun _ k => X65.caload hx (j := (0 : Int32)) (v := (.int v36)) (by rw [hh65]; exact Ar66.1) (State.isArrayOf_alike hZ.alike Ar66.2.1) Ar66.2.2 hin67 hat67 (g := (mkF m 232 #[vi p1, vi p2, vi p3, vi p4, vi p5, vi 1, vi mx12, vr b34, vr b48, vr b50, .val (.int (own_len v36)), vi 1, vi 1, vi 0, vi 1, .unset, .unset] [(.int 0), (.ref b34), (.int v36)])) rfl rfl (dk at_232) _ k) ?_
        refine gz X65 279 #[vi p1, vi p2, vi p3, vi p4, vi p5, vi 1, vi mx12, vr b34, vr b48, vr b50, .val (.int (own_len v36)), vi 1, vi 1, vi 0, vi 1, .unset, .unset] [(.int 1)] (fun _ k => cN X65 hx (dk at_233) rfl (teq (rfl : v36 = v36)).2 (lI X65 hx (dk at_236) rfl (kC X65 hx (dk at_238) (cY X65 hx 239 255 rfl (dk at_239) rfl (tlt (by decide)).1 (lI X65 hx (dk at_255) rfl (kC X65 hx (dk at_257) (cY X65 hx 258 274 rfl (dk at_258) rfl (tlt (by decide)).1 (kC X65 hx (dk at_274) (gT X65 hx 275 279 rfl (dk at_275) k))))))))) ?_
        have hkE68 : _ ≤ T65.heap.size := (by rw [hh65]; exact hk)
        have CE68 : CHr Z own_EL s.vm s.heap T50.vm T65.heap := (by rw [hh65]; exact C51)
        refine Go.retS X65 hx hlk hS hkE68 hZ hEL CE68 (t := .boolean) hret rfl (Or.inl ⟨rfl, by simp, _, rfl⟩) (dk at_279) (by decide) (by decide) ?_
        exact ⟨rfl, N65⟩
    · skip
      refine gz X12 28 #[vi p1, vi p2, vi p3, vi p4, vi p5, vi 2, vi mx12, .unset, .unset, .unset, .unset, .unset, .unset, .unset, .unset, .unset, .unset] [(.int 3)] (fun _ k => kC X12 hx (dk at_27) k) ?_
      obtain ⟨T69, h69, k69, X69, e69, E69, A69, st69⟩ := newP X12 hx hZ (W 0 rfl) e12 (g := (mkF m 28 #[vi p1, vi p2, vi p3, vi p4, vi p5, vi 2, vi mx12, .unset, .unset, .unset, .unset, .unset, .unset, .unset, .unset, .unset, .unset] [(.int 3)])) rfl (dk at_28) rfl (by decide) (cap := 3) (by decide) (by decide) (by decide) (by decide)
      obtain ⟨b69, g69⟩ : ∃ z, z = h0.size := ⟨_, rfl⟩
      rw [← g69] at A69 st69
      have sz_b69 : h0.size ≤ b69 := Nat.le_of_eq g69.symm
      have V69 : Arv Z h69 b69 k69 .char (3 : Int32) [(.int 0), (.int 0), (.int 0)] (.int 0) := (Arv.new A69 (by decide)).pad (pad_rep [] (.int 0) 3)
      have C70 := C0.trans (CHr.ext E69 C0.1)
      have O70 := pr0.ext E69
      have Z70 : n0 ≤ h69.size := Nat.le_trans Z0 E69.1
      refine gz X69 33 #[vi p1, vi p2, vi p3, vi p4, vi p5, vi 2, vi mx12, .unset, .unset, .unset, .unset, .unset, .unset, .unset, .unset, .unset, .unset] [(.int p1), (.int 0), (.ref b69), (.ref b69)] (fun _ k => st69 _ (XS.dup X69.here hx rfl (dk at_30) rfl rfl (kC X69 hx (dk at_31) (lN X69 hx (dk at_32) rfl k)))) ?_
      refine goS X69 hx hZ hown (W 1 rfl) (m43 hw) 1 1 3 (rm_draw hw p1 h69 n0 Z70 ) N11 e69 pd_31 hml (dk at_33) ?_
      rintro _ T71 L71 X71 N71 ⟨v71, rfl, hh71, p71_0⟩
      obtain ⟨cl72, Ar72, q72, S72, N_72, Hs72, G72⟩ := id V69
      have hin73 : ¬ ((0 : Int32) < 0 ∨ cl72.slots.size ≤ ((0 : Int32)).toNatClampNeg) := inb_of S72 ⟨by decide, by decide⟩
      obtain ⟨T73, h73, X73, e73, W73, st73⟩ := stC X71 hx hZ hh71 Ar72 (j := (0 : Int32)) hin73 (g := (mkF m 36 #[vi p1, vi p2, vi p3, vi p4, vi p5, vi 2, vi mx12, .unset, .unset, .unset, .unset, .unset, .unset, .unset, .unset, .unset, .unset] [(.int v71), (.int 0), (.ref b69), (.ref b69)])) rfl rfl (dk at_36)
      rw [own_nc p71_0] at W73
      have C74 := C70.trans (CHr.wr W73 (Safe.arv hZ.alike V69 nofun) C70.1)
      have O74 := O70.wr W73 (Nat.le_trans Z0 sz_b69)
      have Z74 : n0 ≤ h73.size := Nat.le_trans Z70 (Keep.of_wr W73).1
      have V73 : Arv Z h73 b69 k69 .char (3 : Int32) [(.int v71), (.int 0), (.int 0)] (.int 0) := Arv.set Ar72 q72 S72 N_72 Hs72 G72 (own_fc p71_0) W73 0 rfl (Nat.le_of_ble_eq_true rfl)
      have N73 := Fr.snoc X73 N71 (Nat.le_trans Z0 sz_b69)
      refine gz X73 40 #[vi p1, vi p2, vi p3, vi p4, vi p5, vi 2, vi mx12, .unset, .unset, .unset, .unset, .unset, .unset, .unset, .unset, .unset, .unset] [(.int p2), (.int 1), (.ref b69), (.ref b69)] (fun _ k => st73 _ (XS.dup X73.here hx rfl (dk at_37) rfl rfl (kC X73 hx (dk at_38) (lN X73 hx (dk at_39) rfl k)))) ?_
      refine goS X73 hx hZ hown (W 1 rfl) (m43 hw) 1 1 3 (rm_draw hw p2 h73 n0 Z74 ) N73 e73 pd_31 hml (dk at_40) ?_
      rintro _ T75 L75 X75 N75 ⟨v75, rfl, hh75, p75_0⟩
      obtain ⟨cl76, Ar76, q76, S76, N_76, Hs76, G76⟩ := id V73
      have hin77 : ¬ ((1 : Int32) < 0 ∨ cl76.slots.size ≤ ((1 : Int32)).toNatClampNeg) := inb_of S76 ⟨by decide, by decide⟩
      obtain ⟨T77, h77, X77, e77, W77, st77⟩ := stC X75 hx hZ hh75 Ar76 (j := (1 : Int32)) hin77 (g := (mkF m 43 #[vi p1, vi p2, vi p3, vi p4, vi p5, vi 2, vi mx12, .unset, .unset, .unset, .unset, .unset, .unset, .unset, .unset, .unset, .unset] [(.int v75), (.int 1), (.ref b69), (.ref b69)])) rfl rfl (dk at_43)
      rw [own_nc p75_0] at W77
      have C78 := C74.trans (CHr.wr W77 (Safe.arv hZ.alike V73 nofun) C74.1)
      have O78 := O74.wr W77 (Nat.le_trans Z0 sz_b69)
      have Z78 : n0 ≤ h77.size := Nat.le_trans Z74 (Keep.of_wr W77).1
      have V77 : Arv Z h77 b69 k69 .char (3 : Int32) [(.int v71), (.int v75), (.int 0)] (.int 0) := Arv.set Ar76 q76 S76 N_76 Hs76 G76 (own_fc p75_0) W77 1 rfl (Nat.le_of_ble_eq_true rfl)
      have N77 := Fr.snoc X77 N75 (Nat.le_trans Z0 sz_b69)
      refine gz X77 47 #[vi p1, vi p2, vi p3, vi p4, vi p5, vi 2, vi mx12, .unset, .unset, .unset, .unset, .unset, .unset, .unset, .unset, .unset, .unset] [(.int p3), (.int 2), (.ref b69), (.ref b69)] (fun _ k => st77 _ (XS.dup X77.here hx rfl (dk at_44) rfl rfl (kC X77 hx (dk at_45) (lN X77 hx (dk at_46) rfl k)))) ?_
      refine goS X77 hx hZ hown (W 1 rfl) (m43 hw) 1 1 3 (rm_draw hw p3 h77 n0 Z78 ) N77 e77 pd_31 hml (dk at_47) ?_
      rintro _ T79 L79 X79 N79 ⟨v79, rfl, hh79, p79_0⟩
      obtain ⟨cl80, Ar80, q80, S80, N_80, Hs80, G80⟩ := id V77
      have hin81 : ¬ ((2 : Int32) < 0 ∨ cl80.slots.size ≤ ((2 : Int32)).toNatClampNeg) := inb_of S80 ⟨by decide, by decide⟩
      obtain ⟨T81, h81, X81, e81, W81, st81⟩ := stC X79 hx hZ hh79 Ar80 (j := (2 : Int32)) hin81 (g := (mkF m 50 #[vi p1, vi p2, vi p3, vi p4, vi p5, vi 2, vi mx12, .unset, .unset, .unset, .unset, .unset, .unset, .unset, .unset, .unset, .unset] [(.int v79), (.int 2), (.ref b69), (.ref b69)])) rfl rfl (dk at_50)
      rw [own_nc p79_0] at W81
      have C82 := C78.trans (CHr.wr W81 (Safe.arv hZ.alike V77 nofun) C78.1)
      have O82 := O78.wr W81 (Nat.le_trans Z0 sz_b69)
      have Z82 : n0 ≤ h81.size := Nat.le_trans Z78 (Keep.of_wr W81).1
      have V81 : Arv Z h81 b69 k69 .char (3 : Int32) [(.int v71), (.int v75), (.int v79)] (.int 0) := Arv.set Ar80 q80 S80 N_80 Hs80 G80 (own_fc p79_0) W81 2 rfl (Nat.le_of_ble_eq_true rfl)
      have N81 := Fr.snoc X81 N79 (Nat.le_trans Z0 sz_b69)
      refine gz X81 57 #[vi p1, vi p2, vi p3, vi p4, vi p5, vi 2, vi mx12, vr b69, .unset, .unset, .unset, .unset, .unset, .unset, .unset, .unset, .unset] [(.int 2), (.ref b69)] (fun _ k => st81 _ (tI X81 hx (dk at_51) rfl rfl rfl (.inl rfl) (aI X81 hx (dk at_53) rfl rfl (lI X81 hx (dk at_55) rfl k)))) ?_
      refine goS X81 hx hZ hown (W 5 rfl) (m46 hw) 2 5 15 (rm_text_2 hw b69 k69 v71 v75 v79 cs h81 n0 Z82 O82 pr1 hcs pr3 pr4 pr5 V81 p71_0 p75_0 p79_0) N81 e81 pd_32 hml (dk at_57) ?_
      rintro _ T83 L83 X83 N83 ⟨b83, t83, k83, rfl, K83, p83_0, p83_1, p83_2, p83_3⟩
      have C84 := C82.trans (CHr.keep K83 sf0 C82.1)
      have O84 := O82.keep K83 all0
      have Z84 : n0 ≤ T83.heap.size := Nat.le_trans Z82 K83.1
      have sz_b83 : h81.size ≤ b83 := p83_2
      refine gz X83 66 #[vi p1, vi p2, vi p3, vi p4, vi p5, vi 2, vi mx12, vr b69, vr b83, .unset, .unset, .unset, .unset, .unset, .unset, .unset, .unset] [(.int mx12), (.ref b83)] (fun _ k => tI X83 hx (dk at_60) rfl rfl rfl (.inl rfl) (aI X83 hx (dk at_62) rfl rfl (lI X83 hx (dk at_64) rfl k))) ?_
      have hkT85 : _ ≤ T83.heap.size := (Nat.le_trans (Nat.le_trans (Nat.le_trans (Nat.le_trans (Nat.le_trans hk E69.1) (Keep.of_wr W73).1) (Keep.of_wr W77).1) (Keep.of_wr W81).1) K83.1)
      obtain ⟨_, _, ⟨T85, L85, k85, n85⟩, -, X85, hSn85, hgr85, ⟨Lc85, hQ85, l85, y85, z85, CS85⟩, st85⟩ := callSS X83 hx (y := Y0) hown (mvT hZ (W 37 rfl)) (mvT hZ (W 38 rfl)) (mvT hZ (W 39 rfl)) (mvT hZ (W 40 rfl)) (by decide) (backOfSH (W := 0) (rm_cut_2 hw b83 t83 k83 v71 v75 mx12 cs fm T83.heap n0 Z84 O84 pr1 hcs pr6 hr_fm pr3 pr4 pr5 p83_0 p83_1 p83_3 p71_0 p75_0) hZ (W 40 rfl) (W 39 rfl) (by decide) (by decide) hEL C84.1) (g := (mkF m 66 #[vi p1, vi p2, vi p3, vi p4, vi p5, vi 2, vi mx12, vr b69, vr b83, .unset, .unset, .unset, .unset, .unset, .unset, .unset, .unset] [(.int mx12), (.ref b83)])) rfl (by rw [hml]; rfl) (argsL := [(.ref b83), (.int mx12)]) (rest := []) (lenOf pd_33 rfl) rfl (by show 2 * 0 + _ ≤ _; exact Nat.le_of_eq rfl) (dk at_66) (fun _ _ => ⟨rfl, rfl, Nat.le_of_ble_eq_true rfl, Nat.le_of_ble_eq_true rfl⟩)
      dsimp only [Pt.U, Pt.locs, Pt.cells, Pt.slots] at X85 l85 y85 z85 st85 hQ85 hSn85 hgr85 CS85
      subst l85 y85 z85
      obtain ⟨X85, hS, hZ, hown⟩ := rebS hS hkT85 X85 hSn85 hgr85 hZ hown
      have hk : T85.heap.size ≤ T85.heap.size := Nat.le_refl _
      obtain ⟨Nq85, b85, t85, k85, rfl, K85, p85_0⟩ := hQ85
      have N85 := Fr.app N83 Nq85
      have X85 : Stand p l e _ _ m _ below meth c T85 _ 8 22 := X85
      have C86 := C84.trans CS85
      have O86 := O84.keep K85 all0
      have Z86 : n0 ≤ T85.heap.size := Nat.le_trans Z84 K85.1
      refine gz X85 69 #[vi p1, vi p2, vi p3, vi p4, vi p5, vi 2, vi mx12, vr b69, vr b83, .unset, .unset, .unset, .unset, .unset, .unset, .unset, .unset] [(.ref b85)] (fun _ k => st85.trans k) ?_
      rcases p85_0 with ⟨g87_0, E_87, F_87, C_87, A_87⟩ | ⟨g88_0, g88_1, g88_2, E_88, F_88, S_88⟩ | ⟨g89_0, g89_1, g89_2, E_89, F_89, S_89⟩ | ⟨g90_0, g90_1, E_90, F_90, S_90⟩
      · skip
        refine gz X85 76 #[vi p1, vi p2, vi p3, vi p4, vi p5, vi 2, vi mx12, vr b69, vr b83, vr b85, .unset, .unset, .unset, .unset, .unset, .unset, .unset] [(.int 0), (.int 2), (.ref b69)] (fun _ k => tI X85 hx (dk at_69) rfl rfl rfl (.inl rfl) (aI X85 hx (dk at_71) rfl rfl (lI X85 hx (dk at_73) rfl (kC X85 hx (dk at_75) k)))) ?_
        have f91 := ((V81.keep K83 nin0).keep K85 nin0)
        refine goS X85 hx hZ hown (W 91 rfl) (m45 hw) 3 8 22 (rm_by0p hw b69 k69 v71 v75 v79 (2 : Int32) T85.heap n0 Z86 f91 p71_0 p75_0 p79_0 (by decide) (by decide)) N85 rfl pd_30 hml (dk at_76) ?_
        rintro _ T92 L92 X92 N92 ⟨rfl, hh92⟩
        refine gz X92 86 #[vi p1, vi p2, vi p3, vi p4, vi p5, vi 2, vi mx12, vr b69, vr b83, vr b85, .val (.int (own_len (own_cp v71 v75))), .unset, .unset, .unset, .unset, .unset, .unset] [(.int 0), (.int 2), (.ref b69)] (fun _ k => sI X92 hx (dk at_79) rfl rfl (.inl rfl) (aI X92 hx (dk at_81) rfl rfl (lI X92 hx (dk at_83) rfl (kC X92 hx (dk at_85) k)))) ?_
        refine goS X92 hx hZ hown (W 94 rfl) (m42 hw) 3 8 22 (rm_un0p hw b69 k69 v71 v75 v79 (2 : Int32) T85.heap n0 Z86 f91 p71_0 p75_0 p79_0 (by decide) (by decide)) N92 hh92 pd_30 hml (dk at_86) ?_
        rintro _ T93 L93 X93 N93 ⟨rfl, hh93⟩
        refine gz X93 207 #[vi p1, vi p2, vi p3, vi p4, vi p5, vi 2, vi mx12, vr b69, vr b83, vr b85, .val (.int (own_len (own_cp v71 v75))), .val (.int (own_cnt (own_cp v71 v75))), vi 0, .unset, .unset, .unset, .unset] [(.ref b85)] (fun _ k => sI X93 hx (dk at_89) rfl rfl (.inl rfl) (kC X93 hx (dk at_91) (sI X93 hx (dk at_92) rfl rfl (.inl rfl) (lI X93 hx (dk at_94) rfl (fN X93 hx (dk at_96) rfl ((if0 _ _).trans (tlt (by decide)).2.2.2) (lI X93 hx (dk at_99) rfl (lI X93 hx (dk at_101) rfl (cY X93 hx 103 205 rfl (dk at_103) rfl (tlt g87_0).2.2.1 (aI X93 hx (dk at_205) rfl rfl k))))))))) ?_
        refine goV X93 hx hZ hown (W 98 rfl) (m34 hw) E_87 0 8 22 (rm_len_0_0 hw b85 t85 k85 cs [] T85.heap n0 Z86 O86 pr1 hcs E_87 F_87 C_87 A_87) N93 hh93 pd_26 hml (dk at_207) ?_
        rintro _ T94 L94 X94 N94 ⟨rfl, hh94⟩
        refine gz X94 279 #[vi p1, vi p2, vi p3, vi p4, vi p5, vi 2, vi mx12, vr b69, vr b83, vr b85, .val (.int (own_len (own_cp v71 v75))), .val (.int (own_cnt (own_cp v71 v75))), vi 0, .unset, .unset, .unset, .unset] [(.int 1)] (fun _ k => lI X94 hx (dk at_210) rfl (cY X94 hx 212 217 rfl (dk at_212) rfl (teq (by decide)).1 (lI X94 hx (dk at_217) rfl (kC X94 hx (dk at_219) (cY X94 hx 220 236 rfl (dk at_220) rfl (tlt (by decide)).1 (lI X94 hx (dk at_236) rfl (kC X94 hx (dk at_238) (cY X94 hx 239 255 rfl (dk at_239) rfl (tlt (by decide)).1 (lI X94 hx (dk at_255) rfl (kC X94 hx (dk at_257) (cY X94 hx 258 274 rfl (dk at_258) rfl (tlt (by decide)).1 (kC X94 hx (dk at_274) (gT X94 hx 275 279 rfl (dk at_275) k))))))))))))) ?_
        have hkE95 : _ ≤ T94.heap.size := (by rw [hh94]; exact hk)
        have CE95 : CHr Z own_EL s.vm s.heap T85.vm T94.heap := (by rw [hh94]; exact C86)
        refine Go.retS X94 hx hlk hS hkE95 hZ hEL CE95 (t := .boolean) hret rfl (Or.inl ⟨rfl, by simp, _, rfl⟩) (dk at_279) (by decide) (by decide) ?_
        exact ⟨rfl, N94⟩
      · skip
        refine gz X85 76 #[vi p1, vi p2, vi p3, vi p4, vi p5, vi 2, vi mx12, vr b69, vr b83, vr b85, .unset, .unset, .unset, .unset, .unset, .unset, .unset] [(.int 0), (.int 2), (.ref b69)] (fun _ k => tI X85 hx (dk at_69) rfl rfl rfl (.inl rfl) (aI X85 hx (dk at_71) rfl rfl (lI X85 hx (dk at_73) rfl (kC X85 hx (dk at_75) k)))) ?_
        have f96 := ((V81.keep K83 nin0).keep K85 nin0)
        refine goS X85 hx hZ hown (W 91 rfl) (m45 hw) 3 8 22 (rm_by0p hw b69 k69 v71 v75 v79 (2 : Int32) T85.heap n0 Z86 f96 p71_0 p75_0 p79_0 (by decide) (by decide)) N85 rfl pd_30 hml (dk at_76) ?_
        rintro _ T97 L97 X97 N97 ⟨rfl, hh97⟩
        refine gz X97 86 #[vi p1, vi p2, vi p3, vi p4, vi p5, vi 2, vi mx12, vr b69, vr b83, vr b85, .val (.int (own_len (own_cp v71 v75))), .unset, .unset, .unset, .unset, .unset, .unset] [(.int 0), (.int 2), (.ref b69)] (fun _ k => sI X97 hx (dk at_79) rfl rfl (.inl rfl) (aI X97 hx (dk at_81) rfl rfl (lI X97 hx (dk at_83) rfl (kC X97 hx (dk at_85) k)))) ?_
        refine goS X97 hx hZ hown (W 94 rfl) (m42 hw) 3 8 22 (rm_un0p hw b69 k69 v71 v75 v79 (2 : Int32) T85.heap n0 Z86 f96 p71_0 p75_0 p79_0 (by decide) (by decide)) N97 hh97 pd_30 hml (dk at_86) ?_
        rintro _ T98 L98 X98 N98 ⟨rfl, hh98⟩
        refine gz X98 116 #[vi p1, vi p2, vi p3, vi p4, vi p5, vi 2, vi mx12, vr b69, vr b83, vr b85, .val (.int (own_len (own_cp v71 v75))), vi 1, vi 1, .unset, .unset, .unset, .unset] [(.int 1), (.int 2), (.ref b69)] (fun _ k => sI (x := (1 : Int32)) (rest := []) X98 hx (dk at_89) (by rw [g88_1]; rfl) rfl (.inl rfl) (kC X98 hx (dk at_91) (sI X98 hx (dk at_92) rfl rfl (.inl rfl) (lI X98 hx (dk at_94) rfl (fN X98 hx (dk at_96) rfl ((if0 _ _).trans (tlt (by decide)).2.2.2) (lI X98 hx (dk at_99) rfl (lI X98 hx (dk at_101) rfl (cN X98 hx (dk at_103) rfl (flt g88_0).2.2.1 (lI X98 hx (dk at_106) rfl (sI X98 hx (dk at_108) rfl rfl (.inr ⟨_, rfl, rfl⟩) (aI X98 hx (dk at_110) rfl rfl (lI X98 hx (dk at_112) rfl (lI X98 hx (dk at_114) rfl k))))))))))))) ?_
        refine goS X98 hx hZ hown (W 91 rfl) (m45 hw) 3 8 22 (rm_by1l hw b69 k69 v71 v75 v79 (2 : Int32) T85.heap n0 Z86 f96 p71_0 p75_0 p79_0 (by decide) (by decide)) N98 hh98 pd_30 hml (dk at_116) ?_
        rintro _ T99 L99 X99 N99 ⟨rfl, hh99⟩
        refine gz X99 129 #[vi p1, vi p2, vi p3, vi p4, vi p5, vi 2, vi mx12, vr b69, vr b83, vr b85, .val (.int (own_len (own_cp v71 v75))), vi 1, vi 1, .val (.int (own_len v75)), .unset, .unset, .unset] [(.int 1), (.int 2), (.ref b69), (.int 1)] (fun _ k => sI X99 hx (dk at_119) rfl rfl (.inl rfl) (lI X99 hx (dk at_121) rfl (aI X99 hx (dk at_123) rfl rfl (lI X99 hx (dk at_125) rfl (lI X99 hx (dk at_127) rfl k))))) ?_
        refine goS X99 hx hZ hown (W 94 rfl) (m42 hw) 3 8 22 (rm_un1l hw b69 k69 v71 v75 v79 (2 : Int32) T85.heap n0 Z86 f96 p71_0 p75_0 p79_0 (by decide) (by decide)) N99 hh99 pd_30 hml (dk at_129) ?_
        rintro _ T100 L100 X100 N100 ⟨rfl, hh100⟩
        refine gz X100 207 #[vi p1, vi p2, vi p3, vi p4, vi p5, vi 2, vi mx12, vr b69, vr b83, vr b85, .val (.int (own_len (own_cp v71 v75))), vi 1, vi 1, .val (.int (own_len v75)), vi 2, .unset, .unset] [(.ref b85)] (fun _ k => pI X100 hx (dk at_132) rfl (sI X100 hx (dk at_133) rfl rfl (.inl rfl) (lI X100 hx (dk at_135) rfl (lI X100 hx (dk at_137) rfl (cN X100 hx (dk at_139) rfl (tlt (by decide)).2.1 (lI X100 hx (dk at_142) rfl (lI X100 hx (dk at_144) rfl (pI X100 hx (dk at_146) rfl (lI X100 hx (dk at_147) rfl (cY X100 hx 149 205 rfl (dk at_149) rfl (tlt g88_2).2.2.1 (aI X100 hx (dk at_205) rfl rfl k))))))))))) ?_
        refine goV X100 hx hZ hown (W 98 rfl) (m34 hw) E_88 0 8 22 (rm_lenS_1 hw b85 t85 k85 v71 cs T85.heap n0 Z86 O86 pr1 hcs E_88 F_88 S_88) N100 hh100 pd_26 hml (dk at_207) ?_
        rintro _ T101 L101 X101 N101 ⟨rfl, hh101⟩
        refine gz X101 226 #[vi p1, vi p2, vi p3, vi p4, vi p5, vi 2, vi mx12, vr b69, vr b83, vr b85, .val (.int (own_len (own_cp v71 v75))), vi 1, vi 1, .val (.int (own_len v75)), vi 2, .unset, .unset] [(.int 0), (.ref b85)] (fun _ k => lI X101 hx (dk at_210) rfl (cY X101 hx 212 217 rfl (dk at_212) rfl (teq (by decide)).1 (lI X101 hx (dk at_217) rfl (kC X101 hx (dk at_219) (cN X101 hx (dk at_220) rfl (flt (by decide)).1 (aI X101 hx (dk at_223) rfl rfl (kC X101 hx (dk at_225) k))))))) ?_
        refine goV X101 hx hZ hown (W 104 rfl) (m47 hw) E_88 1 8 22 (rm_caS_1_0 hw b85 t85 k85 v71 cs fm T85.heap n0 Z86 O86 pr1 hcs pr6 hr_fm pr3 pr4 pr5 E_88 F_88 S_88 p71_0) N101 hh101 pd_31 hml (dk at_226) ?_
        rintro _ T102 L102 X102 N102 ⟨rfl, hh102⟩
        refine gz X102 232 #[vi p1, vi p2, vi p3, vi p4, vi p5, vi 2, vi mx12, vr b69, vr b83, vr b85, .val (.int (own_len (own_cp v71 v75))), vi 1, vi 1, .val (.int (own_len v75)), vi 2, .unset, .unset] [(.int 0), (.ref b69), (.int v71)] (fun _ k => aI X102 hx (dk at_229) rfl rfl (kC X102 hx (dk at_231) k)) ?_
        obtain ⟨cl103, Ar103, q103, S103, N_103, Hs103, G103⟩ := id f96
        have hin104 : ¬ ((0 : Int32) < 0 ∨ cl103.slots.size ≤ ((0 : Int32)).toNatClampNeg) := inb_of S103 ⟨by decide, by decide⟩
        have hat104 : cl103.slots[((0 : Int32)).toNatClampNeg]? = some (.int v71) := Hs103.at hin104 rfl
        refine gz X102 233 #[vi p1, vi p2, vi p3, vi p4, vi p5, vi 2, vi mx12, vr b69, vr b83, vr b85, .val (.int (own_len (own_cp v71 v75))), vi 1, vi 1, .val (.int (own_len v75)), vi 2, .unset, .unset] [(.int v71), (.int v71)] (fun _ k => X102.caload hx (j := (0 : Int32)) (v := (.int v71)) (by rw [hh102]; exact Ar103.1) (State.isArrayOf_alike hZ.alike Ar103.2.1) Ar103.2.2 hin104 hat104 (g := (mkF m 232 #[vi p1, vi p2, vi p3, vi p4, vi p5, vi 2, vi mx12, vr b69, vr b83, vr b85, .val (.int (own_len (own_cp v71 v75))), vi 1, vi 1, .val (.int (own_len v75)), vi 2, .unset, .unset] [(.int 0), (.ref b69), (.int v71)])) rfl rfl (dk at_232) _ k) ?_
        refine gz X102 279 #[vi p1, vi p2, vi p3, vi p4, vi p5, vi 2, vi mx12, vr b69, vr b83, vr b85, .val (.int (own_len (own_cp v71 v75))), vi 1, vi 1, .val (.int (own_len v75)), vi 2, .unset, .unset] [(.int 1)] (fun _ k => cN X102 hx (dk at_233) rfl (teq (rfl : v71 = v71)).2 (lI X102 hx (dk at_236) rfl (kC X102 hx (dk at_238) (cY X102 hx 239 255 rfl (dk at_239) rfl (tlt (by decide)).1 (lI X102 hx (dk at_255) rfl (kC X102 hx (dk at_257) (cY X102 hx 258 274 rfl (dk at_258) rfl (tlt (by decide)).1 (kC X102 hx (dk at_274) (gT X102 hx 275 279 rfl (dk at_275) k))))))))) ?_
        have hkE105 : _ ≤ T102.heap.size := (by rw [hh102]; exact hk)
        have CE105 : CHr Z own_EL s.vm s.heap T85.vm T102.heap := (by rw [hh102]; exact C86)
        refine Go.retS X102 hx hlk hS hkE105 hZ hEL CE105 (t := .boolean) hret rfl (Or.inl ⟨rfl, by simp, _, rfl⟩) (dk at_279) (by decide) (by decide) ?_
        exact ⟨rfl, N102⟩
      · skip
        refine gz X85 76 #[vi p1, vi p2, vi p3, vi p4, vi p5, vi 2, vi mx12, vr b69, vr b83, vr b85, .unset, .unset, .unset, .unset, .unset, .unset, .unset] [(.int 0), (.int 2), (.ref b69)] (fun _ k => tI X85 hx (dk at_69) rfl rfl rfl (.inl rfl) (aI X85 hx (dk at_71) rfl rfl (lI X85 hx (dk at_73) rfl (kC X85 hx (dk at_75) k)))) ?_
        have f106 := ((V81.keep K83 nin0).keep K85 nin0)
        refine goS X85 hx hZ hown (W 91 rfl) (m45 hw) 3 8 22 (rm_by0p hw b69 k69 v71 v75 v79 (2 : Int32) T85.heap n0 Z86 f106 p71_0 p75_0 p79_0 (by decide) (by decide)) N85 rfl pd_30 hml (dk at_76) ?_
        rintro _ T107 L107 X107 N107 ⟨rfl, hh107⟩
        refine gz X107 86 #[vi p1, vi p2, vi p3, vi p4, vi p5, vi 2, vi mx12, vr b69, vr b83, vr b85, .val (.int (own_len (own_cp v71 v75))), .unset, .unset, .unset, .unset, .unset, .unset] [(.int 0), (.int 2), (.ref b69)] (fun _ k => sI X107 hx (dk at_79) rfl rfl (.inl rfl) (aI X107 hx (dk at_81) rfl rfl (lI X107 hx (dk at_83) rfl (kC X107 hx (dk at_85) k)))) ?_
        refine goS X107 hx hZ hown (W 94 rfl) (m42 hw) 3 8 22 (rm_un0p hw b69 k69 v71 v75 v79 (2 : Int32) T85.heap n0 Z86 f106 p71_0 p75_0 p79_0 (by decide) (by decide)) N107 hh107 pd_30 hml (dk at_86) ?_
        rintro _ T108 L108 X108 N108 ⟨rfl, hh108⟩
        refine gz X108 116 #[vi p1, vi p2, vi p3, vi p4, vi p5, vi 2, vi mx12, vr b69, vr b83, vr b85, .val (.int (own_len (own_cp v71 v75))), vi 1, vi 1, .unset, .unset, .unset, .unset] [(.int 1), (.int 2), (.ref b69)] (fun _ k => sI (x := (1 : Int32)) (rest := []) X108 hx (dk at_89) (by rw [g89_1]; rfl) rfl (.inl rfl) (kC X108 hx (dk at_91) (sI X108 hx (dk at_92) rfl rfl (.inl rfl) (lI X108 hx (dk at_94) rfl (fN X108 hx (dk at_96) rfl ((if0 _ _).trans (tlt (by decide)).2.2.2) (lI X108 hx (dk at_99) rfl (lI X108 hx (dk at_101) rfl (cN X108 hx (dk at_103) rfl (flt g89_0).2.2.1 (lI X108 hx (dk at_106) rfl (sI X108 hx (dk at_108) rfl rfl (.inr ⟨_, rfl, rfl⟩) (aI X108 hx (dk at_110) rfl rfl (lI X108 hx (dk at_112) rfl (lI X108 hx (dk at_114) rfl k))))))))))))) ?_
        refine goS X108 hx hZ hown (W 91 rfl) (m45 hw) 3 8 22 (rm_by1l hw b69 k69 v71 v75 v79 (2 : Int32) T85.heap n0 Z86 f106 p71_0 p75_0 p79_0 (by decide) (by decide)) N108 hh108 pd_30 hml (dk at_116) ?_
        rintro _ T109 L109 X109 N109 ⟨rfl, hh109⟩
        refine gz X109 129 #[vi p1, vi p2, vi p3, vi p4, vi p5, vi 2, vi mx12, vr b69, vr b83, vr b85, .val (.int (own_len (own_cp v71 v75))), vi 1, vi 1, .val (.int (own_len v75)), .unset, .unset, .unset] [(.int 1), (.int 2), (.ref b69), (.int 1)] (fun _ k => sI X109 hx (dk at_119) rfl rfl (.inl rfl) (lI X109 hx (dk at_121) rfl (aI X109 hx (dk at_123) rfl rfl (lI X109 hx (dk at_125) rfl (lI X109 hx (dk at_127) rfl k))))) ?_
        refine goS X109 hx hZ hown (W 94 rfl) (m42 hw) 3 8 22 (rm_un1l hw b69 k69 v71 v75 v79 (2 : Int32) T85.heap n0 Z86 f106 p71_0 p75_0 p79_0 (by decide) (by decide)) N109 hh109 pd_30 hml (dk at_129) ?_
        rintro _ T110 L110 X110 N110 ⟨rfl, hh110⟩
        refine gz X110 162 #[vi p1, vi p2, vi p3, vi p4, vi p5, vi 2, vi mx12, vr b69, vr b83, vr b85, .val (.int (own_len (own_cp v71 v75))), vi 1, vi 2, .val (.int (own_len v75)), vi 2, .unset, .unset] [(.int 2), (.int 2), (.ref b69)] (fun _ k => pI X110 hx (dk at_132) rfl (sI X110 hx (dk at_133) rfl rfl (.inl rfl) (lI X110 hx (dk at_135) rfl (lI X110 hx (dk at_137) rfl (cN X110 hx (dk at_139) rfl (tlt (by decide)).2.1 (lI X110 hx (dk at_142) rfl (lI X110 hx (dk at_144) rfl (pI X110 hx (dk at_146) rfl (lI X110 hx (dk at_147) rfl (cN X110 hx (dk at_149) rfl (flt g89_2).2.2.1 (lI X110 hx (dk at_152) rfl (sI X110 hx (dk at_154) rfl rfl (.inr ⟨_, rfl, rfl⟩) (aI X110 hx (dk at_156) rfl rfl (lI X110 hx (dk at_158) rfl (lI X110 hx (dk at_160) rfl k))))))))))))))) ?_
        refine goS X110 hx hZ hown (W 91 rfl) (m45 hw) 3 8 22 (rm_byO hw b69 (2 : Int32) (2 : Int32) T85.heap n0 Z86 (by decide)) N110 hh110 pd_30 hml (dk at_162) ?_
        rintro _ T111 L111 X111 N111 ⟨rfl, hh111⟩
        refine gz X111 175 #[vi p1, vi p2, vi p3, vi p4, vi p5, vi 2, vi mx12, vr b69, vr b83, vr b85, .val (.int (own_len (own_cp v71 v75))), vi 1, vi 2, .val (.int (own_len v75)), vi 2, vi 0, .unset] [(.int 2), (.int 2), (.ref b69), (.int 2)] (fun _ k => sI X111 hx (dk at_165) rfl rfl (.inl rfl) (lI X111 hx (dk at_167) rfl (aI X111 hx (dk at_169) rfl rfl (lI X111 hx (dk at_171) rfl (lI X111 hx (dk at_173) rfl k))))) ?_
        refine goS X111 hx hZ hown (W 94 rfl) (m42 hw) 3 8 22 (rm_unO hw b69 (2 : Int32) (2 : Int32) T85.heap n0 Z86 (by decide)) N111 hh111 pd_30 hml (dk at_175) ?_
        rintro _ T112 L112 X112 N112 ⟨rfl, hh112⟩
        refine gz X112 207 #[vi p1, vi p2, vi p3, vi p4, vi p5, vi 2, vi mx12, vr b69, vr b83, vr b85, .val (.int (own_len (own_cp v71 v75))), vi 1, vi 2, .val (.int (own_len v75)), vi 2, vi 0, vi 2] [(.ref b85)] (fun _ k => pI X112 hx (dk at_178) rfl (sI X112 hx (dk at_179) rfl rfl (.inl rfl) (lI X112 hx (dk at_181) rfl (lI X112 hx (dk at_183) rfl (cY X112 hx 185 205 rfl (dk at_185) rfl (flt (by decide)).2.1 (aI X112 hx (dk at_205) rfl rfl k)))))) ?_
        refine goV X112 hx hZ hown (W 98 rfl) (m34 hw) E_89 0 8 22 (rm_lenS_2 hw b85 t85 k85 v71 v75 cs T85.heap n0 Z86 O86 pr1 hcs E_89 F_89 S_89) N112 hh112 pd_26 hml (dk at_207) ?_
        rintro _ T113 L113 X113 N113 ⟨rfl, hh113⟩
        refine gz X113 226 #[vi p1, vi p2, vi p3, vi p4, vi p5, vi 2, vi mx12, vr b69, vr b83, vr b85, .val (.int (own_len (own_cp v71 v75))), vi 1, vi 2, .val (.int (own_len v75)), vi 2, vi 0, vi 2] [(.int 0), (.ref b85)] (fun _ k => lI X113 hx (dk at_210) rfl (cY X113 hx 212 217 rfl (dk at_212) rfl (teq (by decide)).1 (lI X113 hx (dk at_217) rfl (kC X113 hx (dk at_219) (cN X113 hx (dk at_220) rfl (flt (by decide)).1 (aI X113 hx (dk at_223) rfl rfl (kC X113 hx (dk at_225) k))))))) ?_
        refine goV X113 hx hZ hown (W 104 rfl) (m47 hw) E_89 1 8 22 (rm_caS_2_0 hw b85 t85 k85 v71 v75 cs fm T85.heap n0 Z86 O86 pr1 hcs pr6 hr_fm pr3 pr4 pr5 E_89 F_89 S_89 p71_0 p75_0) N113 hh113 pd_31 hml (dk at_226) ?_
        rintro _ T114 L114 X114 N114 ⟨rfl, hh114⟩
        refine gz X114 232 #[vi p1, vi p2, vi p3, vi p4, vi p5, vi 2, vi mx12, vr b69, vr b83, vr b85, .val (.int (own_len (own_cp v71 v75))), vi 1, vi 2, .val (.int (own_len v75)), vi 2, vi 0, vi 2] [(.int 0), (.ref b69), (.int v71)] (fun _ k => aI X114 hx (dk at_229) rfl rfl (kC X114 hx (dk at_231) k)) ?_
        obtain ⟨cl115, Ar115, q115, S115, N_115, Hs115, G115⟩ := id f106
        have hin116 : ¬ ((0 : Int32) < 0 ∨ cl115.slots.size ≤ ((0 : Int32)).toNatClampNeg) := inb_of S115 ⟨by decide, by decide⟩
        have hat116 : cl115.slots[((0 : Int32)).toNatClampNeg]? = some (.int v71) := Hs115.at hin116 rfl
        refine gz X114 233 #[vi p1, vi p2, vi p3, vi p4, vi p5, vi 2, vi mx12, vr b69, vr b83, vr b85, .val (.int (own_len (own_cp v71 v75))), vi 1, vi 2, .val (.int (own_len v75)), vi 2, vi 0, vi 2] [(.int v71), (.int v71)] (fun _ k => X114.caload hx (j := (0 : Int32)) (v := (.int v71)) (by rw [hh114]; exact Ar115.1) (State.isArrayOf_alike hZ.alike Ar115.2.1) Ar115.2.2 hin116 hat116 (g := (mkF m 232 #[vi p1, vi p2, vi p3, vi p4, vi p5, vi 2, vi mx12, vr b69, vr b83, vr b85, .val (.int (own_len (own_cp v71 v75))), vi 1, vi 2, .val (.int (own_len v75)), vi 2, vi 0, vi 2] [(.int 0), (.ref b69), (.int v71)])) rfl rfl (dk at_232) _ k) ?_
        refine gz X114 245 #[vi p1, vi p2, vi p3, vi p4, vi p5, vi 2, vi mx12, vr b69, vr b83, vr b85, .val (.int (own_len (own_cp v71 v75))), vi 1, vi 2, .val (.int (own_len v75)), vi 2, vi 0, vi 2] [(.int 1), (.ref b85)] (fun _ k => cN X114 hx (dk at_233) rfl (teq (rfl : v71 = v71)).2 (lI X114 hx (dk at_236) rfl (kC X114 hx (dk at_238) (cN X114 hx (dk at_239) rfl (flt (by decide)).1 (aI X114 hx (dk at_242) rfl rfl (kC X114 hx (dk at_244) k)))))) ?_
        refine goV X114 hx hZ hown (W 104 rfl) (m47 hw) E_89 1 8 22 (rm_caS_2_1 hw b85 t85 k85 v71 v75 cs fm T85.heap n0 Z86 O86 pr1 hcs pr6 hr_fm pr3 pr4 pr5 E_89 F_89 S_89 p71_0 p75_0) N114 hh114 pd_31 hml (dk at_245) ?_
        rintro _ T117 L117 X117 N117 ⟨rfl, hh117⟩
        refine gz X117 251 #[vi p1, vi p2, vi p3, vi p4, vi p5, vi 2, vi mx12, vr b69, vr b83, vr b85, .val (.int (own_len (own_cp v71 v75))), vi 1, vi 2, .val (.int (own_len v75)), vi 2, vi 0, vi 2] [(.int 1), (.ref b69), (.int v75)] (fun _ k => aI X117 hx (dk at_248) rfl rfl (kC X117 hx (dk at_250) k)) ?_
        obtain ⟨cl118, Ar118, q118, S118, N_118, Hs118, G118⟩ := id f106
        have hin119 : ¬ ((1 : Int32) < 0 ∨ cl118.slots.size ≤ ((1 : Int32)).toNatClampNeg) := inb_of S118 ⟨by decide, by decide⟩
        have hat119 : cl118.slots[((1 : Int32)).toNatClampNeg]? = some (.int v75) := Hs118.at hin119 rfl
        refine gz X117 252 #[vi p1, vi p2, vi p3, vi p4, vi p5, vi 2, vi mx12, vr b69, vr b83, vr b85, .val (.int (own_len (own_cp v71 v75))), vi 1, vi 2, .val (.int (own_len v75)), vi 2, vi 0, vi 2] [(.int v75), (.int v75)] (fun _ k => X117.caload hx (j := (1 : Int32)) (v := (.int v75)) (by rw [hh117]; exact Ar118.1) (State.isArrayOf_alike hZ.alike Ar118.2.1) Ar118.2.2 hin119 hat119 (g := (mkF m 251 #[vi p1, vi p2, vi p3, vi p4, vi p5, vi 2, vi mx12, vr b69, vr b83, vr b85, .val (.int (own_len (own_cp v71 v75))), vi 1, vi 2, .val (.int (own_len v75)), vi 2, vi 0, vi 2] [(.int 1), (.ref b69), (.int v75)])) rfl rfl (dk at_251) _ k) ?_
        refine gz X117 279 #[vi p1, vi p2, vi p3, vi p4, vi p5, vi 2, vi mx12, vr b69, vr b83, vr b85, .val (.int (own_len (own_cp v71 v75))), vi 1, vi 2, .val (.int (own_len v75)), vi 2, vi 0, vi 2] [(.int 1)] (fun _ k => cN X117 hx (dk at_252) rfl (teq (rfl : v75 = v75)).2 (lI X117 hx (dk at_255) rfl (kC X117 hx (dk at_257) (cY X117 hx 258 274 rfl (dk at_258) rfl (tlt (by decide)).1 (kC X117 hx (dk at_274) (gT X117 hx 275 279 rfl (dk at_275) k)))))) ?_
        have hkE120 : _ ≤ T117.heap.size := (by rw [hh117]; exact hk)
        have CE120 : CHr Z own_EL s.vm s.heap T85.vm T117.heap := (by rw [hh117]; exact C86)
        refine Go.retS X117 hx hlk hS hkE120 hZ hEL CE120 (t := .boolean) hret rfl (Or.inl ⟨rfl, by simp, _, rfl⟩) (dk at_279) (by decide) (by decide) ?_
        exact ⟨rfl, N117⟩
      · skip
        refine gz X85 76 #[vi p1, vi p2, vi p3, vi p4, vi p5, vi 2, vi mx12, vr b69, vr b83, vr b85, .unset, .unset, .unset, .unset, .unset, .unset, .unset] [(.int 0), (.int 2), (.ref b69)] (fun _ k => tI X85 hx (dk at_69) rfl rfl rfl (.inl rfl) (aI X85 hx (dk at_71) rfl rfl (lI X85 hx (dk at_73) rfl (kC X85 hx (dk at_75) k)))) ?_
        have f121 := ((V81.keep K83 nin0).keep K85 nin0)
        refine goS X85 hx hZ hown (W 91 rfl) (m45 hw) 3 8 22 (rm_by0p hw b69 k69 v71 v75 v79 (2 : Int32) T85.heap n0 Z86 f121 p71_0 p75_0 p79_0 (by decide) (by decide)) N85 rfl pd_30 hml (dk at_76) ?_
        rintro _ T122 L122 X122 N122 ⟨rfl, hh122⟩
        refine gz X122 86 #[vi p1, vi p2, vi p3, vi p4, vi p5, vi 2, vi mx12, vr b69, vr b83, vr b85, .val (.int (own_len (own_cp v71 v75))), .unset, .unset, .unset, .unset, .unset, .unset] [(.int 0), (.int 2), (.ref b69)] (fun _ k => sI X122 hx (dk at_79) rfl rfl (.inl rfl) (aI X122 hx (dk at_81) rfl rfl (lI X122 hx (dk at_83) rfl (kC X122 hx (dk at_85) k)))) ?_
        refine goS X122 hx hZ hown (W 94 rfl) (m42 hw) 3 8 22 (rm_un0p hw b69 k69 v71 v75 v79 (2 : Int32) T85.heap n0 Z86 f121 p71_0 p75_0 p79_0 (by decide) (by decide)) N122 hh122 pd_30 hml (dk at_86) ?_
        rintro _ T123 L123 X123 N123 ⟨rfl, hh123⟩
        refine gz X123 116 #[vi p1, vi p2, vi p3, vi p4, vi p5, vi 2, vi mx12, vr b69, vr b83, vr b85, .val (.int (own_len (own_cp v71 v75))), vi 2, vi 2, .unset, .unset, .unset, .unset] [(.int 2), (.int 2), (.ref b69)] (fun _ k => sI (x := (2 : Int32)) (rest := []) X123 hx (dk at_89) (by rw [g90_1]; rfl) rfl (.inl rfl) (kC X123 hx (dk at_91) (sI X123 hx (dk at_92) rfl rfl (.inl rfl) (lI X123 hx (dk at_94) rfl (fN X123 hx (dk at_96) rfl ((if0 _ _).trans (tlt (by decide)).2.2.2) (lI X123 hx (dk at_99) rfl (lI X123 hx (dk at_101) rfl (cN X123 hx (dk at_103) rfl (flt g90_0).2.2.1 (lI X123 hx (dk at_106) rfl (sI X123 hx (dk at_108) rfl rfl (.inr ⟨_, rfl, rfl⟩) (aI X123 hx (dk at_110) rfl rfl (lI X123 hx (dk at_112) rfl (lI X123 hx (dk at_114) rfl k))))))))))))) ?_
        refine goS X123 hx hZ hown (W 91 rfl) (m45 hw) 3 8 22 (rm_byO hw b69 (2 : Int32) (2 : Int32) T85.heap n0 Z86 (by decide)) N123 hh123 pd_30 hml (dk at_116) ?_
        rintro _ T124 L124 X124 N124 ⟨rfl, hh124⟩
        refine gz X124 129 #[vi p1, vi p2, vi p3, vi p4, vi p5, vi 2, vi mx12, vr b69, vr b83, vr b85, .val (.int (own_len (own_cp v71 v75))), vi 2, vi 2, vi 0, .unset, .unset, .unset] [(.int 2), (.int 2), (.ref b69), (.int 2)] (fun _ k => sI X124 hx (dk at_119) rfl rfl (.inl rfl) (lI X124 hx (dk at_121) rfl (aI X124 hx (dk at_123) rfl rfl (lI X124 hx (dk at_125) rfl (lI X124 hx (dk at_127) rfl k))))) ?_
        refine goS X124 hx hZ hown (W 94 rfl) (m42 hw) 3 8 22 (rm_unO hw b69 (2 : Int32) (2 : Int32) T85.heap n0 Z86 (by decide)) N124 hh124 pd_30 hml (dk at_129) ?_
        rintro _ T125 L125 X125 N125 ⟨rfl, hh125⟩
        refine gz X125 207 #[vi p1, vi p2, vi p3, vi p4, vi p5, vi 2, vi mx12, vr b69, vr b83, vr b85, .val (.int (own_len (own_cp v71 v75))), vi 2, vi 2, vi 0, vi 2, .unset, .unset] [(.ref b85)] (fun _ k => pI X125 hx (dk at_132) rfl (sI X125 hx (dk at_133) rfl rfl (.inl rfl) (lI X125 hx (dk at_135) rfl (lI X125 hx (dk at_137) rfl (cY X125 hx 139 205 rfl (dk at_139) rfl (flt (by decide)).2.1 (aI X125 hx (dk at_205) rfl rfl k)))))) ?_
        refine goV X125 hx hZ hown (W 98 rfl) (m34 hw) E_90 0 8 22 (rm_lenS_2 hw b85 t85 k85 v71 v75 cs T85.heap n0 Z86 O86 pr1 hcs E_90 F_90 S_90) N125 hh125 pd_26 hml (dk at_207) ?_
        rintro _ T126 L126 X126 N126 ⟨rfl, hh126⟩
        refine gz X126 226 #[vi p1, vi p2, vi p3, vi p4, vi p5, vi 2, vi mx12, vr b69, vr b83, vr b85, .val (.int (own_len (own_cp v71 v75))), vi 2, vi 2, vi 0, vi 2, .unset, .unset] [(.int 0), (.ref b85)] (fun _ k => lI X126 hx (dk at_210) rfl (cY X126 hx 212 217 rfl (dk at_212) rfl (teq (by decide)).1 (lI X126 hx (dk at_217) rfl (kC X126 hx (dk at_219) (cN X126 hx (dk at_220) rfl (flt (by decide)).1 (aI X126 hx (dk at_223) rfl rfl (kC X126 hx (dk at_225) k))))))) ?_
        refine goV X126 hx hZ hown (W 104 rfl) (m47 hw) E_90 1 8 22 (rm_caS_2_0 hw b85 t85 k85 v71 v75 cs fm T85.heap n0 Z86 O86 pr1 hcs pr6 hr_fm pr3 pr4 pr5 E_90 F_90 S_90 p71_0 p75_0) N126 hh126 pd_31 hml (dk at_226) ?_
        rintro _ T127 L127 X127 N127 ⟨rfl, hh127⟩
        refine gz X127 232 #[vi p1, vi p2, vi p3, vi p4, vi p5, vi 2, vi mx12, vr b69, vr b83, vr b85, .val (.int (own_len (own_cp v71 v75))), vi 2, vi 2, vi 0, vi 2, .unset, .unset] [(.int 0), (.ref b69), (.int v71)] (fun _ k => aI X127 hx (dk at_229) rfl rfl (kC X127 hx (dk at_231) k)) ?_
        obtain ⟨cl128, Ar128, q128, S128, N_128, Hs128, G128⟩ := id f121
        have hin129 : ¬ ((0 : Int32) < 0 ∨ cl128.slots.size ≤ ((0 : Int32)).toNatClampNeg) := inb_of S128 ⟨by decide, by decide⟩
        have hat129 : cl128.slots[((0 : Int32)).toNatClampNeg]? = some (.int v71) := Hs128.at hin129 rfl
        refine gz X127 233 #[vi p1, vi p2, vi p3, vi p4, vi p5, vi 2, vi mx12, vr b69, vr b83, vr b85, .val (.int (own_len (own_cp v71 v75))), vi 2, vi 2, vi 0, vi 2, .unset, .unset] [(.int v71), (.int v71)] (fun _ k => X127.caload hx (j := (0 : Int32)) (v := (.int v71)) (by rw [hh127]; exact Ar128.1) (State.isArrayOf_alike hZ.alike Ar128.2.1) Ar128.2.2 hin129 hat129 (g := (mkF m 232 #[vi p1, vi p2, vi p3, vi p4, vi p5, vi 2, vi mx12, vr b69, vr b83, vr b85, .val (.int (own_len (own_cp v71 v75))), vi 2, vi 2, vi 0, vi 2, .unset, .unset] [(.int 0), (.ref b69), (.int v71)])) rfl rfl (dk at_232) _ k) ?_
        refine gz X127 245 #[vi p1, vi p2, vi p3, vi p4, vi p5, vi 2, vi mx12, vr b69, vr b83, vr b85, .val (.int (own_len (own_cp v71 v75))), vi 2, vi 2, vi 0, vi 2, .unset, .unset] [(.int 1), (.ref b85)] (fun _ k => cN X127 hx (dk at_233) rfl (teq (rfl : v71 = v71)).2 (lI X127 hx (dk at_236) rfl (kC X127 hx (dk at_238) (cN X127 hx (dk at_239) rfl (flt (by decide)).1 (aI X127 hx (dk at_242) rfl rfl (kC X127 hx (dk at_244) k)))))) ?_
        refine goV X127 hx hZ hown (W 104 rfl) (m47 hw) E_90 1 8 22 (rm_caS_2_1 hw b85 t85 k85 v71 v75 cs fm T85.heap n0 Z86 O86 pr1 hcs pr6 hr_fm pr3 pr4 pr5 E_90 F_90 S_90 p71_0 p75_0) N127 hh127 pd_31 hml (dk at_245) ?_
        rintro _ T130 L130 X130 N130 ⟨rfl, hh130⟩
        refine gz X130 251 #[vi p1, vi p2, vi p3, vi p4, vi p5, vi 2, vi mx12, vr b69, vr b83, vr b85, .val (.int (own_len (own_cp v71 v75))), vi 2, vi 2, vi 0, vi 2, .unset, .unset] [(.int 1), (.ref b69), (.int v75)] (fun _ k => aI X130 hx (dk at_248) rfl rfl (kC X130 hx (dk at_250) k)) ?_
        obtain ⟨cl131, Ar131, q131, S131, N_131, Hs131, G131⟩ := id f121
        have hin132 : ¬ ((1 : Int32) < 0 ∨ cl131.slots.size ≤ ((1 : Int32)).toNatClampNeg) := inb_of S131 ⟨by decide, by decide⟩
        have hat132 : cl131.slots[((1 : Int32)).toNatClampNeg]? = some (.int v75) := Hs131.at hin132 rfl
        refine gz X130 252 #[vi p1, vi p2, vi p3, vi p4, vi p5, vi 2, vi mx12, vr b69, vr b83, vr b85, .val (.int (own_len (own_cp v71 v75))), vi 2, vi 2, vi 0, vi 2, .unset, .unset] [(.int v75), (.int v75)] (fun _ k => X130.caload hx (j := (1 : Int32)) (v := (.int v75)) (by rw [hh130]; exact Ar131.1) (State.isArrayOf_alike hZ.alike Ar131.2.1) Ar131.2.2 hin132 hat132 (g := (mkF m 251 #[vi p1, vi p2, vi p3, vi p4, vi p5, vi 2, vi mx12, vr b69, vr b83, vr b85, .val (.int (own_len (own_cp v71 v75))), vi 2, vi 2, vi 0, vi 2, .unset, .unset] [(.int 1), (.ref b69), (.int v75)])) rfl rfl (dk at_251) _ k) ?_
        refine gz X130 279 #[vi p1, vi p2, vi p3, vi p4, vi p5, vi 2, vi mx12, vr b69, vr b83, vr b85, .val (.int (own_len (own_cp v71 v75))), vi 2, vi 2, vi 0, vi 2, .unset, .unset] [(.int 1)] (fun _ k => cN X130 hx (dk at_252) rfl (teq (rfl : v75 = v75)).2 (lI X130 hx (dk at_255) rfl (kC X130 hx (dk at_257) (cY X130 hx 258 274 rfl (dk at_258) rfl (tlt (by decide)).1 (kC X130 hx (dk at_274) (gT X130 hx 275 279 rfl (dk at_275) k)))))) ?_
        have hkE133 : _ ≤ T130.heap.size := (by rw [hh130]; exact hk)
        have CE133 : CHr Z own_EL s.vm s.heap T85.vm T130.heap := (by rw [hh130]; exact C86)
        refine Go.retS X130 hx hlk hS hkE133 hZ hEL CE133 (t := .boolean) hret rfl (Or.inl ⟨rfl, by simp, _, rfl⟩) (dk at_279) (by decide) (by decide) ?_
        exact ⟨rfl, N130⟩
    · skip
      refine gz X12 28 #[vi p1, vi p2, vi p3, vi p4, vi p5, vi 3, vi mx12, .unset, .unset, .unset, .unset, .unset, .unset, .unset, .unset, .unset, .unset] [(.int 3)] (fun _ k => kC X12 hx (dk at_27) k) ?_
      obtain ⟨T134, h134, k134, X134, e134, E134, A134, st134⟩ := newP X12 hx hZ (W 0 rfl) e12 (g := (mkF m 28 #[vi p1, vi p2, vi p3, vi p4, vi p5, vi 3, vi mx12, .unset, .unset, .unset, .unset, .unset, .unset, .unset, .unset, .unset, .unset] [(.int 3)])) rfl (dk at_28) rfl (by decide) (cap := 3) (by decide) (by decide) (by decide) (by decide)
      obtain ⟨b134, g134⟩ : ∃ z, z = h0.size := ⟨_, rfl⟩
      rw [← g134] at A134 st134
      have sz_b134 : h0.size ≤ b134 := Nat.le_of_eq g134.symm
      have V134 : Arv Z h134 b134 k134 .char (3 : Int32) [(.int 0), (.int 0), (.int 0)] (.int 0) := (Arv.new A134 (by decide)).pad (pad_rep [] (.int 0) 3)
      have C135 := C0.trans (CHr.ext E134 C0.1)
      have O135 := pr0.ext E134
      have Z135 : n0 ≤ h134.size := Nat.le_trans Z0 E134.1
      refine gz X134 33 #[vi p1, vi p2, vi p3, vi p4, vi p5, vi 3, vi mx12, .unset, .unset, .unset, .unset, .unset, .unset, .unset, .unset, .unset, .unset] [(.int p1), (.int 0), (.ref b134), (.ref b134)] (fun _ k => st134 _ (XS.dup X134.here hx rfl (dk at_30) rfl rfl (kC X134 hx (dk at_31) (lN X134 hx (dk at_32) rfl k)))) ?_
      refine goS X134 hx hZ hown (W 1 rfl) (m43 hw) 1 1 3 (rm_draw hw p1 h134 n0 Z135 ) N11 e134 pd_31 hml (dk at_33) ?_
      rintro _ T136 L136 X136 N136 ⟨v136, rfl, hh136, p136_0⟩
      obtain ⟨cl137, Ar137, q137, S137, N_137, Hs137, G137⟩ := id V134
      have hin138 : ¬ ((0 : Int32) < 0 ∨ cl137.slots.size ≤ ((0 : Int32)).toNatClampNeg) := inb_of S137 ⟨by decide, by decide⟩
      obtain ⟨T138, h138, X138, e138, W138, st138⟩ := stC X136 hx hZ hh136 Ar137 (j := (0 : Int32)) hin138 (g := (mkF m 36 #[vi p1, vi p2, vi p3, vi p4, vi p5, vi 3, vi mx12, .unset, .unset, .unset, .unset, .unset, .unset, .unset, .unset, .unset, .unset] [(.int v136), (.int 0), (.ref b134), (.ref b134)])) rfl rfl (dk at_36)
      rw [own_nc p136_0] at W138
      have C139 := C135.trans (CHr.wr W138 (Safe.arv hZ.alike V134 nofun) C135.1)
      have O139 := O135.wr W138 (Nat.le_trans Z0 sz_b134)
      have Z139 : n0 ≤ h138.size := Nat.le_trans Z135 (Keep.of_wr W138).1
      have V138 : Arv Z h138 b134 k134 .char (3 : Int32) [(.int v136), (.int 0), (.int 0)] (.int 0) := Arv.set Ar137 q137 S137 N_137 Hs137 G137 (own_fc p136_0) W138 0 rfl (Nat.le_of_ble_eq_true rfl)
      have N138 := Fr.snoc X138 N136 (Nat.le_trans Z0 sz_b134)
      refine gz X138 40 #[vi p1, vi p2, vi p3, vi p4, vi p5, vi 3, vi mx12, .unset, .unset, .unset, .unset, .unset, .unset, .unset, .unset, .unset, .unset] [(.int p2), (.int 1), (.ref b134), (.ref b134)] (fun _ k => st138 _ (XS.dup X138.here hx rfl (dk at_37) rfl rfl (kC X138 hx (dk at_38) (lN X138 hx (dk at_39) rfl k)))) ?_
      refine goS X138 hx hZ hown (W 1 rfl) (m43 hw) 1 1 3 (rm_draw hw p2 h138 n0 Z139 ) N138 e138 pd_31 hml (dk at_40) ?_
      rintro _ T140 L140 X140 N140 ⟨v140, rfl, hh140, p140_0⟩
      obtain ⟨cl141, Ar141, q141, S141, N_141, Hs141, G141⟩ := id V138
      have hin142 : ¬ ((1 : Int32) < 0 ∨ cl141.slots.size ≤ ((1 : Int32)).toNatClampNeg) := inb_of S141 ⟨by decide, by decide⟩
      obtain ⟨T142, h142, X142, e142, W142, st142⟩ := stC X140 hx hZ hh140 Ar141 (j := (1 : Int32)) hin142 (g := (mkF m 43 #[vi p1, vi p2, vi p3, vi p4, vi p5, vi 3, vi mx12, .unset, .unset, .unset, .unset, .unset, .unset, .unset, .unset, .unset, .unset] [(.int v140), (.int 1), (.ref b134), (.ref b134)])) rfl rfl (dk at_43)
      rw [own_nc p140_0] at W142
      have C143 := C139.trans (CHr.wr W142 (Safe.arv hZ.alike V138 nofun) C139.1)
      have O143 := O139.wr W142 (Nat.le_trans Z0 sz_b134)
      have Z143 : n0 ≤ h142.size := Nat.le_trans Z139 (Keep.of_wr W142).1
      have V142 : Arv Z h142 b134 k134 .char (3 : Int32) [(.int v136), (.int v140), (.int 0)] (.int 0) := Arv.set Ar141 q141 S141 N_141 Hs141 G141 (own_fc p140_0) W142 1 rfl (Nat.le_of_ble_eq_true rfl)
      have N142 := Fr.snoc X142 N140 (Nat.le_trans Z0 sz_b134)
      refine gz X142 47 #[vi p1, vi p2, vi p3, vi p4, vi p5, vi 3, vi mx12, .unset, .unset, .unset, .unset, .unset, .unset, .unset, .unset, .unset, .unset] [(.int p3), (.int 2), (.ref b134), (.ref b134)] (fun _ k => st142 _ (XS.dup X142.here hx rfl (dk at_44) rfl rfl (kC X142 hx (dk at_45) (lN X142 hx (dk at_46) rfl k)))) ?_
      refine goS X142 hx hZ hown (W 1 rfl) (m43 hw) 1 1 3 (rm_draw hw p3 h142 n0 Z143 ) N142 e142 pd_31 hml (dk at_47) ?_
      rintro _ T144 L144 X144 N144 ⟨v144, rfl, hh144, p144_0⟩
      obtain ⟨cl145, Ar145, q145, S145, N_145, Hs145, G145⟩ := id V142
      have hin146 : ¬ ((2 : Int32) < 0 ∨ cl145.slots.size ≤ ((2 : Int32)).toNatClampNeg) := inb_of S145 ⟨by decide, by decide⟩
      obtain ⟨T146, h146, X146, e146, W146, st146⟩ := stC X144 hx hZ hh144 Ar145 (j := (2 : Int32)) hin146 (g := (mkF m 50 #[vi p1, vi p2, vi p3, vi p4, vi p5, vi 3, vi mx12, .unset, .unset, .unset, .unset, .unset, .unset, .unset, .unset, .unset, .unset] [(.int v144), (.int 2), (.ref b134), (.ref b134)])) rfl rfl (dk at_50)
      rw [own_nc p144_0] at W146
      have C147 := C143.trans (CHr.wr W146 (Safe.arv hZ.alike V142 nofun) C143.1)
      have O147 := O143.wr W146 (Nat.le_trans Z0 sz_b134)
      have Z147 : n0 ≤ h146.size := Nat.le_trans Z143 (Keep.of_wr W146).1
      have V146 : Arv Z h146 b134 k134 .char (3 : Int32) [(.int v136), (.int v140), (.int v144)] (.int 0) := Arv.set Ar145 q145 S145 N_145 Hs145 G145 (own_fc p144_0) W146 2 rfl (Nat.le_of_ble_eq_true rfl)
      have N146 := Fr.snoc X146 N144 (Nat.le_trans Z0 sz_b134)
      refine gz X146 57 #[vi p1, vi p2, vi p3, vi p4, vi p5, vi 3, vi mx12, vr b134, .unset, .unset, .unset, .unset, .unset, .unset, .unset, .unset, .unset] [(.int 3), (.ref b134)] (fun _ k => st146 _ (tI X146 hx (dk at_51) rfl rfl rfl (.inl rfl) (aI X146 hx (dk at_53) rfl rfl (lI X146 hx (dk at_55) rfl k)))) ?_
      refine goS X146 hx hZ hown (W 5 rfl) (m46 hw) 2 5 19 (rm_text_3 hw b134 k134 v136 v140 v144 cs h146 n0 Z147 O147 pr1 hcs pr3 pr4 pr5 V146 p136_0 p140_0 p144_0) N146 e146 pd_32 hml (dk at_57) ?_
      rintro _ T148 L148 X148 N148 ⟨b148, t148, k148, rfl, K148, p148_0, p148_1, p148_2, p148_3⟩
      have C149 := C147.trans (CHr.keep K148 sf0 C147.1)
      have O149 := O147.keep K148 all0
      have Z149 : n0 ≤ T148.heap.size := Nat.le_trans Z147 K148.1
      have sz_b148 : h146.size ≤ b148 := p148_2
      refine gz X148 66 #[vi p1, vi p2, vi p3, vi p4, vi p5, vi 3, vi mx12, vr b134, vr b148, .unset, .unset, .unset, .unset, .unset, .unset, .unset, .unset] [(.int mx12), (.ref b148)] (fun _ k => tI X148 hx (dk at_60) rfl rfl rfl (.inl rfl) (aI X148 hx (dk at_62) rfl rfl (lI X148 hx (dk at_64) rfl k))) ?_
      have hkT150 : _ ≤ T148.heap.size := (Nat.le_trans (Nat.le_trans (Nat.le_trans (Nat.le_trans (Nat.le_trans hk E134.1) (Keep.of_wr W138).1) (Keep.of_wr W142).1) (Keep.of_wr W146).1) K148.1)
      obtain ⟨_, _, ⟨T150, L150, k150, n150⟩, -, X150, hSn150, hgr150, ⟨Lc150, hQ150, l150, y150, z150, CS150⟩, st150⟩ := callSS X148 hx (y := Y0) hown (mvT hZ (W 37 rfl)) (mvT hZ (W 38 rfl)) (mvT hZ (W 39 rfl)) (mvT hZ (W 40 rfl)) (by decide) (backOfSH (W := 0) (rm_cut_3 hw b148 t148 k148 v136 v140 v144 mx12 cs fm T148.heap n0 Z149 O149 pr1 hcs pr6 hr_fm pr3 pr4 pr5 p148_0 p148_1 p148_3 p136_0 p140_0 p144_0) hZ (W 40 rfl) (W 39 rfl) (by decide) (by decide) hEL C149.1) (g := (mkF m 66 #[vi p1, vi p2, vi p3, vi p4, vi p5, vi 3, vi mx12, vr b134, vr b148, .unset, .unset, .unset, .unset, .unset, .unset, .unset, .unset] [(.int mx12), (.ref b148)])) rfl (by rw [hml]; rfl) (argsL := [(.ref b148), (.int mx12)]) (rest := []) (lenOf pd_33 rfl) rfl (by show 2 * 0 + _ ≤ _; exact Nat.le_of_eq rfl) (dk at_66) (fun _ _ => ⟨rfl, rfl, Nat.le_of_ble_eq_true rfl, Nat.le_of_ble_eq_true rfl⟩)
      dsimp only [Pt.U, Pt.locs, Pt.cells, Pt.slots] at X150 l150 y150 z150 st150 hQ150 hSn150 hgr150 CS150
      subst l150 y150 z150
      obtain ⟨X150, hS, hZ, hown⟩ := rebS hS hkT150 X150 hSn150 hgr150 hZ hown
      have hk : T150.heap.size ≤ T150.heap.size := Nat.le_refl _
      obtain ⟨Nq150, b150, t150, k150, rfl, K150, p150_0⟩ := hQ150
      have N150 := Fr.app N148 Nq150
      have X150 : Stand p l e _ _ m _ below meth c T150 _ 8 29 := X150
      have C151 := C149.trans CS150
      have O151 := O149.keep K150 all0
      have Z151 : n0 ≤ T150.heap.size := Nat.le_trans Z149 K150.1
      refine gz X150 69 #[vi p1, vi p2, vi p3, vi p4, vi p5, vi 3, vi mx12, vr b134, vr b148, .unset, .unset, .unset, .unset, .unset, .unset, .unset, .unset] [(.ref b150)] (fun _ k => st150.trans k) ?_
      rcases p150_0 with ⟨g152_0, E_152, F_152, C_152, A_152⟩ | ⟨g153_0, g153_1, g153_2, E_153, F_153, S_153⟩ | ⟨g154_0, g154_1, g154_2, g154_3, g154_4, E_154, F_154, S_154⟩ | ⟨g155_0, g155_1, g155_2, g155_3, g155_4, E_155, F_155, S_155⟩ | ⟨g156_0, g156_1, g156_2, g156_3, E_156, F_156, S_156⟩ | ⟨g157_0, g157_1, g157_2, E_157, F_157, S_157⟩ | ⟨g158_0, g158_1, g158_2, E_158, F_158, S_158⟩
      · skip
        refine gz X150 76 #[vi p1, vi p2, vi p3, vi p4, vi p5, vi 3, vi mx12, vr b134, vr b148, vr b150, .unset, .unset, .unset, .unset, .unset, .unset, .unset] [(.int 0), (.int 3), (.ref b134)] (fun _ k => tI X150 hx (dk at_69) rfl rfl rfl (.inl rfl) (aI X150 hx (dk at_71) rfl rfl (lI X150 hx (dk at_73) rfl (kC X150 hx (dk at_75) k)))) ?_
        have f159 := ((V146.keep K148 nin0).keep K150 nin0)
        refine goS X150 hx hZ hown (W 91 rfl) (m45 hw) 3 8 29 (rm_by0p hw b134 k134 v136 v140 v144 (3 : Int32) T150.heap n0 Z151 f159 p136_0 p140_0 p144_0 (by decide) (by decide)) N150 rfl pd_30 hml (dk at_76) ?_
        rintro _ T160 L160 X160 N160 ⟨rfl, hh160⟩
        refine gz X160 86 #[vi p1, vi p2, vi p3, vi p4, vi p5, vi 3, vi mx12, vr b134, vr b148, vr b150, .val (.int (own_len (own_cp v136 v140))), .unset, .unset, .unset, .unset, .unset, .unset] [(.int 0), (.int 3), (.ref b134)] (fun _ k => sI X160 hx (dk at_79) rfl rfl (.inl rfl) (aI X160 hx (dk at_81) rfl rfl (lI X160 hx (dk at_83) rfl (kC X160 hx (dk at_85) k)))) ?_
        refine goS X160 hx hZ hown (W 94 rfl) (m42 hw) 3 8 29 (rm_un0p hw b134 k134 v136 v140 v144 (3 : Int32) T150.heap n0 Z151 f159 p136_0 p140_0 p144_0 (by decide) (by decide)) N160 hh160 pd_30 hml (dk at_86) ?_
        rintro _ T161 L161 X161 N161 ⟨rfl, hh161⟩
        refine gz X161 207 #[vi p1, vi p2, vi p3, vi p4, vi p5, vi 3, vi mx12, vr b134, vr b148, vr b150, .val (.int (own_len (own_cp v136 v140))), .val (.int (own_cnt (own_cp v136 v140))), vi 0, .unset, .unset, .unset, .unset] [(.ref b150)] (fun _ k => sI X161 hx (dk at_89) rfl rfl (.inl rfl) (kC X161 hx (dk at_91) (sI X161 hx (dk at_92) rfl rfl (.inl rfl) (lI X161 hx (dk at_94) rfl (fN X161 hx (dk at_96) rfl ((if0 _ _).trans (tlt (by decide)).2.2.2) (lI X161 hx (dk at_99) rfl (lI X161 hx (dk at_101) rfl (cY X161 hx 103 205 rfl (dk at_103) rfl (tlt g152_0).2.2.1 (aI X161 hx (dk at_205) rfl rfl k))))))))) ?_
        refine goV X161 hx hZ hown (W 98 rfl) (m34 hw) E_152 0 8 29 (rm_len_0_0 hw b150 t150 k150 cs [] T150.heap n0 Z151 O151 pr1 hcs E_152 F_152 C_152 A_152) N161 hh161 pd_26 hml (dk at_207) ?_
        rintro _ T162 L162 X162 N162 ⟨rfl, hh162⟩
        refine gz X162 279 #[vi p1, vi p2, vi p3, vi p4, vi p5, vi 3, vi mx12, vr b134, vr b148, vr b150, .val (.int (own_len (own_cp v136 v140))), .val (.int (own_cnt (own_cp v136 v140))), vi 0, .unset, .unset, .unset, .unset] [(.int 1)] (fun _ k => lI X162 hx (dk at_210) rfl (cY X162 hx 212 217 rfl (dk at_212) rfl (teq (by decide)).1 (lI X162 hx (dk at_217) rfl (kC X162 hx (dk at_219) (cY X162 hx 220 236 rfl (dk at_220) rfl (tlt (by decide)).1 (lI X162 hx (dk at_236) rfl (kC X162 hx (dk at_238) (cY X162 hx 239 255 rfl (dk at_239) rfl (tlt (by decide)).1 (lI X162 hx (dk at_255) rfl (kC X162 hx (dk at_257) (cY X162 hx 258 274 rfl (dk at_258) rfl (tlt (by decide)).1 (kC X162 hx (dk at_274) (gT X162 hx 275 279 rfl (dk at_275) k))))))))))))) ?_
        have hkE163 : _ ≤ T162.heap.size := (by rw [hh162]; exact hk)
        have CE163 : CHr Z own_EL s.vm s.heap T150.vm T162.heap := (by rw [hh162]; exact C151)
        refine Go.retS X162 hx hlk hS hkE163 hZ hEL CE163 (t := .boolean) hret rfl (Or.inl ⟨rfl, by simp, _, rfl⟩) (dk at_279) (by decide) (by decide) ?_
        exact ⟨rfl, N162⟩
      · skip
        refine gz X150 76 #[vi p1, vi p2, vi p3, vi p4, vi p5, vi 3, vi mx12, vr b134, vr b148, vr b150, .unset, .unset, .unset, .unset, .unset, .unset, .unset] [(.int 0), (.int 3), (.ref b134)] (fun _ k => tI X150 hx (dk at_69) rfl rfl rfl (.inl rfl) (aI X150 hx (dk at_71) rfl rfl (lI X150 hx (dk at_73) rfl (kC X150 hx (dk at_75) k)))) ?_
        have f164 := ((V146.keep K148 nin0).keep K150 nin0)
        refine goS X150 hx hZ hown (W 91 rfl) (m45 hw) 3 8 29 (rm_by0p hw b134 k134 v136 v140 v144 (3 : Int32) T150.heap n0 Z151 f164 p136_0 p140_0 p144_0 (by decide) (by decide)) N150 rfl pd_30 hml (dk at_76) ?_
        rintro _ T165 L165 X165 N165 ⟨rfl, hh165⟩
        refine gz X165 86 #[vi p1, vi p2, vi p3, vi p4, vi p5, vi 3, vi mx12, vr b134, vr b148, vr b150, .val (.int (own_len (own_cp v136 v140))), .unset, .unset, .unset, .unset, .unset, .unset] [(.int 0), (.int 3), (.ref b134)] (fun _ k => sI X165 hx (dk at_79) rfl rfl (.inl rfl) (aI X165 hx (dk at_81) rfl rfl (lI X165 hx (dk at_83) rfl (kC X165 hx (dk at_85) k)))) ?_
        refine goS X165 hx hZ hown (W 94 rfl) (m42 hw) 3 8 29 (rm_un0p hw b134 k134 v136 v140 v144 (3 : Int32) T150.heap n0 Z151 f164 p136_0 p140_0 p144_0 (by decide) (by decide)) N165 hh165 pd_30 hml (dk at_86) ?_
        rintro _ T166 L166 X166 N166 ⟨rfl, hh166⟩
        refine gz X166 116 #[vi p1, vi p2, vi p3, vi p4, vi p5, vi 3, vi mx12, vr b134, vr b148, vr b150, .val (.int (own_len (own_cp v136 v140))), vi 1, vi 1, .unset, .unset, .unset, .unset] [(.int 1), (.int 3), (.ref b134)] (fun _ k => sI (x := (1 : Int32)) (rest := []) X166 hx (dk at_89) (by rw [g153_1]; rfl) rfl (.inl rfl) (kC X166 hx (dk at_91) (sI X166 hx (dk at_92) rfl rfl (.inl rfl) (lI X166 hx (dk at_94) rfl (fN X166 hx (dk at_96) rfl ((if0 _ _).trans (tlt (by decide)).2.2.2) (lI X166 hx (dk at_99) rfl (lI X166 hx (dk at_101) rfl (cN X166 hx (dk at_103) rfl (flt g153_0).2.2.1 (lI X166 hx (dk at_106) rfl (sI X166 hx (dk at_108) rfl rfl (.inr ⟨_, rfl, rfl⟩) (aI X166 hx (dk at_110) rfl rfl (lI X166 hx (dk at_112) rfl (lI X166 hx (dk at_114) rfl k))))))))))))) ?_
        refine goS X166 hx hZ hown (W 91 rfl) (m45 hw) 3 8 29 (rm_by1p hw b134 k134 v136 v140 v144 (3 : Int32) T150.heap n0 Z151 f164 p136_0 p140_0 p144_0 (by decide) (by decide)) N166 hh166 pd_30 hml (dk at_116) ?_
        rintro _ T167 L167 X167 N167 ⟨rfl, hh167⟩
        refine gz X167 129 #[vi p1, vi p2, vi p3, vi p4, vi p5, vi 3, vi mx12, vr b134, vr b148, vr b150, .val (.int (own_len (own_cp v136 v140))), vi 1, vi 1, .val (.int (own_len (own_cp v140 v144))), .unset, .unset, .unset] [(.int 1), (.int 3), (.ref b134), (.int 1)] (fun _ k => sI X167 hx (dk at_119) rfl rfl (.inl rfl) (lI X167 hx (dk at_121) rfl (aI X167 hx (dk at_123) rfl rfl (lI X167 hx (dk at_125) rfl (lI X167 hx (dk at_127) rfl k))))) ?_
        refine goS X167 hx hZ hown (W 94 rfl) (m42 hw) 3 8 29 (rm_un1p hw b134 k134 v136 v140 v144 (3 : Int32) T150.heap n0 Z151 f164 p136_0 p140_0 p144_0 (by decide) (by decide)) N167 hh167 pd_30 hml (dk at_129) ?_
        rintro _ T168 L168 X168 N168 ⟨rfl, hh168⟩
        refine gz X168 207 #[vi p1, vi p2, vi p3, vi p4, vi p5, vi 3, vi mx12, vr b134, vr b148, vr b150, .val (.int (own_len (own_cp v136 v140))), vi 1, vi 1, .val (.int (own_len (own_cp v140 v144))), .val (.int ((1 : Int32) + (own_cnt (own_cp v140 v144)))), .unset, .unset] [(.ref b150)] (fun _ k => pI X168 hx (dk at_132) rfl (sI X168 hx (dk at_133) rfl rfl (.inl rfl) (lI X168 hx (dk at_135) rfl (lI X168 hx (dk at_137) rfl (cN X168 hx (dk at_139) rfl (tlt (by decide)).2.1 (lI X168 hx (dk at_142) rfl (lI X168 hx (dk at_144) rfl (pI X168 hx (dk at_146) rfl (lI X168 hx (dk at_147) rfl (cY X168 hx 149 205 rfl (dk at_149) rfl (tlt g153_2).2.2.1 (aI X168 hx (dk at_205) rfl rfl k))))))))))) ?_
        refine goV X168 hx hZ hown (W 98 rfl) (m34 hw) E_153 0 8 29 (rm_lenS_1 hw b150 t150 k150 v136 cs T150.heap n0 Z151 O151 pr1 hcs E_153 F_153 S_153) N168 hh168 pd_26 hml (dk at_207) ?_
        rintro _ T169 L169 X169 N169 ⟨rfl, hh169⟩
        refine gz X169 226 #[vi p1, vi p2, vi p3, vi p4, vi p5, vi 3, vi mx12, vr b134, vr b148, vr b150, .val (.int (own_len (own_cp v136 v140))), vi 1, vi 1, .val (.int (own_len (own_cp v140 v144))), .val (.int ((1 : Int32) + (own_cnt (own_cp v140 v144)))), .unset, .unset] [(.int 0), (.ref b150)] (fun _ k => lI X169 hx (dk at_210) rfl (cY X169 hx 212 217 rfl (dk at_212) rfl (teq (by decide)).1 (lI X169 hx (dk at_217) rfl (kC X169 hx (dk at_219) (cN X169 hx (dk at_220) rfl (flt (by decide)).1 (aI X169 hx (dk at_223) rfl rfl (kC X169 hx (dk at_225) k))))))) ?_
        refine goV X169 hx hZ hown (W 104 rfl) (m47 hw) E_153 1 8 29 (rm_caS_1_0 hw b150 t150 k150 v136 cs fm T150.heap n0 Z151 O151 pr1 hcs pr6 hr_fm pr3 pr4 pr5 E_153 F_153 S_153 p136_0) N169 hh169 pd_31 hml (dk at_226) ?_
        rintro _ T170 L170 X170 N170 ⟨rfl, hh170⟩
        refine gz X170 232 #[vi p1, vi p2, vi p3, vi p4, vi p5, vi 3, vi mx12, vr b134, vr b148, vr b150, .val (.int (own_len (own_cp v136 v140))), vi 1, vi 1, .val (.int (own_len (own_cp v140 v144))), .val (.int ((1 : Int32) + (own_cnt (own_cp v140 v144)))), .unset, .unset] [(.int 0), (.ref b134), (.int v136)] (fun _ k => aI X170 hx (dk at_229) rfl rfl (kC X170 hx (dk at_231) k)) ?_
        obtain ⟨cl171, Ar171, q171, S171, N_171, Hs171, G171⟩ := id f164
        have hin172 : ¬ ((0 : Int32) < 0 ∨ cl171.slots.size ≤ ((0 : Int32)).toNatClampNeg) := inb_of S171 ⟨by decide, by decide⟩
        have hat172 : cl171.slots[((0 : Int32)).toNatClampNeg]? = some (.int v136) := Hs171.at hin172 rfl
        refine gz X170 233 #[vi p1, vi p2, vi p3, vi p4, vi p5, vi 3, vi mx12, vr b134, vr b148, vr b150, .val (.int (own_len (own_cp v136 v140))), vi 1, vi 1, .val (.int (own_len (own_cp v140 v144))), .val (.int ((1 : Int32) + (own_cnt (own_cp v140 v144)))), .unset, .unset] [(.int v136), (.int v136)] (fun _ k => X170.caload hx (j := (0 : Int32)) (v := (.int v136)) (by rw [hh170]; exact Ar171.1) (State.isArrayOf_alike hZ.alike Ar171.2.1) Ar171.2.2 hin172 hat172 (g := (mkF m 232 #[vi p1, vi p2, vi p3, vi p4, vi p5, vi 3, vi mx12, vr b134, vr b148, vr b150, .val (.int (own_len (own_cp v136 v140))), vi 1, vi 1, .val (.int (own_len (own_cp v140 v144))), .val (.int ((1 : Int32) + (own_cnt (own_cp v140 v144)))), .unset, .unset] [(.int 0), (.ref b134), (.int v136)])) rfl rfl (dk at_232) _ k) ?_
        refine gz X170 279 #[vi p1, vi p2, vi p3, vi p4, vi p5, vi 3, vi mx12, vr b134, vr b148, vr b150, .val (.int (own_len (own_cp v136 v140))), vi 1, vi 1, .val (.int (own_len (own_cp v140 v144))), .val (.int ((1 : Int32) + (own_cnt (own_cp v140 v144)))), .unset, .unset] [(.int 1)] (fun _ k => cN X170 hx (dk at_233) rfl (teq (rfl : v136 = v136)).2 (lI X170 hx (dk at_236) rfl (kC X170 hx (dk at_238) (cY X170 hx 239 255 rfl (dk at_239) rfl (tlt (by decide)).1 (lI X170 hx (dk at_255) rfl (kC X170 hx (dk at_257) (cY X170 hx 258 274 rfl (dk at_258) rfl (tlt (by decide)).1 (kC X170 hx (dk at_274) (gT X170 hx 275 279 rfl (dk at_275) k))))))))) ?_
        have hkE173 : _ ≤ T170.heap.size := (by rw [hh170]; exact hk)
        have CE173 : CHr Z own_EL s.vm s.heap T150.vm T170.heap := (by rw [hh170]; exact C151)
        refine Go.retS X170 hx hlk hS hkE173 hZ hEL CE173 (t := .boolean) hret rfl (Or.inl ⟨rfl, by simp, _, rfl⟩) (dk at_279) (by decide) (by decide) ?_
        exact ⟨rfl, N170⟩
      · skip
        refine gz X150 76 #[vi p1, vi p2, vi p3, vi p4, vi p5, vi 3, vi mx12, vr b134, vr b148, vr b150, .unset, .unset, .unset, .unset, .unset, .unset, .unset] [(.int 0), (.int 3), (.ref b134)] (fun _ k => tI X150 hx (dk at_69) rfl rfl rfl (.inl rfl) (aI X150 hx (dk at_71) rfl rfl (lI X150 hx (dk at_73) rfl (kC X150 hx (dk at_75) k)))) ?_
        have f174 := ((V146.keep K148 nin0).keep K150 nin0)
        refine goS X150 hx hZ hown (W 91 rfl) (m45 hw) 3 8 29 (rm_by0p hw b134 k134 v136 v140 v144 (3 : Int32) T150.heap n0 Z151 f174 p136_0 p140_0 p144_0 (by decide) (by decide)) N150 rfl pd_30 hml (dk at_76) ?_
        rintro _ T175 L175 X175 N175 ⟨rfl, hh175⟩
        refine gz X175 86 #[vi p1, vi p2, vi p3, vi p4, vi p5, vi 3, vi mx12, vr b134, vr b148, vr b150, .val (.int (own_len (own_cp v136 v140))), .unset, .unset, .unset, .unset, .unset, .unset] [(.int 0), (.int 3), (.ref b134)] (fun _ k => sI X175 hx (dk at_79) rfl rfl (.inl rfl) (aI X175 hx (dk at_81) rfl rfl (lI X175 hx (dk at_83) rfl (kC X175 hx (dk at_85) k)))) ?_
        refine goS X175 hx hZ hown (W 94 rfl) (m42 hw) 3 8 29 (rm_un0p hw b134 k134 v136 v140 v144 (3 : Int32) T150.heap n0 Z151 f174 p136_0 p140_0 p144_0 (by decide) (by decide)) N175 hh175 pd_30 hml (dk at_86) ?_
        rintro _ T176 L176 X176 N176 ⟨rfl, hh176⟩
        refine gz X176 116 #[vi p1, vi p2, vi p3, vi p4, vi p5, vi 3, vi mx12, vr b134, vr b148, vr b150, .val (.int (own_len (own_cp v136 v140))), vi 1, vi 1, .unset, .unset, .unset, .unset] [(.int 1), (.int 3), (.ref b134)] (fun _ k => sI (x := (1 : Int32)) (rest := []) X176 hx (dk at_89) (by rw [g154_1]; rfl) rfl (.inl rfl) (kC X176 hx (dk at_91) (sI X176 hx (dk at_92) rfl rfl (.inl rfl) (lI X176 hx (dk at_94) rfl (fN X176 hx (dk at_96) rfl ((if0 _ _).trans (tlt (by decide)).2.2.2) (lI X176 hx (dk at_99) rfl (lI X176 hx (dk at_101) rfl (cN X176 hx (dk at_103) rfl (flt g154_0).2.2.1 (lI X176 hx (dk at_106) rfl (sI X176 hx (dk at_108) rfl rfl (.inr ⟨_, rfl, rfl⟩) (aI X176 hx (dk at_110) rfl rfl (lI X176 hx (dk at_112) rfl (lI X176 hx (dk at_114) rfl k))))))))))))) ?_
        refine goS X176 hx hZ hown (W 91 rfl) (m45 hw) 3 8 29 (rm_by1p hw b134 k134 v136 v140 v144 (3 : Int32) T150.heap n0 Z151 f174 p136_0 p140_0 p144_0 (by decide) (by decide)) N176 hh176 pd_30 hml (dk at_116) ?_
        rintro _ T177 L177 X177 N177 ⟨rfl, hh177⟩
        refine gz X177 129 #[vi p1, vi p2, vi p3, vi p4, vi p5, vi 3, vi mx12, vr b134, vr b148, vr b150, .val (.int (own_len (own_cp v136 v140))), vi 1, vi 1, .val (.int (own_len (own_cp v140 v144))), .unset, .unset, .unset] [(.int 1), (.int 3), (.ref b134), (.int 1)] (fun _ k => sI X177 hx (dk at_119) rfl rfl (.inl rfl) (lI X177 hx (dk at_121) rfl (aI X177 hx (dk at_123) rfl rfl (lI X177 hx (dk at_125) rfl (lI X177 hx (dk at_127) rfl k))))) ?_
        refine goS X177 hx hZ hown (W 94 rfl) (m42 hw) 3 8 29 (rm_un1p hw b134 k134 v136 v140 v144 (3 : Int32) T150.heap n0 Z151 f174 p136_0 p140_0 p144_0 (by decide) (by decide)) N177 hh177 pd_30 hml (dk at_129) ?_
        rintro _ T178 L178 X178 N178 ⟨rfl, hh178⟩
        refine gz X178 133 #[vi p1, vi p2, vi p3, vi p4, vi p5, vi 3, vi mx12, vr b134, vr b148, vr b150, .val (.int (own_len (own_cp v136 v140))), vi 1, vi 1, .val (.int (own_len (own_cp v140 v144))), .unset, .unset, .unset] [(.int ((1 : Int32) + (own_cnt (own_cp v140 v144))))] (fun _ k => pI X178 hx (dk at_132) rfl k) ?_
        have hs179 : ((1 : Int32) + (own_cnt (own_cp v140 v144))) = (2 : Int32) := by rw [g154_3]; decide
        refine gz X178 162 #[vi p1, vi p2, vi p3, vi p4, vi p5, vi 3, vi mx12, vr b134, vr b148, vr b150, .val (.int (own_len (own_cp v136 v140))), vi 1, vi 2, .val (.int (own_len (own_cp v140 v144))), vi 2, .unset, .unset] [(.int 2), (.int 3), (.ref b134)] (fun _ k => sI (x := (2 : Int32)) (rest := []) X178 hx (dk at_133) (by rw [hs179]) rfl (.inl rfl) (lI X178 hx (dk at_135) rfl (lI X178 hx (dk at_137) rfl (cN X178 hx (dk at_139) rfl (tlt (by decide)).2.1 (lI X178 hx (dk at_142) rfl (lI X178 hx (dk at_144) rfl (pI X178 hx (dk at_146) rfl (lI X178 hx (dk at_147) rfl (cN X178 hx (dk at_149) rfl (flt g154_2).2.2.1 (lI X178 hx (dk at_152) rfl (sI X178 hx (dk at_154) rfl rfl (.inr ⟨_, rfl, rfl⟩) (aI X178 hx (dk at_156) rfl rfl (lI X178 hx (dk at_158) rfl (lI X178 hx (dk at_160) rfl k)))))))))))))) ?_
        refine goS X178 hx hZ hown (W 91 rfl) (m45 hw) 3 8 29 (rm_by2l hw b134 k134 v136 v140 v144 (3 : Int32) T150.heap n0 Z151 f174 p136_0 p140_0 p144_0 (by decide) (by decide)) N178 hh178 pd_30 hml (dk at_162) ?_
        rintro _ T180 L180 X180 N180 ⟨rfl, hh180⟩
        refine gz X180 175 #[vi p1, vi p2, vi p3, vi p4, vi p5, vi 3, vi mx12, vr b134, vr b148, vr b150, .val (.int (own_len (own_cp v136 v140))), vi 1, vi 2, .val (.int (own_len (own_cp v140 v144))), vi 2, .val (.int (own_len v144)), .unset] [(.int 2), (.int 3), (.ref b134), (.int 2)] (fun _ k => sI X180 hx (dk at_165) rfl rfl (.inl rfl) (lI X180 hx (dk at_167) rfl (aI X180 hx (dk at_169) rfl rfl (lI X180 hx (dk at_171) rfl (lI X180 hx (dk at_173) rfl k))))) ?_
        refine goS X180 hx hZ hown (W 94 rfl) (m42 hw) 3 8 29 (rm_un2l hw b134 k134 v136 v140 v144 (3 : Int32) T150.heap n0 Z151 f174 p136_0 p140_0 p144_0 (by decide) (by decide)) N180 hh180 pd_30 hml (dk at_175) ?_
        rintro _ T181 L181 X181 N181 ⟨rfl, hh181⟩
        refine gz X181 207 #[vi p1, vi p2, vi p3, vi p4, vi p5, vi 3, vi mx12, vr b134, vr b148, vr b150, .val (.int (own_len (own_cp v136 v140))), vi 1, vi 2, .val (.int (own_len (own_cp v140 v144))), vi 2, .val (.int (own_len v144)), vi 3] [(.ref b150)] (fun _ k => pI X181 hx (dk at_178) rfl (sI X181 hx (dk at_179) rfl rfl (.inl rfl) (lI X181 hx (dk at_181) rfl (lI X181 hx (dk at_183) rfl (cN X181 hx (dk at_185) rfl (tlt (by decide)).2.1 (lI X181 hx (dk at_188) rfl (lI X181 hx (dk at_190) rfl (pI X181 hx (dk at_192) rfl (lI X181 hx (dk at_193) rfl (pI X181 hx (dk at_195) rfl (lI X181 hx (dk at_196) rfl (cY X181 hx 198 205 rfl (dk at_198) rfl (tlt g154_4).2.2.1 (aI X181 hx (dk at_205) rfl rfl k))))))))))))) ?_
        refine goV X181 hx hZ hown (W 98 rfl) (m34 hw) E_154 0 8 29 (rm_lenS_2 hw b150 t150 k150 v136 v140 cs T150.heap n0 Z151 O151 pr1 hcs E_154 F_154 S_154) N181 hh181 pd_26 hml (dk at_207) ?_
        rintro _ T182 L182 X182 N182 ⟨rfl, hh182⟩
        refine gz X182 226 #[vi p1, vi p2, vi p3, vi p4, vi p5, vi 3, vi mx12, vr b134, vr b148, vr b150, .val (.int (own_len (own_cp v136 v140))), vi 1, vi 2, .val (.int (own_len (own_cp v140 v144))), vi 2, .val (.int (own_len v144)), vi 3] [(.int 0), (.ref b150)] (fun _ k => lI X182 hx (dk at_210) rfl (cY X182 hx 212 217 rfl (dk at_212) rfl (teq (by decide)).1 (lI X182 hx (dk at_217) rfl (kC X182 hx (dk at_219) (cN X182 hx (dk at_220) rfl (flt (by decide)).1 (aI X182 hx (dk at_223) rfl rfl (kC X182 hx (dk at_225) k))))))) ?_
        refine goV X182 hx hZ hown (W 104 rfl) (m47 hw) E_154 1 8 29 (rm_caS_2_0 hw b150 t150 k150 v136 v140 cs fm T150.heap n0 Z151 O151 pr1 hcs pr6 hr_fm pr3 pr4 pr5 E_154 F_154 S_154 p136_0 p140_0) N182 hh182 pd_31 hml (dk at_226) ?_
        rintro _ T183 L183 X183 N183 ⟨rfl, hh183⟩
        refine gz X183 232 #[vi p1, vi p2, vi p3, vi p4, vi p5, vi 3, vi mx12, vr b134, vr b148, vr b150, .val (.int (own_len (own_cp v136 v140))), vi 1, vi 2, .val (.int (own_len (own_cp v140 v144))), vi 2, .val (.int (own_len v144)), vi 3] [(.int 0), (.ref b134), (.int v136)] (fun _ k => aI X183 hx (dk at_229) rfl rfl (kC X183 hx (dk at_231) k)) ?_
        obtain ⟨cl184, Ar184, q184, S184, N_184, Hs184, G184⟩ := id f174
        have hin185 : ¬ ((0 : Int32) < 0 ∨ cl184.slots.size ≤ ((0 : Int32)).toNatClampNeg) := inb_of S184 ⟨by decide, by decide⟩
        have hat185 : cl184.slots[((0 : Int32)).toNatClampNeg]? = some (.int v136) := Hs184.at hin185 rfl
        refine gz X183 233 #[vi p1, vi p2, vi p3, vi p4, vi p5, vi 3, vi mx12, vr b134, vr b148, vr b150, .val (.int (own_len (own_cp v136 v140))), vi 1, vi 2, .val (.int (own_len (own_cp v140 v144))), vi 2, .val (.int (own_len v144)), vi 3] [(.int v136), (.int v136)] (fun _ k => X183.caload hx (j := (0 : Int32)) (v := (.int v136)) (by rw [hh183]; exact Ar184.1) (State.isArrayOf_alike hZ.alike Ar184.2.1) Ar184.2.2 hin185 hat185 (g := (mkF m 232 #[vi p1, vi p2, vi p3, vi p4, vi p5, vi 3, vi mx12, vr b134, vr b148, vr b150, .val (.int (own_len (own_cp v136 v140))), vi 1, vi 2, .val (.int (own_len (own_cp v140 v144))), vi 2, .val (.int (own_len v144)), vi 3] [(.int 0), (.ref b134), (.int v136)])) rfl rfl (dk at_232) _ k) ?_
        refine gz X183 245 #[vi p1, vi p2, vi p3, vi p4, vi p5, vi 3, vi mx12, vr b134, vr b148, vr b150, .val (.int (own_len (own_cp v136 v140))), vi 1, vi 2, .val (.int (own_len (own_cp v140 v144))), vi 2, .val (.int (own_len v144)), vi 3] [(.int 1), (.ref b150)] (fun _ k => cN X183 hx (dk at_233) rfl (teq (rfl : v136 = v136)).2 (lI X183 hx (dk at_236) rfl (kC X183 hx (dk at_238) (cN X183 hx (dk at_239) rfl (flt (by decide)).1 (aI X183 hx (dk at_242) rfl rfl (kC X183 hx (dk at_244) k)))))) ?_
        refine goV X183 hx hZ hown (W 104 rfl) (m47 hw) E_154 1 8 29 (rm_caS_2_1 hw b150 t150 k150 v136 v140 cs fm T150.heap n0 Z151 O151 pr1 hcs pr6 hr_fm pr3 pr4 pr5 E_154 F_154 S_154 p136_0 p140_0) N183 hh183 pd_31 hml (dk at_245) ?_
        rintro _ T186 L186 X186 N186 ⟨rfl, hh186⟩
        refine gz X186 251 #[vi p1, vi p2, vi p3, vi p4, vi p5, vi 3, vi mx12, vr b134, vr b148, vr b150, .val (.int (own_len (own_cp v136 v140))), vi 1, vi 2, .val (.int (own_len (own_cp v140 v144))), vi 2, .val (.int (own_len v144)), vi 3] [(.int 1), (.ref b134), (.int v140)] (fun _ k => aI X186 hx (dk at_248) rfl rfl (kC X186 hx (dk at_250) k)) ?_
        obtain ⟨cl187, Ar187, q187, S187, N_187, Hs187, G187⟩ := id f174
        have hin188 : ¬ ((1 : Int32) < 0 ∨ cl187.slots.size ≤ ((1 : Int32)).toNatClampNeg) := inb_of S187 ⟨by decide, by decide⟩
        have hat188 : cl187.slots[((1 : Int32)).toNatClampNeg]? = some (.int v140) := Hs187.at hin188 rfl
        refine gz X186 252 #[vi p1, vi p2, vi p3, vi p4, vi p5, vi 3, vi mx12, vr b134, vr b148, vr b150, .val (.int (own_len (own_cp v136 v140))), vi 1, vi 2, .val (.int (own_len (own_cp v140 v144))), vi 2, .val (.int (own_len v144)), vi 3] [(.int v140), (.int v140)] (fun _ k => X186.caload hx (j := (1 : Int32)) (v := (.int v140)) (by rw [hh186]; exact Ar187.1) (State.isArrayOf_alike hZ.alike Ar187.2.1) Ar187.2.2 hin188 hat188 (g := (mkF m 251 #[vi p1, vi p2, vi p3, vi p4, vi p5, vi 3, vi mx12, vr b134, vr b148, vr b150, .val (.int (own_len (own_cp v136 v140))), vi 1, vi 2, .val (.int (own_len (own_cp v140 v144))), vi 2, .val (.int (own_len v144)), vi 3] [(.int 1), (.ref b134), (.int v140)])) rfl rfl (dk at_251) _ k) ?_
        refine gz X186 279 #[vi p1, vi p2, vi p3, vi p4, vi p5, vi 3, vi mx12, vr b134, vr b148, vr b150, .val (.int (own_len (own_cp v136 v140))), vi 1, vi 2, .val (.int (own_len (own_cp v140 v144))), vi 2, .val (.int (own_len v144)), vi 3] [(.int 1)] (fun _ k => cN X186 hx (dk at_252) rfl (teq (rfl : v140 = v140)).2 (lI X186 hx (dk at_255) rfl (kC X186 hx (dk at_257) (cY X186 hx 258 274 rfl (dk at_258) rfl (tlt (by decide)).1 (kC X186 hx (dk at_274) (gT X186 hx 275 279 rfl (dk at_275) k)))))) ?_
        have hkE189 : _ ≤ T186.heap.size := (by rw [hh186]; exact hk)
        have CE189 : CHr Z own_EL s.vm s.heap T150.vm T186.heap := (by rw [hh186]; exact C151)
        refine Go.retS X186 hx hlk hS hkE189 hZ hEL CE189 (t := .boolean) hret rfl (Or.inl ⟨rfl, by simp, _, rfl⟩) (dk at_279) (by decide) (by decide) ?_
        exact ⟨rfl, N186⟩
      · skip
        refine gz X150 76 #[vi p1, vi p2, vi p3, vi p4, vi p5, vi 3, vi mx12, vr b134, vr b148, vr b150, .unset, .unset, .unset, .unset, .unset, .unset, .unset] [(.int 0), (.int 3), (.ref b134)] (fun _ k => tI X150 hx (dk at_69) rfl rfl rfl (.inl rfl) (aI X150 hx (dk at_71) rfl rfl (lI X150 hx (dk at_73) rfl (kC X150 hx (dk at_75) k)))) ?_
        have f190 := ((V146.keep K148 nin0).keep K150 nin0)
        refine goS X150 hx hZ hown (W 91 rfl) (m45 hw) 3 8 29 (rm_by0p hw b134 k134 v136 v140 v144 (3 : Int32) T150.heap n0 Z151 f190 p136_0 p140_0 p144_0 (by decide) (by decide)) N150 rfl pd_30 hml (dk at_76) ?_
        rintro _ T191 L191 X191 N191 ⟨rfl, hh191⟩
        refine gz X191 86 #[vi p1, vi p2, vi p3, vi p4, vi p5, vi 3, vi mx12, vr b134, vr b148, vr b150, .val (.int (own_len (own_cp v136 v140))), .unset, .unset, .unset, .unset, .unset, .unset] [(.int 0), (.int 3), (.ref b134)] (fun _ k => sI X191 hx (dk at_79) rfl rfl (.inl rfl) (aI X191 hx (dk at_81) rfl rfl (lI X191 hx (dk at_83) rfl (kC X191 hx (dk at_85) k)))) ?_
        refine goS X191 hx hZ hown (W 94 rfl) (m42 hw) 3 8 29 (rm_un0p hw b134 k134 v136 v140 v144 (3 : Int32) T150.heap n0 Z151 f190 p136_0 p140_0 p144_0 (by decide) (by decide)) N191 hh191 pd_30 hml (dk at_86) ?_
        rintro _ T192 L192 X192 N192 ⟨rfl, hh192⟩
        refine gz X192 116 #[vi p1, vi p2, vi p3, vi p4, vi p5, vi 3, vi mx12, vr b134, vr b148, vr b150, .val (.int (own_len (own_cp v136 v140))), vi 1, vi 1, .unset, .unset, .unset, .unset] [(.int 1), (.int 3), (.ref b134)] (fun _ k => sI (x := (1 : Int32)) (rest := []) X192 hx (dk at_89) (by rw [g155_1]; rfl) rfl (.inl rfl) (kC X192 hx (dk at_91) (sI X192 hx (dk at_92) rfl rfl (.inl rfl) (lI X192 hx (dk at_94) rfl (fN X192 hx (dk at_96) rfl ((if0 _ _).trans (tlt (by decide)).2.2.2) (lI X192 hx (dk at_99) rfl (lI X192 hx (dk at_101) rfl (cN X192 hx (dk at_103) rfl (flt g155_0).2.2.1 (lI X192 hx (dk at_106) rfl (sI X192 hx (dk at_108) rfl rfl (.inr ⟨_, rfl, rfl⟩) (aI X192 hx (dk at_110) rfl rfl (lI X192 hx (dk at_112) rfl (lI X192 hx (dk at_114) rfl k))))))))))))) ?_
        refine goS X192 hx hZ hown (W 91 rfl) (m45 hw) 3 8 29 (rm_by1p hw b134 k134 v136 v140 v144 (3 : Int32) T150.heap n0 Z151 f190 p136_0 p140_0 p144_0 (by decide) (by decide)) N192 hh192 pd_30 hml (dk at_116) ?_
        rintro _ T193 L193 X193 N193 ⟨rfl, hh193⟩
        refine gz X193 129 #[vi p1, vi p2, vi p3, vi p4, vi p5, vi 3, vi mx12, vr b134, vr b148, vr b150, .val (.int (own_len (own_cp v136 v140))), vi 1, vi 1, .val (.int (own_len (own_cp v140 v144))), .unset, .unset, .unset] [(.int 1), (.int 3), (.ref b134), (.int 1)] (fun _ k => sI X193 hx (dk at_119) rfl rfl (.inl rfl) (lI X193 hx (dk at_121) rfl (aI X193 hx (dk at_123) rfl rfl (lI X193 hx (dk at_125) rfl (lI X193 hx (dk at_127) rfl k))))) ?_
        refine goS X193 hx hZ hown (W 94 rfl) (m42 hw) 3 8 29 (rm_un1p hw b134 k134 v136 v140 v144 (3 : Int32) T150.heap n0 Z151 f190 p136_0 p140_0 p144_0 (by decide) (by decide)) N193 hh193 pd_30 hml (dk at_129) ?_
        rintro _ T194 L194 X194 N194 ⟨rfl, hh194⟩
        refine gz X194 133 #[vi p1, vi p2, vi p3, vi p4, vi p5, vi 3, vi mx12, vr b134, vr b148, vr b150, .val (.int (own_len (own_cp v136 v140))), vi 1, vi 1, .val (.int (own_len (own_cp v140 v144))), .unset, .unset, .unset] [(.int ((1 : Int32) + (own_cnt (own_cp v140 v144))))] (fun _ k => pI X194 hx (dk at_132) rfl k) ?_
        have hs195 : ((1 : Int32) + (own_cnt (own_cp v140 v144))) = (2 : Int32) := by rw [g155_3]; decide
        refine gz X194 162 #[vi p1, vi p2, vi p3, vi p4, vi p5, vi 3, vi mx12, vr b134, vr b148, vr b150, .val (.int (own_len (own_cp v136 v140))), vi 1, vi 2, .val (.int (own_len (own_cp v140 v144))), vi 2, .unset, .unset] [(.int 2), (.int 3), (.ref b134)] (fun _ k => sI (x := (2 : Int32)) (rest := []) X194 hx (dk at_133) (by rw [hs195]) rfl (.inl rfl) (lI X194 hx (dk at_135) rfl (lI X194 hx (dk at_137) rfl (cN X194 hx (dk at_139) rfl (tlt (by decide)).2.1 (lI X194 hx (dk at_142) rfl (lI X194 hx (dk at_144) rfl (pI X194 hx (dk at_146) rfl (lI X194 hx (dk at_147) rfl (cN X194 hx (dk at_149) rfl (flt g155_2).2.2.1 (lI X194 hx (dk at_152) rfl (sI X194 hx (dk at_154) rfl rfl (.inr ⟨_, rfl, rfl⟩) (aI X194 hx (dk at_156) rfl rfl (lI X194 hx (dk at_158) rfl (lI X194 hx (dk at_160) rfl k)))))))))))))) ?_
        refine goS X194 hx hZ hown (W 91 rfl) (m45 hw) 3 8 29 (rm_by2l hw b134 k134 v136 v140 v144 (3 : Int32) T150.heap n0 Z151 f190 p136_0 p140_0 p144_0 (by decide) (by decide)) N194 hh194 pd_30 hml (dk at_162) ?_
        rintro _ T196 L196 X196 N196 ⟨rfl, hh196⟩
        refine gz X196 175 #[vi p1, vi p2, vi p3, vi p4, vi p5, vi 3, vi mx12, vr b134, vr b148, vr b150, .val (.int (own_len (own_cp v136 v140))), vi 1, vi 2, .val (.int (own_len (own_cp v140 v144))), vi 2, .val (.int (own_len v144)), .unset] [(.int 2), (.int 3), (.ref b134), (.int 2)] (fun _ k => sI X196 hx (dk at_165) rfl rfl (.inl rfl) (lI X196 hx (dk at_167) rfl (aI X196 hx (dk at_169) rfl rfl (lI X196 hx (dk at_171) rfl (lI X196 hx (dk at_173) rfl k))))) ?_
        refine goS X196 hx hZ hown (W 94 rfl) (m42 hw) 3 8 29 (rm_un2l hw b134 k134 v136 v140 v144 (3 : Int32) T150.heap n0 Z151 f190 p136_0 p140_0 p144_0 (by decide) (by decide)) N196 hh196 pd_30 hml (dk at_175) ?_
        rintro _ T197 L197 X197 N197 ⟨rfl, hh197⟩
        refine gz X197 207 #[vi p1, vi p2, vi p3, vi p4, vi p5, vi 3, vi mx12, vr b134, vr b148, vr b150, .val (.int (own_len (own_cp v136 v140))), vi 1, vi 3, .val (.int (own_len (own_cp v140 v144))), vi 2, .val (.int (own_len v144)), vi 3] [(.ref b150)] (fun _ k => pI X197 hx (dk at_178) rfl (sI X197 hx (dk at_179) rfl rfl (.inl rfl) (lI X197 hx (dk at_181) rfl (lI X197 hx (dk at_183) rfl (cN X197 hx (dk at_185) rfl (tlt (by decide)).2.1 (lI X197 hx (dk at_188) rfl (lI X197 hx (dk at_190) rfl (pI X197 hx (dk at_192) rfl (lI X197 hx (dk at_193) rfl (pI X197 hx (dk at_195) rfl (lI X197 hx (dk at_196) rfl (cN X197 hx (dk at_198) rfl (flt g155_4).2.2.1 (lI X197 hx (dk at_201) rfl (sI X197 hx (dk at_203) rfl rfl (.inr ⟨_, rfl, rfl⟩) (aI X197 hx (dk at_205) rfl rfl k))))))))))))))) ?_
        refine goV X197 hx hZ hown (W 98 rfl) (m34 hw) E_155 0 8 29 (rm_lenS_3 hw b150 t150 k150 v136 v140 v144 cs T150.heap n0 Z151 O151 pr1 hcs E_155 F_155 S_155) N197 hh197 pd_26 hml (dk at_207) ?_
        rintro _ T198 L198 X198 N198 ⟨rfl, hh198⟩
        refine gz X198 226 #[vi p1, vi p2, vi p3, vi p4, vi p5, vi 3, vi mx12, vr b134, vr b148, vr b150, .val (.int (own_len (own_cp v136 v140))), vi 1, vi 3, .val (.int (own_len (own_cp v140 v144))), vi 2, .val (.int (own_len v144)), vi 3] [(.int 0), (.ref b150)] (fun _ k => lI X198 hx (dk at_210) rfl (cY X198 hx 212 217 rfl (dk at_212) rfl (teq (by decide)).1 (lI X198 hx (dk at_217) rfl (kC X198 hx (dk at_219) (cN X198 hx (dk at_220) rfl (flt (by decide)).1 (aI X198 hx (dk at_223) rfl rfl (kC X198 hx (dk at_225) k))))))) ?_
        refine goV X198 hx hZ hown (W 104 rfl) (m47 hw) E_155 1 8 29 (rm_caS_3_0 hw b150 t150 k150 v136 v140 v144 cs fm T150.heap n0 Z151 O151 pr1 hcs pr6 hr_fm pr3 pr4 pr5 E_155 F_155 S_155 p136_0 p140_0 p144_0) N198 hh198 pd_31 hml (dk at_226) ?_
        rintro _ T199 L199 X199 N199 ⟨rfl, hh199⟩
        refine gz X199 232 #[vi p1, vi p2, vi p3, vi p4, vi p5, vi 3, vi mx12, vr b134, vr b148, vr b150, .val (.int (own_len (own_cp v136 v140))), vi 1, vi 3, .val (.int (own_len (own_cp v140 v144))), vi 2, .val (.int (own_len v144)), vi 3] [(.int 0), (.ref b134), (.int v136)] (fun _ k => aI X199 hx (dk at_229) rfl rfl (kC X199 hx (dk at_231) k)) ?_
        obtain ⟨cl200, Ar200, q200, S200, N_200, Hs200, G200⟩ := id f190
        have hin201 : ¬ ((0 : Int32) < 0 ∨ cl200.slots.size ≤ ((0 : Int32)).toNatClampNeg) := inb_of S200 ⟨by decide, by decide⟩
        have hat201 : cl200.slots[((0 : Int32)).toNatClampNeg]? = some (.int v136) := Hs200.at hin201 rfl
        refine gz X199 233 #[vi p1, vi p2, vi p3, vi p4, vi p5, vi 3, vi mx12, vr b134, vr b148, vr b150, .val (.int (own_len (own_cp v136 v140))), vi 1, vi 3, .val (.int (own_len (own_cp v140 v144))), vi 2, .val (.int (own_len v144)), vi 3] [(.int v136), (.int v136)] (fun _ k => X199.caload hx (j := (0 : Int32)) (v := (.int v136)) (by rw [hh199]; exact Ar200.1) (State.isArrayOf_alike hZ.alike Ar200.2.1) Ar200.2.2 hin201 hat201 (g := (mkF m 232 #[vi p1, vi p2, vi p3, vi p4, vi p5, vi 3, vi mx12, vr b134, vr b148, vr b150, .val (.int (own_len (own_cp v136 v140))), vi 1, vi 3, .val (.int (own_len (own_cp v140 v144))), vi 2, .val (.int (own_len v144)), vi 3] [(.int 0), (.ref b134), (.int v136)])) rfl rfl (dk at_232) _ k) ?_
        refine gz X199 245 #[vi p1, vi p2, vi p3, vi p4, vi p5, vi 3, vi mx12, vr b134, vr b148, vr b150, .val (.int (own_len (own_cp v136 v140))), vi 1, vi 3, .val (.int (own_len (own_cp v140 v144))), vi 2, .val (.int (own_len v144)), vi 3] [(.int 1), (.ref b150)] (fun _ k => cN X199 hx (dk at_233) rfl (teq (rfl : v136 = v136)).2 (lI X199 hx (dk at_236) rfl (kC X199 hx (dk at_238) (cN X199 hx (dk at_239) rfl (flt (by decide)).1 (aI X199 hx (dk at_242) rfl rfl (kC X199 hx (dk at_244) k)))))) ?_
        refine goV X199 hx hZ hown (W 104 rfl) (m47 hw) E_155 1 8 29 (rm_caS_3_1 hw b150 t150 k150 v136 v140 v144 cs fm T150.heap n0 Z151 O151 pr1 hcs pr6 hr_fm pr3 pr4 pr5 E_155 F_155 S_155 p136_0 p140_0 p144_0) N199 hh199 pd_31 hml (dk at_245) ?_
        rintro _ T202 L202 X202 N202 ⟨rfl, hh202⟩
        refine gz X202 251 #[vi p1, vi p2, vi p3, vi p4, vi p5, vi 3, vi mx12, vr b134, vr b148, vr b150, .val (.int (own_len (own_cp v136 v140))), vi 1, vi 3, .val (.int (own_len (own_cp v140 v144))), vi 2, .val (.int (own_len v144)), vi 3] [(.int 1), (.ref b134), (.int v140)] (fun _ k => aI X202 hx (dk at_248) rfl rfl (kC X202 hx (dk at_250) k)) ?_
        obtain ⟨cl203, Ar203, q203, S203, N_203, Hs203, G203⟩ := id f190
        have hin204 : ¬ ((1 : Int32) < 0 ∨ cl203.slots.size ≤ ((1 : Int32)).toNatClampNeg) := inb_of S203 ⟨by decide, by decide⟩
        have hat204 : cl203.slots[((1 : Int32)).toNatClampNeg]? = some (.int v140) := Hs203.at hin204 rfl
        refine gz X202 252 #[vi p1, vi p2, vi p3, vi p4, vi p5, vi 3, vi mx12, vr b134, vr b148, vr b150, .val (.int (own_len (own_cp v136 v140))), vi 1, vi 3, .val (.int (own_len (own_cp v140 v144))), vi 2, .val (.int (own_len v144)), vi 3] [(.int v140), (.int v140)] (fun _ k => X202.caload hx (j := (1 : Int32)) (v := (.int v140)) (by rw [hh202]; exact Ar203.1) (State.isArrayOf_alike hZ.alike Ar203.2.1) Ar203.2.2 hin204 hat204 (g := (mkF m 251 #[vi p1, vi p2, vi p3, vi p4, vi p5, vi 3, vi mx12, vr b134, vr b148, vr b150, .val (.int (own_len (own_cp v136 v140))), vi 1, vi 3, .val (.int (own_len (own_cp v140 v144))), vi 2, .val (.int (own_len v144)), vi 3] [(.int 1), (.ref b134), (.int v140)])) rfl rfl (dk at_251) _ k) ?_
        refine gz X202 264 #[vi p1, vi p2, vi p3, vi p4, vi p5, vi 3, vi mx12, vr b134, vr b148, vr b150, .val (.int (own_len (own_cp v136 v140))), vi 1, vi 3, .val (.int (own_len (own_cp v140 v144))), vi 2, .val (.int (own_len v144)), vi 3] [(.int 2), (.ref b150)] (fun _ k => cN X202 hx (dk at_252) rfl (teq (rfl : v140 = v140)).2 (lI X202 hx (dk at_255) rfl (kC X202 hx (dk at_257) (cN X202 hx (dk at_258) rfl (flt (by decide)).1 (aI X202 hx (dk at_261) rfl rfl (kC X202 hx (dk at_263) k)))))) ?_
        refine goV X202 hx hZ hown (W 104 rfl) (m47 hw) E_155 1 8 29 (rm_caS_3_2 hw b150 t150 k150 v136 v140 v144 cs fm T150.heap n0 Z151 O151 pr1 hcs pr6 hr_fm pr3 pr4 pr5 E_155 F_155 S_155 p136_0 p140_0 p144_0) N202 hh202 pd_31 hml (dk at_264) ?_
        rintro _ T205 L205 X205 N205 ⟨rfl, hh205⟩
        refine gz X205 270 #[vi p1, vi p2, vi p3, vi p4, vi p5, vi 3, vi mx12, vr b134, vr b148, vr b150, .val (.int (own_len (own_cp v136 v140))), vi 1, vi 3, .val (.int (own_len (own_cp v140 v144))), vi 2, .val (.int (own_len v144)), vi 3] [(.int 2), (.ref b134), (.int v144)] (fun _ k => aI X205 hx (dk at_267) rfl rfl (kC X205 hx (dk at_269) k)) ?_
        obtain ⟨cl206, Ar206, q206, S206, N_206, Hs206, G206⟩ := id f190
        have hin207 : ¬ ((2 : Int32) < 0 ∨ cl206.slots.size ≤ ((2 : Int32)).toNatClampNeg) := inb_of S206 ⟨by decide, by decide⟩
        have hat207 : cl206.slots[((2 : Int32)).toNatClampNeg]? = some (.int v144) := Hs206.at hin207 rfl
        refine gz X205 271 #[vi p1, vi p2, vi p3, vi p4, vi p5, vi 3, vi mx12, vr b134, vr b148, vr b150, .val (.int (own_len (own_cp v136 v140))), vi 1, vi 3, .val (.int (own_len (own_cp v140 v144))), vi 2, .val (.int (own_len v144)), vi 3] [(.int v144), (.int v144)] (fun _ k => X205.caload hx (j := (2 : Int32)) (v := (.int v144)) (by rw [hh205]; exact Ar206.1) (State.isArrayOf_alike hZ.alike Ar206.2.1) Ar206.2.2 hin207 hat207 (g := (mkF m 270 #[vi p1, vi p2, vi p3, vi p4, vi p5, vi 3, vi mx12, vr b134, vr b148, vr b150, .val (.int (own_len (own_cp v136 v140))), vi 1, vi 3, .val (.int (own_len (own_cp v140 v144))), vi 2, .val (.int (own_len v144)), vi 3] [(.int 2), (.ref b134), (.int v144)])) rfl rfl (dk at_270) _ k) ?_
        refine gz X205 279 #[vi p1, vi p2, vi p3, vi p4, vi p5, vi 3, vi mx12, vr b134, vr b148, vr b150, .val (.int (own_len (own_cp v136 v140))), vi 1, vi 3, .val (.int (own_len (own_cp v140 v144))), vi 2, .val (.int (own_len v144)), vi 3] [(.int 1)] (fun _ k => cN X205 hx (dk at_271) rfl (teq (rfl : v144 = v144)).2 (kC X205 hx (dk at_274) (gT X205 hx 275 279 rfl (dk at_275) k))) ?_
        have hkE208 : _ ≤ T205.heap.size := (by rw [hh205]; exact hk)
        have CE208 : CHr Z own_EL s.vm s.heap T150.vm T205.heap := (by rw [hh205]; exact C151)
        refine Go.retS X205 hx hlk hS hkE208 hZ hEL CE208 (t := .boolean) hret rfl (Or.inl ⟨rfl, by simp, _, rfl⟩) (dk at_279) (by decide) (by decide) ?_
        exact ⟨rfl, N205⟩
      · skip
        refine gz X150 76 #[vi p1, vi p2, vi p3, vi p4, vi p5, vi 3, vi mx12, vr b134, vr b148, vr b150, .unset, .unset, .unset, .unset, .unset, .unset, .unset] [(.int 0), (.int 3), (.ref b134)] (fun _ k => tI X150 hx (dk at_69) rfl rfl rfl (.inl rfl) (aI X150 hx (dk at_71) rfl rfl (lI X150 hx (dk at_73) rfl (kC X150 hx (dk at_75) k)))) ?_
        have f209 := ((V146.keep K148 nin0).keep K150 nin0)
        refine goS X150 hx hZ hown (W 91 rfl) (m45 hw) 3 8 29 (rm_by0p hw b134 k134 v136 v140 v144 (3 : Int32) T150.heap n0 Z151 f209 p136_0 p140_0 p144_0 (by decide) (by decide)) N150 rfl pd_30 hml (dk at_76) ?_
        rintro _ T210 L210 X210 N210 ⟨rfl, hh210⟩
        refine gz X210 86 #[vi p1, vi p2, vi p3, vi p4, vi p5, vi 3, vi mx12, vr b134, vr b148, vr b150, .val (.int (own_len (own_cp v136 v140))), .unset, .unset, .unset, .unset, .unset, .unset] [(.int 0), (.int 3), (.ref b134)] (fun _ k => sI X210 hx (dk at_79) rfl rfl (.inl rfl) (aI X210 hx (dk at_81) rfl rfl (lI X210 hx (dk at_83) rfl (kC X210 hx (dk at_85) k)))) ?_
        refine goS X210 hx hZ hown (W 94 rfl) (m42 hw) 3 8 29 (rm_un0p hw b134 k134 v136 v140 v144 (3 : Int32) T150.heap n0 Z151 f209 p136_0 p140_0 p144_0 (by decide) (by decide)) N210 hh210 pd_30 hml (dk at_86) ?_
        rintro _ T211 L211 X211 N211 ⟨rfl, hh211⟩
        refine gz X211 116 #[vi p1, vi p2, vi p3, vi p4, vi p5, vi 3, vi mx12, vr b134, vr b148, vr b150, .val (.int (own_len (own_cp v136 v140))), vi 1, vi 1, .unset, .unset, .unset, .unset] [(.int 1), (.int 3), (.ref b134)] (fun _ k => sI (x := (1 : Int32)) (rest := []) X211 hx (dk at_89) (by rw [g156_1]; rfl) rfl (.inl rfl) (kC X211 hx (dk at_91) (sI X211 hx (dk at_92) rfl rfl (.inl rfl) (lI X211 hx (dk at_94) rfl (fN X211 hx (dk at_96) rfl ((if0 _ _).trans (tlt (by decide)).2.2.2) (lI X211 hx (dk at_99) rfl (lI X211 hx (dk at_101) rfl (cN X211 hx (dk at_103) rfl (flt g156_0).2.2.1 (lI X211 hx (dk at_106) rfl (sI X211 hx (dk at_108) rfl rfl (.inr ⟨_, rfl, rfl⟩) (aI X211 hx (dk at_110) rfl rfl (lI X211 hx (dk at_112) rfl (lI X211 hx (dk at_114) rfl k))))))))))))) ?_
        refine goS X211 hx hZ hown (W 91 rfl) (m45 hw) 3 8 29 (rm_by1p hw b134 k134 v136 v140 v144 (3 : Int32) T150.heap n0 Z151 f209 p136_0 p140_0 p144_0 (by decide) (by decide)) N211 hh211 pd_30 hml (dk at_116) ?_
        rintro _ T212 L212 X212 N212 ⟨rfl, hh212⟩
        refine gz X212 129 #[vi p1, vi p2, vi p3, vi p4, vi p5, vi 3, vi mx12, vr b134, vr b148, vr b150, .val (.int (own_len (own_cp v136 v140))), vi 1, vi 1, .val (.int (own_len (own_cp v140 v144))), .unset, .unset, .unset] [(.int 1), (.int 3), (.ref b134), (.int 1)] (fun _ k => sI X212 hx (dk at_119) rfl rfl (.inl rfl) (lI X212 hx (dk at_121) rfl (aI X212 hx (dk at_123) rfl rfl (lI X212 hx (dk at_125) rfl (lI X212 hx (dk at_127) rfl k))))) ?_
        refine goS X212 hx hZ hown (W 94 rfl) (m42 hw) 3 8 29 (rm_un1p hw b134 k134 v136 v140 v144 (3 : Int32) T150.heap n0 Z151 f209 p136_0 p140_0 p144_0 (by decide) (by decide)) N212 hh212 pd_30 hml (dk at_129) ?_
        rintro _ T213 L213 X213 N213 ⟨rfl, hh213⟩
        refine gz X213 133 #[vi p1, vi p2, vi p3, vi p4, vi p5, vi 3, vi mx12, vr b134, vr b148, vr b150, .val (.int (own_len (own_cp v136 v140))), vi 1, vi 1, .val (.int (own_len (own_cp v140 v144))), .unset, .unset, .unset] [(.int ((1 : Int32) + (own_cnt (own_cp v140 v144))))] (fun _ k => pI X213 hx (dk at_132) rfl k) ?_
        have hs214 : ((1 : Int32) + (own_cnt (own_cp v140 v144))) = (3 : Int32) := by rw [g156_3]; decide
        refine gz X213 162 #[vi p1, vi p2, vi p3, vi p4, vi p5, vi 3, vi mx12, vr b134, vr b148, vr b150, .val (.int (own_len (own_cp v136 v140))), vi 1, vi 3, .val (.int (own_len (own_cp v140 v144))), vi 3, .unset, .unset] [(.int 3), (.int 3), (.ref b134)] (fun _ k => sI (x := (3 : Int32)) (rest := []) X213 hx (dk at_133) (by rw [hs214]) rfl (.inl rfl) (lI X213 hx (dk at_135) rfl (lI X213 hx (dk at_137) rfl (cN X213 hx (dk at_139) rfl (tlt (by decide)).2.1 (lI X213 hx (dk at_142) rfl (lI X213 hx (dk at_144) rfl (pI X213 hx (dk at_146) rfl (lI X213 hx (dk at_147) rfl (cN X213 hx (dk at_149) rfl (flt g156_2).2.2.1 (lI X213 hx (dk at_152) rfl (sI X213 hx (dk at_154) rfl rfl (.inr ⟨_, rfl, rfl⟩) (aI X213 hx (dk at_156) rfl rfl (lI X213 hx (dk at_158) rfl (lI X213 hx (dk at_160) rfl k)))))))))))))) ?_
        refine goS X213 hx hZ hown (W 91 rfl) (m45 hw) 3 8 29 (rm_byO hw b134 (3 : Int32) (3 : Int32) T150.heap n0 Z151 (by decide)) N213 hh213 pd_30 hml (dk at_162) ?_
        rintro _ T215 L215 X215 N215 ⟨rfl, hh215⟩
        refine gz X215 175 #[vi p1, vi p2, vi p3, vi p4, vi p5, vi 3, vi mx12, vr b134, vr b148, vr b150, .val (.int (own_len (own_cp v136 v140))), vi 1, vi 3, .val (.int (own_len (own_cp v140 v144))), vi 3, vi 0, .unset] [(.int 3), (.int 3), (.ref b134), (.int 3)] (fun _ k => sI X215 hx (dk at_165) rfl rfl (.inl rfl) (lI X215 hx (dk at_167) rfl (aI X215 hx (dk at_169) rfl rfl (lI X215 hx (dk at_171) rfl (lI X215 hx (dk at_173) rfl k))))) ?_
        refine goS X215 hx hZ hown (W 94 rfl) (m42 hw) 3 8 29 (rm_unO hw b134 (3 : Int32) (3 : Int32) T150.heap n0 Z151 (by decide)) N215 hh215 pd_30 hml (dk at_175) ?_
        rintro _ T216 L216 X216 N216 ⟨rfl, hh216⟩
        refine gz X216 207 #[vi p1, vi p2, vi p3, vi p4, vi p5, vi 3, vi mx12, vr b134, vr b148, vr b150, .val (.int (own_len (own_cp v136 v140))), vi 1, vi 3, .val (.int (own_len (own_cp v140 v144))), vi 3, vi 0, vi 3] [(.ref b150)] (fun _ k => pI X216 hx (dk at_178) rfl (sI X216 hx (dk at_179) rfl rfl (.inl rfl) (lI X216 hx (dk at_181) rfl (lI X216 hx (dk at_183) rfl (cY X216 hx 185 205 rfl (dk at_185) rfl (flt (by decide)).2.1 (aI X216 hx (dk at_205) rfl rfl k)))))) ?_
        refine goV X216 hx hZ hown (W 98 rfl) (m34 hw) E_156 0 8 29 (rm_lenS_3 hw b150 t150 k150 v136 v140 v144 cs T150.heap n0 Z151 O151 pr1 hcs E_156 F_156 S_156) N216 hh216 pd_26 hml (dk at_207) ?_
        rintro _ T217 L217 X217 N217 ⟨rfl, hh217⟩
        refine gz X217 226 #[vi p1, vi p2, vi p3, vi p4, vi p5, vi 3, vi mx12, vr b134, vr b148, vr b150, .val (.int (own_len (own_cp v136 v140))), vi 1, vi 3, .val (.int (own_len (own_cp v140 v144))), vi 3, vi 0, vi 3] [(.int 0), (.ref b150)] (fun _ k => lI X217 hx (dk at_210) rfl (cY X217 hx 212 217 rfl (dk at_212) rfl (teq (by decide)).1 (lI X217 hx (dk at_217) rfl (kC X217 hx (dk at_219) (cN X217 hx (dk at_220) rfl (flt (by decide)).1 (aI X217 hx (dk at_223) rfl rfl (kC X217 hx (dk at_225) k))))))) ?_
        refine goV X217 hx hZ hown (W 104 rfl) (m47 hw) E_156 1 8 29 (rm_caS_3_0 hw b150 t150 k150 v136 v140 v144 cs fm T150.heap n0 Z151 O151 pr1 hcs pr6 hr_fm pr3 pr4 pr5 E_156 F_156 S_156 p136_0 p140_0 p144_0) N217 hh217 pd_31 hml (dk at_226) ?_
        rintro _ T218 L218 X218 N218 ⟨rfl, hh218⟩
        refine gz X218 232 #[vi p1, vi p2, vi p3, vi p4, vi p5, vi 3, vi mx12, vr b134, vr b148, vr b150, .val (.int (own_len (own_cp v136 v140))), vi 1, vi 3, .val (.int (own_len (own_cp v140 v144))), vi 3, vi 0, vi 3] [(.int 0), (.ref b134), (.int v136)] (fun _ k => aI X218 hx (dk at_229) rfl rfl (kC X218 hx (dk at_231) k)) ?_
        obtain ⟨cl219, Ar219, q219, S219, N_219, Hs219, G219⟩ := id f209
        have hin220 : ¬ ((0 : Int32) < 0 ∨ cl219.slots.size ≤ ((0 : Int32)).toNatClampNeg) := inb_of S219 ⟨by decide, by decide⟩
        have hat220 : cl219.slots[((0 : Int32)).toNatClampNeg]? = some (.int v136) := Hs219.at hin220 rfl
        refine gz X218 233 #[vi p1, vi p2, vi p3, vi p4, vi p5, vi 3, vi mx12, vr b134, vr b148, vr b150, .val (.int (own_len (own_cp v136 v140))), vi 1, vi 3, .val (.int (own_len (own_cp v140 v144))), vi 3, vi 0, vi 3] [(.int v136), (.int v136)] (fun _ k => X218.caload hx (j := (0 : Int32)) (v := (.int v136)) (by rw [hh218]; exact Ar219.1) (State.isArrayOf_alike hZ.alike Ar219.2.1) Ar219.2.2 hin220 hat220 (g := (mkF m 232 #[vi p1, vi p2, vi p3, vi p4, vi p5, vi 3, vi mx12, vr b134, vr b148, vr b150, .val (.int (own_len (own_cp v136 v140))), vi 1, vi 3, .val (.int (own_len (own_cp v140 v144))), vi 3, vi 0, vi 3] [(.int 0), (.ref b134), (.int v136)])) rfl rfl (dk at_232) _ k) ?_
        refine gz X218 245 #[vi p1, vi p2, vi p3, vi p4, vi p5, vi 3, vi mx12, vr b134, vr b148, vr b150, .val (.int (own_len (own_cp v136 v140))), vi 1, vi 3, .val (.int (own_len (own_cp v140 v144))), vi 3, vi 0, vi 3] [(.int 1), (.ref b150)] (fun _ k => cN X218 hx (dk at_233) rfl (teq (rfl : v136 = v136)).2 (lI X218 hx (dk at_236) rfl (kC X218 hx (dk at_238) (cN X218 hx (dk at_239) rfl (flt (by decide)).1 (aI X218 hx (dk at_242) rfl rfl (kC X218 hx (dk at_244) k)))))) ?_
        refine goV X218 hx hZ hown (W 104 rfl) (m47 hw) E_156 1 8 29 (rm_caS_3_1 hw b150 t150 k150 v136 v140 v144 cs fm T150.heap n0 Z151 O151 pr1 hcs pr6 hr_fm pr3 pr4 pr5 E_156 F_156 S_156 p136_0 p140_0 p144_0) N218 hh218 pd_31 hml (dk at_245) ?_
        rintro _ T221 L221 X221 N221 ⟨rfl, hh221⟩
        refine gz X221 251 #[vi p1, vi p2, vi p3, vi p4, vi p5, vi 3, vi mx12, vr b134, vr b148, vr b150, .val (.int (own_len (own_cp v136 v140))), vi 1, vi 3, .val (.int (own_len (own_cp v140 v144))), vi 3, vi 0, vi 3] [(.int 1), (.ref b134), (.int v140)] (fun _ k => aI X221 hx (dk at_248) rfl rfl (kC X221 hx (dk at_250) k)) ?_
        obtain ⟨cl222, Ar222, q222, S222, N_222, Hs222, G222⟩ := id f209
        have hin223 : ¬ ((1 : Int32) < 0 ∨ cl222.slots.size ≤ ((1 : Int32)).toNatClampNeg) := inb_of S222 ⟨by decide, by decide⟩
        have hat223 : cl222.slots[((1 : Int32)).toNatClampNeg]? = some (.int v140) := Hs222.at hin223 rfl
        refine gz X221 252 #[vi p1, vi p2, vi p3, vi p4, vi p5, vi 3, vi mx12, vr b134, vr b148, vr b150, .val (.int (own_len (own_cp v136 v140))), vi 1, vi 3, .val (.int (own_len (own_cp v140 v144))), vi 3, vi 0, vi 3] [(.int v140), (.int v140)] (fun _ k => X221.caload hx (j := (1 : Int32)) (v := (.int v140)) (by rw [hh221]; exact Ar222.1) (State.isArrayOf_alike hZ.alike Ar222.2.1) Ar222.2.2 hin223 hat223 (g := (mkF m 251 #[vi p1, vi p2, vi p3, vi p4, vi p5, vi 3, vi mx12, vr b134, vr b148, vr b150, .val (.int (own_len (own_cp v136 v140))), vi 1, vi 3, .val (.int (own_len (own_cp v140 v144))), vi 3, vi 0, vi 3] [(.int 1), (.ref b134), (.int v140)])) rfl rfl (dk at_251) _ k) ?_
        refine gz X221 264 #[vi p1, vi p2, vi p3, vi p4, vi p5, vi 3, vi mx12, vr b134, vr b148, vr b150, .val (.int (own_len (own_cp v136 v140))), vi 1, vi 3, .val (.int (own_len (own_cp v140 v144))), vi 3, vi 0, vi 3] [(.int 2), (.ref b150)] (fun _ k => cN X221 hx (dk at_252) rfl (teq (rfl : v140 = v140)).2 (lI X221 hx (dk at_255) rfl (kC X221 hx (dk at_257) (cN X221 hx (dk at_258) rfl (flt (by decide)).1 (aI X221 hx (dk at_261) rfl rfl (kC X221 hx (dk at_263) k)))))) ?_
        refine goV X221 hx hZ hown (W 104 rfl) (m47 hw) E_156 1 8 29 (rm_caS_3_2 hw b150 t150 k150 v136 v140 v144 cs fm T150.heap n0 Z151 O151 pr1 hcs pr6 hr_fm pr3 pr4 pr5 E_156 F_156 S_156 p136_0 p140_0 p144_0) N221 hh221 pd_31 hml (dk at_264) ?_
        rintro _ T224 L224 X224 N224 ⟨rfl, hh224⟩
        refine gz X224 270 #[vi p1, vi p2, vi p3, vi p4, vi p5, vi 3, vi mx12, vr b134, vr b148, vr b150, .val (.int (own_len (own_cp v136 v140))), vi 1, vi 3, .val (.int (own_len (own_cp v140 v144))), vi 3, vi 0, vi 3] [(.int 2), (.ref b134), (.int v144)] (fun _ k => aI X224 hx (dk at_267) rfl rfl (kC X224 hx (dk at_269) k)) ?_
        obtain ⟨cl225, Ar225, q225, S225, N_225, Hs225, G225⟩ := id f209
        have hin226 : ¬ ((2 : Int32) < 0 ∨ cl225.slots.size ≤ ((2 : Int32)).toNatClampNeg) := inb_of S225 ⟨by decide, by decide⟩
        have hat226 : cl225.slots[((2 : Int32)).toNatClampNeg]? = some (.int v144) := Hs225.at hin226 rfl
        refine gz X224 271 #[vi p1, vi p2, vi p3, vi p4, vi p5, vi 3, vi mx12, vr b134, vr b148, vr b150, .val (.int (own_len (own_cp v136 v140))), vi 1, vi 3, .val (.int (own_len (own_cp v140 v144))), vi 3, vi 0, vi 3] [(.int v144), (.int v144)] (fun _ k => X224.caload hx (j := (2 : Int32)) (v := (.int v144)) (by rw [hh224]; exact Ar225.1) (State.isArrayOf_alike hZ.alike Ar225.2.1) Ar225.2.2 hin226 hat226 (g := (mkF m 270 #[vi p1, vi p2, vi p3, vi p4, vi p5, vi 3, vi mx12, vr b134, vr b148, vr b150, .val (.int (own_len (own_cp v136 v140))), vi 1, vi 3, .val (.int (own_len (own_cp v140 v144))), vi 3, vi 0, vi 3] [(.int 2), (.ref b134), (.int v144)])) rfl rfl (dk at_270) _ k) ?_
        refine gz X224 279 #[vi p1, vi p2, vi p3, vi p4, vi p5, vi 3, vi mx12, vr b134, vr b148, vr b150, .val (.int (own_len (own_cp v136 v140))), vi 1, vi 3, .val (.int (own_len (own_cp v140 v144))), vi 3, vi 0, vi 3] [(.int 1)] (fun _ k => cN X224 hx (dk at_271) rfl (teq (rfl : v144 = v144)).2 (kC X224 hx (dk at_274) (gT X224 hx 275 279 rfl (dk at_275) k))) ?_
        have hkE227 : _ ≤ T224.heap.size := (by rw [hh224]; exact hk)
        have CE227 : CHr Z own_EL s.vm s.heap T150.vm T224.heap := (by rw [hh224]; exact C151)
        refine Go.retS X224 hx hlk hS hkE227 hZ hEL CE227 (t := .boolean) hret rfl (Or.inl ⟨rfl, by simp, _, rfl⟩) (dk at_279) (by decide) (by decide) ?_
        exact ⟨rfl, N224⟩
      · skip
        refine gz X150 76 #[vi p1, vi p2, vi p3, vi p4, vi p5, vi 3, vi mx12, vr b134, vr b148, vr b150, .unset, .unset, .unset, .unset, .unset, .unset, .unset] [(.int 0), (.int 3), (.ref b134)] (fun _ k => tI X150 hx (dk at_69) rfl rfl rfl (.inl rfl) (aI X150 hx (dk at_71) rfl rfl (lI X150 hx (dk at_73) rfl (kC X150 hx (dk at_75) k)))) ?_
        have f228 := ((V146.keep K148 nin0).keep K150 nin0)
        refine goS X150 hx hZ hown (W 91 rfl) (m45 hw) 3 8 29 (rm_by0p hw b134 k134 v136 v140 v144 (3 : Int32) T150.heap n0 Z151 f228 p136_0 p140_0 p144_0 (by decide) (by decide)) N150 rfl pd_30 hml (dk at_76) ?_
        rintro _ T229 L229 X229 N229 ⟨rfl, hh229⟩
        refine gz X229 86 #[vi p1, vi p2, vi p3, vi p4, vi p5, vi 3, vi mx12, vr b134, vr b148, vr b150, .val (.int (own_len (own_cp v136 v140))), .unset, .unset, .unset, .unset, .unset, .unset] [(.int 0), (.int 3), (.ref b134)] (fun _ k => sI X229 hx (dk at_79) rfl rfl (.inl rfl) (aI X229 hx (dk at_81) rfl rfl (lI X229 hx (dk at_83) rfl (kC X229 hx (dk at_85) k)))) ?_
        refine goS X229 hx hZ hown (W 94 rfl) (m42 hw) 3 8 29 (rm_un0p hw b134 k134 v136 v140 v144 (3 : Int32) T150.heap n0 Z151 f228 p136_0 p140_0 p144_0 (by decide) (by decide)) N229 hh229 pd_30 hml (dk at_86) ?_
        rintro _ T230 L230 X230 N230 ⟨rfl, hh230⟩
        refine gz X230 116 #[vi p1, vi p2, vi p3, vi p4, vi p5, vi 3, vi mx12, vr b134, vr b148, vr b150, .val (.int (own_len (own_cp v136 v140))), vi 2, vi 2, .unset, .unset, .unset, .unset] [(.int 2), (.int 3), (.ref b134)] (fun _ k => sI (x := (2 : Int32)) (rest := []) X230 hx (dk at_89) (by rw [g157_1]; rfl) rfl (.inl rfl) (kC X230 hx (dk at_91) (sI X230 hx (dk at_92) rfl rfl (.inl rfl) (lI X230 hx (dk at_94) rfl (fN X230 hx (dk at_96) rfl ((if0 _ _).trans (tlt (by decide)).2.2.2) (lI X230 hx (dk at_99) rfl (lI X230 hx (dk at_101) rfl (cN X230 hx (dk at_103) rfl (flt g157_0).2.2.1 (lI X230 hx (dk at_106) rfl (sI X230 hx (dk at_108) rfl rfl (.inr ⟨_, rfl, rfl⟩) (aI X230 hx (dk at_110) rfl rfl (lI X230 hx (dk at_112) rfl (lI X230 hx (dk at_114) rfl k))))))))))))) ?_
        refine goS X230 hx hZ hown (W 91 rfl) (m45 hw) 3 8 29 (rm_by2l hw b134 k134 v136 v140 v144 (3 : Int32) T150.heap n0 Z151 f228 p136_0 p140_0 p144_0 (by decide) (by decide)) N230 hh230 pd_30 hml (dk at_116) ?_
        rintro _ T231 L231 X231 N231 ⟨rfl, hh231⟩
        refine gz X231 129 #[vi p1, vi p2, vi p3, vi p4, vi p5, vi 3, vi mx12, vr b134, vr b148, vr b150, .val (.int (own_len (own_cp v136 v140))), vi 2, vi 2, .val (.int (own_len v144)), .unset, .unset, .unset] [(.int 2), (.int 3), (.ref b134), (.int 2)] (fun _ k => sI X231 hx (dk at_119) rfl rfl (.inl rfl) (lI X231 hx (dk at_121) rfl (aI X231 hx (dk at_123) rfl rfl (lI X231 hx (dk at_125) rfl (lI X231 hx (dk at_127) rfl k))))) ?_
        refine goS X231 hx hZ hown (W 94 rfl) (m42 hw) 3 8 29 (rm_un2l hw b134 k134 v136 v140 v144 (3 : Int32) T150.heap n0 Z151 f228 p136_0 p140_0 p144_0 (by decide) (by decide)) N231 hh231 pd_30 hml (dk at_129) ?_
        rintro _ T232 L232 X232 N232 ⟨rfl, hh232⟩
        refine gz X232 207 #[vi p1, vi p2, vi p3, vi p4, vi p5, vi 3, vi mx12, vr b134, vr b148, vr b150, .val (.int (own_len (own_cp v136 v140))), vi 2, vi 2, .val (.int (own_len v144)), vi 3, .unset, .unset] [(.ref b150)] (fun _ k => pI X232 hx (dk at_132) rfl (sI X232 hx (dk at_133) rfl rfl (.inl rfl) (lI X232 hx (dk at_135) rfl (lI X232 hx (dk at_137) rfl (cN X232 hx (dk at_139) rfl (tlt (by decide)).2.1 (lI X232 hx (dk at_142) rfl (lI X232 hx (dk at_144) rfl (pI X232 hx (dk at_146) rfl (lI X232 hx (dk at_147) rfl (cY X232 hx 149 205 rfl (dk at_149) rfl (tlt g157_2).2.2.1 (aI X232 hx (dk at_205) rfl rfl k))))))))))) ?_
        refine goV X232 hx hZ hown (W 98 rfl) (m34 hw) E_157 0 8 29 (rm_lenS_2 hw b150 t150 k150 v136 v140 cs T150.heap n0 Z151 O151 pr1 hcs E_157 F_157 S_157) N232 hh232 pd_26 hml (dk at_207) ?_
        rintro _ T233 L233 X233 N233 ⟨rfl, hh233⟩
        refine gz X233 226 #[vi p1, vi p2, vi p3, vi p4, vi p5, vi 3, vi mx12, vr b134, vr b148, vr b150, .val (.int (own_len (own_cp v136 v140))), vi 2, vi 2, .val (.int (own_len v144)), vi 3, .unset, .unset] [(.int 0), (.ref b150)] (fun _ k => lI X233 hx (dk at_210) rfl (cY X233 hx 212 217 rfl (dk at_212) rfl (teq (by decide)).1 (lI X233 hx (dk at_217) rfl (kC X233 hx (dk at_219) (cN X233 hx (dk at_220) rfl (flt (by decide)).1 (aI X233 hx (dk at_223) rfl rfl (kC X233 hx (dk at_225) k))))))) ?_
        refine goV X233 hx hZ hown (W 104 rfl) (m47 hw) E_157 1 8 29 (rm_caS_2_0 hw b150 t150 k150 v136 v140 cs fm T150.heap n0 Z151 O151 pr1 hcs pr6 hr_fm pr3 pr4 pr5 E_157 F_157 S_157 p136_0 p140_0) N233 hh233 pd_31 hml (dk at_226) ?_
        rintro _ T234 L234 X234 N234 ⟨rfl, hh234⟩
        refine gz X234 232 #[vi p1, vi p2, vi p3, vi p4, vi p5, vi 3, vi mx12, vr b134, vr b148, vr b150, .val (.int (own_len (own_cp v136 v140))), vi 2, vi 2, .val (.int (own_len v144)), vi 3, .unset, .unset] [(.int 0), (.ref b134), (.int v136)] (fun _ k => aI X234 hx (dk at_229) rfl rfl (kC X234 hx (dk at_231) k)) ?_
        obtain ⟨cl235, Ar235, q235, S235, N_235, Hs235, G235⟩ := id f228
        have hin236 : ¬ ((0 : Int32) < 0 ∨ cl235.slots.size ≤ ((0 : Int32)).toNatClampNeg) := inb_of S235 ⟨by decide, by decide⟩
        have hat236 : cl235.slots[((0 : Int32)).toNatClampNeg]? = some (.int v136) := Hs235.at hin236 rfl
        refine gz X234 233 #[vi p1, vi p2, vi p3, vi p4, vi p5, vi 3, vi mx12, vr b134, vr b148, vr b150, .val (.int (own_len (own_cp v136 v140))), vi 2, vi 2, .val (.int (own_len v144)), vi 3, .unset, .unset] [(.int v136), (.int v136)] (fun _ k => X234.caload hx (j := (0 : Int32)) (v := (.int v136)) (by rw [hh234]; exact Ar235.1) (State.isArrayOf_alike hZ.alike Ar235.2.1) Ar235.2.2 hin236 hat236 (g := (mkF m 232 #[vi p1, vi p2, vi p3, vi p4, vi p5, vi 3, vi mx12, vr b134, vr b148, vr b150, .val (.int (own_len (own_cp v136 v140))), vi 2, vi 2, .val (.int (own_len v144)), vi 3, .unset, .unset] [(.int 0), (.ref b134), (.int v136)])) rfl rfl (dk at_232) _ k) ?_
        refine gz X234 245 #[vi p1, vi p2, vi p3, vi p4, vi p5, vi 3, vi mx12, vr b134, vr b148, vr b150, .val (.int (own_len (own_cp v136 v140))), vi 2, vi 2, .val (.int (own_len v144)), vi 3, .unset, .unset] [(.int 1), (.ref b150)] (fun _ k => cN X234 hx (dk at_233) rfl (teq (rfl : v136 = v136)).2 (lI X234 hx (dk at_236) rfl (kC X234 hx (dk at_238) (cN X234 hx (dk at_239) rfl (flt (by decide)).1 (aI X234 hx (dk at_242) rfl rfl (kC X234 hx (dk at_244) k)))))) ?_
        refine goV X234 hx hZ hown (W 104 rfl) (m47 hw) E_157 1 8 29 (rm_caS_2_1 hw b150 t150 k150 v136 v140 cs fm T150.heap n0 Z151 O151 pr1 hcs pr6 hr_fm pr3 pr4 pr5 E_157 F_157 S_157 p136_0 p140_0) N234 hh234 pd_31 hml (dk at_245) ?_
        rintro _ T237 L237 X237 N237 ⟨rfl, hh237⟩
        refine gz X237 251 #[vi p1, vi p2, vi p3, vi p4, vi p5, vi 3, vi mx12, vr b134, vr b148, vr b150, .val (.int (own_len (own_cp v136 v140))), vi 2, vi 2, .val (.int (own_len v144)), vi 3, .unset, .unset] [(.int 1), (.ref b134), (.int v140)] (fun _ k => aI X237 hx (dk at_248) rfl rfl (kC X237 hx (dk at_250) k)) ?_
        obtain ⟨cl238, Ar238, q238, S238, N_238, Hs238, G238⟩ := id f228
        have hin239 : ¬ ((1 : Int32) < 0 ∨ cl238.slots.size ≤ ((1 : Int32)).toNatClampNeg) := inb_of S238 ⟨by decide, by decide⟩
        have hat239 : cl238.slots[((1 : Int32)).toNatClampNeg]? = some (.int v140) := Hs238.at hin239 rfl
        refine gz X237 252 #[vi p1, vi p2, vi p3, vi p4, vi p5, vi 3, vi mx12, vr b134, vr b148, vr b150, .val (.int (own_len (own_cp v136 v140))), vi 2, vi 2, .val (.int (own_len v144)), vi 3, .unset, .unset] [(.int v140), (.int v140)] (fun _ k => X237.caload hx (j := (1 : Int32)) (v := (.int v140)) (by rw [hh237]; exact Ar238.1) (State.isArrayOf_alike hZ.alike Ar238.2.1) Ar238.2.2 hin239 hat239 (g := (mkF m 251 #[vi p1, vi p2, vi p3, vi p4, vi p5, vi 3, vi mx12, vr b134, vr b148, vr b150, .val (.int (own_len (own_cp v136 v140))), vi 2, vi 2, .val (.int (own_len v144)), vi 3, .unset, .unset] [(.int 1), (.ref b134), (.int v140)])) rfl rfl (dk at_251) _ k) ?_
        refine gz X237 279 #[vi p1, vi p2, vi p3, vi p4, vi p5, vi 3, vi mx12, vr b134, vr b148, vr b150, .val (.int (own_len (own_cp v136 v140))), vi 2, vi 2, .val (.int (own_len v144)), vi 3, .unset, .unset] [(.int 1)] (fun _ k => cN X237 hx (dk at_252) rfl (teq (rfl : v140 = v140)).2 (lI X237 hx (dk at_255) rfl (kC X237 hx (dk at_257) (cY X237 hx 258 274 rfl (dk at_258) rfl (tlt (by decide)).1 (kC X237 hx (dk at_274) (gT X237 hx 275 279 rfl (dk at_275) k)))))) ?_
        have hkE240 : _ ≤ T237.heap.size := (by rw [hh237]; exact hk)
        have CE240 : CHr Z own_EL s.vm s.heap T150.vm T237.heap := (by rw [hh237]; exact C151)
        refine Go.retS X237 hx hlk hS hkE240 hZ hEL CE240 (t := .boolean) hret rfl (Or.inl ⟨rfl, by simp, _, rfl⟩) (dk at_279) (by decide) (by decide) ?_
        exact ⟨rfl, N237⟩
      · skip
        refine gz X150 76 #[vi p1, vi p2, vi p3, vi p4, vi p5, vi 3, vi mx12, vr b134, vr b148, vr b150, .unset, .unset, .unset, .unset, .unset, .unset, .unset] [(.int 0), (.int 3), (.ref b134)] (fun _ k => tI X150 hx (dk at_69) rfl rfl rfl (.inl rfl) (aI X150 hx (dk at_71) rfl rfl (lI X150 hx (dk at_73) rfl (kC X150 hx (dk at_75) k)))) ?_
        have f241 := ((V146.keep K148 nin0).keep K150 nin0)
        refine goS X150 hx hZ hown (W 91 rfl) (m45 hw) 3 8 29 (rm_by0p hw b134 k134 v136 v140 v144 (3 : Int32) T150.heap n0 Z151 f241 p136_0 p140_0 p144_0 (by decide) (by decide)) N150 rfl pd_30 hml (dk at_76) ?_
        rintro _ T242 L242 X242 N242 ⟨rfl, hh242⟩
        refine gz X242 86 #[vi p1, vi p2, vi p3, vi p4, vi p5, vi 3, vi mx12, vr b134, vr b148, vr b150, .val (.int (own_len (own_cp v136 v140))), .unset, .unset, .unset, .unset, .unset, .unset] [(.int 0), (.int 3), (.ref b134)] (fun _ k => sI X242 hx (dk at_79) rfl rfl (.inl rfl) (aI X242 hx (dk at_81) rfl rfl (lI X242 hx (dk at_83) rfl (kC X242 hx (dk at_85) k)))) ?_
        refine goS X242 hx hZ hown (W 94 rfl) (m42 hw) 3 8 29 (rm_un0p hw b134 k134 v136 v140 v144 (3 : Int32) T150.heap n0 Z151 f241 p136_0 p140_0 p144_0 (by decide) (by decide)) N242 hh242 pd_30 hml (dk at_86) ?_
        rintro _ T243 L243 X243 N243 ⟨rfl, hh243⟩
        refine gz X243 116 #[vi p1, vi p2, vi p3, vi p4, vi p5, vi 3, vi mx12, vr b134, vr b148, vr b150, .val (.int (own_len (own_cp v136 v140))), vi 2, vi 2, .unset, .unset, .unset, .unset] [(.int 2), (.int 3), (.ref b134)] (fun _ k => sI (x := (2 : Int32)) (rest := []) X243 hx (dk at_89) (by rw [g158_1]; rfl) rfl (.inl rfl) (kC X243 hx (dk at_91) (sI X243 hx (dk at_92) rfl rfl (.inl rfl) (lI X243 hx (dk at_94) rfl (fN X243 hx (dk at_96) rfl ((if0 _ _).trans (tlt (by decide)).2.2.2) (lI X243 hx (dk at_99) rfl (lI X243 hx (dk at_101) rfl (cN X243 hx (dk at_103) rfl (flt g158_0).2.2.1 (lI X243 hx (dk at_106) rfl (sI X243 hx (dk at_108) rfl rfl (.inr ⟨_, rfl, rfl⟩) (aI X243 hx (dk at_110) rfl rfl (lI X243 hx (dk at_112) rfl (lI X243 hx (dk at_114) rfl k))))))))))))) ?_
        refine goS X243 hx hZ hown (W 91 rfl) (m45 hw) 3 8 29 (rm_by2l hw b134 k134 v136 v140 v144 (3 : Int32) T150.heap n0 Z151 f241 p136_0 p140_0 p144_0 (by decide) (by decide)) N243 hh243 pd_30 hml (dk at_116) ?_
        rintro _ T244 L244 X244 N244 ⟨rfl, hh244⟩
        refine gz X244 129 #[vi p1, vi p2, vi p3, vi p4, vi p5, vi 3, vi mx12, vr b134, vr b148, vr b150, .val (.int (own_len (own_cp v136 v140))), vi 2, vi 2, .val (.int (own_len v144)), .unset, .unset, .unset] [(.int 2), (.int 3), (.ref b134), (.int 2)] (fun _ k => sI X244 hx (dk at_119) rfl rfl (.inl rfl) (lI X244 hx (dk at_121) rfl (aI X244 hx (dk at_123) rfl rfl (lI X244 hx (dk at_125) rfl (lI X244 hx (dk at_127) rfl k))))) ?_
        refine goS X244 hx hZ hown (W 94 rfl) (m42 hw) 3 8 29 (rm_un2l hw b134 k134 v136 v140 v144 (3 : Int32) T150.heap n0 Z151 f241 p136_0 p140_0 p144_0 (by decide) (by decide)) N244 hh244 pd_30 hml (dk at_129) ?_
        rintro _ T245 L245 X245 N245 ⟨rfl, hh245⟩
        refine gz X245 162 #[vi p1, vi p2, vi p3, vi p4, vi p5, vi 3, vi mx12, vr b134, vr b148, vr b150, .val (.int (own_len (own_cp v136 v140))), vi 2, vi 3, .val (.int (own_len v144)), vi 3, .unset, .unset] [(.int 3), (.int 3), (.ref b134)] (fun _ k => pI X245 hx (dk at_132) rfl (sI X245 hx (dk at_133) rfl rfl (.inl rfl) (lI X245 hx (dk at_135) rfl (lI X245 hx (dk at_137) rfl (cN X245 hx (dk at_139) rfl (tlt (by decide)).2.1 (lI X245 hx (dk at_142) rfl (lI X245 hx (dk at_144) rfl (pI X245 hx (dk at_146) rfl (lI X245 hx (dk at_147) rfl (cN X245 hx (dk at_149) rfl (flt g158_2).2.2.1 (lI X245 hx (dk at_152) rfl (sI X245 hx (dk at_154) rfl rfl (.inr ⟨_, rfl, rfl⟩) (aI X245 hx (dk at_156) rfl rfl (lI X245 hx (dk at_158) rfl (lI X245 hx (dk at_160) rfl k))))))))))))))) ?_
        refine goS X245 hx hZ hown (W 91 rfl) (m45 hw) 3 8 29 (rm_byO hw b134 (3 : Int32) (3 : Int32) T150.heap n0 Z151 (by decide)) N245 hh245 pd_30 hml (dk at_162) ?_
        rintro _ T246 L246 X246 N246 ⟨rfl, hh246⟩
        refine gz X246 175 #[vi p1, vi p2, vi p3, vi p4, vi p5, vi 3, vi mx12, vr b134, vr b148, vr b150, .val (.int (own_len (own_cp v136 v140))), vi 2, vi 3, .val (.int (own_len v144)), vi 3, vi 0, .unset] [(.int 3), (.int 3), (.ref b134), (.int 3)] (fun _ k => sI X246 hx (dk at_165) rfl rfl (.inl rfl) (lI X246 hx (dk at_167) rfl (aI X246 hx (dk at_169) rfl rfl (lI X246 hx (dk at_171) rfl (lI X246 hx (dk at_173) rfl k))))) ?_
        refine goS X246 hx hZ hown (W 94 rfl) (m42 hw) 3 8 29 (rm_unO hw b134 (3 : Int32) (3 : Int32) T150.heap n0 Z151 (by decide)) N246 hh246 pd_30 hml (dk at_175) ?_
        rintro _ T247 L247 X247 N247 ⟨rfl, hh247⟩
        refine gz X247 207 #[vi p1, vi p2, vi p3, vi p4, vi p5, vi 3, vi mx12, vr b134, vr b148, vr b150, .val (.int (own_len (own_cp v136 v140))), vi 2, vi 3, .val (.int (own_len v144)), vi 3, vi 0, vi 3] [(.ref b150)] (fun _ k => pI X247 hx (dk at_178) rfl (sI X247 hx (dk at_179) rfl rfl (.inl rfl) (lI X247 hx (dk at_181) rfl (lI X247 hx (dk at_183) rfl (cY X247 hx 185 205 rfl (dk at_185) rfl (flt (by decide)).2.1 (aI X247 hx (dk at_205) rfl rfl k)))))) ?_
        refine goV X247 hx hZ hown (W 98 rfl) (m34 hw) E_158 0 8 29 (rm_lenS_3 hw b150 t150 k150 v136 v140 v144 cs T150.heap n0 Z151 O151 pr1 hcs E_158 F_158 S_158) N247 hh247 pd_26 hml (dk at_207) ?_
        rintro _ T248 L248 X248 N248 ⟨rfl, hh248⟩
        refine gz X248 226 #[vi p1, vi p2, vi p3, vi p4, vi p5, vi 3, vi mx12, vr b134, vr b148, vr b150, .val (.int (own_len (own_cp v136 v140))), vi 2, vi 3, .val (.int (own_len v144)), vi 3, vi 0, vi 3] [(.int 0), (.ref b150)] (fun _ k => lI X248 hx (dk at_210) rfl (cY X248 hx 212 217 rfl (dk at_212) rfl (teq (by decide)).1 (lI X248 hx (dk at_217) rfl (kC X248 hx (dk at_219) (cN X248 hx (dk at_220) rfl (flt (by decide)).1 (aI X248 hx (dk at_223) rfl rfl (kC X248 hx (dk at_225) k))))))) ?_
        refine goV X248 hx hZ hown (W 104 rfl) (m47 hw) E_158 1 8 29 (rm_caS_3_0 hw b150 t150 k150 v136 v140 v144 cs fm T150.heap n0 Z151 O151 pr1 hcs pr6 hr_fm pr3 pr4 pr5 E_158 F_158 S_158 p136_0 p140_0 p144_0) N248 hh248 pd_31 hml (dk at_226) ?_
        rintro _ T249 L249 X249 N249 ⟨rfl, hh249⟩
        refine gz X249 232 #[vi p1, vi p2, vi p3, vi p4, vi p5, vi 3, vi mx12, vr b134, vr b148, vr b150, .val (.int (own_len (own_cp v136 v140))), vi 2, vi 3, .val (.int (own_len v144)), vi 3, vi 0, vi 3] [(.int 0), (.ref b134), (.int v136)] (fun _ k => aI X249 hx (dk at_229) rfl rfl (kC X249 hx (dk at_231) k)) ?_
        obtain ⟨cl250, Ar250, q250, S250, N_250, Hs250, G250⟩ := id f241
        have hin251 : ¬ ((0 : Int32) < 0 ∨ cl250.slots.size ≤ ((0 : Int32)).toNatClampNeg) := inb_of S250 ⟨by decide, by decide⟩
        have hat251 : cl250.slots[((0 : Int32)).toNatClampNeg]? = some (.int v136) := Hs250.at hin251 rfl
        refine gz X249 233 #[vi p1, vi p2, vi p3, vi p4, vi p5, vi 3, vi mx12, vr b134, vr b148, vr b150, .val (.int (own_len (own_cp v136 v140))), vi 2, vi 3, .val (.int (own_len v144)), vi 3, vi 0, vi 3] [(.int v136), (.int v136)] (fun _ k => X249.caload hx (j := (0 : Int32)) (v := (.int v136)) (by rw [hh249]; exact Ar250.1) (State.isArrayOf_alike hZ.alike Ar250.2.1) Ar250.2.2 hin251 hat251 (g := (mkF m 232 #[vi p1, vi p2, vi p3, vi p4, vi p5, vi 3, vi mx12, vr b134, vr b148, vr b150, .val (.int (own_len (own_cp v136 v140))), vi 2, vi 3, .val (.int (own_len v144)), vi 3, vi 0, vi 3] [(.int 0), (.ref b134), (.int v136)])) rfl rfl (dk at_232) _ k) ?_
        refine gz X249 245 #[vi p1, vi p2, vi p3, vi p4, vi p5, vi 3, vi mx12, vr b134, vr b148, vr b150, .val (.int (own_len (own_cp v136 v140))), vi 2, vi 3, .val (.int (own_len v144)), vi 3, vi 0, vi 3] [(.int 1), (.ref b150)] (fun _ k => cN X249 hx (dk at_233) rfl (teq (rfl : v136 = v136)).2 (lI X249 hx (dk at_236) rfl (kC X249 hx (dk at_238) (cN X249 hx (dk at_239) rfl (flt (by decide)).1 (aI X249 hx (dk at_242) rfl rfl (kC X249 hx (dk at_244) k)))))) ?_
        refine goV X249 hx hZ hown (W 104 rfl) (m47 hw) E_158 1 8 29 (rm_caS_3_1 hw b150 t150 k150 v136 v140 v144 cs fm T150.heap n0 Z151 O151 pr1 hcs pr6 hr_fm pr3 pr4 pr5 E_158 F_158 S_158 p136_0 p140_0 p144_0) N249 hh249 pd_31 hml (dk at_245) ?_
        rintro _ T252 L252 X252 N252 ⟨rfl, hh252⟩
        refine gz X252 251 #[vi p1, vi p2, vi p3, vi p4, vi p5, vi 3, vi mx12, vr b134, vr b148, vr b150, .val (.int (own_len (own_cp v136 v140))), vi 2, vi 3, .val (.int (own_len v144)), vi 3, vi 0, vi 3] [(.int 1), (.ref b134), (.int v140)] (fun _ k => aI X252 hx (dk at_248) rfl rfl (kC X252 hx (dk at_250) k)) ?_
        obtain ⟨cl253, Ar253, q253, S253, N_253, Hs253, G253⟩ := id f241
        have hin254 : ¬ ((1 : Int32) < 0 ∨ cl253.slots.size ≤ ((1 : Int32)).toNatClampNeg) := inb_of S253 ⟨by decide, by decide⟩
        have hat254 : cl253.slots[((1 : Int32)).toNatClampNeg]? = some (.int v140) := Hs253.at hin254 rfl
        refine gz X252 252 #[vi p1, vi p2, vi p3, vi p4, vi p5, vi 3, vi mx12, vr b134, vr b148, vr b150, .val (.int (own_len (own_cp v136 v140))), vi 2, vi 3, .val (.int (own_len v144)), vi 3, vi 0, vi 3] [(.int v140), (.int v140)] (fun _ k => X252.caload hx (j := (1 : Int32)) (v := (.int v140)) (by rw [hh252]; exact Ar253.1) (State.isArrayOf_alike hZ.alike Ar253.2.1) Ar253.2.2 hin254 hat254 (g := (mkF m 251 #[vi p1, vi p2, vi p3, vi p4, vi p5, vi 3, vi mx12, vr b134, vr b148, vr b150, .val (.int (own_len (own_cp v136 v140))), vi 2, vi 3, .val (.int (own_len v144)), vi 3, vi 0, vi 3] [(.int 1), (.ref b134), (.int v140)])) rfl rfl (dk at_251) _ k) ?_
        refine gz X252 264 #[vi p1, vi p2, vi p3, vi p4, vi p5, vi 3, vi mx12, vr b134, vr b148, vr b150, .val (.int (own_len (own_cp v136 v140))), vi 2, vi 3, .val (.int (own_len v144)), vi 3, vi 0, vi 3] [(.int 2), (.ref b150)] (fun _ k => cN X252 hx (dk at_252) rfl (teq (rfl : v140 = v140)).2 (lI X252 hx (dk at_255) rfl (kC X252 hx (dk at_257) (cN X252 hx (dk at_258) rfl (flt (by decide)).1 (aI X252 hx (dk at_261) rfl rfl (kC X252 hx (dk at_263) k)))))) ?_
        refine goV X252 hx hZ hown (W 104 rfl) (m47 hw) E_158 1 8 29 (rm_caS_3_2 hw b150 t150 k150 v136 v140 v144 cs fm T150.heap n0 Z151 O151 pr1 hcs pr6 hr_fm pr3 pr4 pr5 E_158 F_158 S_158 p136_0 p140_0 p144_0) N252 hh252 pd_31 hml (dk at_264) ?_
        rintro _ T255 L255 X255 N255 ⟨rfl, hh255⟩
        refine gz X255 270 #[vi p1, vi p2, vi p3, vi p4, vi p5, vi 3, vi mx12, vr b134, vr b148, vr b150, .val (.int (own_len (own_cp v136 v140))), vi 2, vi 3, .val (.int (own_len v144)), vi 3, vi 0, vi 3] [(.int 2), (.ref b134), (.int v144)] (fun _ k => aI X255 hx (dk at_267) rfl rfl (kC X255 hx (dk at_269) k)) ?_
        obtain ⟨cl256, Ar256, q256, S256, N_256, Hs256, G256⟩ := id f241
        have hin257 : ¬ ((2 : Int32) < 0 ∨ cl256.slots.size ≤ ((2 : Int32)).toNatClampNeg) := inb_of S256 ⟨by decide, by decide⟩
        have hat257 : cl256.slots[((2 : Int32)).toNatClampNeg]? = some (.int v144) := Hs256.at hin257 rfl
        refine gz X255 271 #[vi p1, vi p2, vi p3, vi p4, vi p5, vi 3, vi mx12, vr b134, vr b148, vr b150, .val (.int (own_len (own_cp v136 v140))), vi 2, vi 3, .val (.int (own_len v144)), vi 3, vi 0, vi 3] [(.int v144), (.int v144)] (fun _ k => X255.caload hx (j := (2 : Int32)) (v := (.int v144)) (by rw [hh255]; exact Ar256.1) (State.isArrayOf_alike hZ.alike Ar256.2.1) Ar256.2.2 hin257 hat257 (g := (mkF m 270 #[vi p1, vi p2, vi p3, vi p4, vi p5, vi 3, vi mx12, vr b134, vr b148, vr b150, .val (.int (own_len (own_cp v136 v140))), vi 2, vi 3, .val (.int (own_len v144)), vi 3, vi 0, vi 3] [(.int 2), (.ref b134), (.int v144)])) rfl rfl (dk at_270) _ k) ?_
        refine gz X255 279 #[vi p1, vi p2, vi p3, vi p4, vi p5, vi 3, vi mx12, vr b134, vr b148, vr b150, .val (.int (own_len (own_cp v136 v140))), vi 2, vi 3, .val (.int (own_len v144)), vi 3, vi 0, vi 3] [(.int 1)] (fun _ k => cN X255 hx (dk at_271) rfl (teq (rfl : v144 = v144)).2 (kC X255 hx (dk at_274) (gT X255 hx 275 279 rfl (dk at_275) k))) ?_
        have hkE258 : _ ≤ T255.heap.size := (by rw [hh255]; exact hk)
        have CE258 : CHr Z own_EL s.vm s.heap T150.vm T255.heap := (by rw [hh255]; exact C151)
        refine Go.retS X255 hx hlk hS hkE258 hZ hEL CE258 (t := .boolean) hret rfl (Or.inl ⟨rfl, by simp, _, rfl⟩) (dk at_279) (by decide) (by decide) ?_
        exact ⟨rfl, N255⟩
  refine gz X0 10 #[vi p1, vi p2, vi p3, vi p4, vi p5, vi v10, .unset, .unset, .unset, .unset, .unset, .unset, .unset, .unset, .unset, .unset, .unset] [(.int (((p4.toUInt32 >>> ((2 : Int32) &&& 31).toUInt32).toInt32) &&& (1 : Int32)))] (fun _ k => lN X11 hx (dk at_5) rfl (kC X11 hx (dk at_6) (XS.iushr X11.here hx rfl (dk at_7) rfl (kC X11 hx (dk at_8) (XS.iand X11.here hx rfl (dk at_9) rfl k))))) ?_
  by_cases c259 : (((p4.toUInt32 >>> ((2 : Int32) &&& 31).toUInt32).toInt32) &&& (1 : Int32)) = (0 : Int32)
  · skip
    refine gz X0 25 #[vi p1, vi p2, vi p3, vi p4, vi p5, vi v10, .unset, .unset, .unset, .unset, .unset, .unset, .unset, .unset, .unset, .unset, .unset] [(.int ((p5 &&& (15 : Int32)) - (1 : Int32)))] (fun _ k => fY X11 hx 10 18 rfl (dk at_10) rfl ((if0 _ _).trans (teq c259).1) (lI X11 hx (dk at_18) rfl (XS.bipush X11.here hx rfl (dk at_20) (XS.iand X11.here hx rfl (dk at_22) rfl (kC X11 hx (dk at_23) (XS.isub X11.here hx rfl (dk at_24) rfl k)))))) ?_
    exact J11 s₁ X11 e11 ((p5 &&& (15 : Int32)) - (1 : Int32))
  · skip
    refine gz X0 25 #[vi p1, vi p2, vi p3, vi p4, vi p5, vi v10, .unset, .unset, .unset, .unset, .unset, .unset, .unset, .unset, .unset, .unset, .unset] [(.int p5)] (fun _ k => fN X11 hx (dk at_10) rfl ((if0 _ _).trans (feq c259).1) (lI X11 hx (dk at_13) rfl (gT X11 hx 15 25 rfl (dk at_15) k))) ?_
    exact J11 s₁ X11 e11 p5
theorem comes_1 {Post : Tables → Env → Array Value → State → Outcome → State → Prop} (hpost : ∀ tb e args s v u, (limb_1_1.after args s (.returned v) u = true ∧ limb_1_2.after args s (.returned v) u = true ∧ True) → ReturnedEndW s (.returned v) u (Jvm.fieldLocs frame_1_writes args s ++ Jvm.arrayLocs frame_1_arrays args s ++ Jvm.staticLocs frame_1_statics s) 32 3264 → Post tb e args s (.returned v) u) :
    ArmFor flags0 classFile x code maxLocals ret World_1 tables_1 room_1 Calls_1 rest_1 Pre_1 Post := by
  intro l hfl _ _ p e ha hc hk s m args below hf hA hF happ hP
  obtain ⟨hcalls, hrest, hpre⟩ := hP
  obtain ⟨-, -, -, hnamed, -, -, -, hat⟩ := (Spec.applies_iff hf).mp happ
  obtain ⟨hg, hn⟩ := and_e (Cond.before_iff.mp (show (Jvm.Cond.and given_1 narrow_1).before args s = true from hpre))
  obtain ⟨hg0, hgr0⟩ := and_e hg
  obtain ⟨ga0, hgr1⟩ := and_e hgr0
  obtain ⟨ga1, hgr2⟩ := and_e hgr1
  obtain ⟨ga2, hgr3⟩ := and_e hgr2
  obtain ⟨ga3, hgr4⟩ := and_e hgr3
  obtain ⟨w0, w1, w2, w3, w4, rfl⟩ : ∃ w0 w1 w2 w3 w4 : Value, args = #[w0, w1, w2, w3, w4] := by
    have hs : args.size = 5 := by simpa [Cond.value, given_1] using hg0
    obtain ⟨L⟩ := args
    match L, hs with
    | [w0, w1, w2, w3, w4], _ => exact ⟨w0, w1, w2, w3, w4, rfl⟩
  have hw := fun d (hd : d ∈ tables_1) => atoms_spec (ws := Jvm.Cond.code x code maxLocals ret :: tables_1) hat d (List.mem_cons_of_mem _ hd)
  have hfit : Fit s := fun {y c} hc i hi => by
    obtain ⟨ha, rfl⟩ := Array.getElem?_eq_some_iff.mp hc
    have q := List.all_eq_true.mp ((Array.all_eq_true_iff_forall_mem.mp hF) _ (Array.getElem_mem ha)) i (List.mem_range.mpr hi)
    simpa [Array.getElem?_eq_getElem hi] using q
  obtain ⟨hsets, hown0⟩ := atoms_of _ (rest_1_c_eq ▸ (show rest_1_c.before _ s = true from hrest))
  have hr0 := Cond.before_iff.mp hown0
  obtain ⟨i0, ei0⟩ := is_v ga0
  obtain rfl : w0 = (.int i0) := Option.some.inj ei0
  obtain ⟨i1, ei1⟩ := is_v ga1
  obtain rfl : w1 = (.int i1) := Option.some.inj ei1
  obtain ⟨i2, ei2⟩ := is_v ga2
  obtain rfl : w2 = (.int i2) := Option.some.inj ei2
  obtain ⟨i3, ei3⟩ := is_v ga3
  obtain rfl : w3 = (.int i3) := Option.some.inj ei3
  obtain ⟨i4, ei4⟩ := is_v hgr4
  obtain rfl : w4 = (.int i4) := Option.some.inj ei4
  have ncs := not_v (Cond.before_iff.mp (hsets _ (List.mem_of_getElem? (i := 2) rfl)))
  obtain ⟨cs, ecs⟩ := is_v (Cond.before_iff.mp (hsets _ (List.mem_of_getElem? (i := 1) rfl)))
  have Scs : Sta s s.heap "java/lang/String" "COMPACT_STRINGS" "Z" (.int cs) := Sta.start ecs (Or.inl (hsets _ (List.mem_of_getElem? (i := 0) rfl)))
  have hcs : ¬ (cs = (0 : Int32)) := gotF (Cond.eq_ints ecs (Term.int_eval (0))) ncs
  have Su__assertionsDisabled : Sta s s.heap "java/lang/StringUTF16" "$assertionsDisabled" "Z" (.int 1) := Sta.start (own_eqk (Cond.before_iff.mp (hsets _ (List.mem_of_getElem? (i := 12) rfl)))) (Or.inl (hsets _ (List.mem_of_getElem? (i := 11) rfl)))
  have Su_HI_BYTE_SHIFT : Sta s s.heap "java/lang/StringUTF16" "HI_BYTE_SHIFT" "I" (.int 0) := Sta.start (own_eqk (Cond.before_iff.mp (hsets _ (List.mem_of_getElem? (i := 15) rfl)))) (Or.inl (hsets _ (List.mem_of_getElem? (i := 14) rfl)))
  have Su_LO_BYTE_SHIFT : Sta s s.heap "java/lang/StringUTF16" "LO_BYTE_SHIFT" "I" (.int 8) := Sta.start (own_eqk (Cond.before_iff.mp (hsets _ (List.mem_of_getElem? (i := 18) rfl)))) (Or.inl (hsets _ (List.mem_of_getElem? (i := 17) rfl)))
  obtain ⟨fm, efm, hrfm⟩ := isR_v (Cond.before_iff.mp (hsets _ (List.mem_of_getElem? (i := 8) rfl)))
  have Sfm : Sta s s.heap "jdk/internal/util/Preconditions" "SIOOBE_FORMATTER" "Ljava/util/function/BiFunction;" fm := Sta.start efm (Or.inl (hsets _ (List.mem_of_getElem? (i := 7) rfl)))
  have hCH : CHv s own_EL s.vm s.heap := CHv.start (own_hEL hw) (fun p hp => hcalls.1 p hp) (hsets _ (List.mem_of_getElem? (i := 2) rfl)) (wd hw 26 rfl) (wd hw 9 rfl)
  obtain ⟨n, o, h1, h2, h3, _, L, rfl, ⟨rfl, N⟩, -, hq⟩ := rm0 l s _ hw tables_1 i0 i1 i2 i3 i4 cs fm s.heap s.heap.size (Nat.le_refl _) (Old.start s) Scs hcs Su__assertionsDisabled Su_HI_BYTE_SHIFT Su_LO_BYTE_SHIFT Sfm hrfm p e ha hc hk s m _ below hf ((Spec.applies_iff_loose hf).mp happ).1 ⟨rfl, State.Warmed39.refl s, rfl, hCH⟩ trivial
  refine ⟨n, _, h1, h2, h3, hpost _ _ _ _ _ _ ⟨Cond.after_iff.mpr rfl, Cond.after_iff.mpr (eq_i res_at (Term.int_eval (1)) rfl), trivial⟩ ⟨hq.1, hq.2.1, hq.2.2.1, (hq.2.2.2.sift fun y hy => Or.inr (N y hy)).mono (by decide) (by decide)⟩⟩
theorem main_1_1 : Claimed_1_1 := comes_1 fun _ _ _ _ _ _ h hF => ⟨h.1, hF⟩
theorem main_1_2 : Claimed_1_2 := comes_1 fun _ _ _ _ _ _ h hF => ⟨h.2.1, hF⟩
end Jvm.Pilot.@@N@@
namespace Jvm.Pilot.@@N@@
open Jvm Jvm.ClassFile Sem Op Lib Jvm.Free Jvm.Stand Jvm.Pilot.@@N@@.Jvm.D
/-! MADE BY PROGRAM (witnessworld.py) out of the Statement's table words and the real class files: 24 classes; the members and pool entries that the words name. The judged class is class 1, her method 1. -/
namespace start1
open Jvm.ClassFile
def u (s : String) : CpInfo := .utf8 (stringToUtf16 s)
/-- a pool by its gaps: so many unusable entries, then the entry; so many at the end -/
def gap : Nat → List CpInfo → List CpInfo
  | 0, r => r
  | n + 1, r => .unusable :: gap n r
def poolList (es : List (Nat × CpInfo)) (last : Nat) : List CpInfo := es.foldr (fun e r => gap e.1 (e.2 :: r)) (gap last [])
def pool (es : List (Nat × CpInfo)) (last : Nat) : Array CpInfo := ⟨poolList es last⟩
def fileOf (pool : Array CpInfo) (this : Nat) (attrs : Array Attribute := #[]) (ms : Array MethodInfo := #[]) (fl : Nat := 33) (sup : Nat := 0) (ifs : Array Nat := #[]) (fds : Array FieldInfo := #[]) : ClassFile where
  minorVersion := 0
  majorVersion := 65
  constantPool := pool
  accessFlags := fl
  thisClass := this
  superClass := sup
  interfaces := ifs
  fields := fds
  methods := ms
  attributes := attrs
def plain (name : String) (sup : Option ClassId) : Class where
  name := name
  kind := .ordinary
  loader := none
  accessFlags := 33
  super := sup
  interfaces := #[]
  cf := none
  fields := #[]
  methods := #[]
  instanceTypes := #[]
  staticTypes := #[]
  resolved := #[]
  callSites := []
  init := .initialized
  statics := none
  mirror := none

def pool0 : Array CpInfo := pool [(5, u "<init>"), (0, u "()V"), (1, .class_ 10), (1, u "java/lang/Object")] 113

def k0c0 : Code := { maxStack := 0, maxLocals := 1, code := object_method_1_code, exceptionTable := #[], attributes := #[] }
def k0m0 : Method := { name := "<init>", desc := "()V", sig := { parameters := [], returnType := none }, accessFlags := 1, code := some k0c0 }
/-- java/lang/Object -/
def k0 : Class := { plain "java/lang/Object" none with
  accessFlags := 33
  interfaces := #[]
  cf := some (fileOf pool0 8 #[] #[{ accessFlags := 1, nameIndex := 5, descriptorIndex := 6, attributes := #[] }] 33 0 #[] #[])
  fields := #[]
  methods := #[k0m0]
  instanceTypes := #[]
  staticTypes := #[]
  resolved := Array.replicate 124 none
  statics := none }

def pool1 : Array CpInfo := pool [(2, .class_ 4), (1, u "java/lang/Object"), (0, u "<init>"), (0, u "()V"), (0, .methodref 8 9), (0, .class_ 10), (0, .nameAndType 11 12), (0, u "com/example/orderly_outbox/orderlyoutbox/store/LastErrorCutPinLaw"), (0, u "draw"), (0, u "(I)C"), (0, .methodref 8 14), (0, .nameAndType 15 16), (0, u "text"), (0, u "([CI)Ljava/lang/String;"), (0, .methodref 18 19), (0, .class_ 20), (0, .nameAndType 21 22), (0, u "com/example/orderly_outbox/orderlyoutbox/store/LastError"), (0, u "cut"), (0, u "(Ljava/lang/String;I)Ljava/lang/String;"), (0, .methodref 8 24), (0, .nameAndType 25 26), (0, u "bytes"), (0, u "([CII)I"), (0, .methodref 8 28), (0, .nameAndType 29 26), (0, u "units"), (0, .methodref 31 32), (0, .class_ 33), (0, .nameAndType 34 35), (0, u "java/lang/String"), (0, u "length"), (0, u "()I"), (0, .methodref 31 37), (0, .nameAndType 38 12), (0, u "charAt"), (0, .integer 55296), (0, .methodref 31 41), (0, .nameAndType 5 42), (0, u "([C)V"), (0, .integer 56319), (0, .integer 56320), (0, .integer 57343), (2, u "law"), (0, u "(IIIII)Z")] 5

def k1m0 : Method := { name := "<init>", desc := "()V", sig := { parameters := [], returnType := none }, accessFlags := 2, code := none }
def k1c1 : Code := { maxStack := 4, maxLocals := 17, code := code, exceptionTable := #[], attributes := #[] }
def k1m1 : Method := { name := "law", desc := "(IIIII)Z", sig := { parameters := [.int, .int, .int, .int, .int], returnType := some .boolean }, accessFlags := 9, code := some k1c1 }
def k1c2 : Code := { maxStack := 3, maxLocals := 2, code := method_3_code, exceptionTable := #[], attributes := #[] }
def k1m2 : Method := { name := "draw", desc := "(I)C", sig := { parameters := [.int], returnType := some .char }, accessFlags := 10, code := some k1c2 }
def k1c3 : Code := { maxStack := 7, maxLocals := 2, code := method_4_code, exceptionTable := #[], attributes := #[] }
def k1m3 : Method := { name := "text", desc := "([CI)Ljava/lang/String;", sig := { parameters := [(.array .char), .int], returnType := some (.object "java/lang/String") }, accessFlags := 10, code := some k1c3 }
def k1c4 : Code := { maxStack := 3, maxLocals := 4, code := method_5_code, exceptionTable := #[], attributes := #[] }
def k1m4 : Method := { name := "units", desc := "([CII)I", sig := { parameters := [(.array .char), .int, .int], returnType := some .int }, accessFlags := 10, code := some k1c4 }
def k1c5 : Code := { maxStack := 3, maxLocals := 4, code := method_6_code, exceptionTable := #[], attributes := #[] }
def k1m5 : Method := { name := "bytes", desc := "([CII)I", sig := { parameters := [(.array .char), .int, .int], returnType := some .int }, accessFlags := 10, code := some k1c5 }
/-- com/example/orderly_outbox/orderlyoutbox/store/LastErrorCutPinLaw -/
def k1 : Class := { plain "com/example/orderly_outbox/orderlyoutbox/store/LastErrorCutPinLaw" (some 0) with
  accessFlags := 49
  interfaces := #[]
  cf := some (fileOf pool1 8 #[] #[{ accessFlags := 2, nameIndex := 5, descriptorIndex := 6, attributes := #[] }, { accessFlags := 9, nameIndex := 48, descriptorIndex := 49, attributes := #[] }, { accessFlags := 10, nameIndex := 11, descriptorIndex := 12, attributes := #[] }, { accessFlags := 10, nameIndex := 15, descriptorIndex := 16, attributes := #[] }, { accessFlags := 10, nameIndex := 29, descriptorIndex := 26, attributes := #[] }, { accessFlags := 10, nameIndex := 25, descriptorIndex := 26, attributes := #[] }] 49 2 #[] #[])
  fields := #[]
  methods := #[k1m0, k1m1, k1m2, k1m3, k1m4, k1m5]
  instanceTypes := #[]
  staticTypes := #[]
  resolved := Array.replicate 55 none
  statics := none }

def pool2 : Array CpInfo := pool [(1, .class_ 2), (0, u "java/io/Serializable"), (0, .class_ 4), (0, u "java/lang/Object")] 2

/-- java/io/Serializable -/
def k2 : Class := { plain "java/io/Serializable" (some 0) with
  accessFlags := 1537
  interfaces := #[]
  cf := some (fileOf pool2 1 #[] #[] 1537 3 #[] #[])
  fields := #[]
  methods := #[]
  instanceTypes := #[]
  staticTypes := #[]
  resolved := Array.replicate 7 none
  statics := none }

def pool3 : Array CpInfo := pool [(1, .class_ 2), (0, u "java/lang/Comparable"), (0, .class_ 4), (0, u "java/lang/Object")] 7

/-- java/lang/Comparable -/
def k3 : Class := { plain "java/lang/Comparable" (some 0) with
  accessFlags := 1537
  interfaces := #[]
  cf := some (fileOf pool3 1 #[] #[] 1537 3 #[] #[])
  fields := #[]
  methods := #[]
  instanceTypes := #[]
  staticTypes := #[]
  resolved := Array.replicate 12 none
  statics := none }

def pool4 : Array CpInfo := pool [(2, .class_ 4), (1, u "java/lang/CharSequence"), (42, .class_ 48), (0, u "java/lang/CharSequence$1CodePointIterator"), (10, .class_ 60), (0, u "java/lang/CharSequence$1CharIterator"), (5, .class_ 67), (0, u "java/lang/Object")] 63

/-- java/lang/CharSequence -/
def k4 : Class := { plain "java/lang/CharSequence" (some 0) with
  accessFlags := 1537
  interfaces := #[]
  cf := some (fileOf pool4 2 #[.nestMembers #[47, 59]] #[] 1537 66 #[] #[])
  fields := #[]
  methods := #[]
  instanceTypes := #[]
  staticTypes := #[]
  resolved := Array.replicate 131 none
  statics := none }

def pool5 : Array CpInfo := pool [(1, .class_ 2), (0, u "java/lang/constant/Constable"), (0, .class_ 4), (0, u "java/lang/Object")] 6

/-- java/lang/constant/Constable -/
def k5 : Class := { plain "java/lang/constant/Constable" (some 0) with
  accessFlags := 1537
  interfaces := #[]
  cf := some (fileOf pool5 1 #[] #[] 1537 3 #[] #[])
  fields := #[]
  methods := #[]
  instanceTypes := #[]
  staticTypes := #[]
  resolved := Array.replicate 11 none
  statics := none }

def pool6 : Array CpInfo := pool [(1, .class_ 2), (0, u "java/lang/constant/ConstantDesc"), (0, .class_ 4), (0, u "java/lang/Object")] 32

/-- java/lang/constant/ConstantDesc -/
def k6 : Class := { plain "java/lang/constant/ConstantDesc" (some 0) with
  accessFlags := 1537
  interfaces := #[]
  cf := some (fileOf pool6 1 #[] #[] 1537 3 #[] #[])
  fields := #[]
  methods := #[]
  instanceTypes := #[]
  staticTypes := #[]
  resolved := Array.replicate 37 none
  statics := none }

def pool7 : Array CpInfo := pool [(1, .methodref 2 3), (0, .class_ 4), (0, .nameAndType 5 6), (0, u "java/lang/Object"), (0, u "<init>"), (0, u "()V"), (0, .string 8), (0, u ""), (0, .fieldref 10 11), (0, .class_ 12), (0, .nameAndType 13 14), (0, u "java/lang/String"), (0, u "value"), (0, u "[B"), (0, .fieldref 10 16), (0, .nameAndType 17 18), (0, u "coder"), (0, u "B"), (2, u "hash"), (0, u "I"), (2, u "hashIsZero"), (0, u "Z"), (0, .methodref 10 28), (0, .nameAndType 5 29), (0, u "([CIILjava/lang/Void;)V"), (6, u "checkBoundsOffCount"), (0, u "(III)I"), (0, .fieldref 10 39), (0, .nameAndType 40 26), (0, u "COMPACT_STRINGS"), (1, .class_ 44), (1, u "java/lang/StringUTF16"), (0, u "compress"), (1, .methodref 42 48), (0, .nameAndType 49 50), (0, u "coderFromArrayLen"), (0, u "([BI)B"), (46, u "([BII)I"), (9, .class_ 109), (1, u "java/lang/StringLatin1"), (32, u "()Z"), (34, .methodref 42 178), (0, .nameAndType 45 179), (0, u "([CII)[B"), (31, u "([BB)V"), (122, u "()I"), (0, .methodref 10 336), (0, .nameAndType 17 337), (0, u "()B"), (25, u "([BI)C"), (27, u "(II)V"), (35, u "(I)C"), (64, .methodref 10 493), (0, .nameAndType 494 142), (0, u "isLatin1"), (0, .methodref 107 496), (0, .nameAndType 497 363), (0, u "charAt"), (0, .methodref 42 496), (0, .methodref 10 500), (0, .nameAndType 501 391), (0, u "checkIndex"), (0, .methodref 42 503), (0, .nameAndType 504 97), (0, u "codePointAt"), (0, .methodref 10 506), (0, .nameAndType 507 334), (0, u "length"), (5, u "checkFromToIndex"), (7, .methodref 10 522), (0, .nameAndType 523 524), (0, u "checkBoundsBeginEnd"), (0, u "(III)V"), (50, .class_ 576), (0, u "java/lang/CharSequence"), (22, u "CASE_INSENSITIVE_ORDER"), (0, u "Ljava/util/Comparator;"), (82, u "substring"), (0, u "(II)Ljava/lang/String;"), (0, .methodref 107 686), (0, .nameAndType 687 688), (0, u "newString"), (0, u "([BII)Ljava/lang/String;"), (0, .methodref 42 686), (75, u "(I)I"), (244, u "([C)V"), (42, .fieldref 1054 1055), (0, .class_ 1056), (0, .nameAndType 1057 1058), (0, u "jdk/internal/util/Preconditions"), (0, u "SIOOBE_FORMATTER"), (0, u "Ljava/util/function/BiFunction;"), (0, .methodref 1054 1060), (0, .nameAndType 501 1061), (0, u "(IILjava/util/function/BiFunction;)I"), (0, .methodref 1054 1063), (0, .nameAndType 513 1064), (0, u "(IIILjava/util/function/BiFunction;)I"), (0, .methodref 1054 1066), (0, .nameAndType 1067 1064), (0, u "checkFromIndexSize"), (33, u "serialPersistentFields"), (0, u "[Ljava/io/ObjectStreamField;"), (0, .class_ 1104), (0, u "java/lang/String$CaseInsensitiveComparator"), (1, .class_ 1107), (0, u "java/io/Serializable"), (0, .class_ 1109), (0, u "java/lang/Comparable"), (0, .class_ 1111), (0, u "java/lang/constant/Constable"), (0, .class_ 1113), (0, u "java/lang/constant/ConstantDesc"), (2, u "serialVersionUID"), (0, u "J"), (3, u "REPL"), (0, u "C"), (2, u "LATIN1"), (1, u "UTF16")] 323

def k7m0 : Method := { name := "<init>", desc := "()V", sig := { parameters := [], returnType := none }, accessFlags := 1, code := none }
def k7c1 : Code := { maxStack := 5, maxLocals := 2, code := jdk_42_method_3_code, exceptionTable := #[], attributes := #[] }
def k7m1 : Method := { name := "<init>", desc := "([C)V", sig := { parameters := [(.array .char)], returnType := none }, accessFlags := 1, code := some k7c1 }
def k7c2 : Code := { maxStack := 2, maxLocals := 1, code := jdk_42_method_54_code, exceptionTable := #[], attributes := #[] }
def k7m2 : Method := { name := "length", desc := "()I", sig := { parameters := [], returnType := some .int }, accessFlags := 1, code := some k7c2 }
def k7c3 : Code := { maxStack := 2, maxLocals := 2, code := jdk_42_method_56_code, exceptionTable := #[], attributes := #[] }
def k7m3 : Method := { name := "charAt", desc := "(I)C", sig := { parameters := [.int], returnType := some .char }, accessFlags := 1, code := some k7c3 }
def k7c4 : Code := { maxStack := 3, maxLocals := 3, code := jdk_42_method_57_code, exceptionTable := #[], attributes := #[] }
def k7m4 : Method := { name := "codePointAt", desc := "(I)I", sig := { parameters := [.int], returnType := some .int }, accessFlags := 1, code := some k7c4 }
def k7c5 : Code := { maxStack := 3, maxLocals := 5, code := jdk_42_method_92_code, exceptionTable := #[], attributes := #[] }
def k7m5 : Method := { name := "substring", desc := "(II)Ljava/lang/String;", sig := { parameters := [.int, .int], returnType := some (.object "java/lang/String") }, accessFlags := 1, code := some k7c5 }
def k7c6 : Code := { maxStack := 4, maxLocals := 6, code := jdk_42_method_149_code, exceptionTable := #[], attributes := #[] }
def k7m6 : Method := { name := "<init>", desc := "([CIILjava/lang/Void;)V", sig := { parameters := [(.array .char), .int, .int, (.object "java/lang/Void")], returnType := none }, accessFlags := 2, code := some k7c6 }
def k7c7 : Code := { maxStack := 2, maxLocals := 3, code := jdk_42_method_151_code, exceptionTable := #[], attributes := #[] }
def k7m7 : Method := { name := "<init>", desc := "([BB)V", sig := { parameters := [(.array .byte), .byte], returnType := none }, accessFlags := 0, code := some k7c7 }
def k7c8 : Code := { maxStack := 1, maxLocals := 1, code := jdk_42_method_152_code, exceptionTable := #[], attributes := #[] }
def k7m8 : Method := { name := "coder", desc := "()B", sig := { parameters := [], returnType := some .byte }, accessFlags := 0, code := some k7c8 }
def k7c9 : Code := { maxStack := 1, maxLocals := 1, code := jdk_42_method_154_code, exceptionTable := #[], attributes := #[] }
def k7m9 : Method := { name := "isLatin1", desc := "()Z", sig := { parameters := [], returnType := some .boolean }, accessFlags := 0, code := some k7c9 }
def k7c10 : Code := { maxStack := 3, maxLocals := 2, code := jdk_42_method_155_code, exceptionTable := #[], attributes := #[] }
def k7m10 : Method := { name := "checkIndex", desc := "(II)V", sig := { parameters := [.int, .int], returnType := none }, accessFlags := 8, code := some k7c10 }
def k7c11 : Code := { maxStack := 4, maxLocals := 3, code := jdk_42_method_157_code, exceptionTable := #[], attributes := #[] }
def k7m11 : Method := { name := "checkBoundsOffCount", desc := "(III)I", sig := { parameters := [.int, .int, .int], returnType := some .int }, accessFlags := 8, code := some k7c11 }
def k7c12 : Code := { maxStack := 4, maxLocals := 3, code := jdk_42_method_158_code, exceptionTable := #[], attributes := #[] }
def k7m12 : Method := { name := "checkBoundsBeginEnd", desc := "(III)V", sig := { parameters := [.int, .int, .int], returnType := none }, accessFlags := 8, code := some k7c12 }
/-- java/lang/String -/
def k7 : Class := { plain "java/lang/String" (some 0) with
  accessFlags := 49
  interfaces := #[2, 3, 4, 5, 6]
  cf := some (fileOf pool7 10 #[.nestMembers #[1103]] #[{ accessFlags := 1, nameIndex := 5, descriptorIndex := 6, attributes := #[] }, { accessFlags := 1, nameIndex := 5, descriptorIndex := 1010, attributes := #[] }, { accessFlags := 1, nameIndex := 507, descriptorIndex := 334, attributes := #[] }, { accessFlags := 1, nameIndex := 497, descriptorIndex := 427, attributes := #[] }, { accessFlags := 1, nameIndex := 504, descriptorIndex := 765, attributes := #[] }, { accessFlags := 1, nameIndex := 683, descriptorIndex := 684, attributes := #[] }, { accessFlags := 2, nameIndex := 5, descriptorIndex := 29, attributes := #[] }, { accessFlags := 0, nameIndex := 5, descriptorIndex := 211, attributes := #[] }, { accessFlags := 0, nameIndex := 17, descriptorIndex := 337, attributes := #[] }, { accessFlags := 0, nameIndex := 494, descriptorIndex := 142, attributes := #[] }, { accessFlags := 8, nameIndex := 501, descriptorIndex := 391, attributes := #[] }, { accessFlags := 8, nameIndex := 36, descriptorIndex := 37, attributes := #[] }, { accessFlags := 8, nameIndex := 523, descriptorIndex := 524, attributes := #[] }] 49 2 #[1106, 1108, 575, 1110, 1112] #[{ accessFlags := 18, nameIndex := 13, descriptorIndex := 14, attributes := #[] }, { accessFlags := 18, nameIndex := 17, descriptorIndex := 18, attributes := #[] }, { accessFlags := 2, nameIndex := 21, descriptorIndex := 22, attributes := #[] }, { accessFlags := 2, nameIndex := 25, descriptorIndex := 26, attributes := #[] }, { accessFlags := 26, nameIndex := 1116, descriptorIndex := 1117, attributes := #[] }, { accessFlags := 24, nameIndex := 40, descriptorIndex := 26, attributes := #[] }, { accessFlags := 26, nameIndex := 1101, descriptorIndex := 1102, attributes := #[] }, { accessFlags := 26, nameIndex := 1121, descriptorIndex := 1122, attributes := #[] }, { accessFlags := 25, nameIndex := 599, descriptorIndex := 600, attributes := #[] }, { accessFlags := 24, nameIndex := 1125, descriptorIndex := 18, attributes := #[] }, { accessFlags := 24, nameIndex := 1127, descriptorIndex := 18, attributes := #[] }])
  fields := #[{ name := "value", type := (.array .byte), accessFlags := 18, slot := 0, constantValue := 0 }, { name := "coder", type := .byte, accessFlags := 18, slot := 1, constantValue := 0 }, { name := "hash", type := .int, accessFlags := 2, slot := 2, constantValue := 0 }, { name := "hashIsZero", type := .boolean, accessFlags := 2, slot := 3, constantValue := 0 }, { name := "serialVersionUID", type := .long, accessFlags := 26, slot := 0, constantValue := 0 }, { name := "COMPACT_STRINGS", type := .boolean, accessFlags := 24, slot := 1, constantValue := 0 }, { name := "serialPersistentFields", type := (.array (.object "java/io/ObjectStreamField")), accessFlags := 26, slot := 2, constantValue := 0 }, { name := "REPL", type := .char, accessFlags := 26, slot := 3, constantValue := 0 }, { name := "CASE_INSENSITIVE_ORDER", type := (.object "java/util/Comparator"), accessFlags := 25, slot := 4, constantValue := 0 }, { name := "LATIN1", type := .byte, accessFlags := 24, slot := 5, constantValue := 0 }, { name := "UTF16", type := .byte, accessFlags := 24, slot := 6, constantValue := 0 }]
  methods := #[k7m0, k7m1, k7m2, k7m3, k7m4, k7m5, k7m6, k7m7, k7m8, k7m9, k7m10, k7m11, k7m12]
  instanceTypes := #[(.array .byte), .byte, .int, .boolean]
  staticTypes := #[.long, .boolean, (.array (.object "java/io/ObjectStreamField")), .char, (.object "java/util/Comparator"), .byte, .byte]
  resolved := Array.replicate 1451 none
  statics := some 0 }

def pool8 : Array CpInfo := pool [(3, .class_ 4), (0, u "java/lang/String"), (1, .class_ 8), (1, u "java/lang/Object"), (0, u "<init>"), (0, u "()V"), (0, .methodref 12 13), (0, .class_ 14), (0, .nameAndType 15 16), (0, u "java/lang/StringUTF16"), (0, u "newBytesLength"), (0, u "(I)I"), (3, .integer 1073741823), (23, .fieldref 12 45), (0, .nameAndType 46 47), (0, u "$assertionsDisabled"), (0, u "Z"), (0, .methodref 12 49), (0, .nameAndType 50 51), (0, u "length"), (0, u "([B)I"), (7, .fieldref 12 60), (0, .nameAndType 61 62), (0, u "HI_BYTE_SHIFT"), (0, u "I"), (0, .fieldref 12 64), (0, .nameAndType 65 62), (0, u "LO_BYTE_SHIFT"), (1, .methodref 12 68), (0, .nameAndType 69 70), (0, u "checkIndex"), (0, u "(I[B)V"), (0, .methodref 12 72), (0, .nameAndType 73 74), (0, u "getChar"), (0, u "([BI)C"), (0, .methodref 76 77), (0, .class_ 78), (0, .nameAndType 79 80), (0, u "java/lang/Character"), (0, u "isHighSurrogate"), (0, u "(C)Z"), (0, .methodref 76 82), (0, .nameAndType 83 80), (0, u "isLowSurrogate"), (0, .methodref 76 85), (0, .nameAndType 86 87), (0, u "toCodePoint"), (0, u "(CC)I"), (0, .methodref 12 89), (0, .nameAndType 90 91), (0, u "codePointAt"), (0, u "([BIIZ)I"), (7, u "(II[B)V"), (7, .methodref 12 108), (0, .nameAndType 109 110), (0, u "newBytesFor"), (0, u "(I)[B"), (0, .methodref 12 112), (0, .nameAndType 113 114), (0, u "putChar"), (0, u "([BII)V"), (0, .methodref 12 116), (0, .nameAndType 117 118), (0, u "compress"), (0, u "([CI[BII)I"), (0, .methodref 12 120), (0, .nameAndType 121 122), (0, u "toBytes"), (0, u "([CII)[B"), (0, .methodref 12 124), (0, .nameAndType 117 125), (0, u "([BI[BII)I"), (0, .methodref 127 128), (0, .class_ 129), (0, .nameAndType 130 131), (0, u "java/util/Arrays"), (0, u "copyOfRange"), (0, u "([BII)[B"), (41, .methodref 12 174), (0, .nameAndType 175 99), (0, u "checkBoundsOffCount"), (74, u "([BII)I"), (0, .fieldref 3 252), (0, .nameAndType 253 47), (0, u "COMPACT_STRINGS"), (3, .methodref 12 258), (0, .nameAndType 117 131), (0, .methodref 12 260), (0, .nameAndType 261 262), (0, u "coderFromArrayLen"), (0, u "([BI)B"), (0, .methodref 3 264), (0, .nameAndType 9 265), (0, u "([BB)V"), (15, u "(III)I"), (13, .string 296), (0, u ""), (30, u "newString"), (0, u "([BII)Ljava/lang/String;"), (40, .class_ 371), (1, u "java/lang/StringUTF16$LinesSpliterator"), (20, u "charAt"), (21, .methodref 3 415), (0, .nameAndType 69 416), (0, u "(II)V"), (2, .methodref 3 420), (0, .nameAndType 175 281), (9, u "MAX_LENGTH"), (196, .class_ 628), (0, u "java/lang/StringUTF16$CodePointsSpliterator"), (0, .class_ 630), (0, u "java/lang/StringUTF16$CharsSpliterator")] 4

def k8m0 : Method := { name := "<init>", desc := "()V", sig := { parameters := [], returnType := none }, accessFlags := 0, code := none }
def k8c1 : Code := { maxStack := 1, maxLocals := 1, code := jdk_52_method_2_code, exceptionTable := #[], attributes := #[] }
def k8m1 : Method := { name := "newBytesFor", desc := "(I)[B", sig := { parameters := [.int], returnType := some (.array .byte) }, accessFlags := 9, code := some k8c1 }
def k8c2 : Code := { maxStack := 4, maxLocals := 1, code := jdk_52_method_3_code, exceptionTable := #[], attributes := #[] }
def k8m2 : Method := { name := "newBytesLength", desc := "(I)I", sig := { parameters := [.int], returnType := some .int }, accessFlags := 9, code := some k8c2 }
def k8c3 : Code := { maxStack := 4, maxLocals := 3, code := jdk_52_method_4_code, exceptionTable := #[], attributes := #[] }
def k8m3 : Method := { name := "putChar", desc := "([BII)V", sig := { parameters := [(.array .byte), .int, .int], returnType := none }, accessFlags := 8, code := some k8c3 }
def k8c4 : Code := { maxStack := 3, maxLocals := 2, code := jdk_52_method_5_code, exceptionTable := #[], attributes := #[] }
def k8m4 : Method := { name := "getChar", desc := "([BI)C", sig := { parameters := [(.array .byte), .int], returnType := some .char }, accessFlags := 8, code := some k8c4 }
def k8c5 : Code := { maxStack := 2, maxLocals := 1, code := jdk_52_method_6_code, exceptionTable := #[], attributes := #[] }
def k8m5 : Method := { name := "length", desc := "([B)I", sig := { parameters := [(.array .byte)], returnType := some .int }, accessFlags := 9, code := some k8c5 }
def k8c6 : Code := { maxStack := 2, maxLocals := 6, code := jdk_52_method_7_code, exceptionTable := #[], attributes := #[] }
def k8m6 : Method := { name := "codePointAt", desc := "([BIIZ)I", sig := { parameters := [(.array .byte), .int, .int, .boolean], returnType := some .int }, accessFlags := 10, code := some k8c6 }
def k8c7 : Code := { maxStack := 4, maxLocals := 3, code := jdk_52_method_8_code, exceptionTable := #[], attributes := #[] }
def k8m7 : Method := { name := "codePointAt", desc := "([BII)I", sig := { parameters := [(.array .byte), .int, .int], returnType := some .int }, accessFlags := 9, code := some k8c7 }
def k8c8 : Code := { maxStack := 4, maxLocals := 5, code := jdk_52_method_14_code, exceptionTable := #[], attributes := #[] }
def k8m8 : Method := { name := "toBytes", desc := "([CII)[B", sig := { parameters := [(.array .char), .int, .int], returnType := some (.array .byte) }, accessFlags := 9, code := some k8c8 }
def k8c9 : Code := { maxStack := 2, maxLocals := 2, code := jdk_52_method_15_code, exceptionTable := #[], attributes := #[] }
def k8m9 : Method := { name := "coderFromArrayLen", desc := "([BI)B", sig := { parameters := [(.array .byte), .int], returnType := some .byte }, accessFlags := 8, code := some k8c9 }
def k8c10 : Code := { maxStack := 5, maxLocals := 6, code := jdk_52_method_16_code, exceptionTable := #[], attributes := #[] }
def k8m10 : Method := { name := "compress", desc := "([CII)[B", sig := { parameters := [(.array .char), .int, .int], returnType := some (.array .byte) }, accessFlags := 9, code := some k8c10 }
def k8c11 : Code := { maxStack := 5, maxLocals := 6, code := jdk_52_method_17_code, exceptionTable := #[], attributes := #[] }
def k8m11 : Method := { name := "compress", desc := "([BII)[B", sig := { parameters := [(.array .byte), .int, .int], returnType := some (.array .byte) }, accessFlags := 9, code := some k8c11 }
def k8c12 : Code := { maxStack := 3, maxLocals := 7, code := jdk_52_method_21_code, exceptionTable := #[], attributes := #[] }
def k8m12 : Method := { name := "compress", desc := "([CI[BII)I", sig := { parameters := [(.array .char), .int, (.array .byte), .int, .int], returnType := some .int }, accessFlags := 9, code := some k8c12 }
def k8c13 : Code := { maxStack := 3, maxLocals := 7, code := jdk_52_method_22_code, exceptionTable := #[], attributes := #[] }
def k8m13 : Method := { name := "compress", desc := "([BI[BII)I", sig := { parameters := [(.array .byte), .int, (.array .byte), .int, .int], returnType := some .int }, accessFlags := 9, code := some k8c13 }
def k8c14 : Code := { maxStack := 6, maxLocals := 5, code := jdk_52_method_69_code, exceptionTable := #[], attributes := #[] }
def k8m14 : Method := { name := "newString", desc := "([BII)Ljava/lang/String;", sig := { parameters := [(.array .byte), .int, .int], returnType := some (.object "java/lang/String") }, accessFlags := 9, code := some k8c14 }
def k8c15 : Code := { maxStack := 2, maxLocals := 2, code := jdk_52_method_83_code, exceptionTable := #[], attributes := #[] }
def k8m15 : Method := { name := "charAt", desc := "([BI)C", sig := { parameters := [(.array .byte), .int], returnType := some .char }, accessFlags := 9, code := some k8c15 }
def k8c16 : Code := { maxStack := 2, maxLocals := 2, code := jdk_52_method_91_code, exceptionTable := #[], attributes := #[] }
def k8m16 : Method := { name := "checkIndex", desc := "(I[B)V", sig := { parameters := [.int, (.array .byte)], returnType := none }, accessFlags := 9, code := some k8c16 }
def k8c17 : Code := { maxStack := 3, maxLocals := 3, code := jdk_52_method_94_code, exceptionTable := #[], attributes := #[] }
def k8m17 : Method := { name := "checkBoundsOffCount", desc := "(II[B)V", sig := { parameters := [.int, .int, (.array .byte)], returnType := none }, accessFlags := 9, code := some k8c17 }
/-- java/lang/StringUTF16 -/
def k8 : Class := { plain "java/lang/StringUTF16" (some 0) with
  accessFlags := 48
  interfaces := #[]
  cf := some (fileOf pool8 12 #[.nestMembers #[627, 629, 369]] #[{ accessFlags := 0, nameIndex := 9, descriptorIndex := 10, attributes := #[] }, { accessFlags := 9, nameIndex := 109, descriptorIndex := 110, attributes := #[] }, { accessFlags := 9, nameIndex := 15, descriptorIndex := 16, attributes := #[] }, { accessFlags := 8, nameIndex := 113, descriptorIndex := 114, attributes := #[] }, { accessFlags := 8, nameIndex := 73, descriptorIndex := 74, attributes := #[] }, { accessFlags := 9, nameIndex := 50, descriptorIndex := 51, attributes := #[] }, { accessFlags := 10, nameIndex := 90, descriptorIndex := 91, attributes := #[] }, { accessFlags := 9, nameIndex := 90, descriptorIndex := 250, attributes := #[] }, { accessFlags := 9, nameIndex := 121, descriptorIndex := 122, attributes := #[] }, { accessFlags := 8, nameIndex := 261, descriptorIndex := 262, attributes := #[] }, { accessFlags := 9, nameIndex := 117, descriptorIndex := 122, attributes := #[] }, { accessFlags := 9, nameIndex := 117, descriptorIndex := 131, attributes := #[] }, { accessFlags := 9, nameIndex := 117, descriptorIndex := 118, attributes := #[] }, { accessFlags := 9, nameIndex := 117, descriptorIndex := 125, attributes := #[] }, { accessFlags := 9, nameIndex := 327, descriptorIndex := 328, attributes := #[] }, { accessFlags := 9, nameIndex := 392, descriptorIndex := 74, attributes := #[] }, { accessFlags := 9, nameIndex := 69, descriptorIndex := 70, attributes := #[] }, { accessFlags := 9, nameIndex := 175, descriptorIndex := 99, attributes := #[] }] 48 6 #[] #[{ accessFlags := 26, nameIndex := 61, descriptorIndex := 62, attributes := #[] }, { accessFlags := 26, nameIndex := 65, descriptorIndex := 62, attributes := #[] }, { accessFlags := 24, nameIndex := 430, descriptorIndex := 62, attributes := #[] }, { accessFlags := 4120, nameIndex := 46, descriptorIndex := 47, attributes := #[] }])
  fields := #[{ name := "HI_BYTE_SHIFT", type := .int, accessFlags := 26, slot := 0, constantValue := 0 }, { name := "LO_BYTE_SHIFT", type := .int, accessFlags := 26, slot := 1, constantValue := 0 }, { name := "MAX_LENGTH", type := .int, accessFlags := 24, slot := 2, constantValue := 0 }, { name := "$assertionsDisabled", type := .boolean, accessFlags := 4120, slot := 3, constantValue := 0 }]
  methods := #[k8m0, k8m1, k8m2, k8m3, k8m4, k8m5, k8m6, k8m7, k8m8, k8m9, k8m10, k8m11, k8m12, k8m13, k8m14, k8m15, k8m16, k8m17]
  instanceTypes := #[]
  staticTypes := #[.int, .int, .int, .boolean]
  resolved := Array.replicate 635 none
  statics := some 1 }

def pool9 : Array CpInfo := pool [(2, .class_ 4), (1, u "java/lang/Object"), (0, u "<init>"), (0, u "()V"), (1, .class_ 10), (1, u "com/example/orderly_outbox/orderlyoutbox/store/LastError"), (14, u "cut"), (0, u "(Ljava/lang/String;I)Ljava/lang/String;"), (2, .methodref 30 31), (0, .class_ 32), (0, .nameAndType 33 34), (0, u "java/lang/String"), (0, u "length"), (0, u "()I"), (16, .methodref 30 52), (0, .nameAndType 53 54), (0, u "codePointAt"), (0, u "(I)I"), (12, .class_ 69), (1, u "java/lang/Character"), (1, .methodref 67 72), (0, .nameAndType 73 54), (0, u "charCount"), (8, .methodref 8 83), (0, .nameAndType 84 54), (0, u "utf8Length"), (0, .methodref 30 86), (0, .nameAndType 87 88), (0, u "substring"), (0, u "(II)Ljava/lang/String;"), (0, .integer 65536), (0, u "MAX_BYTES"), (0, u "I"), (2, u "PAYLOAD_MARK"), (0, u "Ljava/lang/String;"), (0, u "WITHHELD"), (0, u "REPLACEMENT_CHARACTER")] 6

def k9m0 : Method := { name := "<init>", desc := "()V", sig := { parameters := [], returnType := none }, accessFlags := 2, code := none }
def k9c1 : Code := { maxStack := 3, maxLocals := 5, code := prog_36_method_7_code, exceptionTable := #[], attributes := #[] }
def k9m1 : Method := { name := "cut", desc := "(Ljava/lang/String;I)Ljava/lang/String;", sig := { parameters := [(.object "java/lang/String"), .int], returnType := some (.object "java/lang/String") }, accessFlags := 8, code := some k9c1 }
def k9c2 : Code := { maxStack := 2, maxLocals := 1, code := prog_36_method_8_code, exceptionTable := #[], attributes := #[] }
def k9m2 : Method := { name := "utf8Length", desc := "(I)I", sig := { parameters := [.int], returnType := some .int }, accessFlags := 10, code := some k9c2 }
/-- com/example/orderly_outbox/orderlyoutbox/store/LastError -/
def k9 : Class := { plain "com/example/orderly_outbox/orderlyoutbox/store/LastError" (some 0) with
  accessFlags := 33
  interfaces := #[]
  cf := some (fileOf pool9 8 #[] #[{ accessFlags := 2, nameIndex := 5, descriptorIndex := 6, attributes := #[] }, { accessFlags := 8, nameIndex := 25, descriptorIndex := 26, attributes := #[] }, { accessFlags := 10, nameIndex := 84, descriptorIndex := 54, attributes := #[] }] 33 2 #[] #[{ accessFlags := 26, nameIndex := 90, descriptorIndex := 91, attributes := #[] }, { accessFlags := 26, nameIndex := 94, descriptorIndex := 95, attributes := #[] }, { accessFlags := 26, nameIndex := 96, descriptorIndex := 95, attributes := #[] }, { accessFlags := 26, nameIndex := 97, descriptorIndex := 91, attributes := #[] }])
  fields := #[{ name := "MAX_BYTES", type := .int, accessFlags := 26, slot := 0, constantValue := 0 }, { name := "PAYLOAD_MARK", type := (.object "java/lang/String"), accessFlags := 26, slot := 1, constantValue := 0 }, { name := "WITHHELD", type := (.object "java/lang/String"), accessFlags := 26, slot := 2, constantValue := 0 }, { name := "REPLACEMENT_CHARACTER", type := .int, accessFlags := 26, slot := 3, constantValue := 0 }]
  methods := #[k9m0, k9m1, k9m2]
  instanceTypes := #[]
  staticTypes := #[.int, (.object "java/lang/String"), (.object "java/lang/String"), .int]
  resolved := Array.replicate 104 none
  statics := none }

def pool10 : Array CpInfo := pool [(2, .class_ 4), (1, u "java/lang/Object"), (0, u "<init>"), (0, u "()V"), (17, .class_ 26), (1, u "jdk/internal/util/Preconditions"), (6, u "checkIndex"), (13, u "checkFromToIndex"), (1, u "checkFromIndexSize"), (5, .class_ 56), (0, u "jdk/internal/util/Preconditions$4"), (57, .class_ 115), (0, u "jdk/internal/util/Preconditions$1"), (7, u "SIOOBE_FORMATTER"), (0, u "Ljava/util/function/BiFunction;"), (0, .class_ 126), (0, u "jdk/internal/util/Preconditions$2"), (3, u "AIOOBE_FORMATTER"), (0, .class_ 132), (0, u "jdk/internal/util/Preconditions$3"), (3, u "IOOBE_FORMATTER"), (41, u "(IILjava/util/function/BiFunction;)I"), (4, u "(IIILjava/util/function/BiFunction;)I")] 10

def k10m0 : Method := { name := "<init>", desc := "()V", sig := { parameters := [], returnType := none }, accessFlags := 1, code := none }
def k10c1 : Code := { maxStack := 3, maxLocals := 3, code := jdk_41_method_11_code, exceptionTable := #[], attributes := #[] }
def k10m1 : Method := { name := "checkIndex", desc := "(IILjava/util/function/BiFunction;)I", sig := { parameters := [.int, .int, (.object "java/util/function/BiFunction")], returnType := some .int }, accessFlags := 9, code := some k10c1 }
def k10c2 : Code := { maxStack := 4, maxLocals := 4, code := jdk_41_method_12_code, exceptionTable := #[], attributes := #[] }
def k10m2 : Method := { name := "checkFromToIndex", desc := "(IIILjava/util/function/BiFunction;)I", sig := { parameters := [.int, .int, .int, (.object "java/util/function/BiFunction")], returnType := some .int }, accessFlags := 9, code := some k10c2 }
def k10c3 : Code := { maxStack := 4, maxLocals := 4, code := jdk_41_method_13_code, exceptionTable := #[], attributes := #[] }
def k10m3 : Method := { name := "checkFromIndexSize", desc := "(IIILjava/util/function/BiFunction;)I", sig := { parameters := [.int, .int, .int, (.object "java/util/function/BiFunction")], returnType := some .int }, accessFlags := 9, code := some k10c3 }
/-- jdk/internal/util/Preconditions -/
def k10 : Class := { plain "jdk/internal/util/Preconditions" (some 0) with
  accessFlags := 33
  interfaces := #[]
  cf := some (fileOf pool10 24 #[.nestMembers #[55, 131, 125, 114]] #[{ accessFlags := 1, nameIndex := 5, descriptorIndex := 6, attributes := #[] }, { accessFlags := 9, nameIndex := 33, descriptorIndex := 178, attributes := #[] }, { accessFlags := 9, nameIndex := 47, descriptorIndex := 183, attributes := #[] }, { accessFlags := 9, nameIndex := 49, descriptorIndex := 183, attributes := #[] }] 33 2 #[] #[{ accessFlags := 25, nameIndex := 123, descriptorIndex := 124, attributes := #[] }, { accessFlags := 25, nameIndex := 130, descriptorIndex := 124, attributes := #[] }, { accessFlags := 25, nameIndex := 136, descriptorIndex := 124, attributes := #[] }])
  fields := #[{ name := "SIOOBE_FORMATTER", type := (.object "java/util/function/BiFunction"), accessFlags := 25, slot := 0, constantValue := 0 }, { name := "AIOOBE_FORMATTER", type := (.object "java/util/function/BiFunction"), accessFlags := 25, slot := 1, constantValue := 0 }, { name := "IOOBE_FORMATTER", type := (.object "java/util/function/BiFunction"), accessFlags := 25, slot := 2, constantValue := 0 }]
  methods := #[k10m0, k10m1, k10m2, k10m3]
  instanceTypes := #[]
  staticTypes := #[(.object "java/util/function/BiFunction"), (.object "java/util/function/BiFunction"), (.object "java/util/function/BiFunction")]
  resolved := Array.replicate 194 none
  statics := some 2 }

def pool11 : Array CpInfo := pool [(1, .class_ 2), (0, u "java/lang/String"), (1, .class_ 6), (1, u "java/lang/Object"), (0, u "<init>"), (0, u "()V"), (0, .methodref 1 10), (0, .nameAndType 11 12), (0, u "checkIndex"), (0, u "(II)V"), (1, .class_ 16), (1, u "java/lang/StringLatin1"), (36, u "([BI)C"), (58, .methodref 1 113), (0, .nameAndType 7 114), (0, u "([BB)V"), (6, u "$assertionsDisabled"), (0, u "Z"), (8, .class_ 133), (1, u "java/util/Arrays"), (17, .string 152), (0, u ""), (43, u "newString"), (0, u "([BII)Ljava/lang/String;"), (23, .class_ 223), (1, u "java/lang/StringLatin1$LinesSpliterator"), (8, .methodref 131 233), (0, .nameAndType 234 235), (0, u "copyOfRange"), (0, u "([BII)[B"), (16, u "charAt"), (137, .class_ 391), (0, u "java/lang/StringLatin1$CharsSpliterator")] 3

def k11m0 : Method := { name := "<init>", desc := "()V", sig := { parameters := [], returnType := none }, accessFlags := 0, code := none }
def k11c1 : Code := { maxStack := 2, maxLocals := 2, code := jdk_43_method_2_code, exceptionTable := #[], attributes := #[] }
def k11m1 : Method := { name := "charAt", desc := "([BI)C", sig := { parameters := [(.array .byte), .int], returnType := some .char }, accessFlags := 9, code := some k11c1 }
def k11c2 : Code := { maxStack := 6, maxLocals := 3, code := jdk_43_method_47_code, exceptionTable := #[], attributes := #[] }
def k11m2 : Method := { name := "newString", desc := "([BII)Ljava/lang/String;", sig := { parameters := [(.array .byte), .int, .int], returnType := some (.object "java/lang/String") }, accessFlags := 9, code := some k11c2 }
/-- java/lang/StringLatin1 -/
def k11 : Class := { plain "java/lang/StringLatin1" (some 0) with
  accessFlags := 48
  interfaces := #[]
  cf := some (fileOf pool11 14 #[.nestMembers #[390, 221]] #[{ accessFlags := 0, nameIndex := 7, descriptorIndex := 8, attributes := #[] }, { accessFlags := 9, nameIndex := 252, descriptorIndex := 53, attributes := #[] }, { accessFlags := 9, nameIndex := 196, descriptorIndex := 197, attributes := #[] }] 48 4 #[] #[{ accessFlags := 4120, nameIndex := 121, descriptorIndex := 122, attributes := #[] }])
  fields := #[{ name := "$assertionsDisabled", type := .boolean, accessFlags := 4120, slot := 0, constantValue := 0 }]
  methods := #[k11m0, k11m1, k11m2]
  instanceTypes := #[]
  staticTypes := #[.boolean]
  resolved := Array.replicate 395 none
  statics := none }

def pool12 : Array CpInfo := pool [(1, .class_ 2), (0, u "java/lang/Character"), (18, u "value"), (0, u "C"), (19, .class_ 44), (1, u "java/lang/Object"), (3, .class_ 50), (1, u "java/lang/Character$CharacterCache"), (22, .integer 65536), (1, .integer 55296), (0, .integer 56320), (0, .integer 57344), (2, u "isHighSurrogate"), (0, u "(C)Z"), (2, u "isLowSurrogate"), (0, .integer 4238353408), (12, u "toCodePoint"), (0, u "(CC)I"), (74, u "(I)I"), (109, u "$assertionsDisabled"), (0, u "Z"), (21, .class_ 309), (1, u "java/lang/Character$UnicodeBlock"), (73, u "TYPE"), (0, u "Ljava/lang/Class;"), (0, .class_ 386), (0, u "java/io/Serializable"), (0, .class_ 388), (0, u "java/lang/Comparable"), (0, .class_ 390), (0, u "java/lang/constant/Constable"), (0, u "MIN_RADIX"), (0, u "I"), (2, u "MAX_RADIX"), (1, u "MIN_VALUE"), (1, u "MAX_VALUE"), (3, u "UNASSIGNED"), (0, u "B"), (0, u "UPPERCASE_LETTER"), (1, u "LOWERCASE_LETTER"), (0, u "TITLECASE_LETTER"), (1, u "MODIFIER_LETTER"), (1, u "OTHER_LETTER"), (1, u "NON_SPACING_MARK"), (1, u "ENCLOSING_MARK"), (1, u "COMBINING_SPACING_MARK"), (1, u "DECIMAL_DIGIT_NUMBER"), (1, u "LETTER_NUMBER"), (1, u "OTHER_NUMBER"), (1, u "SPACE_SEPARATOR"), (1, u "LINE_SEPARATOR"), (1, u "PARAGRAPH_SEPARATOR"), (1, u "CONTROL"), (1, u "FORMAT"), (1, u "PRIVATE_USE"), (1, u "SURROGATE"), (1, u "DASH_PUNCTUATION"), (1, u "START_PUNCTUATION"), (1, u "END_PUNCTUATION"), (1, u "CONNECTOR_PUNCTUATION"), (1, u "OTHER_PUNCTUATION"), (1, u "MATH_SYMBOL"), (1, u "CURRENCY_SYMBOL"), (1, u "MODIFIER_SYMBOL"), (1, u "OTHER_SYMBOL"), (1, u "INITIAL_QUOTE_PUNCTUATION"), (1, u "FINAL_QUOTE_PUNCTUATION"), (1, u "ERROR"), (1, u "DIRECTIONALITY_UNDEFINED"), (0, u "DIRECTIONALITY_LEFT_TO_RIGHT"), (0, u "DIRECTIONALITY_RIGHT_TO_LEFT"), (0, u "DIRECTIONALITY_RIGHT_TO_LEFT_ARABIC"), (0, u "DIRECTIONALITY_EUROPEAN_NUMBER"), (0, u "DIRECTIONALITY_EUROPEAN_NUMBER_SEPARATOR"), (0, u "DIRECTIONALITY_EUROPEAN_NUMBER_TERMINATOR"), (0, u "DIRECTIONALITY_ARABIC_NUMBER"), (0, u "DIRECTIONALITY_COMMON_NUMBER_SEPARATOR"), (0, u "DIRECTIONALITY_NONSPACING_MARK"), (0, u "DIRECTIONALITY_BOUNDARY_NEUTRAL"), (0, u "DIRECTIONALITY_PARAGRAPH_SEPARATOR"), (0, u "DIRECTIONALITY_SEGMENT_SEPARATOR"), (0, u "DIRECTIONALITY_WHITESPACE"), (0, u "DIRECTIONALITY_OTHER_NEUTRALS"), (0, u "DIRECTIONALITY_LEFT_TO_RIGHT_EMBEDDING"), (0, u "DIRECTIONALITY_LEFT_TO_RIGHT_OVERRIDE"), (0, u "DIRECTIONALITY_RIGHT_TO_LEFT_EMBEDDING"), (0, u "DIRECTIONALITY_RIGHT_TO_LEFT_OVERRIDE"), (1, u "DIRECTIONALITY_POP_DIRECTIONAL_FORMAT"), (0, u "DIRECTIONALITY_LEFT_TO_RIGHT_ISOLATE"), (0, u "DIRECTIONALITY_RIGHT_TO_LEFT_ISOLATE"), (0, u "DIRECTIONALITY_FIRST_STRONG_ISOLATE"), (0, u "DIRECTIONALITY_POP_DIRECTIONAL_ISOLATE"), (0, u "MIN_HIGH_SURROGATE"), (0, u "MAX_HIGH_SURROGATE"), (1, u "MIN_LOW_SURROGATE"), (0, u "MAX_LOW_SURROGATE"), (1, u "MIN_SURROGATE"), (0, u "MAX_SURROGATE"), (0, u "MIN_SUPPLEMENTARY_CODE_POINT"), (0, u "MIN_CODE_POINT"), (0, u "MAX_CODE_POINT"), (1, u "serialVersionUID"), (0, u "J"), (2, u "SIZE"), (0, u "BYTES"), (29, u "charCount"), (58, .class_ 596), (0, u "java/lang/Character$UnicodeScript"), (0, .class_ 598), (0, u "java/lang/Character$Subset")] 5

def k12c0 : Code := { maxStack := 2, maxLocals := 1, code := jdk_89_method_14_code, exceptionTable := #[], attributes := #[] }
def k12m0 : Method := { name := "isHighSurrogate", desc := "(C)Z", sig := { parameters := [.char], returnType := some .boolean }, accessFlags := 9, code := some k12c0 }
def k12c1 : Code := { maxStack := 2, maxLocals := 1, code := jdk_89_method_15_code, exceptionTable := #[], attributes := #[] }
def k12m1 : Method := { name := "isLowSurrogate", desc := "(C)Z", sig := { parameters := [.char], returnType := some .boolean }, accessFlags := 9, code := some k12c1 }
def k12c2 : Code := { maxStack := 2, maxLocals := 1, code := jdk_89_method_18_code, exceptionTable := #[], attributes := #[] }
def k12m2 : Method := { name := "charCount", desc := "(I)I", sig := { parameters := [.int], returnType := some .int }, accessFlags := 9, code := some k12c2 }
def k12c3 : Code := { maxStack := 2, maxLocals := 2, code := jdk_89_method_19_code, exceptionTable := #[], attributes := #[] }
def k12m3 : Method := { name := "toCodePoint", desc := "(CC)I", sig := { parameters := [.char, .char], returnType := some .int }, accessFlags := 9, code := some k12c3 }
/-- java/lang/Character -/
def k12 : Class := { plain "java/lang/Character" (some 0) with
  accessFlags := 49
  interfaces := #[2, 3, 5]
  cf := some (fileOf pool12 1 #[.nestMembers #[48, 595, 307, 597]] #[{ accessFlags := 9, nameIndex := 80, descriptorIndex := 81, attributes := #[] }, { accessFlags := 9, nameIndex := 84, descriptorIndex := 81, attributes := #[] }, { accessFlags := 9, nameIndex := 536, descriptorIndex := 174, attributes := #[] }, { accessFlags := 9, nameIndex := 98, descriptorIndex := 99, attributes := #[] }] 49 42 #[385, 387, 389] #[{ accessFlags := 25, nameIndex := 391, descriptorIndex := 392, attributes := #[] }, { accessFlags := 25, nameIndex := 395, descriptorIndex := 392, attributes := #[] }, { accessFlags := 25, nameIndex := 397, descriptorIndex := 22, attributes := #[] }, { accessFlags := 25, nameIndex := 399, descriptorIndex := 22, attributes := #[] }, { accessFlags := 25, nameIndex := 383, descriptorIndex := 384, attributes := #[] }, { accessFlags := 25, nameIndex := 403, descriptorIndex := 404, attributes := #[] }, { accessFlags := 25, nameIndex := 405, descriptorIndex := 404, attributes := #[] }, { accessFlags := 25, nameIndex := 407, descriptorIndex := 404, attributes := #[] }, { accessFlags := 25, nameIndex := 408, descriptorIndex := 404, attributes := #[] }, { accessFlags := 25, nameIndex := 410, descriptorIndex := 404, attributes := #[] }, { accessFlags := 25, nameIndex := 412, descriptorIndex := 404, attributes := #[] }, { accessFlags := 25, nameIndex := 414, descriptorIndex := 404, attributes := #[] }, { accessFlags := 25, nameIndex := 416, descriptorIndex := 404, attributes := #[] }, { accessFlags := 25, nameIndex := 418, descriptorIndex := 404, attributes := #[] }, { accessFlags := 25, nameIndex := 420, descriptorIndex := 404, attributes := #[] }, { accessFlags := 25, nameIndex := 422, descriptorIndex := 404, attributes := #[] }, { accessFlags := 25, nameIndex := 424, descriptorIndex := 404, attributes := #[] }, { accessFlags := 25, nameIndex := 426, descriptorIndex := 404, attributes := #[] }, { accessFlags := 25, nameIndex := 428, descriptorIndex := 404, attributes := #[] }, { accessFlags := 25, nameIndex := 430, descriptorIndex := 404, attributes := #[] }, { accessFlags := 25, nameIndex := 432, descriptorIndex := 404, attributes := #[] }, { accessFlags := 25, nameIndex := 434, descriptorIndex := 404, attributes := #[] }, { accessFlags := 25, nameIndex := 436, descriptorIndex := 404, attributes := #[] }, { accessFlags := 25, nameIndex := 438, descriptorIndex := 404, attributes := #[] }, { accessFlags := 25, nameIndex := 440, descriptorIndex := 404, attributes := #[] }, { accessFlags := 25, nameIndex := 442, descriptorIndex := 404, attributes := #[] }, { accessFlags := 25, nameIndex := 444, descriptorIndex := 404, attributes := #[] }, { accessFlags := 25, nameIndex := 446, descriptorIndex := 404, attributes := #[] }, { accessFlags := 25, nameIndex := 448, descriptorIndex := 404, attributes := #[] }, { accessFlags := 25, nameIndex := 450, descriptorIndex := 404, attributes := #[] }, { accessFlags := 25, nameIndex := 452, descriptorIndex := 404, attributes := #[] }, { accessFlags := 25, nameIndex := 454, descriptorIndex := 404, attributes := #[] }, { accessFlags := 25, nameIndex := 456, descriptorIndex := 404, attributes := #[] }, { accessFlags := 25, nameIndex := 458, descriptorIndex := 404, attributes := #[] }, { accessFlags := 25, nameIndex := 460, descriptorIndex := 404, attributes := #[] }, { accessFlags := 24, nameIndex := 462, descriptorIndex := 392, attributes := #[] }, { accessFlags := 25, nameIndex := 464, descriptorIndex := 404, attributes := #[] }, { accessFlags := 25, nameIndex := 465, descriptorIndex := 404, attributes := #[] }, { accessFlags := 25, nameIndex := 466, descriptorIndex := 404, attributes := #[] }, { accessFlags := 25, nameIndex := 467, descriptorIndex := 404, attributes := #[] }, { accessFlags := 25, nameIndex := 468, descriptorIndex := 404, attributes := #[] }, { accessFlags := 25, nameIndex := 469, descriptorIndex := 404, attributes := #[] }, { accessFlags := 25, nameIndex := 470, descriptorIndex := 404, attributes := #[] }, { accessFlags := 25, nameIndex := 471, descriptorIndex := 404, attributes := #[] }, { accessFlags := 25, nameIndex := 472, descriptorIndex := 404, attributes := #[] }, { accessFlags := 25, nameIndex := 473, descriptorIndex := 404, attributes := #[] }, { accessFlags := 25, nameIndex := 474, descriptorIndex := 404, attributes := #[] }, { accessFlags := 25, nameIndex := 475, descriptorIndex := 404, attributes := #[] }, { accessFlags := 25, nameIndex := 476, descriptorIndex := 404, attributes := #[] }, { accessFlags := 25, nameIndex := 477, descriptorIndex := 404, attributes := #[] }, { accessFlags := 25, nameIndex := 478, descriptorIndex := 404, attributes := #[] }, { accessFlags := 25, nameIndex := 479, descriptorIndex := 404, attributes := #[] }, { accessFlags := 25, nameIndex := 480, descriptorIndex := 404, attributes := #[] }, { accessFlags := 25, nameIndex := 481, descriptorIndex := 404, attributes := #[] }, { accessFlags := 25, nameIndex := 482, descriptorIndex := 404, attributes := #[] }, { accessFlags := 25, nameIndex := 484, descriptorIndex := 404, attributes := #[] }, { accessFlags := 25, nameIndex := 485, descriptorIndex := 404, attributes := #[] }, { accessFlags := 25, nameIndex := 486, descriptorIndex := 404, attributes := #[] }, { accessFlags := 25, nameIndex := 487, descriptorIndex := 404, attributes := #[] }, { accessFlags := 25, nameIndex := 488, descriptorIndex := 404, attributes := #[] }, { accessFlags := 25, nameIndex := 489, descriptorIndex := 22, attributes := #[] }, { accessFlags := 25, nameIndex := 490, descriptorIndex := 22, attributes := #[] }, { accessFlags := 25, nameIndex := 492, descriptorIndex := 22, attributes := #[] }, { accessFlags := 25, nameIndex := 493, descriptorIndex := 22, attributes := #[] }, { accessFlags := 25, nameIndex := 495, descriptorIndex := 22, attributes := #[] }, { accessFlags := 25, nameIndex := 496, descriptorIndex := 22, attributes := #[] }, { accessFlags := 25, nameIndex := 497, descriptorIndex := 392, attributes := #[] }, { accessFlags := 25, nameIndex := 498, descriptorIndex := 392, attributes := #[] }, { accessFlags := 25, nameIndex := 499, descriptorIndex := 392, attributes := #[] }, { accessFlags := 18, nameIndex := 21, descriptorIndex := 22, attributes := #[] }, { accessFlags := 26, nameIndex := 501, descriptorIndex := 502, attributes := #[] }, { accessFlags := 25, nameIndex := 505, descriptorIndex := 392, attributes := #[] }, { accessFlags := 25, nameIndex := 506, descriptorIndex := 392, attributes := #[] }, { accessFlags := 4120, nameIndex := 284, descriptorIndex := 285, attributes := #[] }])
  fields := #[{ name := "MIN_RADIX", type := .int, accessFlags := 25, slot := 0, constantValue := 0 }, { name := "MAX_RADIX", type := .int, accessFlags := 25, slot := 1, constantValue := 0 }, { name := "MIN_VALUE", type := .char, accessFlags := 25, slot := 2, constantValue := 0 }, { name := "MAX_VALUE", type := .char, accessFlags := 25, slot := 3, constantValue := 0 }, { name := "TYPE", type := (.object "java/lang/Class"), accessFlags := 25, slot := 4, constantValue := 0 }, { name := "UNASSIGNED", type := .byte, accessFlags := 25, slot := 5, constantValue := 0 }, { name := "UPPERCASE_LETTER", type := .byte, accessFlags := 25, slot := 6, constantValue := 0 }, { name := "LOWERCASE_LETTER", type := .byte, accessFlags := 25, slot := 7, constantValue := 0 }, { name := "TITLECASE_LETTER", type := .byte, accessFlags := 25, slot := 8, constantValue := 0 }, { name := "MODIFIER_LETTER", type := .byte, accessFlags := 25, slot := 9, constantValue := 0 }, { name := "OTHER_LETTER", type := .byte, accessFlags := 25, slot := 10, constantValue := 0 }, { name := "NON_SPACING_MARK", type := .byte, accessFlags := 25, slot := 11, constantValue := 0 }, { name := "ENCLOSING_MARK", type := .byte, accessFlags := 25, slot := 12, constantValue := 0 }, { name := "COMBINING_SPACING_MARK", type := .byte, accessFlags := 25, slot := 13, constantValue := 0 }, { name := "DECIMAL_DIGIT_NUMBER", type := .byte, accessFlags := 25, slot := 14, constantValue := 0 }, { name := "LETTER_NUMBER", type := .byte, accessFlags := 25, slot := 15, constantValue := 0 }, { name := "OTHER_NUMBER", type := .byte, accessFlags := 25, slot := 16, constantValue := 0 }, { name := "SPACE_SEPARATOR", type := .byte, accessFlags := 25, slot := 17, constantValue := 0 }, { name := "LINE_SEPARATOR", type := .byte, accessFlags := 25, slot := 18, constantValue := 0 }, { name := "PARAGRAPH_SEPARATOR", type := .byte, accessFlags := 25, slot := 19, constantValue := 0 }, { name := "CONTROL", type := .byte, accessFlags := 25, slot := 20, constantValue := 0 }, { name := "FORMAT", type := .byte, accessFlags := 25, slot := 21, constantValue := 0 }, { name := "PRIVATE_USE", type := .byte, accessFlags := 25, slot := 22, constantValue := 0 }, { name := "SURROGATE", type := .byte, accessFlags := 25, slot := 23, constantValue := 0 }, { name := "DASH_PUNCTUATION", type := .byte, accessFlags := 25, slot := 24, constantValue := 0 }, { name := "START_PUNCTUATION", type := .byte, accessFlags := 25, slot := 25, constantValue := 0 }, { name := "END_PUNCTUATION", type := .byte, accessFlags := 25, slot := 26, constantValue := 0 }, { name := "CONNECTOR_PUNCTUATION", type := .byte, accessFlags := 25, slot := 27, constantValue := 0 }, { name := "OTHER_PUNCTUATION", type := .byte, accessFlags := 25, slot := 28, constantValue := 0 }, { name := "MATH_SYMBOL", type := .byte, accessFlags := 25, slot := 29, constantValue := 0 }, { name := "CURRENCY_SYMBOL", type := .byte, accessFlags := 25, slot := 30, constantValue := 0 }, { name := "MODIFIER_SYMBOL", type := .byte, accessFlags := 25, slot := 31, constantValue := 0 }, { name := "OTHER_SYMBOL", type := .byte, accessFlags := 25, slot := 32, constantValue := 0 }, { name := "INITIAL_QUOTE_PUNCTUATION", type := .byte, accessFlags := 25, slot := 33, constantValue := 0 }, { name := "FINAL_QUOTE_PUNCTUATION", type := .byte, accessFlags := 25, slot := 34, constantValue := 0 }, { name := "ERROR", type := .int, accessFlags := 24, slot := 35, constantValue := 0 }, { name := "DIRECTIONALITY_UNDEFINED", type := .byte, accessFlags := 25, slot := 36, constantValue := 0 }, { name := "DIRECTIONALITY_LEFT_TO_RIGHT", type := .byte, accessFlags := 25, slot := 37, constantValue := 0 }, { name := "DIRECTIONALITY_RIGHT_TO_LEFT", type := .byte, accessFlags := 25, slot := 38, constantValue := 0 }, { name := "DIRECTIONALITY_RIGHT_TO_LEFT_ARABIC", type := .byte, accessFlags := 25, slot := 39, constantValue := 0 }, { name := "DIRECTIONALITY_EUROPEAN_NUMBER", type := .byte, accessFlags := 25, slot := 40, constantValue := 0 }, { name := "DIRECTIONALITY_EUROPEAN_NUMBER_SEPARATOR", type := .byte, accessFlags := 25, slot := 41, constantValue := 0 }, { name := "DIRECTIONALITY_EUROPEAN_NUMBER_TERMINATOR", type := .byte, accessFlags := 25, slot := 42, constantValue := 0 }, { name := "DIRECTIONALITY_ARABIC_NUMBER", type := .byte, accessFlags := 25, slot := 43, constantValue := 0 }, { name := "DIRECTIONALITY_COMMON_NUMBER_SEPARATOR", type := .byte, accessFlags := 25, slot := 44, constantValue := 0 }, { name := "DIRECTIONALITY_NONSPACING_MARK", type := .byte, accessFlags := 25, slot := 45, constantValue := 0 }, { name := "DIRECTIONALITY_BOUNDARY_NEUTRAL", type := .byte, accessFlags := 25, slot := 46, constantValue := 0 }, { name := "DIRECTIONALITY_PARAGRAPH_SEPARATOR", type := .byte, accessFlags := 25, slot := 47, constantValue := 0 }, { name := "DIRECTIONALITY_SEGMENT_SEPARATOR", type := .byte, accessFlags := 25, slot := 48, constantValue := 0 }, { name := "DIRECTIONALITY_WHITESPACE", type := .byte, accessFlags := 25, slot := 49, constantValue := 0 }, { name := "DIRECTIONALITY_OTHER_NEUTRALS", type := .byte, accessFlags := 25, slot := 50, constantValue := 0 }, { name := "DIRECTIONALITY_LEFT_TO_RIGHT_EMBEDDING", type := .byte, accessFlags := 25, slot := 51, constantValue := 0 }, { name := "DIRECTIONALITY_LEFT_TO_RIGHT_OVERRIDE", type := .byte, accessFlags := 25, slot := 52, constantValue := 0 }, { name := "DIRECTIONALITY_RIGHT_TO_LEFT_EMBEDDING", type := .byte, accessFlags := 25, slot := 53, constantValue := 0 }, { name := "DIRECTIONALITY_RIGHT_TO_LEFT_OVERRIDE", type := .byte, accessFlags := 25, slot := 54, constantValue := 0 }, { name := "DIRECTIONALITY_POP_DIRECTIONAL_FORMAT", type := .byte, accessFlags := 25, slot := 55, constantValue := 0 }, { name := "DIRECTIONALITY_LEFT_TO_RIGHT_ISOLATE", type := .byte, accessFlags := 25, slot := 56, constantValue := 0 }, { name := "DIRECTIONALITY_RIGHT_TO_LEFT_ISOLATE", type := .byte, accessFlags := 25, slot := 57, constantValue := 0 }, { name := "DIRECTIONALITY_FIRST_STRONG_ISOLATE", type := .byte, accessFlags := 25, slot := 58, constantValue := 0 }, { name := "DIRECTIONALITY_POP_DIRECTIONAL_ISOLATE", type := .byte, accessFlags := 25, slot := 59, constantValue := 0 }, { name := "MIN_HIGH_SURROGATE", type := .char, accessFlags := 25, slot := 60, constantValue := 0 }, { name := "MAX_HIGH_SURROGATE", type := .char, accessFlags := 25, slot := 61, constantValue := 0 }, { name := "MIN_LOW_SURROGATE", type := .char, accessFlags := 25, slot := 62, constantValue := 0 }, { name := "MAX_LOW_SURROGATE", type := .char, accessFlags := 25, slot := 63, constantValue := 0 }, { name := "MIN_SURROGATE", type := .char, accessFlags := 25, slot := 64, constantValue := 0 }, { name := "MAX_SURROGATE", type := .char, accessFlags := 25, slot := 65, constantValue := 0 }, { name := "MIN_SUPPLEMENTARY_CODE_POINT", type := .int, accessFlags := 25, slot := 66, constantValue := 0 }, { name := "MIN_CODE_POINT", type := .int, accessFlags := 25, slot := 67, constantValue := 0 }, { name := "MAX_CODE_POINT", type := .int, accessFlags := 25, slot := 68, constantValue := 0 }, { name := "value", type := .char, accessFlags := 18, slot := 0, constantValue := 0 }, { name := "serialVersionUID", type := .long, accessFlags := 26, slot := 69, constantValue := 0 }, { name := "SIZE", type := .int, accessFlags := 25, slot := 70, constantValue := 0 }, { name := "BYTES", type := .int, accessFlags := 25, slot := 71, constantValue := 0 }, { name := "$assertionsDisabled", type := .boolean, accessFlags := 4120, slot := 72, constantValue := 0 }]
  methods := #[k12m0, k12m1, k12m2, k12m3]
  instanceTypes := #[.char]
  staticTypes := #[.int, .int, .char, .char, (.object "java/lang/Class"), .byte, .byte, .byte, .byte, .byte, .byte, .byte, .byte, .byte, .byte, .byte, .byte, .byte, .byte, .byte, .byte, .byte, .byte, .byte, .byte, .byte, .byte, .byte, .byte, .byte, .byte, .byte, .byte, .byte, .byte, .int, .byte, .byte, .byte, .byte, .byte, .byte, .byte, .byte, .byte, .byte, .byte, .byte, .byte, .byte, .byte, .byte, .byte, .byte, .byte, .byte, .byte, .byte, .byte, .byte, .char, .char, .char, .char, .char, .char, .int, .int, .int, .long, .int, .int, .boolean]
  resolved := Array.replicate 604 none
  statics := none }

def pool13 : Array CpInfo := pool [(2, .class_ 4), (1, u "java/lang/Object"), (0, u "<init>"), (0, u "()V"), (7, .class_ 16), (1, u "java/util/Arrays"), (57, .class_ 76), (1, u "java/util/Arrays$NaturalOrder"), (36, .class_ 115), (1, u "java/util/Arrays$LegacyMergeSort"), (1, u "Z"), (21, u "copyOfRange"), (10, .methodref 151 152), (0, .class_ 153), (0, .nameAndType 154 155), (0, u "java/lang/System"), (0, u "arraycopy"), (0, u "(Ljava/lang/Object;ILjava/lang/Object;II)V"), (148, .methodref 305 306), (0, .class_ 307), (0, .nameAndType 308 309), (0, u "java/lang/Math"), (0, u "min"), (0, u "(II)I"), (29, .methodref 14 340), (0, .nameAndType 341 342), (0, u "copyOfRangeByte"), (0, u "([BII)[B"), (0, .methodref 14 344), (0, .nameAndType 345 346), (0, u "checkLength"), (0, u "(II)V"), (28, .class_ 376), (0, u "java/util/Arrays$ArrayList"), (68, u "$assertionsDisabled"), (269, u "MIN_ARRAY_SORT_GRAN"), (0, u "I"), (2, u "INSERTIONSORT_THRESHOLD"), (255, .class_ 976), (0, u "java/util/Arrays$ArrayItr")] 52

def k13m0 : Method := { name := "<init>", desc := "()V", sig := { parameters := [], returnType := none }, accessFlags := 2, code := none }
def k13c1 : Code := { maxStack := 4, maxLocals := 2, code := jdk_65_method_131_code, exceptionTable := #[], attributes := #[] }
def k13m1 : Method := { name := "checkLength", desc := "(II)V", sig := { parameters := [.int, .int], returnType := none }, accessFlags := 10, code := some k13c1 }
def k13c2 : Code := { maxStack := 3, maxLocals := 3, code := jdk_65_method_132_code, exceptionTable := #[], attributes := #[] }
def k13m2 : Method := { name := "copyOfRange", desc := "([BII)[B", sig := { parameters := [(.array .byte), .int, .int], returnType := some (.array .byte) }, accessFlags := 9, code := some k13c2 }
def k13c3 : Code := { maxStack := 6, maxLocals := 5, code := jdk_65_method_133_code, exceptionTable := #[], attributes := #[] }
def k13m3 : Method := { name := "copyOfRangeByte", desc := "([BII)[B", sig := { parameters := [(.array .byte), .int, .int], returnType := some (.array .byte) }, accessFlags := 10, code := some k13c3 }
/-- java/util/Arrays -/
def k13 : Class := { plain "java/util/Arrays" (some 0) with
  accessFlags := 49
  interfaces := #[]
  cf := some (fileOf pool13 14 #[.nestMembers #[975, 375, 113, 74]] #[{ accessFlags := 2, nameIndex := 5, descriptorIndex := 6, attributes := #[] }, { accessFlags := 10, nameIndex := 345, descriptorIndex := 346, attributes := #[] }, { accessFlags := 9, nameIndex := 139, descriptorIndex := 342, attributes := #[] }, { accessFlags := 10, nameIndex := 341, descriptorIndex := 342, attributes := #[] }] 49 2 #[] #[{ accessFlags := 26, nameIndex := 715, descriptorIndex := 716, attributes := #[] }, { accessFlags := 26, nameIndex := 719, descriptorIndex := 716, attributes := #[] }, { accessFlags := 4120, nameIndex := 445, descriptorIndex := 117, attributes := #[] }])
  fields := #[{ name := "MIN_ARRAY_SORT_GRAN", type := .int, accessFlags := 26, slot := 0, constantValue := 0 }, { name := "INSERTIONSORT_THRESHOLD", type := .int, accessFlags := 26, slot := 1, constantValue := 0 }, { name := "$assertionsDisabled", type := .boolean, accessFlags := 4120, slot := 2, constantValue := 0 }]
  methods := #[k13m0, k13m1, k13m2, k13m3]
  instanceTypes := #[]
  staticTypes := #[.int, .int, .boolean]
  resolved := Array.replicate 1029 none
  statics := none }

def pool14 : Array CpInfo := pool [(1, .class_ 2), (0, u "java/lang/Math"), (1, .class_ 6), (1, u "java/lang/Object"), (0, u "<init>"), (0, u "()V"), (89, .class_ 100), (1, u "java/lang/Math$RandomNumberGeneratorHolder"), (71, u "negativeZeroFloatBits"), (0, u "J"), (2, u "negativeZeroDoubleBits"), (24, u "min"), (43, u "$assertionsDisabled"), (0, u "Z"), (88, u "(II)I"), (2, u "twoToTheDoubleScaleDown"), (0, u "D"), (4, u "twoToTheDoubleScaleUp"), (9, u "E"), (3, u "PI"), (2, u "TAU"), (2, u "DEGREES_TO_RADIANS"), (0, u "RADIANS_TO_DEGREES")] 94

def k14m0 : Method := { name := "<init>", desc := "()V", sig := { parameters := [], returnType := none }, accessFlags := 2, code := none }
def k14c1 : Code := { maxStack := 2, maxLocals := 2, code := jdk_29_method_69_code, exceptionTable := #[], attributes := #[] }
def k14m1 : Method := { name := "min", desc := "(II)I", sig := { parameters := [.int, .int], returnType := some .int }, accessFlags := 9, code := some k14c1 }
/-- java/lang/Math -/
def k14 : Class := { plain "java/lang/Math" (some 0) with
  accessFlags := 49
  interfaces := #[]
  cf := some (fileOf pool14 1 #[.nestMembers #[98]] #[{ accessFlags := 2, nameIndex := 7, descriptorIndex := 8, attributes := #[] }, { accessFlags := 9, nameIndex := 201, descriptorIndex := 335, attributes := #[] }] 49 4 #[] #[{ accessFlags := 25, nameIndex := 354, descriptorIndex := 339, attributes := #[] }, { accessFlags := 25, nameIndex := 358, descriptorIndex := 339, attributes := #[] }, { accessFlags := 25, nameIndex := 361, descriptorIndex := 339, attributes := #[] }, { accessFlags := 26, nameIndex := 364, descriptorIndex := 339, attributes := #[] }, { accessFlags := 26, nameIndex := 365, descriptorIndex := 339, attributes := #[] }, { accessFlags := 26, nameIndex := 172, descriptorIndex := 173, attributes := #[] }, { accessFlags := 26, nameIndex := 176, descriptorIndex := 173, attributes := #[] }, { accessFlags := 8, nameIndex := 344, descriptorIndex := 339, attributes := #[] }, { accessFlags := 8, nameIndex := 338, descriptorIndex := 339, attributes := #[] }, { accessFlags := 4120, nameIndex := 245, descriptorIndex := 246, attributes := #[] }])
  fields := #[{ name := "E", type := .double, accessFlags := 25, slot := 0, constantValue := 0 }, { name := "PI", type := .double, accessFlags := 25, slot := 1, constantValue := 0 }, { name := "TAU", type := .double, accessFlags := 25, slot := 2, constantValue := 0 }, { name := "DEGREES_TO_RADIANS", type := .double, accessFlags := 26, slot := 3, constantValue := 0 }, { name := "RADIANS_TO_DEGREES", type := .double, accessFlags := 26, slot := 4, constantValue := 0 }, { name := "negativeZeroFloatBits", type := .long, accessFlags := 26, slot := 5, constantValue := 0 }, { name := "negativeZeroDoubleBits", type := .long, accessFlags := 26, slot := 6, constantValue := 0 }, { name := "twoToTheDoubleScaleUp", type := .double, accessFlags := 8, slot := 7, constantValue := 0 }, { name := "twoToTheDoubleScaleDown", type := .double, accessFlags := 8, slot := 8, constantValue := 0 }, { name := "$assertionsDisabled", type := .boolean, accessFlags := 4120, slot := 9, constantValue := 0 }]
  methods := #[k14m0, k14m1]
  instanceTypes := #[]
  staticTypes := #[.double, .double, .double, .double, .double, .long, .long, .double, .double, .boolean]
  resolved := Array.replicate 460 none
  statics := none }

def pool15 : Array CpInfo := pool [(2, .class_ 4), (1, u "java/lang/Object"), (0, u "<init>"), (0, u "()V"), (1, .class_ 10), (1, u "java/lang/System"), (0, u "allowSecurityManager"), (0, u "I"), (16, u "cons"), (0, u "Ljava/io/Console;"), (77, .class_ 110), (1, u "java/lang/System$CallersHolder"), (43, u "initialErrStream"), (0, u "Ljava/io/PrintStream;"), (19, u "security"), (0, u "Ljava/lang/SecurityManager;"), (31, .class_ 209), (0, u "java/lang/System$1"), (7, u "props"), (0, u "Ljava/util/Properties;"), (2, u "lineSeparator"), (0, u "Ljava/lang/String;"), (96, .class_ 321), (1, u "java/lang/System$LoggerFinder"), (5, .class_ 328), (0, u "java/lang/System$Logger"), (67, u "err"), (2, u "out"), (91, u "notSupportedJnuEncoding"), (15, u "in"), (17, u "initialIn"), (0, u "Ljava/io/InputStream;"), (35, u "bootLayer"), (0, u "Ljava/lang/ModuleLayer;"), (99, .class_ 664), (0, u "java/lang/System$2"), (9, u "NEVER"), (2, u "MAYBE"), (49, u "arraycopy"), (0, u "(Ljava/lang/Object;ILjava/lang/Object;II)V"), (72, .class_ 802), (0, u "java/lang/System$Logger$Level")] 31

def k15m0 : Method := { name := "<init>", desc := "()V", sig := { parameters := [], returnType := none }, accessFlags := 2, code := none }
def k15m1 : Method := { name := "arraycopy", desc := "(Ljava/lang/Object;ILjava/lang/Object;II)V", sig := { parameters := [(.object "java/lang/Object"), .int, (.object "java/lang/Object"), .int, .int], returnType := none }, accessFlags := 265, code := none }
/-- java/lang/System -/
def k15 : Class := { plain "java/lang/System" (some 0) with
  accessFlags := 49
  interfaces := #[]
  cf := some (fileOf pool15 8 #[.nestMembers #[319, 327, 801, 108, 663, 208]] #[{ accessFlags := 2, nameIndex := 5, descriptorIndex := 6, attributes := #[] }, { accessFlags := 265, nameIndex := 727, descriptorIndex := 728, attributes := #[] }] 49 2 #[] #[{ accessFlags := 25, nameIndex := 507, descriptorIndex := 526, attributes := #[] }, { accessFlags := 25, nameIndex := 399, descriptorIndex := 155, attributes := #[] }, { accessFlags := 25, nameIndex := 396, descriptorIndex := 155, attributes := #[] }, { accessFlags := 10, nameIndex := 525, descriptorIndex := 526, attributes := #[] }, { accessFlags := 26, nameIndex := 674, descriptorIndex := 12, attributes := #[] }, { accessFlags := 26, nameIndex := 677, descriptorIndex := 12, attributes := #[] }, { accessFlags := 10, nameIndex := 11, descriptorIndex := 12, attributes := #[] }, { accessFlags := 74, nameIndex := 175, descriptorIndex := 176, attributes := #[] }, { accessFlags := 10, nameIndex := 491, descriptorIndex := 222, attributes := #[] }, { accessFlags := 74, nameIndex := 29, descriptorIndex := 30, attributes := #[] }, { accessFlags := 74, nameIndex := 154, descriptorIndex := 155, attributes := #[] }, { accessFlags := 10, nameIndex := 217, descriptorIndex := 218, attributes := #[] }, { accessFlags := 10, nameIndex := 221, descriptorIndex := 222, attributes := #[] }, { accessFlags := 8, nameIndex := 562, descriptorIndex := 563, attributes := #[] }])
  fields := #[{ name := "in", type := (.object "java/io/InputStream"), accessFlags := 25, slot := 0, constantValue := 0 }, { name := "out", type := (.object "java/io/PrintStream"), accessFlags := 25, slot := 1, constantValue := 0 }, { name := "err", type := (.object "java/io/PrintStream"), accessFlags := 25, slot := 2, constantValue := 0 }, { name := "initialIn", type := (.object "java/io/InputStream"), accessFlags := 10, slot := 3, constantValue := 0 }, { name := "NEVER", type := .int, accessFlags := 26, slot := 4, constantValue := 0 }, { name := "MAYBE", type := .int, accessFlags := 26, slot := 5, constantValue := 0 }, { name := "allowSecurityManager", type := .int, accessFlags := 10, slot := 6, constantValue := 0 }, { name := "security", type := (.object "java/lang/SecurityManager"), accessFlags := 74, slot := 7, constantValue := 0 }, { name := "notSupportedJnuEncoding", type := (.object "java/lang/String"), accessFlags := 10, slot := 8, constantValue := 0 }, { name := "cons", type := (.object "java/io/Console"), accessFlags := 74, slot := 9, constantValue := 0 }, { name := "initialErrStream", type := (.object "java/io/PrintStream"), accessFlags := 74, slot := 10, constantValue := 0 }, { name := "props", type := (.object "java/util/Properties"), accessFlags := 10, slot := 11, constantValue := 0 }, { name := "lineSeparator", type := (.object "java/lang/String"), accessFlags := 10, slot := 12, constantValue := 0 }, { name := "bootLayer", type := (.object "java/lang/ModuleLayer"), accessFlags := 8, slot := 13, constantValue := 0 }]
  methods := #[k15m0, k15m1]
  instanceTypes := #[]
  staticTypes := #[(.object "java/io/InputStream"), (.object "java/io/PrintStream"), (.object "java/io/PrintStream"), (.object "java/io/InputStream"), .int, .int, .int, (.object "java/lang/SecurityManager"), (.object "java/lang/String"), (.object "java/io/Console"), (.object "java/io/PrintStream"), (.object "java/util/Properties"), (.object "java/lang/String"), (.object "java/lang/ModuleLayer")]
  resolved := Array.replicate 834 none
  statics := none }

def pool16 : Array CpInfo := pool [(9, u "<init>"), (6, .class_ 18), (1, u "java/lang/Object"), (0, u "()V"), (1, .class_ 23), (1, u "jdk/internal/util/ArraysSupport"), (0, u "LOG2_ARRAY_LONG_INDEX_SCALE"), (0, u "I"), (2, u "U"), (0, u "Ljdk/internal/misc/Unsafe;"), (8, u "BIG_ENDIAN"), (0, u "Z"), (8, u "LOG2_BYTE_BIT_SIZE"), (4, u "LOG2_ARRAY_INT_INDEX_SCALE"), (54, u "JLA"), (0, u "Ljdk/internal/access/JavaLangAccess;"), (11, u "LOG2_ARRAY_BOOLEAN_INDEX_SCALE"), (9, u "LOG2_ARRAY_BYTE_INDEX_SCALE"), (5, u "LOG2_ARRAY_CHAR_INDEX_SCALE"), (5, u "LOG2_ARRAY_SHORT_INDEX_SCALE"), (18, u "LOG2_ARRAY_FLOAT_INDEX_SCALE"), (24, u "LOG2_ARRAY_DOUBLE_INDEX_SCALE"), (89, u "T_BOOLEAN"), (2, u "T_CHAR"), (1, u "T_FLOAT"), (1, u "T_DOUBLE"), (1, u "T_BYTE"), (1, u "T_SHORT"), (1, u "T_INT"), (1, u "T_LONG"), (1, u "SOFT_MAX_ARRAY_LENGTH")] 83

def k16m0 : Method := { name := "<init>", desc := "()V", sig := { parameters := [], returnType := none }, accessFlags := 2, code := none }
/-- jdk/internal/util/ArraysSupport -/
def k16 : Class := { plain "jdk/internal/util/ArraysSupport" (some 0) with
  accessFlags := 33
  interfaces := #[]
  cf := some (fileOf pool16 21 #[] #[{ accessFlags := 2, nameIndex := 9, descriptorIndex := 19, attributes := #[] }] 33 16 #[] #[{ accessFlags := 24, nameIndex := 28, descriptorIndex := 29, attributes := #[] }, { accessFlags := 26, nameIndex := 38, descriptorIndex := 39, attributes := #[] }, { accessFlags := 25, nameIndex := 121, descriptorIndex := 25, attributes := #[] }, { accessFlags := 25, nameIndex := 131, descriptorIndex := 25, attributes := #[] }, { accessFlags := 25, nameIndex := 137, descriptorIndex := 25, attributes := #[] }, { accessFlags := 25, nameIndex := 143, descriptorIndex := 25, attributes := #[] }, { accessFlags := 25, nameIndex := 53, descriptorIndex := 25, attributes := #[] }, { accessFlags := 25, nameIndex := 24, descriptorIndex := 25, attributes := #[] }, { accessFlags := 25, nameIndex := 162, descriptorIndex := 25, attributes := #[] }, { accessFlags := 25, nameIndex := 187, descriptorIndex := 25, attributes := #[] }, { accessFlags := 26, nameIndex := 48, descriptorIndex := 25, attributes := #[] }, { accessFlags := 25, nameIndex := 277, descriptorIndex := 25, attributes := #[] }, { accessFlags := 25, nameIndex := 280, descriptorIndex := 25, attributes := #[] }, { accessFlags := 25, nameIndex := 282, descriptorIndex := 25, attributes := #[] }, { accessFlags := 25, nameIndex := 284, descriptorIndex := 25, attributes := #[] }, { accessFlags := 25, nameIndex := 286, descriptorIndex := 25, attributes := #[] }, { accessFlags := 25, nameIndex := 288, descriptorIndex := 25, attributes := #[] }, { accessFlags := 25, nameIndex := 290, descriptorIndex := 25, attributes := #[] }, { accessFlags := 25, nameIndex := 292, descriptorIndex := 25, attributes := #[] }, { accessFlags := 26, nameIndex := 108, descriptorIndex := 109, attributes := #[] }, { accessFlags := 25, nameIndex := 294, descriptorIndex := 25, attributes := #[] }])
  fields := #[{ name := "U", type := (.object "jdk/internal/misc/Unsafe"), accessFlags := 24, slot := 0, constantValue := 0 }, { name := "BIG_ENDIAN", type := .boolean, accessFlags := 26, slot := 1, constantValue := 0 }, { name := "LOG2_ARRAY_BOOLEAN_INDEX_SCALE", type := .int, accessFlags := 25, slot := 2, constantValue := 0 }, { name := "LOG2_ARRAY_BYTE_INDEX_SCALE", type := .int, accessFlags := 25, slot := 3, constantValue := 0 }, { name := "LOG2_ARRAY_CHAR_INDEX_SCALE", type := .int, accessFlags := 25, slot := 4, constantValue := 0 }, { name := "LOG2_ARRAY_SHORT_INDEX_SCALE", type := .int, accessFlags := 25, slot := 5, constantValue := 0 }, { name := "LOG2_ARRAY_INT_INDEX_SCALE", type := .int, accessFlags := 25, slot := 6, constantValue := 0 }, { name := "LOG2_ARRAY_LONG_INDEX_SCALE", type := .int, accessFlags := 25, slot := 7, constantValue := 0 }, { name := "LOG2_ARRAY_FLOAT_INDEX_SCALE", type := .int, accessFlags := 25, slot := 8, constantValue := 0 }, { name := "LOG2_ARRAY_DOUBLE_INDEX_SCALE", type := .int, accessFlags := 25, slot := 9, constantValue := 0 }, { name := "LOG2_BYTE_BIT_SIZE", type := .int, accessFlags := 26, slot := 10, constantValue := 0 }, { name := "T_BOOLEAN", type := .int, accessFlags := 25, slot := 11, constantValue := 0 }, { name := "T_CHAR", type := .int, accessFlags := 25, slot := 12, constantValue := 0 }, { name := "T_FLOAT", type := .int, accessFlags := 25, slot := 13, constantValue := 0 }, { name := "T_DOUBLE", type := .int, accessFlags := 25, slot := 14, constantValue := 0 }, { name := "T_BYTE", type := .int, accessFlags := 25, slot := 15, constantValue := 0 }, { name := "T_SHORT", type := .int, accessFlags := 25, slot := 16, constantValue := 0 }, { name := "T_INT", type := .int, accessFlags := 25, slot := 17, constantValue := 0 }, { name := "T_LONG", type := .int, accessFlags := 25, slot := 18, constantValue := 0 }, { name := "JLA", type := (.object "jdk/internal/access/JavaLangAccess"), accessFlags := 26, slot := 19, constantValue := 0 }, { name := "SOFT_MAX_ARRAY_LENGTH", type := .int, accessFlags := 25, slot := 20, constantValue := 0 }]
  methods := #[k16m0]
  instanceTypes := #[]
  staticTypes := #[(.object "jdk/internal/misc/Unsafe"), .boolean, .int, .int, .int, .int, .int, .int, .int, .int, .int, .int, .int, .int, .int, .int, .int, .int, .int, (.object "jdk/internal/access/JavaLangAccess"), .int]
  resolved := Array.replicate 378 none
  statics := none }

def pool17 : Array CpInfo := pool [(1, u "java/lang/Cloneable"), (0, .class_ 1), (0, u "java/lang/Object"), (0, .class_ 3)] 3

/-- java/lang/Cloneable -/
def k17 : Class := { plain "java/lang/Cloneable" (some 0) with
  accessFlags := 1537
  interfaces := #[]
  cf := some (fileOf pool17 2 #[] #[] 1537 4 #[] #[])
  fields := #[]
  methods := #[]
  instanceTypes := #[]
  staticTypes := #[]
  resolved := Array.replicate 8 none
  statics := none }

/-- the primitive byte -/
def k18 : Class := { plain "byte" none with kind := .primitive 'B', accessFlags := 0x411 }
/-- [B -/
def k19 : Class := { plain "[B" (some 0) with kind := .array 18 .byte, interfaces := #[17, 2], accessFlags := 1041 }

/-- the primitive char -/
def k20 : Class := { plain "char" none with kind := .primitive 'C', accessFlags := 0x411 }
/-- [C -/
def k21 : Class := { plain "[C" (some 0) with kind := .array 20 .char, interfaces := #[17, 2], accessFlags := 1041 }

/-- the primitive int -/
def k22 : Class := { plain "int" none with kind := .primitive 'I', accessFlags := 0x411 }
/-- [I -/
def k23 : Class := { plain "[I" (some 0) with kind := .array 22 .int, interfaces := #[17, 2], accessFlags := 1041 }

def heap : Heap := #[{ cls := 7, slots := #[.long 0, .int 1, .null, .int 0, .null, .int 0, .int 0], vm := .statics 7 },
  { cls := 8, slots := #[.int 0, .int 8, .int 0, .int 1], vm := .statics 8 },
  { cls := 10, slots := #[.null, .null, .null], vm := .statics 10 }]
def classes : Array Class := #[k0, k1, k2, k3, k4, k5, k6, k7, k8, k9, k10, k11, k12, k13, k14, k15, k16, k17, k18, k19, k20, k21, k22, k23]
def interned : List (Array UInt16 × Addr) := []
def slotsUsed : Nat := 14
def theMethod : MethodId := ⟨1, 1⟩
def args0 : Array Value := #[.int 5, .int 6, .int 7, .int 8, .int 9]
def aboutOver (below : List Frame) : State where
  vm := { classes := classes, interned := interned.toArray }
  heap := heap
  slotsUsed := slotsUsed
  threads := #[{ frames := .invoking theMethod args0 :: below }]
def below0 : List Frame := [.native { method := ⟨0, 0⟩, args := #[] }]
def about1 : State := aboutOver below0
def p0 : Program := .bare "" "" ""
def e0 : Env := launch0.env 0 0 0
theorem w_frames : about1.frames = Frame.invoking theMethod args0 :: below0 := rfl
set_option maxRecDepth 65536 in
theorem w_args : argsFit about1.vm theMethod args0 = true := by decide +kernel
set_option maxRecDepth 65536 in
theorem w_heap : heapFits about1 = true := by decide +kernel
set_option maxRecDepth 65536 in
theorem w_runnable : about1.curStatus? = some .runnable := by decide +kernel
set_option maxRecDepth 65536 in
theorem w_alone : about1.alone = true := by decide +kernel
set_option maxRecDepth 65536 in
theorem w_named : about1.methodNamed? x = some theMethod := by decide +kernel
set_option maxRecDepth 65536 in
theorem w_hears : about1.hears theMethod below0 = true := by decide +kernel
set_option maxRecDepth 65536 in
theorem w_ripe : about1.ripe theMethod args0 below0 = true := by decide +kernel
theorem w_running : about1.status = .running := rfl
set_option maxRecDepth 65536 in
theorem w_room : about1.hasRoom e0.platform room_1 = true :=
  launch0.hasRoom_least _ room_1 (by decide +kernel) (by decide +kernel) (by decide +kernel) (by decide +kernel) (by decide +kernel) (by decide +kernel)
theorem allAtoms_all (ts : List Jvm.Cond) (a : Array Jvm.Value) (st : Jvm.State) : (allAtoms ts).before a st = ts.all (fun c => c.before a st) := by
  induction ts with
  | nil => rfl
  | cons c t ih =>
    show (Jvm.Cond.and c (allAtoms t)).before a st = _
    rw [Jvm.Cond.before_and, ih, List.all_cons]
def words1 : List Jvm.Cond := Jvm.Cond.code x code maxLocals ret :: tables_1
/-- a 'code' word, met by the world's own term for the bytes: nothing is compared byte by byte -/
theorem code_word {y : MethodName} {bytes : ByteArray} {mx : Nat} {rt : Option FieldType} {a : Array Value} {s : State} {m : MethodId} {meth : Method} {c : Code} (h1 : s.methodNamed? y = some m) (h2 : s.vm.method? m = some meth) (h3 : meth.code = some c) (h4 : c.code = bytes)
    (h5 : (c.maxLocals == mx && c.exceptionTable.isEmpty && decide (c.maxStack ≤ mostOperands) && decide (meth.sig.returnType = rt) && !meth.locks && decide (parseMethodDescriptor y.desc = some meth.sig)) = true) : (Jvm.Cond.code y bytes mx rt).before a s = true := by
  simp only [Bool.and_eq_true, beq_iff_eq, Bool.not_eq_true', decide_eq_true_eq] at h5
  obtain ⟨⟨⟨⟨⟨g1, g2⟩, g3⟩, g4⟩, g5⟩, g6⟩ := h5
  simp [Cond.before, Cond.holds, Cond.value, h1, h2, h3, h4, g1, g2, g3, g4, g5, g6]
def isCode : Jvm.Cond → Bool
  | .code _ _ _ _ => true
  | _ => false
theorem all_split {L : List Jvm.Cond} {P : Jvm.Cond → Bool} (h1 : L.all (fun c => isCode c || P c) = true) (h2 : ∀ c ∈ L.filter isCode, P c = true) : L.all P = true := by
  refine List.all_eq_true.mpr fun c hc => ?_
  have h := List.all_eq_true.mp h1 c hc
  rcases Bool.eq_false_or_eq_true (isCode c) with hi | hi
  · exact h2 c (List.mem_filter.mpr ⟨hc, hi⟩)
  · simpa [hi] using h
set_option maxRecDepth 65536 in
theorem w_c0 : (Jvm.Cond.code x code maxLocals ret).before args0 about1 = true := code_word (m := ⟨1, 1⟩) (meth := k1m1) (c := k1c1) (by decide +kernel) rfl rfl rfl (by decide +kernel)
set_option maxRecDepth 65536 in
theorem w_c1 : (Jvm.Cond.code ({ cls := "com/example/orderly_outbox/orderlyoutbox/store/LastErrorCutPinLaw", name := "draw", desc := "(I)C" } : Jvm.MethodName) method_3_code (2 : Nat) (Option.some Jvm.ClassFile.FieldType.char)).before args0 about1 = true := code_word (m := ⟨1, 2⟩) (meth := k1m2) (c := k1c2) (by decide +kernel) rfl rfl rfl (by decide +kernel)
set_option maxRecDepth 65536 in
theorem w_c2 : (Jvm.Cond.code ({ cls := "com/example/orderly_outbox/orderlyoutbox/store/LastErrorCutPinLaw", name := "text", desc := "([CI)Ljava/lang/String;" } : Jvm.MethodName) method_4_code (2 : Nat) (Option.some (Jvm.ClassFile.FieldType.object "java/lang/String"))).before args0 about1 = true := code_word (m := ⟨1, 3⟩) (meth := k1m3) (c := k1c3) (by decide +kernel) rfl rfl rfl (by decide +kernel)
set_option maxRecDepth 65536 in
theorem w_c3 : (Jvm.Cond.code ({ cls := "java/lang/String", name := "<init>", desc := "([C)V" } : Jvm.MethodName) jdk_42_method_3_code (2 : Nat) (Option.none : Option Jvm.ClassFile.FieldType)).before args0 about1 = true := code_word (m := ⟨7, 1⟩) (meth := k7m1) (c := k7c1) (by decide +kernel) rfl rfl rfl (by decide +kernel)
set_option maxRecDepth 65536 in
theorem w_c4 : (Jvm.Cond.code ({ cls := "java/lang/String", name := "<init>", desc := "([CIILjava/lang/Void;)V" } : Jvm.MethodName) jdk_42_method_149_code (6 : Nat) (Option.none : Option Jvm.ClassFile.FieldType)).before args0 about1 = true := code_word (m := ⟨7, 6⟩) (meth := k7m6) (c := k7c6) (by decide +kernel) rfl rfl rfl (by decide +kernel)
set_option maxRecDepth 65536 in
theorem w_c5 : (Jvm.Cond.code ({ cls := "java/lang/Object", name := "<init>", desc := "()V" } : Jvm.MethodName) object_method_1_code (1 : Nat) (Option.none : Option Jvm.ClassFile.FieldType)).before args0 about1 = true := code_word (m := ⟨0, 0⟩) (meth := k0m0) (c := k0c0) (by decide +kernel) rfl rfl rfl (by decide +kernel)
set_option maxRecDepth 65536 in
theorem w_c6 : (Jvm.Cond.code ({ cls := "java/lang/StringUTF16", name := "compress", desc := "([CII)[B" } : Jvm.MethodName) jdk_52_method_16_code (6 : Nat) (Option.some (Jvm.ClassFile.FieldType.array Jvm.ClassFile.FieldType.byte))).before args0 about1 = true := code_word (m := ⟨8, 10⟩) (meth := k8m10) (c := k8c10) (by decide +kernel) rfl rfl rfl (by decide +kernel)
set_option maxRecDepth 65536 in
theorem w_c7 : (Jvm.Cond.code ({ cls := "java/lang/StringUTF16", name := "compress", desc := "([CI[BII)I" } : Jvm.MethodName) jdk_52_method_21_code (7 : Nat) (Option.some Jvm.ClassFile.FieldType.int)).before args0 about1 = true := code_word (m := ⟨8, 12⟩) (meth := k8m12) (c := k8c12) (by decide +kernel) rfl rfl rfl (by decide +kernel)
set_option maxRecDepth 65536 in
theorem w_c8 : (Jvm.Cond.code ({ cls := "java/lang/StringUTF16", name := "coderFromArrayLen", desc := "([BI)B" } : Jvm.MethodName) jdk_52_method_15_code (2 : Nat) (Option.some Jvm.ClassFile.FieldType.byte)).before args0 about1 = true := code_word (m := ⟨8, 9⟩) (meth := k8m9) (c := k8c9) (by decide +kernel) rfl rfl rfl (by decide +kernel)
set_option maxRecDepth 65536 in
theorem w_c9 : (Jvm.Cond.code ({ cls := "com/example/orderly_outbox/orderlyoutbox/store/LastError", name := "cut", desc := "(Ljava/lang/String;I)Ljava/lang/String;" } : Jvm.MethodName) prog_36_method_7_code (5 : Nat) (Option.some (Jvm.ClassFile.FieldType.object "java/lang/String"))).before args0 about1 = true := code_word (m := ⟨9, 1⟩) (meth := k9m1) (c := k9c1) (by decide +kernel) rfl rfl rfl (by decide +kernel)
set_option maxRecDepth 65536 in
theorem w_c10 : (Jvm.Cond.code ({ cls := "java/lang/String", name := "length", desc := "()I" } : Jvm.MethodName) jdk_42_method_54_code (1 : Nat) (Option.some Jvm.ClassFile.FieldType.int)).before args0 about1 = true := code_word (m := ⟨7, 2⟩) (meth := k7m2) (c := k7c2) (by decide +kernel) rfl rfl rfl (by decide +kernel)
set_option maxRecDepth 65536 in
theorem w_c11 : (Jvm.Cond.code ({ cls := "java/lang/String", name := "coder", desc := "()B" } : Jvm.MethodName) jdk_42_method_152_code (1 : Nat) (Option.some Jvm.ClassFile.FieldType.byte)).before args0 about1 = true := code_word (m := ⟨7, 8⟩) (meth := k7m8) (c := k7c8) (by decide +kernel) rfl rfl rfl (by decide +kernel)
set_option maxRecDepth 65536 in
theorem w_c12 : (Jvm.Cond.code ({ cls := "java/lang/String", name := "codePointAt", desc := "(I)I" } : Jvm.MethodName) jdk_42_method_57_code (3 : Nat) (Option.some Jvm.ClassFile.FieldType.int)).before args0 about1 = true := code_word (m := ⟨7, 4⟩) (meth := k7m4) (c := k7c4) (by decide +kernel) rfl rfl rfl (by decide +kernel)
set_option maxRecDepth 65536 in
theorem w_c13 : (Jvm.Cond.code ({ cls := "java/lang/String", name := "isLatin1", desc := "()Z" } : Jvm.MethodName) jdk_42_method_154_code (1 : Nat) (Option.some Jvm.ClassFile.FieldType.boolean)).before args0 about1 = true := code_word (m := ⟨7, 9⟩) (meth := k7m9) (c := k7c9) (by decide +kernel) rfl rfl rfl (by decide +kernel)
set_option maxRecDepth 65536 in
theorem w_c14 : (Jvm.Cond.code ({ cls := "java/lang/String", name := "checkIndex", desc := "(II)V" } : Jvm.MethodName) jdk_42_method_155_code (2 : Nat) (Option.none : Option Jvm.ClassFile.FieldType)).before args0 about1 = true := code_word (m := ⟨7, 10⟩) (meth := k7m10) (c := k7c10) (by decide +kernel) rfl rfl rfl (by decide +kernel)
set_option maxRecDepth 65536 in
theorem w_c15 : (Jvm.Cond.code ({ cls := "jdk/internal/util/Preconditions", name := "checkIndex", desc := "(IILjava/util/function/BiFunction;)I" } : Jvm.MethodName) jdk_41_method_11_code (3 : Nat) (Option.some Jvm.ClassFile.FieldType.int)).before args0 about1 = true := code_word (m := ⟨10, 1⟩) (meth := k10m1) (c := k10c1) (by decide +kernel) rfl rfl rfl (by decide +kernel)
set_option maxRecDepth 65536 in
theorem w_c16 : (Jvm.Cond.code ({ cls := "com/example/orderly_outbox/orderlyoutbox/store/LastError", name := "utf8Length", desc := "(I)I" } : Jvm.MethodName) prog_36_method_8_code (1 : Nat) (Option.some Jvm.ClassFile.FieldType.int)).before args0 about1 = true := code_word (m := ⟨9, 2⟩) (meth := k9m2) (c := k9c2) (by decide +kernel) rfl rfl rfl (by decide +kernel)
set_option maxRecDepth 65536 in
theorem w_c17 : (Jvm.Cond.code ({ cls := "java/lang/String", name := "substring", desc := "(II)Ljava/lang/String;" } : Jvm.MethodName) jdk_42_method_92_code (5 : Nat) (Option.some (Jvm.ClassFile.FieldType.object "java/lang/String"))).before args0 about1 = true := code_word (m := ⟨7, 5⟩) (meth := k7m5) (c := k7c5) (by decide +kernel) rfl rfl rfl (by decide +kernel)
set_option maxRecDepth 65536 in
theorem w_c18 : (Jvm.Cond.code ({ cls := "java/lang/String", name := "checkBoundsBeginEnd", desc := "(III)V" } : Jvm.MethodName) jdk_42_method_158_code (3 : Nat) (Option.none : Option Jvm.ClassFile.FieldType)).before args0 about1 = true := code_word (m := ⟨7, 12⟩) (meth := k7m12) (c := k7c12) (by decide +kernel) rfl rfl rfl (by decide +kernel)
set_option maxRecDepth 65536 in
theorem w_c19 : (Jvm.Cond.code ({ cls := "jdk/internal/util/Preconditions", name := "checkFromToIndex", desc := "(IIILjava/util/function/BiFunction;)I" } : Jvm.MethodName) jdk_41_method_12_code (4 : Nat) (Option.some Jvm.ClassFile.FieldType.int)).before args0 about1 = true := code_word (m := ⟨10, 2⟩) (meth := k10m2) (c := k10c2) (by decide +kernel) rfl rfl rfl (by decide +kernel)
set_option maxRecDepth 65536 in
theorem w_c20 : (Jvm.Cond.code ({ cls := "java/lang/StringLatin1", name := "newString", desc := "([BII)Ljava/lang/String;" } : Jvm.MethodName) jdk_43_method_47_code (3 : Nat) (Option.some (Jvm.ClassFile.FieldType.object "java/lang/String"))).before args0 about1 = true := code_word (m := ⟨11, 2⟩) (meth := k11m2) (c := k11c2) (by decide +kernel) rfl rfl rfl (by decide +kernel)
set_option maxRecDepth 65536 in
theorem w_c21 : (Jvm.Cond.code ({ cls := "com/example/orderly_outbox/orderlyoutbox/store/LastErrorCutPinLaw", name := "bytes", desc := "([CII)I" } : Jvm.MethodName) method_6_code (4 : Nat) (Option.some Jvm.ClassFile.FieldType.int)).before args0 about1 = true := code_word (m := ⟨1, 5⟩) (meth := k1m5) (c := k1c5) (by decide +kernel) rfl rfl rfl (by decide +kernel)
set_option maxRecDepth 65536 in
theorem w_c22 : (Jvm.Cond.code ({ cls := "com/example/orderly_outbox/orderlyoutbox/store/LastErrorCutPinLaw", name := "units", desc := "([CII)I" } : Jvm.MethodName) method_5_code (4 : Nat) (Option.some Jvm.ClassFile.FieldType.int)).before args0 about1 = true := code_word (m := ⟨1, 4⟩) (meth := k1m4) (c := k1c4) (by decide +kernel) rfl rfl rfl (by decide +kernel)
set_option maxRecDepth 65536 in
theorem w_c23 : (Jvm.Cond.code ({ cls := "java/lang/Character", name := "charCount", desc := "(I)I" } : Jvm.MethodName) jdk_89_method_18_code (1 : Nat) (Option.some Jvm.ClassFile.FieldType.int)).before args0 about1 = true := code_word (m := ⟨12, 2⟩) (meth := k12m2) (c := k12c2) (by decide +kernel) rfl rfl rfl (by decide +kernel)
set_option maxRecDepth 65536 in
theorem w_c24 : (Jvm.Cond.code ({ cls := "java/lang/String", name := "charAt", desc := "(I)C" } : Jvm.MethodName) jdk_42_method_56_code (2 : Nat) (Option.some Jvm.ClassFile.FieldType.char)).before args0 about1 = true := code_word (m := ⟨7, 3⟩) (meth := k7m3) (c := k7c3) (by decide +kernel) rfl rfl rfl (by decide +kernel)
set_option maxRecDepth 65536 in
theorem w_c25 : (Jvm.Cond.code ({ cls := "java/lang/StringLatin1", name := "charAt", desc := "([BI)C" } : Jvm.MethodName) jdk_43_method_2_code (2 : Nat) (Option.some Jvm.ClassFile.FieldType.char)).before args0 about1 = true := code_word (m := ⟨11, 1⟩) (meth := k11m1) (c := k11c1) (by decide +kernel) rfl rfl rfl (by decide +kernel)
set_option maxRecDepth 65536 in
theorem w_c26 : (Jvm.Cond.code ({ cls := "java/lang/StringUTF16", name := "toBytes", desc := "([CII)[B" } : Jvm.MethodName) jdk_52_method_14_code (5 : Nat) (Option.some (Jvm.ClassFile.FieldType.array Jvm.ClassFile.FieldType.byte))).before args0 about1 = true := code_word (m := ⟨8, 8⟩) (meth := k8m8) (c := k8c8) (by decide +kernel) rfl rfl rfl (by decide +kernel)
set_option maxRecDepth 65536 in
theorem w_c27 : (Jvm.Cond.code ({ cls := "java/lang/StringUTF16", name := "newBytesFor", desc := "(I)[B" } : Jvm.MethodName) jdk_52_method_2_code (1 : Nat) (Option.some (Jvm.ClassFile.FieldType.array Jvm.ClassFile.FieldType.byte))).before args0 about1 = true := code_word (m := ⟨8, 1⟩) (meth := k8m1) (c := k8c1) (by decide +kernel) rfl rfl rfl (by decide +kernel)
set_option maxRecDepth 65536 in
theorem w_c28 : (Jvm.Cond.code ({ cls := "java/lang/StringUTF16", name := "newBytesLength", desc := "(I)I" } : Jvm.MethodName) jdk_52_method_3_code (1 : Nat) (Option.some Jvm.ClassFile.FieldType.int)).before args0 about1 = true := code_word (m := ⟨8, 2⟩) (meth := k8m2) (c := k8c2) (by decide +kernel) rfl rfl rfl (by decide +kernel)
set_option maxRecDepth 65536 in
theorem w_c29 : (Jvm.Cond.code ({ cls := "java/lang/StringUTF16", name := "putChar", desc := "([BII)V" } : Jvm.MethodName) jdk_52_method_4_code (3 : Nat) (Option.none : Option Jvm.ClassFile.FieldType)).before args0 about1 = true := code_word (m := ⟨8, 3⟩) (meth := k8m3) (c := k8c3) (by decide +kernel) rfl rfl rfl (by decide +kernel)
set_option maxRecDepth 65536 in
theorem w_c30 : (Jvm.Cond.code ({ cls := "java/lang/StringUTF16", name := "getChar", desc := "([BI)C" } : Jvm.MethodName) jdk_52_method_5_code (2 : Nat) (Option.some Jvm.ClassFile.FieldType.char)).before args0 about1 = true := code_word (m := ⟨8, 4⟩) (meth := k8m4) (c := k8c4) (by decide +kernel) rfl rfl rfl (by decide +kernel)
set_option maxRecDepth 65536 in
theorem w_c31 : (Jvm.Cond.code ({ cls := "java/lang/StringUTF16", name := "codePointAt", desc := "([BII)I" } : Jvm.MethodName) jdk_52_method_8_code (3 : Nat) (Option.some Jvm.ClassFile.FieldType.int)).before args0 about1 = true := code_word (m := ⟨8, 7⟩) (meth := k8m7) (c := k8c7) (by decide +kernel) rfl rfl rfl (by decide +kernel)
set_option maxRecDepth 65536 in
theorem w_c32 : (Jvm.Cond.code ({ cls := "java/lang/StringUTF16", name := "codePointAt", desc := "([BIIZ)I" } : Jvm.MethodName) jdk_52_method_7_code (6 : Nat) (Option.some Jvm.ClassFile.FieldType.int)).before args0 about1 = true := code_word (m := ⟨8, 6⟩) (meth := k8m6) (c := k8c6) (by decide +kernel) rfl rfl rfl (by decide +kernel)
set_option maxRecDepth 65536 in
theorem w_c33 : (Jvm.Cond.code ({ cls := "java/lang/Character", name := "isHighSurrogate", desc := "(C)Z" } : Jvm.MethodName) jdk_89_method_14_code (1 : Nat) (Option.some Jvm.ClassFile.FieldType.boolean)).before args0 about1 = true := code_word (m := ⟨12, 0⟩) (meth := k12m0) (c := k12c0) (by decide +kernel) rfl rfl rfl (by decide +kernel)
set_option maxRecDepth 65536 in
theorem w_c34 : (Jvm.Cond.code ({ cls := "java/lang/StringUTF16", name := "newString", desc := "([BII)Ljava/lang/String;" } : Jvm.MethodName) jdk_52_method_69_code (5 : Nat) (Option.some (Jvm.ClassFile.FieldType.object "java/lang/String"))).before args0 about1 = true := code_word (m := ⟨8, 14⟩) (meth := k8m14) (c := k8c14) (by decide +kernel) rfl rfl rfl (by decide +kernel)
set_option maxRecDepth 65536 in
theorem w_c35 : (Jvm.Cond.code ({ cls := "java/util/Arrays", name := "copyOfRange", desc := "([BII)[B" } : Jvm.MethodName) jdk_65_method_132_code (3 : Nat) (Option.some (Jvm.ClassFile.FieldType.array Jvm.ClassFile.FieldType.byte))).before args0 about1 = true := code_word (m := ⟨13, 2⟩) (meth := k13m2) (c := k13c2) (by decide +kernel) rfl rfl rfl (by decide +kernel)
set_option maxRecDepth 65536 in
theorem w_c36 : (Jvm.Cond.code ({ cls := "java/util/Arrays", name := "copyOfRangeByte", desc := "([BII)[B" } : Jvm.MethodName) jdk_65_method_133_code (5 : Nat) (Option.some (Jvm.ClassFile.FieldType.array Jvm.ClassFile.FieldType.byte))).before args0 about1 = true := code_word (m := ⟨13, 3⟩) (meth := k13m3) (c := k13c3) (by decide +kernel) rfl rfl rfl (by decide +kernel)
set_option maxRecDepth 65536 in
theorem w_c37 : (Jvm.Cond.code ({ cls := "java/util/Arrays", name := "checkLength", desc := "(II)V" } : Jvm.MethodName) jdk_65_method_131_code (2 : Nat) (Option.none : Option Jvm.ClassFile.FieldType)).before args0 about1 = true := code_word (m := ⟨13, 1⟩) (meth := k13m1) (c := k13c1) (by decide +kernel) rfl rfl rfl (by decide +kernel)
set_option maxRecDepth 65536 in
theorem w_c38 : (Jvm.Cond.code ({ cls := "java/lang/Math", name := "min", desc := "(II)I" } : Jvm.MethodName) jdk_29_method_69_code (2 : Nat) (Option.some Jvm.ClassFile.FieldType.int)).before args0 about1 = true := code_word (m := ⟨14, 1⟩) (meth := k14m1) (c := k14c1) (by decide +kernel) rfl rfl rfl (by decide +kernel)
set_option maxRecDepth 65536 in
theorem w_c39 : (Jvm.Cond.code ({ cls := "java/lang/String", name := "<init>", desc := "([BB)V" } : Jvm.MethodName) jdk_42_method_151_code (3 : Nat) (Option.none : Option Jvm.ClassFile.FieldType)).before args0 about1 = true := code_word (m := ⟨7, 7⟩) (meth := k7m7) (c := k7c7) (by decide +kernel) rfl rfl rfl (by decide +kernel)
set_option maxRecDepth 65536 in
theorem w_c40 : (Jvm.Cond.code ({ cls := "java/lang/StringUTF16", name := "charAt", desc := "([BI)C" } : Jvm.MethodName) jdk_52_method_83_code (2 : Nat) (Option.some Jvm.ClassFile.FieldType.char)).before args0 about1 = true := code_word (m := ⟨8, 15⟩) (meth := k8m15) (c := k8c15) (by decide +kernel) rfl rfl rfl (by decide +kernel)
set_option maxRecDepth 65536 in
theorem w_c41 : (Jvm.Cond.code ({ cls := "java/lang/StringUTF16", name := "checkIndex", desc := "(I[B)V" } : Jvm.MethodName) jdk_52_method_91_code (2 : Nat) (Option.none : Option Jvm.ClassFile.FieldType)).before args0 about1 = true := code_word (m := ⟨8, 16⟩) (meth := k8m16) (c := k8c16) (by decide +kernel) rfl rfl rfl (by decide +kernel)
set_option maxRecDepth 65536 in
theorem w_c42 : (Jvm.Cond.code ({ cls := "java/lang/StringUTF16", name := "length", desc := "([B)I" } : Jvm.MethodName) jdk_52_method_6_code (1 : Nat) (Option.some Jvm.ClassFile.FieldType.int)).before args0 about1 = true := code_word (m := ⟨8, 5⟩) (meth := k8m5) (c := k8c5) (by decide +kernel) rfl rfl rfl (by decide +kernel)
set_option maxRecDepth 65536 in
theorem w_c43 : (Jvm.Cond.code ({ cls := "java/lang/StringUTF16", name := "compress", desc := "([BII)[B" } : Jvm.MethodName) jdk_52_method_17_code (6 : Nat) (Option.some (Jvm.ClassFile.FieldType.array Jvm.ClassFile.FieldType.byte))).before args0 about1 = true := code_word (m := ⟨8, 11⟩) (meth := k8m11) (c := k8c11) (by decide +kernel) rfl rfl rfl (by decide +kernel)
set_option maxRecDepth 65536 in
theorem w_c44 : (Jvm.Cond.code ({ cls := "java/lang/StringUTF16", name := "compress", desc := "([BI[BII)I" } : Jvm.MethodName) jdk_52_method_22_code (7 : Nat) (Option.some Jvm.ClassFile.FieldType.int)).before args0 about1 = true := code_word (m := ⟨8, 13⟩) (meth := k8m13) (c := k8c13) (by decide +kernel) rfl rfl rfl (by decide +kernel)
set_option maxRecDepth 65536 in
theorem w_c45 : (Jvm.Cond.code ({ cls := "java/lang/StringUTF16", name := "checkBoundsOffCount", desc := "(II[B)V" } : Jvm.MethodName) jdk_52_method_94_code (3 : Nat) (Option.none : Option Jvm.ClassFile.FieldType)).before args0 about1 = true := code_word (m := ⟨8, 17⟩) (meth := k8m17) (c := k8c17) (by decide +kernel) rfl rfl rfl (by decide +kernel)
set_option maxRecDepth 65536 in
theorem w_c46 : (Jvm.Cond.code ({ cls := "java/lang/String", name := "checkBoundsOffCount", desc := "(III)I" } : Jvm.MethodName) jdk_42_method_157_code (3 : Nat) (Option.some Jvm.ClassFile.FieldType.int)).before args0 about1 = true := code_word (m := ⟨7, 11⟩) (meth := k7m11) (c := k7c11) (by decide +kernel) rfl rfl rfl (by decide +kernel)
set_option maxRecDepth 65536 in
theorem w_c47 : (Jvm.Cond.code ({ cls := "jdk/internal/util/Preconditions", name := "checkFromIndexSize", desc := "(IIILjava/util/function/BiFunction;)I" } : Jvm.MethodName) jdk_41_method_13_code (4 : Nat) (Option.some Jvm.ClassFile.FieldType.int)).before args0 about1 = true := code_word (m := ⟨10, 3⟩) (meth := k10m3) (c := k10c3) (by decide +kernel) rfl rfl rfl (by decide +kernel)
set_option maxRecDepth 65536 in
theorem w_c48 : (Jvm.Cond.code ({ cls := "java/lang/Character", name := "isLowSurrogate", desc := "(C)Z" } : Jvm.MethodName) jdk_89_method_15_code (1 : Nat) (Option.some Jvm.ClassFile.FieldType.boolean)).before args0 about1 = true := code_word (m := ⟨12, 1⟩) (meth := k12m1) (c := k12c1) (by decide +kernel) rfl rfl rfl (by decide +kernel)
set_option maxRecDepth 65536 in
theorem w_c49 : (Jvm.Cond.code ({ cls := "java/lang/Character", name := "toCodePoint", desc := "(CC)I" } : Jvm.MethodName) jdk_89_method_19_code (2 : Nat) (Option.some Jvm.ClassFile.FieldType.int)).before args0 about1 = true := code_word (m := ⟨12, 3⟩) (meth := k12m3) (c := k12c3) (by decide +kernel) rfl rfl rfl (by decide +kernel)
def codes1 : List Jvm.Cond := [Jvm.Cond.code x code maxLocals ret, Jvm.Cond.code ({ cls := "com/example/orderly_outbox/orderlyoutbox/store/LastErrorCutPinLaw", name := "draw", desc := "(I)C" } : Jvm.MethodName) method_3_code (2 : Nat) (Option.some Jvm.ClassFile.FieldType.char), Jvm.Cond.code ({ cls := "com/example/orderly_outbox/orderlyoutbox/store/LastErrorCutPinLaw", name := "text", desc := "([CI)Ljava/lang/String;" } : Jvm.MethodName) method_4_code (2 : Nat) (Option.some (Jvm.ClassFile.FieldType.object "java/lang/String")), Jvm.Cond.code ({ cls := "java/lang/String", name := "<init>", desc := "([C)V" } : Jvm.MethodName) jdk_42_method_3_code (2 : Nat) (Option.none : Option Jvm.ClassFile.FieldType), Jvm.Cond.code ({ cls := "java/lang/String", name := "<init>", desc := "([CIILjava/lang/Void;)V" } : Jvm.MethodName) jdk_42_method_149_code (6 : Nat) (Option.none : Option Jvm.ClassFile.FieldType), Jvm.Cond.code ({ cls := "java/lang/Object", name := "<init>", desc := "()V" } : Jvm.MethodName) object_method_1_code (1 : Nat) (Option.none : Option Jvm.ClassFile.FieldType), Jvm.Cond.code ({ cls := "java/lang/StringUTF16", name := "compress", desc := "([CII)[B" } : Jvm.MethodName) jdk_52_method_16_code (6 : Nat) (Option.some (Jvm.ClassFile.FieldType.array Jvm.ClassFile.FieldType.byte)), Jvm.Cond.code ({ cls := "java/lang/StringUTF16", name := "compress", desc := "([CI[BII)I" } : Jvm.MethodName) jdk_52_method_21_code (7 : Nat) (Option.some Jvm.ClassFile.FieldType.int), Jvm.Cond.code ({ cls := "java/lang/StringUTF16", name := "coderFromArrayLen", desc := "([BI)B" } : Jvm.MethodName) jdk_52_method_15_code (2 : Nat) (Option.some Jvm.ClassFile.FieldType.byte), Jvm.Cond.code ({ cls := "com/example/orderly_outbox/orderlyoutbox/store/LastError", name := "cut", desc := "(Ljava/lang/String;I)Ljava/lang/String;" } : Jvm.MethodName) prog_36_method_7_code (5 : Nat) (Option.some (Jvm.ClassFile.FieldType.object "java/lang/String")), Jvm.Cond.code ({ cls := "java/lang/String", name := "length", desc := "()I" } : Jvm.MethodName) jdk_42_method_54_code (1 : Nat) (Option.some Jvm.ClassFile.FieldType.int), Jvm.Cond.code ({ cls := "java/lang/String", name := "coder", desc := "()B" } : Jvm.MethodName) jdk_42_method_152_code (1 : Nat) (Option.some Jvm.ClassFile.FieldType.byte), Jvm.Cond.code ({ cls := "java/lang/String", name := "codePointAt", desc := "(I)I" } : Jvm.MethodName) jdk_42_method_57_code (3 : Nat) (Option.some Jvm.ClassFile.FieldType.int), Jvm.Cond.code ({ cls := "java/lang/String", name := "isLatin1", desc := "()Z" } : Jvm.MethodName) jdk_42_method_154_code (1 : Nat) (Option.some Jvm.ClassFile.FieldType.boolean), Jvm.Cond.code ({ cls := "java/lang/String", name := "checkIndex", desc := "(II)V" } : Jvm.MethodName) jdk_42_method_155_code (2 : Nat) (Option.none : Option Jvm.ClassFile.FieldType), Jvm.Cond.code ({ cls := "jdk/internal/util/Preconditions", name := "checkIndex", desc := "(IILjava/util/function/BiFunction;)I" } : Jvm.MethodName) jdk_41_method_11_code (3 : Nat) (Option.some Jvm.ClassFile.FieldType.int), Jvm.Cond.code ({ cls := "com/example/orderly_outbox/orderlyoutbox/store/LastError", name := "utf8Length", desc := "(I)I" } : Jvm.MethodName) prog_36_method_8_code (1 : Nat) (Option.some Jvm.ClassFile.FieldType.int), Jvm.Cond.code ({ cls := "java/lang/String", name := "substring", desc := "(II)Ljava/lang/String;" } : Jvm.MethodName) jdk_42_method_92_code (5 : Nat) (Option.some (Jvm.ClassFile.FieldType.object "java/lang/String")), Jvm.Cond.code ({ cls := "java/lang/String", name := "checkBoundsBeginEnd", desc := "(III)V" } : Jvm.MethodName) jdk_42_method_158_code (3 : Nat) (Option.none : Option Jvm.ClassFile.FieldType), Jvm.Cond.code ({ cls := "jdk/internal/util/Preconditions", name := "checkFromToIndex", desc := "(IIILjava/util/function/BiFunction;)I" } : Jvm.MethodName) jdk_41_method_12_code (4 : Nat) (Option.some Jvm.ClassFile.FieldType.int), Jvm.Cond.code ({ cls := "java/lang/StringLatin1", name := "newString", desc := "([BII)Ljava/lang/String;" } : Jvm.MethodName) jdk_43_method_47_code (3 : Nat) (Option.some (Jvm.ClassFile.FieldType.object "java/lang/String")), Jvm.Cond.code ({ cls := "com/example/orderly_outbox/orderlyoutbox/store/LastErrorCutPinLaw", name := "bytes", desc := "([CII)I" } : Jvm.MethodName) method_6_code (4 : Nat) (Option.some Jvm.ClassFile.FieldType.int), Jvm.Cond.code ({ cls := "com/example/orderly_outbox/orderlyoutbox/store/LastErrorCutPinLaw", name := "units", desc := "([CII)I" } : Jvm.MethodName) method_5_code (4 : Nat) (Option.some Jvm.ClassFile.FieldType.int), Jvm.Cond.code ({ cls := "java/lang/Character", name := "charCount", desc := "(I)I" } : Jvm.MethodName) jdk_89_method_18_code (1 : Nat) (Option.some Jvm.ClassFile.FieldType.int), Jvm.Cond.code ({ cls := "java/lang/String", name := "charAt", desc := "(I)C" } : Jvm.MethodName) jdk_42_method_56_code (2 : Nat) (Option.some Jvm.ClassFile.FieldType.char), Jvm.Cond.code ({ cls := "java/lang/StringLatin1", name := "charAt", desc := "([BI)C" } : Jvm.MethodName) jdk_43_method_2_code (2 : Nat) (Option.some Jvm.ClassFile.FieldType.char), Jvm.Cond.code ({ cls := "java/lang/StringUTF16", name := "toBytes", desc := "([CII)[B" } : Jvm.MethodName) jdk_52_method_14_code (5 : Nat) (Option.some (Jvm.ClassFile.FieldType.array Jvm.ClassFile.FieldType.byte)), Jvm.Cond.code ({ cls := "java/lang/StringUTF16", name := "newBytesFor", desc := "(I)[B" } : Jvm.MethodName) jdk_52_method_2_code (1 : Nat) (Option.some (Jvm.ClassFile.FieldType.array Jvm.ClassFile.FieldType.byte)), Jvm.Cond.code ({ cls := "java/lang/StringUTF16", name := "newBytesLength", desc := "(I)I" } : Jvm.MethodName) jdk_52_method_3_code (1 : Nat) (Option.some Jvm.ClassFile.FieldType.int), Jvm.Cond.code ({ cls := "java/lang/StringUTF16", name := "putChar", desc := "([BII)V" } : Jvm.MethodName) jdk_52_method_4_code (3 : Nat) (Option.none : Option Jvm.ClassFile.FieldType), Jvm.Cond.code ({ cls := "java/lang/StringUTF16", name := "getChar", desc := "([BI)C" } : Jvm.MethodName) jdk_52_method_5_code (2 : Nat) (Option.some Jvm.ClassFile.FieldType.char), Jvm.Cond.code ({ cls := "java/lang/StringUTF16", name := "codePointAt", desc := "([BII)I" } : Jvm.MethodName) jdk_52_method_8_code (3 : Nat) (Option.some Jvm.ClassFile.FieldType.int), Jvm.Cond.code ({ cls := "java/lang/StringUTF16", name := "codePointAt", desc := "([BIIZ)I" } : Jvm.MethodName) jdk_52_method_7_code (6 : Nat) (Option.some Jvm.ClassFile.FieldType.int), Jvm.Cond.code ({ cls := "java/lang/Character", name := "isHighSurrogate", desc := "(C)Z" } : Jvm.MethodName) jdk_89_method_14_code (1 : Nat) (Option.some Jvm.ClassFile.FieldType.boolean), Jvm.Cond.code ({ cls := "java/lang/StringUTF16", name := "newString", desc := "([BII)Ljava/lang/String;" } : Jvm.MethodName) jdk_52_method_69_code (5 : Nat) (Option.some (Jvm.ClassFile.FieldType.object "java/lang/String")), Jvm.Cond.code ({ cls := "java/util/Arrays", name := "copyOfRange", desc := "([BII)[B" } : Jvm.MethodName) jdk_65_method_132_code (3 : Nat) (Option.some (Jvm.ClassFile.FieldType.array Jvm.ClassFile.FieldType.byte)), Jvm.Cond.code ({ cls := "java/util/Arrays", name := "copyOfRangeByte", desc := "([BII)[B" } : Jvm.MethodName) jdk_65_method_133_code (5 : Nat) (Option.some (Jvm.ClassFile.FieldType.array Jvm.ClassFile.FieldType.byte)), Jvm.Cond.code ({ cls := "java/util/Arrays", name := "checkLength", desc := "(II)V" } : Jvm.MethodName) jdk_65_method_131_code (2 : Nat) (Option.none : Option Jvm.ClassFile.FieldType), Jvm.Cond.code ({ cls := "java/lang/Math", name := "min", desc := "(II)I" } : Jvm.MethodName) jdk_29_method_69_code (2 : Nat) (Option.some Jvm.ClassFile.FieldType.int), Jvm.Cond.code ({ cls := "java/lang/String", name := "<init>", desc := "([BB)V" } : Jvm.MethodName) jdk_42_method_151_code (3 : Nat) (Option.none : Option Jvm.ClassFile.FieldType), Jvm.Cond.code ({ cls := "java/lang/StringUTF16", name := "charAt", desc := "([BI)C" } : Jvm.MethodName) jdk_52_method_83_code (2 : Nat) (Option.some Jvm.ClassFile.FieldType.char), Jvm.Cond.code ({ cls := "java/lang/StringUTF16", name := "checkIndex", desc := "(I[B)V" } : Jvm.MethodName) jdk_52_method_91_code (2 : Nat) (Option.none : Option Jvm.ClassFile.FieldType), Jvm.Cond.code ({ cls := "java/lang/StringUTF16", name := "length", desc := "([B)I" } : Jvm.MethodName) jdk_52_method_6_code (1 : Nat) (Option.some Jvm.ClassFile.FieldType.int), Jvm.Cond.code ({ cls := "java/lang/StringUTF16", name := "compress", desc := "([BII)[B" } : Jvm.MethodName) jdk_52_method_17_code (6 : Nat) (Option.some (Jvm.ClassFile.FieldType.array Jvm.ClassFile.FieldType.byte)), Jvm.Cond.code ({ cls := "java/lang/StringUTF16", name := "compress", desc := "([BI[BII)I" } : Jvm.MethodName) jdk_52_method_22_code (7 : Nat) (Option.some Jvm.ClassFile.FieldType.int), Jvm.Cond.code ({ cls := "java/lang/StringUTF16", name := "checkBoundsOffCount", desc := "(II[B)V" } : Jvm.MethodName) jdk_52_method_94_code (3 : Nat) (Option.none : Option Jvm.ClassFile.FieldType), Jvm.Cond.code ({ cls := "java/lang/String", name := "checkBoundsOffCount", desc := "(III)I" } : Jvm.MethodName) jdk_42_method_157_code (3 : Nat) (Option.some Jvm.ClassFile.FieldType.int), Jvm.Cond.code ({ cls := "jdk/internal/util/Preconditions", name := "checkFromIndexSize", desc := "(IIILjava/util/function/BiFunction;)I" } : Jvm.MethodName) jdk_41_method_13_code (4 : Nat) (Option.some Jvm.ClassFile.FieldType.int), Jvm.Cond.code ({ cls := "java/lang/Character", name := "isLowSurrogate", desc := "(C)Z" } : Jvm.MethodName) jdk_89_method_15_code (1 : Nat) (Option.some Jvm.ClassFile.FieldType.boolean), Jvm.Cond.code ({ cls := "java/lang/Character", name := "toCodePoint", desc := "(CC)I" } : Jvm.MethodName) jdk_89_method_19_code (2 : Nat) (Option.some Jvm.ClassFile.FieldType.int)]
set_option maxRecDepth 65536 in
theorem codes_eq : words1.filter isCode = codes1 := rfl
theorem w_codes : ∀ c ∈ words1.filter isCode, c.before args0 about1 = true := by
  rw [codes_eq]
  intro c hc
  simp only [codes1, List.mem_cons, List.not_mem_nil, or_false] at hc
  rcases hc with rfl | rfl | rfl | rfl | rfl | rfl | rfl | rfl | rfl | rfl | rfl | rfl | rfl | rfl | rfl | rfl | rfl | rfl | rfl | rfl | rfl | rfl | rfl | rfl | rfl | rfl | rfl | rfl | rfl | rfl | rfl | rfl | rfl | rfl | rfl | rfl | rfl | rfl | rfl | rfl | rfl | rfl | rfl | rfl | rfl | rfl | rfl | rfl | rfl | rfl
  · exact w_c0
  · exact w_c1
  · exact w_c2
  · exact w_c3
  · exact w_c4
  · exact w_c5
  · exact w_c6
  · exact w_c7
  · exact w_c8
  · exact w_c9
  · exact w_c10
  · exact w_c11
  · exact w_c12
  · exact w_c13
  · exact w_c14
  · exact w_c15
  · exact w_c16
  · exact w_c17
  · exact w_c18
  · exact w_c19
  · exact w_c20
  · exact w_c21
  · exact w_c22
  · exact w_c23
  · exact w_c24
  · exact w_c25
  · exact w_c26
  · exact w_c27
  · exact w_c28
  · exact w_c29
  · exact w_c30
  · exact w_c31
  · exact w_c32
  · exact w_c33
  · exact w_c34
  · exact w_c35
  · exact w_c36
  · exact w_c37
  · exact w_c38
  · exact w_c39
  · exact w_c40
  · exact w_c41
  · exact w_c42
  · exact w_c43
  · exact w_c44
  · exact w_c45
  · exact w_c46
  · exact w_c47
  · exact w_c48
  · exact w_c49
set_option maxRecDepth 65536 in
theorem w_t1 : (words1.take 24).all (fun c => isCode c || c.before args0 about1) = true := by decide +kernel
set_option maxRecDepth 65536 in
theorem w_t2 : ((words1.drop 24).take 24).all (fun c => isCode c || c.before args0 about1) = true := by decide +kernel
set_option maxRecDepth 65536 in
theorem w_t3 : (((words1.drop 24).drop 24).take 24).all (fun c => isCode c || c.before args0 about1) = true := by decide +kernel
set_option maxRecDepth 65536 in
theorem w_t4 : ((((words1.drop 24).drop 24).drop 24).take 24).all (fun c => isCode c || c.before args0 about1) = true := by decide +kernel
set_option maxRecDepth 65536 in
theorem w_t5 : (((((words1.drop 24).drop 24).drop 24).drop 24).take 24).all (fun c => isCode c || c.before args0 about1) = true := by decide +kernel
set_option maxRecDepth 65536 in
theorem w_t6 : ((((((words1.drop 24).drop 24).drop 24).drop 24).drop 24).take 24).all (fun c => isCode c || c.before args0 about1) = true := by decide +kernel
set_option maxRecDepth 65536 in
theorem w_t7 : (((((((words1.drop 24).drop 24).drop 24).drop 24).drop 24).drop 24).take 24).all (fun c => isCode c || c.before args0 about1) = true := by decide +kernel
set_option maxRecDepth 65536 in
theorem w_t8 : ((((((((words1.drop 24).drop 24).drop 24).drop 24).drop 24).drop 24).drop 24).take 24).all (fun c => isCode c || c.before args0 about1) = true := by decide +kernel
set_option maxRecDepth 65536 in
theorem w_t9 : ((((((((words1.drop 24).drop 24).drop 24).drop 24).drop 24).drop 24).drop 24).drop 24).all (fun c => isCode c || c.before args0 about1) = true := by decide +kernel
theorem w_tables : (allAtoms (Jvm.Cond.code x code maxLocals ret :: tables_1)).before args0 about1 = true := by
  rw [allAtoms_all]
  show words1.all (fun c => c.before args0 about1) = true
  refine all_split ?_ w_codes
  rw [← List.take_append_drop 24 words1, List.all_append, w_t1, ← List.take_append_drop 24 (words1.drop 24), List.all_append, w_t2, ← List.take_append_drop 24 ((words1.drop 24).drop 24), List.all_append, w_t3, ← List.take_append_drop 24 (((words1.drop 24).drop 24).drop 24), List.all_append, w_t4, ← List.take_append_drop 24 ((((words1.drop 24).drop 24).drop 24).drop 24), List.all_append, w_t5, ← List.take_append_drop 24 (((((words1.drop 24).drop 24).drop 24).drop 24).drop 24), List.all_append, w_t6, ← List.take_append_drop 24 ((((((words1.drop 24).drop 24).drop 24).drop 24).drop 24).drop 24), List.all_append, w_t7, ← List.take_append_drop 24 (((((((words1.drop 24).drop 24).drop 24).drop 24).drop 24).drop 24).drop 24), List.all_append, w_t8, w_t9]
  rfl
set_option maxRecDepth 65536 in
theorem w_rest : rest_1_c.before args0 about1 = true := by decide +kernel
set_option maxRecDepth 65536 in
theorem w_case : (Jvm.Cond.and given_1 narrow_1).before args0 about1 = true := by decide +kernel
set_option maxRecDepth 65536 in
theorem w_consts : constsHeld consts_1 about1 := Jvm.Lit.constsHeldB_iff.mp (by decide +kernel)
theorem w_applies : (headSpec (Jvm.Cond.code x code maxLocals ret :: tables_1) room_1).applies x e0.platform about1 = true :=
  (Spec.applies_iff w_frames).mpr ⟨w_running, w_runnable, w_alone, w_named, w_hears, w_ripe, w_room, w_tables⟩
theorem atStart : AtStart classFile x code maxLocals ret World_1 tables_1 room_1 Calls_1 rest_1 Pre_1 launch0 p0 e0 about1 theMethod args0 below0 :=
  ⟨lists_1, trivial, launch0.admits_env _ _ _, launch0.least_env, fairChoices_fair.cas, fairChoices_fair.clock, w_frames, w_args, w_heap, w_applies, ⟨w_consts, trivial⟩, w_rest, w_case⟩
end start1
theorem witness_1 : WitnessClaimed_1 := ⟨start1.p0, start1.e0, start1.about1, start1.theMethod, start1.args0, start1.below0, start1.atStart⟩
end Jvm.Pilot.@@N@@
